import PyProof.Rows.All
import Open.Head
import Open.Boot
import KE.IntBitsLaws
import Wide.All
import Lean
import PySem.Challenge.RW_tc0071_01
set_option Elab.async false
section
open PySem PySem.Calls PyProof.Rows
set_option Elab.async false
namespace Mine
/-! tokens never go down -/
theorem runs_toks {M : Model} {Γ : Ctx} {p : Pos} {t : Sem Fin} {fs : List Frame} {s : Shared} {e : End} {s' : Shared} (h : Runs M Γ p t fs s e s') : s.toks ≤ s'.toks := by
  induction h with
  | done | raise | yield => exact Nat.le_refl _
  | fresh _ ih => exact Nat.le_trans (Nat.le_succ _) ih
  | call _ _ i1 i2 => exact Nat.le_trans i1 i2
  | resumeFresh _ _ _ _ i1 i2 => exact Nat.le_trans i1 i2
  | resumeSuspended _ _ _ _ i1 i2 => exact Nat.le_trans i1 i2
  | segRet _ _ i1 i2 => exact Nat.le_trans i1 i2
  | segGen _ _ i1 i2 => exact Nat.le_trans i1 i2
  | segSuspGen _ _ _ _ i1 i2 => exact Nat.le_trans i1 i2
  | _ => assumption
theorem wakes_toks {M : Model} {Γ : Ctx} {p : Pos} {g : Nat} {r : Resume} {s s' : Shared} {res : GenResult} (h : Wakes M Γ p g r s res s') : s.toks ≤ s'.toks := by
  unfold Wakes at h
  split at h
  · exact h.elim
  · split at h
    · obtain ⟨e, s1, h1, _, _, rfl⟩ := h; have := runs_toks h1; exact this
    · rw [h.2]; exact Nat.le_refl _
    · rw [h.2]; exact Nat.le_refl _
  · obtain ⟨e, s1, h1, _, _, rfl⟩ := h; have := runs_toks h1; exact this
  · rw [h.2]; exact Nat.le_refl _
  · rw [h.2]; exact Nat.le_refl _
theorem wp_toks {X : Type} (M : Model) (Γ : Ctx) (n : Nat) : ∀ (t : Sem X) (Q : X → Pos → Shared → Prop) (E : Value → Pos → Shared → Prop) (p : Pos) (s : Shared), n ≤ s.toks → Sem.wp M Γ t Q E p s →
    Sem.wp M Γ t (fun x p' s' => n ≤ s'.toks ∧ Q x p' s') (fun e p' s' => n ≤ s'.toks ∧ E e p' s') p s := by
  intro t Q E
  induction t with
  | pure x => exact fun p s hn h => ⟨hn, h⟩
  | raise v => exact fun p s hn h => ⟨hn, h⟩
  | unsupported | finish | yield | fork | await | register => exact fun p s hn h => h
  | fresh k ih => exact fun p s hn h => ih _ _ _ (Nat.le_succ_of_le hn) h
  | rule _ k ih | «at» _ k ih | alloc _ k ih | loadIfAlive _ k ih | point _ k ih | ask k ih | os _ _ k ih | handled _ k ih | newGen _ k ih | stack k ih | thread k ih => exact fun p s hn h => ih _ _ _ hn h
  | load a _ k ih | genState a k ih => exact fun p s hn ⟨o, ho, h⟩ => ⟨o, ho, ih _ _ _ hn h⟩
  | update a _ f k ih | choose _ _ k ih => exact fun p s hn ⟨ha, h⟩ => ⟨ha, ih _ _ _ hn h⟩
  | call c h g l k ih => exact fun p s hn ⟨r, s', hr, hk⟩ => ⟨r, s', hr, ih _ _ _ (Nat.le_trans hn (runs_toks hr)) hk⟩
  | resume g r l k ih => exact fun p s hn ⟨res, s', hw, h⟩ => ⟨res, s', hw, ih _ _ _ (Nat.le_trans hn (wakes_toks hw)) h⟩
theorem wpAny_toks {X : Type} {M : Model} {A : Around} {t : Sem X} {Q : X → Shared → Prop} {E : Value → Shared → Prop} {s : Shared} (h : wpAny M A t (fun x s' => s.toks ≤ s'.toks → Q x s') (fun e s' => s.toks ≤ s'.toks → E e s') s) : wpAny M A t Q E s :=
  fun Γ p hΓ => Sem.wp_mono M Γ t (fun _ _ _ h => h.2 h.1) (fun _ _ _ h => h.2 h.1) p s (wp_toks M Γ s.toks t _ _ p s (Nat.le_refl _) (h Γ p hΓ))
section
variable {prog : Program} {w : World} {A : Around} {s : Shared}
theorem call_cells {R : Result → Shared → Prop} {a : Addr} {o : Obj} {fd : FuncData} {body : List Stmt} {vals : List Value} {binds : List (Str × Value)}
    (hroom : A.depth < recursionLimit) (ho : s.heap.get? a = some o) (hdata : o.data = .func fd) (hlim : s.heap.NoLimit) (hcd : s.heap.CodeRec fd.code fd.qualname)
    (hbody : fd.body = .stmts body) (hbind : bindArgs fd ⟨vals, []⟩ = pure binds) (hclo : fd.closure = [])
    (hkind : ∀ x ∈ binds, fd.scope.names.lookup x.1 = some .local ∨ (fd.scope.names.lookup x.1 = some .cell ∧ ((cellsFrom (s.heap.objs.size + 1) fd.scope.names []).lookup x.1).isSome = true))
    (h : ∀ s₁, s.toks ≤ s₁.toks → InCallC s (callEnvC fd s.heap.objs.size a).locals (bindL (callEnvC fd s.heap.objs.size a).kindOf binds fun _ => none) (callEnvC fd s.heap.objs.size a).cells
        (bindC (callEnvC fd s.heap.objs.size a).kindOf binds fun _ => none) s₁ →
      wpAny (model prog w) (A.deeper (callEnvC fd s.heap.objs.size a)) (execs body (callEnvC fd s.heap.objs.size a)) (fun f s' => R (.ok (.ret (match f with | .ret v => v | _ => .none))) s')
        (fun e s' => wpAny (model prog w) (A.deeper (callEnvC fd s.heap.objs.size a)) (leaving (callEnvC fd s.heap.objs.size a) e) (fun _ s'' => R (.error e) s'') (fun e' s'' => R (.error e') s'') s') s₁)
    (hco : fd.scope.isCoroutine = false := by rfl) (hgen : fd.scope.isGenerator = false := by rfl) (hk : fd.scope.kind = .function := by rfl) :
    codeAny (model prog w) A (.call (.ref a) ⟨vals, []⟩) R s := by
  refine codeAny_call_function hroom ho hdata hco hgen hbody hcd ?_
  rw [hbind, hclo]
  refine wpAny_pure (wpAny_toks (wpAny_newFunctionEnv_cells hk hkind fun env he s' x ht => ?_))
  subst he
  exact ⟨hlim.keeps x.toInCall.keep, codeAny_func (h s' ht x)⟩
end
end Mine
end
section
open PySem PySem.Calls PyProof.Rows
set_option Elab.async false
set_option maxRecDepth 100000
namespace Mine

/-! abstract values -/
inductive V where
  | none | bool (b : Bool) | int (i : Int) | str (s : Str) | ty (n : String) | fn (n : Str) | scr | b1 | b3
  | sl (lo hi : Option Int) | old (s : Str) | new (s : Str)
  | tup (l : List V) | ref (i : Nat) | raw (r : Value)

/-- what is known of the heap at the law's start -/
structure GL where
  prog : Program
  w : World
  h₀ : Heap
  mg : Str → Option Value
  mb : Str → Option Value
  defs : List DefRec
  script : List Int
  aScr : Addr
  aB1 : Addr
  aB3 : Addr
  thr : Nat
  b3D : List (PyData × PyData)
  b1S : Int → Bool

/-- a plain tuple -/
noncomputable def TP (h : Heap) (a : Addr) (items : Array Value) : Prop := ∃ n, h.get? a = some { cls := .type "tuple", dict := none, data := .seq items n, slots := #[] }

/-- a slice of two parts -/
noncomputable def SP (h : Heap) (a : Addr) (lo hi : Option Int) : Prop := ∃ vl vu o, h.get? a = some o ∧ o.cls = .type "slice" ∧ o.data = .fields #[vl, vu, .none] ∧ IsPart vl lo ∧ IsPart vu hi
/-- what nothing changes -/
noncomputable def frozen (o : Obj) : Bool := match o.data with
  | .seq .. => o.cls == .type "tuple"
  | .fields .. => o.cls == .type "slice"
  | _ => false

section
variable (G : GL)

mutual
inductive VR : List Addr → Heap → V → Value → Prop where
  | none {α h} : VR α h .none .none
  | bool {α h} (b : Bool) : VR α h (.bool b) (.bool b)
  | int {α h} (i : Int) (t : Tok) : VR α h (.int i) (.int i t)
  | str {α h} (x : Str) (t : Tok) : VR α h (.str x) (.str x t)
  | old {α h} (x : Str) (t : Tok) (h0 : 0 < t) (ht : t < G.thr) : VR α h (.old x) (.str x t)
  | new {α h} (x : Str) (t : Tok) (ht : G.thr ≤ t) : VR α h (.new x) (.str x t)
  | ty {α h} (n : String) : VR α h (.ty n) (.type n)
  | fn {α h} {x : Str} {a : Addr} (e : G.mg x = some (.ref a)) : VR α h (.fn x) (.ref a)
  | scr {α h} : VR α h .scr (.ref G.aScr)
  | b1 {α h} : VR α h .b1 (.ref G.aB1)
  | b3 {α h} : VR α h .b3 (.ref G.aB3)
  | tup {α h} {l : List V} {a : Addr} {items : List Value} (e : TP h a items.toArray) (hl : VRs α h l items) : VR α h (.tup l) (.ref a)
  | sl {α h} {lo hi : Option Int} {a : Addr} (e : SP h a lo hi) : VR α h (.sl lo hi) (.ref a)
  | ref {α h} {i : Nat} {a : Addr} (e : α[i]? = some a) : VR α h (.ref i) (.ref a)
  | raw {α h} (r : Value) : VR α h (.raw r) r
inductive VRs : List Addr → Heap → List V → List Value → Prop where
  | nil {α h} : VRs α h [] []
  | cons {α h v r l rs} (hv : VR α h v r) (hl : VRs α h l rs) : VRs α h (v :: l) (r :: rs)
end

noncomputable def TupKeep (h h' : Heap) : Prop := ∀ a o, h.get? a = some o → frozen o = true → h'.get? a = some o
theorem TupKeep.refl (h : Heap) : TupKeep h h := fun _ _ x _ => x
theorem TupKeep.trans {a b c : Heap} (x : TupKeep a b) (y : TupKeep b c) : TupKeep a c := fun _ _ z f => y _ _ (x _ _ z f) f
theorem TP.keep {h h' : Heap} {a : Addr} {items : Array Value} (k : TupKeep h h') (x : TP h a items) : TP h' a items := let ⟨n, e⟩ := x; ⟨n, k a _ e (by simp [frozen])⟩
theorem SP.keep {h h' : Heap} {a : Addr} {lo hi : Option Int} (k : TupKeep h h') (x : SP h a lo hi) : SP h' a lo hi := by
  obtain ⟨vl, vu, o, e, c, d, r⟩ := x
  exact ⟨vl, vu, o, k a o e (by unfold frozen; rw [d]; simp [c]), c, d, r⟩

variable {G}
theorem VRs.mono {α α' : List Addr} {h h' : Heap} (hp : α <+: α') (hk : TupKeep h h') {l : List V} {rs : List Value} (x : VRs G α h l rs) : VRs G α' h' l rs :=
  VRs.rec (motive_1 := fun v r _ => VR G α' h' v r) (motive_2 := fun l rs _ => VRs G α' h' l rs)
    .none .bool .int .str .old .new .ty (fun e => .fn e) .scr .b1 .b3 (fun e _ ih => .tup (e.keep hk) ih) (fun e => .sl (e.keep hk))
    (fun e => .ref (by
      obtain ⟨t, rfl⟩ := hp
      rw [List.getElem?_append_left (List.getElem?_eq_some_iff.mp e).1]; exact e)) .raw .nil (fun _ _ i1 i2 => .cons i1 i2) x
theorem VR.mono {α α' : List Addr} {h h' : Heap} (hp : α <+: α') (hk : TupKeep h h') {v : V} {r : Value} (x : VR G α h v r) : VR G α' h' v r := by
  have := VRs.mono hp hk (VRs.cons x .nil)
  cases this with
  | cons hv _ => exact hv

theorem VRs.ind {α : List Addr} {h : Heap} {P : List V → List Value → Prop} {l : List V} {rs : List Value} (x : VRs G α h l rs) (h0 : P [] []) (h1 : ∀ v r l rs, VR G α h v r → VRs G α h l rs → P l rs → P (v :: l) (r :: rs)) : P l rs :=
  VRs.rec (motive_1 := fun _ _ _ => True) (motive_2 := fun l rs _ => P l rs) trivial (fun _ => trivial) (fun _ _ => trivial) (fun _ _ => trivial) (fun _ _ _ _ => trivial) (fun _ _ _ => trivial)
    (fun _ => trivial) (fun _ => trivial) trivial trivial trivial (fun _ _ _ => trivial) (fun _ => trivial) (fun _ => trivial) (fun _ => trivial) h0 (fun hv hl _ ih => h1 _ _ _ _ hv hl ih) x
theorem VRs.length {α : List Addr} {h : Heap} {l : List V} {rs : List Value} (x : VRs G α h l rs) : rs.length = l.length :=
  x.ind (P := fun l rs => rs.length = l.length) rfl fun _ _ _ _ _ _ i => congrArg (· + 1) i
theorem VRs.get {α : List Addr} {h : Heap} {l : List V} {rs : List Value} (x : VRs G α h l rs) : ∀ {i : Nat} {v : V}, l[i]? = some v → ∃ r, rs[i]? = some r ∧ VR G α h v r := fun {i v} =>
  x.ind (P := fun l rs => ∀ (i : Nat) (v : V), l[i]? = some v → ∃ r, rs[i]? = some r ∧ VR G α h v r) (fun i v e => by simp at e) (fun v₀ r₀ l rs hv _ ih i v e => by
    cases i with
    | zero => cases e; exact ⟨r₀, rfl, hv⟩
    | succ i => exact ih i v e) i v
theorem VRs.append {α : List Addr} {h : Heap} {l : List V} {rs : List Value} (x : VRs G α h l rs) {l' : List V} {rs' : List Value} (y : VRs G α h l' rs') : VRs G α h (l ++ l') (rs ++ rs') :=
  x.ind (P := fun l rs => VRs G α h (l ++ l') (rs ++ rs')) y fun _ _ _ _ hv _ i => .cons hv i
theorem VRs.take {α : List Addr} {h : Heap} {l : List V} {rs : List Value} (x : VRs G α h l rs) : ∀ n, VRs G α h (l.take n) (rs.take n) :=
  x.ind (P := fun l rs => ∀ n, VRs G α h (l.take n) (rs.take n)) (fun n => by rw [List.take_nil, List.take_nil]; exact .nil) fun _ _ _ _ hv _ i n => by
    cases n with
    | zero => exact .nil
    | succ n => exact .cons hv (i n)
theorem VRs.drop {α : List Addr} {h : Heap} {l : List V} {rs : List Value} (x : VRs G α h l rs) : ∀ n, VRs G α h (l.drop n) (rs.drop n) :=
  x.ind (P := fun l rs => ∀ n, VRs G α h (l.drop n) (rs.drop n)) (fun n => by rw [List.drop_nil, List.drop_nil]; exact .nil) fun _ _ _ _ hv hl i n => by
    cases n with
    | zero => exact .cons hv hl
    | succ n => exact i n
theorem VRs.set {α : List Addr} {h : Heap} {l : List V} {rs : List Value} (x : VRs G α h l rs) (n : Nat) {v : V} {r : Value} (hr : VR G α h v r) : VRs G α h (l.set n v) (rs.set n r) :=
  x.ind (P := fun l rs => ∀ n, VRs G α h (l.set n v) (rs.set n r)) (fun _ => .nil) (fun _ _ _ _ hv hl i n => by
    cases n with
    | zero => exact .cons hr hl
    | succ n => exact .cons hv (i n)) n
theorem VRs.eraseIdx {α : List Addr} {h : Heap} {l : List V} {rs : List Value} (x : VRs G α h l rs) : ∀ (n : Nat), VRs G α h (l.eraseIdx n) (rs.eraseIdx n) :=
  x.ind (P := fun l rs => ∀ n, VRs G α h (l.eraseIdx n) (rs.eraseIdx n)) (fun _ => .nil) fun _ _ _ _ hv hl i n => by
    cases n with
    | zero => exact hl
    | succ n => exact .cons hv (i n)

noncomputable abbrev Loc := List (Str × V)
noncomputable abbrev Lists := List (List V)

/-- the room that is left: frames, C units -/
structure Room (d : Nat) (A : Around) : Prop where
  handled : A.handled = none
  depth : A.depth + d < recursionLimit
  units : A.units + 128 * d < cLine
theorem Room.le {d d' : Nat} {A : Around} (x : Room d A) (h : d' ≤ d) : Room d' A := ⟨x.handled, by have := x.depth; (first | lia | omega), by have := x.units; (first | lia | omega)⟩

structure Ext (fp α α' : List Addr) (s s' : Shared) : Prop where
  same : ∃ h t, s' = { s with heap := h, toks := t }
  pre : α <+: α'
  new : ∀ a ∈ α', a ∉ α → s.heap.get? a = none
  keep : ∀ b o, s.heap.get? b = some o → b ∉ α → b ∉ fp → s'.heap.get? b = some o
  alive : ∀ b o, s.heap.get? b = some o → ∃ o', s'.heap.get? b = some o'

theorem Ext.refl {fp α : List Addr} {s : Shared} : Ext fp α α s s := ⟨⟨_, _, rfl⟩, List.prefix_refl _, fun _ h h' => absurd h h', fun _ _ e _ _ => e, fun _ o e => ⟨o, e⟩⟩
theorem Ext.tok {fp α : List Addr} {s : Shared} {t : Nat} : Ext fp α α s { s with toks := t } := ⟨⟨_, _, rfl⟩, List.prefix_refl _, fun _ h h' => absurd h h', fun _ _ e _ _ => e, fun _ o e => ⟨o, e⟩⟩
theorem Ext.trans {fp α α' α'' : List Addr} {s s' s'' : Shared} (x : Ext fp α α' s s') (y : Ext fp α' α'' s' s'') : Ext fp α α'' s s'' where
  same := by obtain ⟨h, t, rfl⟩ := x.same; obtain ⟨h', t', rfl⟩ := y.same; exact ⟨h', t', rfl⟩
  pre := x.pre.trans y.pre
  new := fun a ha hn => by
    cases e : s.heap.get? a with
    | none => rfl
    | some o =>
      by_cases h1 : a ∈ α'
      · rw [x.new a h1 hn] at e; cases e
      · obtain ⟨o', e'⟩ := x.alive a o e
        rw [y.new a ha h1] at e'; cases e'
  keep := fun b o e h1 h2 => y.keep b o (x.keep b o e h1 h2) (fun h => by
      by_cases hm : b ∈ α'
      · have := x.new b hm h1; rw [e] at this; cases this
      · exact hm h) h2
  alive := fun b o e => let ⟨_, e'⟩ := x.alive b o e; y.alive b _ e'
theorem Ext.mono {fp fp' α α' : List Addr} {s s' : Shared} (x : Ext fp α α' s s') (h : ∀ a ∈ fp, a ∈ fp') : Ext fp' α α' s s' :=
  ⟨x.same, x.pre, x.new, fun b o e h1 h2 => x.keep b o e h1 fun q => h2 (h _ q), x.alive⟩
/-- a step that keeps all but new things -/
theorem Ext.keeps {fp α : List Addr} {s : Shared} {h : Heap} {t : Nat} (hk : ∀ b o, s.heap.get? b = some o → h.get? b = some o) : Ext fp α α s { s with heap := h, toks := t } :=
  ⟨⟨_, _, rfl⟩, List.prefix_refl _, fun _ h h' => absurd h h', fun b o e _ _ => hk b o e, fun b o e => ⟨o, hk b o e⟩⟩

variable (G)
/-- the call's lists -/
structure HRel (α : List Addr) (H : Lists) (s : Shared) : Prop where
  pos : G.thr ≤ s.toks
  keep : ∀ b o, G.h₀.get? b = some o → s.heap.get? b = some o
  len : α.length = H.length
  nd : α.Nodup
  own : ∀ a ∈ α, G.h₀.get? a = none
  lists : ∀ (i : Nat) (a : Addr) (l : List V), α[i]? = some a → H[i]? = some l → ∃ items : List Value, s.heap.PlainList a items.toArray ∧ VRs G α s.heap l items

noncomputable def fpOf (env : Env) : List Addr := env.locals :: (env.cells.map (·.1)).filterMap (env.cells.lookup ·)
theorem lookup_key {τ : Type} {x : Str} {c : τ} : ∀ {l : List (Str × τ)}, l.lookup x = some c → x ∈ l.map (·.1)
  | (y, d) :: r, h => by
    rw [List.lookup_cons] at h
    cases hb : x == y with
    | true => rw [beq_iff_eq.mp hb]; exact List.mem_cons_self
    | false => rw [hb] at h; exact List.mem_cons_of_mem _ (lookup_key h)
theorem mem_fpOf {env : Env} {a : Addr} : a ∈ fpOf env ↔ a = env.locals ∨ ∃ y, env.cells.lookup y = some a := by
  unfold fpOf
  rw [List.mem_cons, List.mem_filterMap]
  exact or_congr Iff.rfl ⟨fun ⟨y, _, h⟩ => ⟨y, h⟩, fun ⟨y, h⟩ => ⟨y, lookup_key h, h⟩⟩
noncomputable def isVar (k : Option NameKind) : Prop := k = some .local ∨ k = some .cell ∨ k = some .free
/-- a frame's names -/
structure LRel (env : Env) (α : List Addr) (loc : Loc) (h : Heap) : Prop where
  kind : env.scope.kind = .function
  glob : env.globals = mainGlobals
  bins : env.builtins = builtinsNs
  ns : ∃ m, h.Ns env.locals m ∧ ∀ x v, loc.lookup x = some v → env.kindOf x = some .local → ∃ r, m x = some r ∧ VR G α h v r
  var : ∀ x v, loc.lookup x = some v → isVar (env.kindOf x)
  cell : ∀ x v, loc.lookup x = some v → env.kindOf x ≠ some .local → ∃ c r, env.cells.lookup x = some c ∧ h.IsCell c (some r) ∧ VR G α h v r
  cells : ∀ y c, env.cells.lookup y = some c → (∃ v, h.IsCell c v) ∧ G.h₀.get? c = none
  apart : ∀ y y' c, env.cells.lookup y = some c → env.cells.lookup y' = some c → y = y'
  fresh : G.h₀.get? env.locals = none

/-- what is known of the block's names by the text -/
structure Kinds (sc : List (Str × NameKind)) (env : Env) : Prop where
  glob : ∀ x, sc.lookup x = some .globalImplicit → env.kindOf x = some .globalImplicit
  loc : ∀ x, sc.lookup x = some .local → env.kindOf x = some .local
  cell : ∀ x, sc.lookup x = some .cell → env.kindOf x = some .cell ∧ ∃ c, env.cells.lookup x = some c
  free : ∀ x, sc.lookup x = some .free → env.kindOf x = some .free ∨ env.kindOf x = some .cell

variable {G}
theorem HRel.isList {α : List Addr} {H : Lists} {s : Shared} (X : HRel G α H s) {a : Addr} (ha : a ∈ α) : ∃ items : List Value, s.heap.PlainList a items.toArray := by
  obtain ⟨i, hi, rfl⟩ := List.getElem_of_mem ha
  have hi' : i < H.length := X.len ▸ hi
  obtain ⟨items, hl, _⟩ := X.lists i α[i] H[i] (List.getElem?_eq_getElem hi) (List.getElem?_eq_getElem hi')
  exact ⟨items, hl⟩
theorem isList_not_frozen {h : Heap} {a : Addr} {l : Array Value} {o : Obj} (x : h.PlainList a l) (e : h.get? a = some o) : frozen o = false := by
  obtain ⟨n, e'⟩ := x
  rw [e] at e'; cases e'; simp [frozen]
theorem ns_not_frozen {h : Heap} {a : Addr} {m : Str → Option Value} {o : Obj} (x : h.Ns a m) (e : h.get? a = some o) : frozen o = false := by
  obtain ⟨o', es, ep, e', d, _⟩ := x
  rw [e] at e'; cases e'
  unfold frozen; rw [d]
theorem cell_not_frozen {h : Heap} {a : Addr} {v : Option Value} {o : Obj} (x : h.IsCell a v) (e : h.get? a = some o) : frozen o = false := by
  obtain ⟨o', e', d⟩ := x
  rw [e] at e'; cases e'
  unfold frozen; rw [d]
theorem ns_not_list {h : Heap} {a : Addr} {m : Str → Option Value} {t : Array Value} (x : h.Ns a m) (y : h.PlainList a t) : False := by
  obtain ⟨o, es, ep, e, d, _⟩ := x
  obtain ⟨n, e'⟩ := y
  rw [e] at e'; cases e'
  cases d
theorem cell_not_list {h : Heap} {a : Addr} {v : Option Value} {t : Array Value} (x : h.IsCell a v) (y : h.PlainList a t) : False := by
  obtain ⟨o, e, d⟩ := x
  obtain ⟨n, e'⟩ := y
  rw [e] at e'; cases e'
  cases d
theorem ns_not_cell {h : Heap} {a : Addr} {m : Str → Option Value} {v : Option Value} (x : h.Ns a m) (y : h.IsCell a v) : False := by
  obtain ⟨o, es, ep, e, d, _⟩ := x
  obtain ⟨o', e', d'⟩ := y
  rw [e] at e'; cases e'
  rw [d] at d'; cases d'

theorem LRel.notIn {env : Env} {α : List Addr} {H : Lists} {loc : Loc} {s : Shared} (L : LRel G env α loc s.heap) (X : HRel G α H s) : ∀ a ∈ fpOf env, a ∉ α := fun a ha hm => by
  obtain ⟨items, hl⟩ := X.isList hm
  rcases mem_fpOf.mp ha with rfl | ⟨y, ha⟩
  · obtain ⟨m, hn, _⟩ := L.ns; exact ns_not_list hn hl
  · obtain ⟨⟨v, hc⟩, _⟩ := L.cells y a ha
    exact cell_not_list hc hl
theorem LRel.notFrozen {env : Env} {α : List Addr} {loc : Loc} {h : Heap} (L : LRel G env α loc h) : ∀ a ∈ fpOf env, ∀ o, h.get? a = some o → frozen o = false := fun a ha o e => by
  rcases mem_fpOf.mp ha with rfl | ⟨y, ha⟩
  · obtain ⟨m, hn, _⟩ := L.ns; exact ns_not_frozen hn e
  · obtain ⟨⟨v, hc⟩, _⟩ := L.cells y a ha
    exact cell_not_frozen hc e
theorem Ext.tups {fp α α' : List Addr} {H : Lists} {s s' : Shared} (x : Ext fp α α' s s') (X : HRel G α H s) (hf : ∀ a ∈ fp, ∀ o, s.heap.get? a = some o → frozen o = false) : TupKeep s.heap s'.heap := fun a o e ht =>
  x.keep a _ e (fun hm => by obtain ⟨l, hl⟩ := X.isList hm; rw [isList_not_frozen hl e] at ht; cases ht) (fun hm => by rw [hf a hm _ e] at ht; cases ht)
theorem Ext.tups0 {α α' : List Addr} {H : Lists} {s s' : Shared} (x : Ext [] α α' s s') (X : HRel G α H s) : TupKeep s.heap s'.heap := x.tups X fun _ h => nomatch h

/-- a frame's names stand through a step that leaves the frame alone -/
theorem LRel.ext {env : Env} {α α' : List Addr} {H : Lists} {loc : Loc} {s s' : Shared} (L : LRel G env α loc s.heap) (X : HRel G α H s) (x : Ext [] α α' s s') : LRel G env α' loc s'.heap := by
  have ni := L.notIn X
  have tk := x.tups0 X
  have kp : ∀ a ∈ fpOf env, ∀ o, s.heap.get? a = some o → s'.heap.get? a = some o := fun a ha o e => x.keep a o e (ni a ha) (by simp)
  refine ⟨L.kind, L.glob, L.bins, ?_, L.var, fun y v hy hk => ?_, fun y c hp => ?_, L.apart, L.fresh⟩
  · obtain ⟨m, hn, hm⟩ := L.ns
    refine ⟨m, hn.at' fun o e => kp _ (mem_fpOf.mpr (.inl rfl)) o e, fun y v hy hk => ?_⟩
    obtain ⟨r, e, hr⟩ := hm y v hy hk
    exact ⟨r, e, hr.mono x.pre tk⟩
  · obtain ⟨c, r, hc, ⟨o, e, d⟩, hr⟩ := L.cell y v hy hk
    exact ⟨c, r, hc, ⟨o, kp c (mem_fpOf.mpr (.inr ⟨y, hc⟩)) o e, d⟩, hr.mono x.pre tk⟩
  · obtain ⟨⟨v, o, e, d⟩, f⟩ := L.cells y c hp
    exact ⟨⟨v, o, kp c (mem_fpOf.mpr (.inr ⟨y, hp⟩)) o e, d⟩, f⟩
end
end Mine
end
section
open PySem PySem.Calls PyProof.Rows
set_option Elab.async false
set_option maxRecDepth 100000
namespace Mine

structure GOk (G : GL) : Prop where
  thr : 0 < G.thr
  nb : NoneBooked G.h₀
  ns : G.h₀.Ns mainGlobals G.mg
  nsb : G.h₀.Ns builtinsNs G.mb
  nolimit : G.h₀.NoLimit
  fns : ∀ d ∈ G.defs, ∃ a o pm cd doc, G.mg d.name = some (.ref a) ∧ G.h₀.get? a = some o ∧ o.data = .func (docDef d.name d.params d.body d.scope pm cd doc) ∧ G.h₀.CodeRec cd d.name
  b3 : IntTab G.prog G.w G.h₀ G.aB3 G.b3D
  b1 : ∃ n, G.h₀.SetOf (intKind G.prog G.w) G.aB1 G.b1S n
  scr : ∃ items, G.h₀.PlainList G.aScr items ∧ IntsAre items.toList G.script

/-- a name of the text's top or of the builtins -/
noncomputable def gval (G : GL) (x : Str) (v : Value) : Prop := G.mg x = some v ∨ (G.mg x = none ∧ G.mb x = some v)

section
variable (G : GL)

structure Does {τ : Type} (m : Sem τ) (α : List Addr) (H' : Lists) (R : List Addr → Heap → τ → Prop) (A : Around) (s : Shared) : Prop where
  out : ∀ (Q : τ → Shared → Prop) (E : Value → Shared → Prop), (∀ r s' α', Ext [] α α' s s' → HRel G α' H' s' → R α' s'.heap r → Q r s') → wpAny (model G.prog G.w) A m Q E s

noncomputable def BE (d : Nat) (sc : List (Str × NameKind)) (e : Expr) (loc : Loc) (H : Lists) (v : V) (H' : Lists) : Prop :=
  ∀ (A : Around) (env : Env) (α : List Addr) (s : Shared), Room d A → Kinds sc env → HRel G α H s → LRel G env α loc s.heap →
    Does G (eval e env) α H' (fun α' h r => VR G α' h v r) A s
noncomputable def BA (d : Nat) (sc : List (Str × NameKind)) (es : List Expr) (loc : Loc) (H : Lists) (vs : List V) (H' : Lists) : Prop :=
  ∀ (A : Around) (env : Env) (α : List Addr) (s : Shared) (pos : Pos), Room d A → Kinds sc env → HRel G α H s → LRel G env α loc s.heap →
    Does G (spliced (backTo pos (starEach es env))) α H' (fun α' h r => VRs G α' h vs r) A s
noncomputable def BT (d : Nat) (sc : List (Str × NameKind)) (e : Expr) (loc : Loc) (H : Lists) (b : Bool) (H' : Lists) : Prop :=
  ∀ (A : Around) (env : Env) (α : List Addr) (s : Shared), Room d A → Kinds sc env → HRel G α H s → LRel G env α loc s.heap →
    Does G (isTrue e env (eval e env)) α H' (fun _ _ r => r = b) A s
/-- an act upon two values -/
noncomputable def Act2 (f : Value → Value → Sem Value) (a b : V) (H : Lists) (v : V) (H' : Lists) : Prop :=
  ∀ (A : Around) (α : List Addr) (s : Shared) (ra rb : Value), Room 1 A → HRel G α H s → VR G α s.heap a ra → VR G α s.heap b rb →
    Does G (f ra rb) α H' (fun α' h r => VR G α' h v r) A s
noncomputable def Act1 (f : Value → Sem Value) (a : V) (H : Lists) (v : V) (H' : Lists) : Prop :=
  ∀ (A : Around) (α : List Addr) (s : Shared) (ra : Value), Room 1 A → HRel G α H s → VR G α s.heap a ra →
    Does G (f ra) α H' (fun α' h r => VR G α' h v r) A s
noncomputable def Tru (a : V) (H : Lists) (b : Bool) : Prop :=
  ∀ (A : Around) (α : List Addr) (s : Shared) (ra : Value), Room 1 A → HRel G α H s → VR G α s.heap a ra →
    Does G (truthy ra) α H (fun _ _ r => r = b) A s

inductive Fl where
  | next | ret (v : V)
inductive FR : List Addr → Heap → Fl → Flow → Prop where
  | next {α h} : FR α h .next .next
  | ret {α h v r} (e : VR G α h v r) : FR α h (.ret v) (.ret r)

structure DoesF {τ : Type} (fp : List Addr) (env : Env) (m : Sem τ) (α : List Addr) (H' : Lists) (loc' : Loc) (R : List Addr → Heap → τ → Prop) (A : Around) (s : Shared) : Prop where
  out : ∀ (Q : τ → Shared → Prop) (E : Value → Shared → Prop), (∀ r s' α', Ext fp α α' s s' → HRel G α' H' s' → LRel G env α' loc' s'.heap → R α' s'.heap r → Q r s') → wpAny (model G.prog G.w) A m Q E s
noncomputable def BS (d : Nat) (sc : List (Str × NameKind)) (st : Stmt) (loc : Loc) (H : Lists) (f : Fl) (loc' : Loc) (H' : Lists) : Prop :=
  ∀ (A : Around) (env : Env) (α : List Addr) (s : Shared), Room d A → Kinds sc env → HRel G α H s → LRel G env α loc s.heap →
    DoesF G (fpOf env) env (exec st env) α H' loc' (fun α' h r => FR G α' h f r) A s
noncomputable def BSs (d : Nat) (sc : List (Str × NameKind)) (sts : List Stmt) (loc : Loc) (H : Lists) (f : Fl) (loc' : Loc) (H' : Lists) : Prop :=
  ∀ (A : Around) (env : Env) (α : List Addr) (s : Shared), Room d A → Kinds sc env → HRel G α H s → LRel G env α loc s.heap →
    DoesF G (fpOf env) env (execs sts env) α H' loc' (fun α' h r => FR G α' h f r) A s
/-- a binding -/
noncomputable def BB (d : Nat) (sc : List (Str × NameKind)) (t : Expr) (v : V) (loc : Loc) (H : Lists) (loc' : Loc) (H' : Lists) : Prop :=
  ∀ (A : Around) (env : Env) (α : List Addr) (s : Shared) (r : Value), Room d A → Kinds sc env → HRel G α H s → LRel G env α loc s.heap → VR G α s.heap v r →
    DoesF G (fpOf env) env (assign t env r) α H' loc' (fun _ _ _ => True) A s

variable {G} {d : Nat} {sc : List (Str × NameKind)} {loc loc' loc'' : Loc} {H H' H'' H''' : Lists}

/-! heap steps -/
theorem HRel.tok {α : List Addr} {s : Shared} (X : HRel G α H s) {t : Nat} (ht : G.thr ≤ t) : HRel G α H { s with toks := t } := ⟨ht, X.keep, X.len, X.nd, X.own, X.lists⟩
theorem HRel.tk {α : List Addr} {s : Shared} (X : HRel G α H s) : HRel G α H { s with toks := s.toks + 1 } := X.tok (Nat.le_succ_of_le X.pos)
theorem HRel.ext {α α' : List Addr} {s s' : Shared} (X : HRel G α H s) (x : Ext [] α α' s s') (hf : ∀ (i : Nat) (a : Addr) (l : List V), α'[i]? = some a → H'[i]? = some l → ∃ items : List Value, s'.heap.PlainList a items.toArray ∧ VRs G α' s'.heap l items)
    (hlen : α'.length = H'.length) (hnd : α'.Nodup) (ht : G.thr ≤ s'.toks) : HRel G α' H' s' := by
  refine ⟨ht, fun b o e => x.keep b o (X.keep b o e) (fun hb => ?_) (by simp), hlen, hnd, fun a ha => ?_, hf⟩
  · rw [X.own b hb] at e; cases e
  · by_cases h1 : a ∈ α
    · exact X.own a h1
    · cases e : G.h₀.get? a with
      | none => rfl
      | some o => have := X.keep a o e; rw [x.new a ha h1] at this; cases this

/-- new things alone: the lists stand -/
theorem HRel.keeps {α : List Addr} {s : Shared} {h : Heap} (X : HRel G α H s) (hk : ∀ b o, s.heap.get? b = some o → h.get? b = some o) : HRel G α H { s with heap := h } := by
  have x : Ext [] α α s { s with heap := h } := Ext.keeps hk
  refine HRel.ext (s' := { s with heap := h }) X x (fun i a l ha hl => ?_) X.len X.nd X.pos
  obtain ⟨items, ⟨n, e⟩, hv⟩ := X.lists i a l ha hl
  exact ⟨items, ⟨n, hk _ _ e⟩, hv.mono (List.prefix_refl _) (x.tups0 X)⟩

theorem nodup_inj {α : List Addr} (hn : α.Nodup) {i j : Nat} {a : Addr} (hi : α[i]? = some a) (hj : α[j]? = some a) : i = j := by
  obtain ⟨h1, e1⟩ := List.getElem?_eq_some_iff.mp hi
  obtain ⟨h2, e2⟩ := List.getElem?_eq_some_iff.mp hj
  have hp := List.pairwise_iff_getElem.mp hn
  rcases Nat.lt_trichotomy i j with h | h | h
  · exact absurd (e1.trans e2.symm) (hp i j h1 h2 h)
  · exact h
  · exact absurd (e2.trans e1.symm) (hp j i h2 h1 h)
theorem nodup_concat {α : List Addr} {a : Addr} (hn : α.Nodup) (ha : a ∉ α) : (α ++ [a]).Nodup := by
  rw [List.nodup_append]
  exact ⟨hn, by simp, fun x hx y hy => by simp at hy; subst hy; rintro rfl; exact ha hx⟩
/-- a new list -/
theorem HRel.newList {α : List Addr} {s : Shared} (X : HRel G α H s) {l : List V} {items : List Value} {h : Heap} {a : Addr} (ha : s.heap.get? a = none) (hk : ∀ b o, s.heap.get? b = some o → h.get? b = some o)
    (hl : h.PlainList a items.toArray) (hv : VRs G α s.heap l items) : HRel G (α ++ [a]) (H ++ [l]) { s with heap := h } ∧ Ext [] α (α ++ [a]) s { s with heap := h } ∧ VR G (α ++ [a]) h (.ref H.length) (.ref a) := by
  have hna : a ∉ α := fun hm => by obtain ⟨items, n, e⟩ := X.isList hm; rw [ha] at e; cases e
  have x : Ext [] α (α ++ [a]) s { s with heap := h } := ⟨⟨_, _, rfl⟩, List.prefix_append _ _, fun b hb hn => by
      rcases List.mem_append.mp hb with hb | hb
      · exact absurd hb hn
      · simp at hb; subst hb; exact ha, fun b o e _ _ => hk b o e, fun b o e => ⟨o, hk b o e⟩⟩
  have tk := x.tups0 X
  refine ⟨HRel.ext (s' := { s with heap := h }) X x (fun i b k hb hk' => ?_) (by simp [X.len]) (nodup_concat X.nd hna) X.pos, x, .ref (by rw [← X.len]; simp)⟩
  by_cases hi : i < α.length
  · rw [List.getElem?_append_left hi] at hb
    rw [List.getElem?_append_left (X.len ▸ hi)] at hk'
    obtain ⟨items', ⟨n, e⟩, hv'⟩ := X.lists i b k hb hk'
    exact ⟨items', ⟨n, hk _ _ e⟩, hv'.mono (List.prefix_append _ _) tk⟩
  · have h1 : i = α.length := by
      have := (List.getElem?_eq_some_iff.mp hb).1
      simp at this; (first | lia | omega)
    subst h1
    simp at hb
    rw [X.len] at hk'
    simp at hk'
    subst hb hk'
    exact ⟨items, hl, hv.mono (List.prefix_append _ _) tk⟩
/-- a list changed in place -/
theorem HRel.setList {α : List Addr} {s : Shared} (X : HRel G α H s) {i : Nat} {a : Addr} {l : List V} {items : List Value} {h : Heap} (ha : α[i]? = some a) (hs : Heap.SameBut a s.heap h)
    (hl : h.PlainList a items.toArray) (hv : VRs G α s.heap l items) : HRel G α (H.set i l) { s with heap := h } ∧ Ext [] α α s { s with heap := h } := by
  have hm : a ∈ α := List.mem_of_getElem? ha
  obtain ⟨it0, n0, e0⟩ := X.isList hm
  have x : Ext [] α α s { s with heap := h } := ⟨⟨_, _, rfl⟩, List.prefix_refl _, fun b hb hn => absurd hb hn, fun b o e hb _ => hs.extBut b o (fun q => hb (q ▸ hm)) e, fun b o e => by
      by_cases q : b = a
      · subst q; obtain ⟨n, e'⟩ := hl; exact ⟨_, e'⟩
      · exact ⟨o, hs.extBut b o q e⟩⟩
  have tk := x.tups0 X
  refine ⟨HRel.ext (s' := { s with heap := h }) X x (fun j b k hb hk' => ?_) (by simp [X.len]) X.nd X.pos, x⟩
  by_cases hj : i = j
  · subst hj
    rw [ha] at hb; cases hb
    have hlt : i < H.length := X.len ▸ (List.getElem?_eq_some_iff.mp ha).1
    rw [List.getElem?_set_self hlt] at hk'
    cases hk'
    exact ⟨items, hl, hv.mono (List.prefix_refl _) tk⟩
  · rw [List.getElem?_set_ne hj] at hk'
    obtain ⟨items', ⟨n, e⟩, hv'⟩ := X.lists j b k hb hk'
    have hne : b ≠ a := fun q => by
      subst q
      exact hj (nodup_inj X.nd ha hb)
    exact ⟨items', ⟨n, hs.extBut b _ hne e⟩, hv'.mono (List.prefix_refl _) tk⟩

/-! names, constants -/
theorem BE.var {x : Str} {p : Pos} {v : V} (hl : loc.lookup x = some v) (hd : (x == ("__debug__" : Str)) = false := by decide) (hc : (x == ("__classdict__" : Str)) = false := by decide) : BE G d sc (.Name x p) loc H v H := by
  intro A env α s _ _ X L
  refine ⟨fun Q E hQ => ?_⟩
  refine wpAny_Name ?_ hd
  by_cases hk : env.kindOf x = some .local
  · obtain ⟨m, hn, hm⟩ := L.ns
    obtain ⟨r, e, hr⟩ := hm x v hl hk
    exact wpAny_loadName_local L.kind hk hn e (hQ _ _ _ Ext.refl X hr)
  · obtain ⟨c, r, hcl, hcell, hr⟩ := L.cell x v hl hk
    rcases L.var x v hl with h | h | h
    · exact absurd h hk
    · exact wpAny_loadName_cell L.kind h hcl hcell (hQ _ _ _ Ext.refl X hr)
    · exact wpAny_loadName_free L.kind h hcl hcell (hQ _ _ _ Ext.refl X hr) hc

theorem BE.glob (K : GOk G) {x : Str} {p : Pos} {v : V} {r : Value} (hk : sc.lookup x = some .globalImplicit) (hg : gval G x r) (hr : ∀ α h, VR G α h v r) (hd : (x == ("__debug__" : Str)) = false := by decide) : BE G d sc (.Name x p) loc H v H := by
  intro A env α s _ S X L
  refine ⟨fun Q E hQ => ?_⟩
  refine Name_function_global L.kind (S.glob x hk) ?_ hd
  rcases hg with hg | ⟨hg, hb⟩
  · exact loadGlobal_global (L.glob ▸ K.ns.keeps X.keep) hg (hQ _ _ _ Ext.refl X (hr _ _))
  · exact loadGlobal_builtin (L.glob ▸ K.ns.keeps X.keep) hg (L.bins ▸ K.nsb.keeps X.keep) hb (hQ _ _ _ Ext.refl X (hr _ _))

theorem BE.int {i : Int} {k : Nat} {p : Pos} : BE G d sc (.Constant (.int i) k p) loc H (.int i) H := by
  intro A env α s _ _ X _
  refine ⟨fun Q E hQ => ?_⟩
  exact wpAny_Constant_int (hQ _ _ _ Ext.tok X.tk (.int _ _))
theorem BE.str {x : Str} {k : Nat} {p : Pos} : BE G d sc (.Constant (.str x) k p) loc H (.str x) H := by
  intro A env α s _ _ X _
  refine ⟨fun Q E hQ => ?_⟩
  exact wpAny_Constant_str (hQ _ _ _ Ext.tok X.tk (.str _ _))
theorem BE.none {k : Nat} {p : Pos} : BE G d sc (.Constant .none k p) loc H .none H := by
  intro A env α s _ _ X _
  refine ⟨fun Q E hQ => ?_⟩
  exact wpAny_Constant_none (hQ _ _ _ Ext.refl X .none)
theorem BE.bool {b : Bool} {k : Nat} {p : Pos} : BE G d sc (.Constant (.bool b) k p) loc H (.bool b) H := by
  intro A env α s _ _ X _
  refine ⟨fun Q E hQ => ?_⟩
  exact wpAny_Constant_bool (hQ _ _ _ Ext.refl X (.bool _))

/-! nodes of two parts -/
theorem Room.one {A : Around} (x : Room (d + 1) A) : Room 1 A := x.le (by (first | lia | omega))

theorem BE.bin {l r : Expr} {op : Operator} {p : Pos} {a b v : V} (h1 : BE G (d + 1) sc l loc H a H') (h2 : BE G (d + 1) sc r loc H' b H'') (h3 : Act2 G (binaryOp op) a b H'' v H''') :
    BE G (d + 1) sc (.BinOp l op r p) loc H v H''' := by
  intro A env α s R S X L
  refine ⟨fun Q E hQ => ?_⟩
  refine wpAny_BinOp ((h1 A env α s R S X L).out _ _ fun ra s1 α1 x1 X1 v1 => ?_)
  refine (h2 A env α1 s1 R S X1 (L.ext X x1)).out _ _ fun rb s2 α2 x2 X2 v2 => ?_
  refine (h3 A α2 s2 ra rb R.one X2 (v1.mono x2.pre (x2.tups0 X1)) v2).out _ _ fun r s3 α3 x3 X3 v3 => ?_
  exact hQ _ _ _ ((x1.trans x2).trans x3) X3 v3

theorem BE.cmp {l r : Expr} {op : CmpOp} {p : Pos} {a b v : V} (h1 : BE G (d + 1) sc l loc H a H') (h2 : BE G (d + 1) sc r loc H' b H'') (h3 : Act2 G (compareOp op) a b H'' v H''')
    (hm : behindInMarks op r = false := by with_unfolding_all rfl) : BE G (d + 1) sc (.Compare l [op] [r] p) loc H v H''' := by
  intro A env α s R S X L
  refine ⟨fun Q E hQ => ?_⟩
  refine wpAny_Compare1 ((h1 A env α s R S X L).out _ _ fun ra s1 α1 x1 X1 v1 => ?_) hm
  refine (h2 A env α1 s1 R S X1 (L.ext X x1)).out _ _ fun rb s2 α2 x2 X2 v2 => ?_
  refine (h3 A α2 s2 ra rb R.one X2 (v1.mono x2.pre (x2.tups0 X1)) v2).out _ _ fun r s3 α3 x3 X3 v3 => ?_
  exact hQ _ _ _ ((x1.trans x2).trans x3) X3 v3

theorem BT.cmp {l r : Expr} {op : CmpOp} {p : Pos} {a b : V} {c : Bool} (h1 : BE G (d + 1) sc l loc H a H') (h2 : BE G (d + 1) sc r loc H' b H'') (h3 : Act2 G (compareOp op) a b H'' (.bool c) H''')
    (hm : behindInMarks op r = false := by with_unfolding_all rfl) : BT G (d + 1) sc (.Compare l [op] [r] p) loc H c H''' := by
  intro A env α s R S X L
  refine ⟨fun Q E hQ => ?_⟩
  refine wpAny_isTrue_Compare1 ((h1 A env α s R S X L).out _ _ fun ra s1 α1 x1 X1 v1 => ?_) hm
  refine (h2 A env α1 s1 R S X1 (L.ext X x1)).out _ _ fun rb s2 α2 x2 X2 v2 => ?_
  refine (h3 A α2 s2 ra rb R.one X2 (v1.mono x2.pre (x2.tups0 X1)) v2).out _ _ fun r s3 α3 x3 X3 v3 => ?_
  cases v3
  exact wpAny_truthy_bool (hQ _ _ _ ((x1.trans x2).trans x3) X3 rfl)
theorem BT.not {x : Expr} {p : Pos} {c : Bool} (h : BT G d sc x loc H c H') : BT G d sc (.UnaryOp .Not x p) loc H (!c) H' := by
  intro A env α s R S X L
  refine ⟨fun Q E hQ => ?_⟩
  refine isTrue_not ((h A env α s R S X L).out _ _ fun r s1 α1 x1 X1 e => ?_)
  subst e
  exact hQ _ _ _ x1 X1 rfl
theorem BT.val {e : Expr} {v : V} {c : Bool} (h : BE G (d + 1) sc e loc H v H') (ht : Tru G v H' c) (he : ∀ env whole, isTrue e env whole = (do let v ← whole; standAt e.pos; holding [v] (truthy v)) := by intro _ _; rfl) :
    BT G (d + 1) sc e loc H c H' := by
  intro A env α s R S X L
  refine ⟨fun Q E hQ => ?_⟩
  refine wpAny_isTrue_value ((h A env α s R S X L).out _ _ fun r s1 α1 x1 X1 v1 => ?_) (he _ _)
  exact (ht A α1 s1 r R.one X1 v1).out _ _ fun r s2 α2 x2 X2 e => hQ _ _ _ (x1.trans x2) X2 e
theorem BT.and_nil {p : Pos} : BT G d sc (.BoolOp .And [] p) loc H true H := by
  intro A env α s R S X L
  refine ⟨fun Q E hQ => ?_⟩
  exact isTrue_and_nil (hQ _ _ _ Ext.refl X rfl)
theorem BT.and_t {x : Expr} {r : List Expr} {p : Pos} {c : Bool} (h : BT G d sc x loc H true H') (h2 : BT G d sc (.BoolOp .And r p) loc H' c H'') : BT G d sc (.BoolOp .And (x :: r) p) loc H c H'' := by
  intro A env α s R S X L
  refine ⟨fun Q E hQ => ?_⟩
  refine isTrue_and ((h A env α s R S X L).out _ _ fun b s1 α1 x1 X1 e => ?_)
  subst e
  exact (h2 A env α1 s1 R S X1 (L.ext X x1)).out _ _ fun b s2 α2 x2 X2 e => hQ _ _ _ (x1.trans x2) X2 e
theorem BT.and_f {x : Expr} {r : List Expr} {p : Pos} (h : BT G d sc x loc H false H') : BT G d sc (.BoolOp .And (x :: r) p) loc H false H' := by
  intro A env α s R S X L
  refine ⟨fun Q E hQ => ?_⟩
  refine isTrue_and ((h A env α s R S X L).out _ _ fun b s1 α1 x1 X1 e => ?_)
  subst e
  exact hQ _ _ _ x1 X1 rfl
theorem BT.or_nil {p : Pos} : BT G d sc (.BoolOp .Or [] p) loc H false H := by
  intro A env α s R S X L
  refine ⟨fun Q E hQ => ?_⟩
  exact isTrue_or_nil (hQ _ _ _ Ext.refl X rfl)
theorem BT.or_t {x : Expr} {r : List Expr} {p : Pos} (h : BT G d sc x loc H true H') : BT G d sc (.BoolOp .Or (x :: r) p) loc H true H' := by
  intro A env α s R S X L
  refine ⟨fun Q E hQ => ?_⟩
  refine isTrue_or ((h A env α s R S X L).out _ _ fun b s1 α1 x1 X1 e => ?_)
  subst e
  exact hQ _ _ _ x1 X1 rfl
theorem BT.or_f {x : Expr} {r : List Expr} {p : Pos} {c : Bool} (h : BT G d sc x loc H false H') (h2 : BT G d sc (.BoolOp .Or r p) loc H' c H'') : BT G d sc (.BoolOp .Or (x :: r) p) loc H c H'' := by
  intro A env α s R S X L
  refine ⟨fun Q E hQ => ?_⟩
  refine isTrue_or ((h A env α s R S X L).out _ _ fun b s1 α1 x1 X1 e => ?_)
  subst e
  exact (h2 A env α1 s1 R S X1 (L.ext X x1)).out _ _ fun b s2 α2 x2 X2 e => hQ _ _ _ (x1.trans x2) X2 e

/-! ops -/
theorem add_int2 {a b : Int} : Act2 G (binaryOp .Add) (.int a) (.int b) H (.int (a + b)) H := by
  intro A α s ra rb _ X va vb
  refine ⟨fun Q E hQ => ?_⟩
  cases va; cases vb
  exact PyProof.Rows.add_int (hQ _ _ _ Ext.tok X.tk (.int _ _))
theorem sub_int2 {a b : Int} : Act2 G (binaryOp .Sub) (.int a) (.int b) H (.int (a - b)) H := by
  intro A α s ra rb _ X va vb
  refine ⟨fun Q E hQ => ?_⟩
  cases va; cases vb
  exact PyProof.Rows.sub_int (hQ _ _ _ Ext.tok X.tk (.int _ _))
theorem mod_int2 {a b : Int} (hb : b ≠ 0) : Act2 G (binaryOp .Mod) (.int a) (.int b) H (.int (a.fmod b)) H := by
  intro A α s ra rb _ X va vb
  refine ⟨fun Q E hQ => ?_⟩
  cases va; cases vb
  exact PyProof.Rows.mod_int hb (hQ _ _ _ Ext.tok X.tk (.int _ _))
theorem div_int2 {a b : Int} (hb : b ≠ 0) (hs : b.natAbs < 1073741824) : Act2 G (binaryOp .FloorDiv) (.int a) (.int b) H (.int (a.fdiv b)) H := by
  intro A α s ra rb _ X va vb
  refine ⟨fun Q E hQ => ?_⟩
  cases va; cases vb
  exact PyProof.Rows.floordiv_int hb (hQ _ _ _ Ext.tok X.tk (.int _ _)) (.inl (PyProof.noPylong_small hs))
theorem mul_int2 {a b : Int} (hm : IntMulOk a b) : Act2 G (binaryOp .Mult) (.int a) (.int b) H (.int (a * b)) H := by
  intro A α s ra rb _ X va vb
  refine ⟨fun Q E hQ => ?_⟩
  cases va; cases vb
  exact PyProof.Rows.mul_int (hQ _ _ _ Ext.tok X.tk (.int _ _)) hm
theorem pow_int2 {n : Int} (h0 : 0 ≤ n) (h1 : n ≤ 1000000) : Act2 G (binaryOp .Pow) (.int 2) (.int n) H (.int (2 ^ n.toNat)) H := by
  intro A α s ra rb _ X va vb
  refine ⟨fun Q E hQ => ?_⟩
  cases va; cases vb
  exact PyProof.Rows.pow_int_small h0 h1 (by decide) (hQ _ _ _ Ext.tok X.tk (.int _ _))
end
end Mine
end
section
open PySem PySem.Calls PyProof.Rows
set_option Elab.async false
set_option maxRecDepth 100000
namespace Mine
/-! data of a value -/
mutual
inductive PyOf : Lists → V → PyData → Prop where
  | none {H} : PyOf H .none .none
  | bool {H} (b : Bool) : PyOf H (.bool b) (.bool b)
  | int {H} (i : Int) : PyOf H (.int i) (.int i)
  | str {H} (x : Str) : PyOf H (.str x) (.str x)
  | tup {H l ds} (h : PyOfs H l ds) : PyOf H (.tup l) (.tuple ds)
  | ref {H i l ds} (e : H[i]? = some l) (h : PyOfs H l ds) : PyOf H (.ref i) (.list ds)
inductive PyOfs : Lists → List V → List PyData → Prop where
  | nil {H} : PyOfs H [] []
  | cons {H v l d ds} (h : PyOf H v d) (hl : PyOfs H l ds) : PyOfs H (v :: l) (d :: ds)
end
section
variable {G : GL} {d : Nat} {sc : List (Str × NameKind)} {loc loc' loc'' : Loc} {H H' H'' H''' : Lists}

theorem PyOfs.reads {α : List Addr} {s : Shared} (X : HRel G α H s) {l : List V} {ds : List PyData} (x : PyOfs H l ds) : ∀ {rs : List Value}, VRs G α s.heap l rs → ∃ as, ReadsAll s.heap rs ds as := fun {rs} =>
  PyOfs.rec (motive_1 := fun v da _ => ∀ r, VR G α s.heap v r → ∃ as, Reads s.heap r da as) (motive_2 := fun l ds _ => ∀ rs, VRs G α s.heap l rs → ∃ as, ReadsAll s.heap rs ds as)
    (fun r hv => by cases hv; exact ⟨_, .none⟩) (fun b r hv => by cases hv; exact ⟨_, .bool _⟩) (fun i r hv => by cases hv; exact ⟨_, .int _ _⟩) (fun x r hv => by cases hv; exact ⟨_, .str _ _⟩)
    (fun _ ih r hv => by
      cases hv with
      | tup e hr =>
        obtain ⟨n, e⟩ := e
        obtain ⟨as, ha⟩ := ih _ hr
        exact ⟨_, .tuple e rfl rfl ha⟩)
    (fun e _ ih r hv => by
      cases hv with
      | ref ea =>
        obtain ⟨items, ⟨n, e'⟩, hr⟩ := X.lists _ _ _ ea e
        obtain ⟨as, ha⟩ := ih _ hr
        exact ⟨_, .list e' rfl rfl ha⟩)
    (fun rs hv => by cases hv; exact ⟨_, .nil⟩)
    (fun _ _ i1 i2 rs hv => by
      cases hv with
      | cons hv hl =>
        obtain ⟨as, ha⟩ := i1 _ hv
        obtain ⟨bs, hb⟩ := i2 _ hl
        exact ⟨_, .cons ha hb⟩) x rs
theorem PyOf.reads {α : List Addr} {s : Shared} (X : HRel G α H s) {v : V} {da : PyData} (x : PyOf H v da) {r : Value} (hv : VR G α s.heap v r) : ∃ as, Reads s.heap r da as := by
  obtain ⟨as, h⟩ := PyOfs.reads X (PyOfs.cons x .nil) (VRs.cons hv .nil)
  cases h with
  | cons a _ => exact ⟨_, a⟩

theorem Room.eq {A : Around} (R : Room 1 A) : A.units + 64 < cLine := by have := R.units; (first | lia | omega)

theorem eq_act {a b : V} {da db : PyData} (ha : PyOf H a da) (hb : PyOf H b db) (sa : SeqAt.shaped da = true) (sb : SeqAt.shaped db = true) : Act2 G (compareOp .Eq) a b H (.bool (PyData.eqv da db)) H := by
  intro A α s ra rb R X va vb
  refine ⟨fun Q E hQ => ?_⟩
  obtain ⟨as, hra⟩ := ha.reads X va
  obtain ⟨bs, hrb⟩ := hb.reads X vb
  exact eq_dataH hra hrb sa sb R.eq (hQ _ _ _ Ext.refl X (.bool _))
theorem ne_act {a b : V} {da db : PyData} (ha : PyOf H a da) (hb : PyOf H b db) (sa : SeqAt.shaped da = true) (sb : SeqAt.shaped db = true) : Act2 G (compareOp .NotEq) a b H (.bool (!PyData.eqv da db)) H := by
  intro A α s ra rb R X va vb
  refine ⟨fun Q E hQ => ?_⟩
  obtain ⟨as, hra⟩ := ha.reads X va
  obtain ⟨bs, hrb⟩ := hb.reads X vb
  exact ne_dataH hra hrb sa sb R.eq (hQ _ _ _ Ext.refl X (.bool _))
theorem eq_int2 {a b : Int} : Act2 G (compareOp .Eq) (.int a) (.int b) H (.bool (a == b)) H := by
  intro A α s ra rb _ X va vb
  refine ⟨fun Q E hQ => ?_⟩
  cases va; cases vb
  exact PyProof.Rows.eq_int (hQ _ _ _ Ext.refl X (.bool _))
theorem lt_int2 {a b : Int} : Act2 G (compareOp .Lt) (.int a) (.int b) H (.bool (decide (a < b))) H := by
  intro A α s ra rb _ X va vb
  refine ⟨fun Q E hQ => ?_⟩
  cases va; cases vb
  exact PyProof.Rows.lt_int (hQ _ _ _ Ext.refl X (.bool _))
theorem gt_int2 {a b : Int} : Act2 G (compareOp .Gt) (.int a) (.int b) H (.bool (decide (b < a))) H := by
  intro A α s ra rb _ X va vb
  refine ⟨fun Q E hQ => ?_⟩
  cases va; cases vb
  exact PyProof.Rows.gt_int (hQ _ _ _ Ext.refl X (.bool _))
theorem str_eq_list {x y : Str} : (x.cps.toList == y.cps.toList) = decide (x = y) := by
  obtain ⟨x⟩ := x; obtain ⟨y⟩ := y
  by_cases h : x = y
  · subst h; simp
  · have h1 : x.toList ≠ y.toList := fun e => h (Array.toList_inj.mp e)
    have h2 : Str.mk x ≠ Str.mk y := fun e => h (Str.mk.inj e)
    rw [decide_eq_false h2]
    exact beq_eq_false_iff_ne.mpr h1
theorem eq_str2 {a b : Str} : Act2 G (compareOp .Eq) (.str a) (.str b) H (.bool (decide (a = b))) H := by
  intro A α s ra rb _ X va vb
  refine ⟨fun Q E hQ => ?_⟩
  cases va; cases vb
  refine P.eq_str ?_
  rw [str_eq_list]
  exact hQ _ _ _ Ext.refl X (.bool _)
theorem ne_str2 {a b : Str} : Act2 G (compareOp .NotEq) (.str a) (.str b) H (.bool (!decide (a = b))) H := by
  intro A α s ra rb _ X va vb
  refine ⟨fun Q E hQ => ?_⟩
  cases va; cases vb
  refine P.ne_str ?_
  rw [show (a.cps.toList != b.cps.toList) = !decide (a = b) by rw [← str_eq_list]; rfl]
  exact hQ _ _ _ Ext.refl X (.bool _)
theorem in_str2 {a b : Str} : Act2 G (compareOp .In) (.str b) (.str a) H (.bool (!(Builtin.Str.occurrences a b 0 a.length 1).isEmpty)) H := by
  intro A α s ra rb _ X va vb
  refine ⟨fun Q E hQ => ?_⟩
  cases va; cases vb
  exact P.in_str (hQ _ _ _ Ext.refl X (.bool _))

/-- is: of plain things -/
noncomputable def isNone : V → Bool
  | .none => true
  | .raw r => r == .none
  | _ => false
theorem isNot_none2 {a : V} : Act2 G (compareOp .IsNot) a .none H (.bool (!isNone a)) H := by
  intro A α s ra rb _ X va vb
  refine ⟨fun Q E hQ => ?_⟩
  cases vb
  refine isNot_none ?_
  have : (ra == Value.none) = isNone a := by cases va <;> rfl
  rw [this]
  exact hQ _ _ _ Ext.refl X (.bool _)
theorem is_ty2 {a b : String} : Act2 G (compareOp .Is) (.ty a) (.ty b) H (.bool (decide (a = b))) H := by
  intro A α s ra rb _ X va vb
  refine ⟨fun Q E hQ => ?_⟩
  cases va; cases vb
  refine wpAny_is_plain rfl ?_
  have : (Value.type a == Value.type b) = decide (a = b) := by
    by_cases h : a = b
    · subst h; simp
    · rw [decide_eq_false h]; exact beq_eq_false_iff_ne.mpr fun e => h (Value.type.inj e)
  rw [this]
  exact hQ _ _ _ Ext.refl X (.bool _)
theorem isNot_ty2 {a b : String} : Act2 G (compareOp .IsNot) (.ty a) (.ty b) H (.bool (!decide (a = b))) H := by
  intro A α s ra rb _ X va vb
  refine ⟨fun Q E hQ => ?_⟩
  cases va; cases vb
  refine wpAny_isNot_plain rfl ?_
  have : (Value.type a == Value.type b) = decide (a = b) := by
    by_cases h : a = b
    · subst h; simp
    · rw [decide_eq_false h]; exact beq_eq_false_iff_ne.mpr fun e => h (Value.type.inj e)
  rw [this]
  exact hQ _ _ _ Ext.refl X (.bool _)

/-! truth -/
theorem tru_bool {b : Bool} : Tru G (.bool b) H b := by
  intro A α s ra _ X va
  refine ⟨fun Q E hQ => ?_⟩
  cases va
  exact wpAny_truthy_bool (hQ _ _ _ Ext.refl X rfl)
theorem tru_int {i : Int} : Tru G (.int i) H (i != 0) := by
  intro A α s ra _ X va
  refine ⟨fun Q E hQ => ?_⟩
  cases va
  exact PyProof.Rows.truthy_int (hQ _ _ _ Ext.refl X rfl)
theorem tru_str {x : Str} (h : x.length < 2 ^ 62) : Tru G (.str x) H ((x.length : Int) != 0) := by
  intro A α s ra _ X va
  refine ⟨fun Q E hQ => ?_⟩
  cases va
  exact P.truthy_str (by (first | lia | omega)) (hQ _ _ _ Ext.tok X.tk.tk rfl)

/-! items -/
noncomputable def vT : V → Option String
  | .str _ => some "str"
  | .tup _ => some "tuple"
  | .ref _ => some "list"
  | _ => none
theorem vT_is {α : List Addr} {s : Shared} (X : HRel G α H s) {v : V} {T : String} (hv : vT v = some T) {r : Value} (h : VR G α s.heap v r) : s.TypeIs r T := by
  cases h <;> simp only [vT] at hv <;> cases hv
  case str x t => exact typeIs_str s x t
  case tup e _ => obtain ⟨n, e⟩ := e; exact ⟨_, e, rfl⟩
  case ref e => obtain ⟨items, n, e'⟩ := X.isList (List.mem_of_getElem? e); exact ⟨_, e', rfl⟩
theorem vT_get {v : V} {T : String} (hv : vT v = some T) : ∃ id, typeLookup (.type T) "__getitem__" = pure (some (.builtin id)) := by
  cases v <;> simp only [vT] at hv <;> cases hv
  · exact ⟨_, F.slot_str_getitem.lookup⟩
  · exact ⟨_, F.slot_tuple_getitem.lookup⟩
  · exact ⟨_, slot_list_getitem.lookup⟩
theorem subscripted_ops (slice : Expr) (o i : Value) : ∃ ops, subscripted slice false o i = operate ops (getItem o i) := by
  unfold subscripted
  split
  · exact ⟨_, rfl⟩
  · rename_i h; cases h
  · exact ⟨_, rfl⟩

theorem BE.sub {value slice : Expr} {p : Pos} {o i v : V} {T : String} (h1 : BE G (d + 1) sc value loc H o H') (h2 : BE G (d + 1) sc slice loc H' i H'') (h3 : Act2 G getItem o i H'' v H''')
    (hT : vT o = some T := by rfl) : BE G (d + 1) sc (.Subscript value slice p) loc H v H''' := by
  intro A env α s R S X L
  refine ⟨fun Q E hQ => ?_⟩
  refine Subscript_ ((h1 A env α s R S X L).out _ _ fun ra s1 α1 x1 X1 v1 => ?_)
  refine (h2 A env α1 s1 R S X1 (L.ext X x1)).out _ _ fun rb s2 α2 x2 X2 v2 => ?_
  have v1' := v1.mono x2.pre (x2.tups0 X1)
  obtain ⟨id, hl⟩ := vT_get hT
  obtain ⟨ops, hs⟩ := subscripted_ops slice ra rb
  refine tail_any (vT_is X2 hT v1') hl ?_ hs
  refine (h3 A α2 s2 ra rb R.one X2 v1' v2).out _ _ fun r s3 α3 x3 X3 v3 => ?_
  exact hQ _ _ _ ((x1.trans x2).trans x3) X3 v3

theorem item_list2 {i : Nat} {l : List V} {k : Int} {v : V} (hl : H[i]? = some l) (h0 : 0 ≤ k) (hk : k < 2 ^ 63) (hv : l[k.toNat]? = some v) : Act2 G getItem (.ref i) (.int k) H v H := by
  intro A α s ra rb _ X va vb
  refine ⟨fun Q E hQ => ?_⟩
  cases va with
  | ref e =>
    cases vb
    obtain ⟨items, hp, hr⟩ := X.lists _ _ _ e hl
    obtain ⟨r, er, hvr⟩ := hr.get hv
    exact wpAny_getItem_list hp.isList h0 hk (by simpa using er) (hQ _ _ _ Ext.refl X hvr)
theorem item_list_neg2 {i : Nat} {l : List V} {k : Int} {v : V} (hl : H[i]? = some l) (h0 : k < 0) (hk : -(l.length : Int) ≤ k) (hn : l.length < 2 ^ 62) (hv : l[(k + l.length).toNat]? = some v) : Act2 G getItem (.ref i) (.int k) H v H := by
  intro A α s ra rb _ X va vb
  refine ⟨fun Q E hQ => ?_⟩
  cases va with
  | ref e =>
    cases vb
    obtain ⟨items, hp, hr⟩ := X.lists _ _ _ e hl
    obtain ⟨r, er, hvr⟩ := hr.get hv
    have hle := hr.length
    refine wpAny_getItem_list_neg (x := r) hp.isList h0 ?_ ?_ ?_ (hQ _ _ _ Ext.refl X hvr)
    all_goals first | (first | lia | omega) | (simp [hle]; (first | lia | omega)) | (simp [hle]; exact er) | (rw [List.size_toArray, hle]; simpa using er)
theorem item_tup2 {l : List V} {k : Int} {v : V} (h0 : 0 ≤ k) (hk : k < 2 ^ 62) (hv : l[k.toNat]? = some v) : Act2 G getItem (.tup l) (.int k) H v H := by
  intro A α s ra rb _ X va vb
  refine ⟨fun Q E hQ => ?_⟩
  cases va with
  | tup e hr =>
    cases vb
    obtain ⟨n, e⟩ := e
    obtain ⟨r, er, hvr⟩ := hr.get hv
    refine P.getItem_tuple (k := k.toNat) (y := r) e (by (first | lia | omega)) (by (first | lia | omega)) ?_ (by simpa using er) (hQ _ _ _ Ext.refl X hvr)
    have hlt := (List.getElem?_eq_some_iff.mp er).1
    exact seqIndex_of h0 (by rw [List.size_toArray]; (first | lia | omega))
/-- a sign of a text -/
theorem item_str2 {x : Str} {k : Int} {j : Nat} {c : Nat} (hk : -(2 ^ 62) ≤ k ∧ k < 2 ^ 62) (hj : seqIndex? k x.length = some j) (hc : x.cps[j]? = some c) : Act2 G getItem (.str x) (.int k) H (.str ⟨#[c]⟩) H := by
  intro A α s ra rb _ X va vb
  refine ⟨fun Q E hQ => ?_⟩
  cases va; cases vb
  refine P.getItem_str (c := c) ?_ (by rw [hj]; exact hc) (hQ _ _ _ Ext.tok X.tk (.str _ _))
  simp only [Bool.or_eq_false_iff, decide_eq_false_iff_not]; (first | lia | omega)

/-! slices -/
noncomputable def partOk (v : V) : Option (Option Int) := match v with
  | .none => some none
  | .int i => some (some i)
  | _ => none
noncomputable def BP (G : GL) (d : Nat) (sc : List (Str × NameKind)) (e : Option Expr) (loc : Loc) (H : Lists) (v : V) (H' : Lists) : Prop := match e with
  | none => v = .none ∧ H' = H
  | some e => BE G d sc e loc H v H'
theorem partOk_is {α : List Addr} {h : Heap} {v : V} {p : Option Int} (hp : partOk v = some p) {r : Value} (hv : VR G α h v r) : IsPart r p := by
  cases hv <;> simp only [partOk] at hp <;> cases hp
  · exact .none
  · exact .int _ _
theorem BE.slice {lower upper : Option Expr} {p : Pos} {a b : V} {lo hi : Option Int} (h1 : BP G d sc lower loc H a H') (h2 : BP G d sc upper loc H' b H'') (ha : partOk a = some lo := by rfl) (hb : partOk b = some hi := by rfl) :
    BE G d sc (.Slice lower upper Option.none p) loc H (.sl lo hi) H'' := by
  intro A env α s R S X L
  refine ⟨fun Q E hQ => ?_⟩
  refine wpAny_Slice ?_
  have fin : ∀ (ra rb : Value) (s2 : Shared) (α2 : List Addr), Ext [] α α2 s s2 → HRel G α2 H'' s2 → IsPart ra lo → IsPart rb hi →
      Q (.ref s2.heap.objs.size) { s2 with heap := s2.heap.push { cls := .type "slice", data := .fields #[ra, rb, .none] } } := fun ra rb s2 α2 x2 X2 pa pb => by
    have x3 : Ext [] α2 α2 s2 { s2 with heap := s2.heap.push { cls := .type "slice", data := .fields #[ra, rb, .none] } } := Ext.keeps fun b o e => Heap.get?_push_of_some _ e
    refine hQ _ _ α2 (x2.trans x3) (X2.keeps fun b o e => Heap.get?_push_of_some _ e) (.sl ⟨ra, rb, _, Heap.get?_push_size _ rfl, rfl, rfl, pa, pb⟩)
  have second : ∀ (ra : Value) (s1 : Shared) (α1 : List Addr), Ext [] α α1 s s1 → HRel G α1 H' s1 → IsPart ra lo →
      wpAny (model G.prog G.w) A (evalPart upper env) (fun u s₂ => wpAny (model G.prog G.w) A (evalPart Option.none env) (fun st s₃ => Q (.ref s₃.heap.objs.size) { s₃ with heap := s₃.heap.push { cls := .type "slice", data := .fields #[ra, u, st] } }) E s₂) E s1 := fun ra s1 α1 x1 X1 pa => by
    cases upper with
    | none =>
      obtain ⟨rfl, rfl⟩ := h2
      cases hb
      exact wpAny_pure (wpAny_pure (fin _ _ _ _ x1 X1 pa .none))
    | some e =>
      refine (h2 A env α1 s1 R S X1 (L.ext X x1)).out _ _ fun rb s2 α2 x2 X2 v2 => ?_
      exact wpAny_pure (fin _ _ _ _ (x1.trans x2) X2 pa (partOk_is hb v2))
  cases lower with
  | none =>
    obtain ⟨rfl, rfl⟩ := h1
    cases ha
    exact wpAny_pure (second _ _ _ Ext.refl X .none)
  | some e => exact (h1 A env α s R S X L).out _ _ fun ra s1 α1 x1 X1 v1 => second _ _ _ x1 X1 (partOk_is ha v1)
end
end Mine
end
section
open PySem PySem.Calls PyProof.Rows
set_option Elab.async false
set_option maxRecDepth 100000
namespace Mine
section
variable {G : GL} {d : Nat} {sc : List (Str × NameKind)} {loc loc' loc'' : Loc} {H H' H'' H''' : Lists}

/-! cuts -/
noncomputable def cutL {τ : Type} (l : List τ) (lo hi : Option Int) : List τ := (l.drop (lo.elim 0 (clipAt l.length))).take (hi.elim l.length (clipAt l.length) - lo.elim 0 (clipAt l.length))
noncomputable def cutS (x : Str) (lo hi : Option Int) : Str := ⟨(cutL x.cps.toList lo hi).toArray⟩
theorem VRs.cut {α : List Addr} {h : Heap} {l : List V} {rs : List Value} (x : VRs G α h l rs) (lo hi : Option Int) : VRs G α h (cutL l lo hi) (cutL rs lo hi) := by
  unfold cutL
  rw [x.length]
  exact (x.drop _).take _

theorem slice_list2 {i : Nat} {l : List V} {lo hi : Option Int} (hl : H[i]? = some l) (hn : l.length ≤ 1000000) : Act2 G getItem (.ref i) (.sl lo hi) H (.ref H.length) (H ++ [cutL l lo hi]) := by
  intro A α s ra rb _ X va vb
  refine ⟨fun Q E hQ => ?_⟩
  cases va with
  | ref e =>
    cases vb with
    | sl es =>
      obtain ⟨vl, vu, o, e1, e2, e3, pl, pu⟩ := es
      obtain ⟨items, hp, hr⟩ := X.lists _ _ _ e hl
      have hlen := hr.length
      refine wpAny_getItem_list_slice hp.isList ⟨o, e1, e2, e3⟩ pl pu .none (by simp) ?_ (by rw [List.size_toArray, sizeLine_eq]; (first | lia | omega))
      rw [slicePick_plain]
      have hfresh : s.heap.get? s.heap.objs.size = none := by
        cases q : s.heap.get? s.heap.objs.size with
        | none => rfl
        | some o => exact absurd (Heap.lt_size q) (Nat.lt_irrefl _)
      have hv := hr.cut (G := G) lo hi
      obtain ⟨X', x', v'⟩ := X.newList (h := s.heap.push { cls := .type "list", data := .seq (cutL items lo hi).toArray }) hfresh (fun b o e => Heap.get?_push_of_some _ e) ⟨0, Heap.get?_push_size _ rfl⟩ hv
      have : (cutL items lo hi).toArray = (List.take (hi.elim items.toArray.size (clipAt items.toArray.size) - lo.elim 0 (clipAt items.toArray.size)) (List.drop (lo.elim 0 (clipAt items.toArray.size)) items.toArray.toList)).toArray := by
        unfold cutL; simp
      rw [this] at X' x' v'
      exact hQ _ _ _ x' X' v'

theorem cutS_len (x : Str) (lo hi : Option Int) : (cutS x lo hi).length ≤ x.length := by
  unfold cutS cutL Str.length
  simp only [List.size_toArray, List.length_take, List.length_drop, Array.length_toList]
  (first | lia | omega)
theorem strIdx_eq (lo hi : Option Int) (n : Nat) : Builtin.Str.strSliceIndices lo hi 1 n = sliceRange (sliceBounds lo hi none n).1 (sliceBounds lo hi none n).2.1 (sliceBounds lo hi none n).2.2 := by
  unfold Builtin.Str.strSliceIndices sliceBounds
  cases lo <;> cases hi <;> rfl
theorem str_cut (x : Str) (lo hi : Option Int) : (Builtin.Str.strSliceIndices lo hi 1 x.length).filterMap (x.cps[·]?) = cutL x.cps.toList lo hi := by
  rw [strIdx_eq, sliceBounds_plain]
  simp only [sliceRange_one, pick_run]
  unfold cutL Str.length
  simp
theorem str_whole {x : Str} {lo hi : Option Int} (h : (Builtin.Str.strSliceIndices lo hi 1 x.length).length = x.length) : x = cutS x lo hi := by
  rw [strIdx_eq, sliceBounds_plain, sliceRange_one, List.length_map, List.length_range] at h
  obtain ⟨a⟩ := x
  unfold cutS cutL
  simp only [Str.length, Array.length_toList] at h ⊢
  have h1 : ∀ i, clipAt a.size i ≤ a.size := fun i => by have := clipAt_cast a.size i; (first | lia | omega)
  have h2 : hi.elim a.size (clipAt a.size) ≤ a.size := by cases hi with | none => exact Nat.le_refl _ | some i => exact h1 i
  have h3 : lo.elim 0 (clipAt a.size) = 0 ∨ a.size = 0 := by (first | lia | omega)
  rcases h3 with h3 | h3
  · rw [h3] at h ⊢
    rw [List.drop_zero, List.take_of_length_le (by simp; (first | lia | omega))]
  · have : a = #[] := Array.eq_empty_of_size_eq_zero h3
    subst this
    simp
theorem slice_str2 {x : Str} {lo hi : Option Int} (hn : x.length ≤ 1000000) : Act2 G getItem (.str x) (.sl lo hi) H (.str (cutS x lo hi)) H := by
  intro A α s ra rb _ X va vb
  refine ⟨fun Q E hQ => ?_⟩
  cases va
  rename_i t
  cases vb with
  | @sl _ _ sa es =>
    obtain ⟨vl, vu, o, e1, e2, e3, pl, pu⟩ := es
    have key : ∀ (l u : Option (Int × Tok)), vl = partValue l → vu = partValue u → l.map (·.1) = lo → u.map (·.1) = hi → wpAny (model G.prog G.w) A (getItem (.str x t) (.ref sa)) Q E s := by
      intro l u hl hu el eu
      subst hl hu
      refine wpAny_getItem_str_slice (l := l) (u := u) (st := none) ⟨o, e1, e2, e3⟩ rfl ?_
      unfold sliceMade slicePicked
      simp only [Option.map_none, Option.getD_none, el, eu]
      have hx : x.length ≤ sizeLine := by rw [sizeLine_eq]; (first | lia | omega)
      split
      · rename_i hc
        have hc' : (Builtin.Str.strSliceIndices lo hi 1 x.length).length = x.length := by simpa using hc
        refine hQ _ _ _ Ext.refl X ?_
        rw [← str_whole hc']
        exact .str _ _
      · rw [str_cut]
        exact ⟨Nat.le_trans (cutS_len x lo hi) hx, hQ _ _ _ Ext.tok X.tk (.str _ _)⟩
    cases pl with
    | none =>
      cases pu with
      | none => exact key none none rfl rfl rfl rfl
      | int j u => exact key none (some (j, u)) rfl rfl rfl rfl
    | int i u =>
      cases pu with
      | none => exact key (some (i, u)) none rfl rfl rfl rfl
      | int j u' => exact key (some (i, u)) (some (j, u')) rfl rfl rfl rfl

/-! displays -/
theorem BA.nil : BA G d sc [] loc H [] H := by
  intro A env α s pos R S X L
  refine ⟨fun Q E hQ => ?_⟩
  exact wpAny_items_nil (hQ _ _ _ Ext.refl X .nil)
theorem BA.cons {e : Expr} {es : List Expr} {v : V} {vs : List V} (h1 : BE G d sc e loc H v H') (h2 : BA G d sc es loc H' vs H'')
    (he : ∀ env, starEach (e :: es) env = (false, eval e env) :: starEach es env := by intro _; rfl) : BA G d sc (e :: es) loc H (v :: vs) H'' := by
  intro A env α s pos R S X L
  refine ⟨fun Q E hQ => ?_⟩
  refine wpAny_items_cons ((h1 A env α s R S X L).out _ _ fun r s1 α1 x1 X1 v1 => ?_) (he env)
  refine (h2 A env α1 s1 pos R S X1 (L.ext X x1)).out _ _ fun rs s2 α2 x2 X2 v2 => ?_
  exact hQ _ _ _ (x1.trans x2) X2 (.cons (v1.mono x2.pre (x2.tups0 X1)) v2)

theorem fresh_size (h : Heap) : h.get? h.objs.size = none := by
  cases q : h.get? h.objs.size with
  | none => rfl
  | some o => exact absurd (Heap.lt_size q) (Nat.lt_irrefl _)
theorem push_keep {h : Heap} (o : Obj) : ∀ b o', h.get? b = some o' → (h.push o).get? b = some o' := fun _ _ e => Heap.get?_push_of_some _ e
theorem HRel.pushList {α : List Addr} {s : Shared} (X : HRel G α H s) {l : List V} {items : List Value} (hv : VRs G α s.heap l items) :
    HRel G (α ++ [s.heap.objs.size]) (H ++ [l]) { s with heap := s.heap.push { cls := .type "list", data := .seq items.toArray } } ∧ Ext [] α (α ++ [s.heap.objs.size]) s { s with heap := s.heap.push { cls := .type "list", data := .seq items.toArray } } ∧
      VR G (α ++ [s.heap.objs.size]) (s.heap.push { cls := .type "list", data := .seq items.toArray }) (.ref H.length) (.ref s.heap.objs.size) :=
  X.newList (fresh_size _) (push_keep _) ⟨0, Heap.get?_push_size _ rfl⟩ hv

theorem BE.list {es : List Expr} {p : Pos} {vs : List V} (h : BA G d sc es loc H vs H') (hn : vs.length ≤ 1000000 := by decide) : BE G d sc (.List es p) loc H (.ref H'.length) (H' ++ [vs]) := by
  intro A env α s R S X L
  refine ⟨fun Q E hQ => ?_⟩
  refine wpAny_List ((h A env α s p R S X L).out _ _ fun rs s1 α1 x1 X1 v1 => ⟨by rw [v1.length, sizeLine_eq]; (first | lia | omega), ?_⟩)
  obtain ⟨X', x', v'⟩ := X1.pushList v1
  exact hQ _ _ _ (x1.trans x') X' v'
theorem BE.tuple {es : List Expr} {k : Nat} {p : Pos} {vs : List V} (h : BA G d sc es loc H vs H') (hn : vs.length ≤ 1000000 := by decide) : BE G d sc (.Tuple es k p) loc H (.tup vs) H' := by
  intro A env α s R S X L
  refine ⟨fun Q E hQ => ?_⟩
  refine wpAny_Tuple ((h A env α s p R S X L).out _ _ fun rs s1 α1 x1 X1 v1 => ⟨by rw [v1.length, sizeLine_eq]; (first | lia | omega), ?_⟩)
  have x2 : Ext [] α1 α1 s1 { s1 with heap := s1.heap.push { cls := .type "tuple", data := .seq rs.toArray } } := Ext.keeps (push_keep _)
  exact hQ _ _ _ (x1.trans x2) (X1.keeps (push_keep _)) (.tup ⟨0, Heap.get?_push_size _ rfl⟩ (v1.mono (List.prefix_refl _) (x2.tups0 X1)))
end
end Mine
end
section
open PySem PySem.Calls PyProof.Rows
set_option Elab.async false
set_option maxRecDepth 100000
namespace Mine
section
variable {G : GL} {d : Nat} {sc : List (Str × NameKind)} {loc loc' loc'' : Loc} {H H' H'' H''' : Lists}

theorem len_zero {x : Str} (h : (x.length == 0) = true) : x = Str.mk #[] := by
  obtain ⟨a⟩ := x
  have : a.size = 0 := by simpa [Str.length] using h
  rw [Array.eq_empty_of_size_eq_zero this]
theorem add_str2 {a b : Str} (h : a.length + b.length ≤ 1000000) : Act2 G (binaryOp .Add) (.str a) (.str b) H (.str (a ++ b)) H := by
  intro A α s ra rb _ X va vb
  refine ⟨fun Q E hQ => ?_⟩
  cases va; cases vb
  refine P.add_str ?_
  have e : ∀ u v : Str, u ++ v = ⟨u.cps ++ v.cps⟩ := fun _ _ => rfl
  split
  · rename_i h1
    rw [len_zero h1] at hQ
    have : (Str.mk #[]) ++ b = b := by rw [e]; obtain ⟨b⟩ := b; simp
    rw [this] at hQ
    exact hQ _ _ _ Ext.refl X (.str _ _)
  · split
    · rename_i h1
      rw [len_zero h1] at hQ
      have : a ++ (Str.mk #[]) = a := by rw [e]; obtain ⟨a⟩ := a; simp
      rw [this] at hQ
      exact hQ _ _ _ Ext.refl X (.str _ _)
    · refine ⟨?_, hQ _ _ _ Ext.tok X.tk (.str _ _)⟩
      rw [sizeLine_eq, Str.length_append]; (first | lia | omega)
theorem add_list2 {i j : Nat} {l l' : List V} (hi : H[i]? = some l) (hj : H[j]? = some l') (hn : l.length + l'.length ≤ 1000000) : Act2 G (binaryOp .Add) (.ref i) (.ref j) H (.ref H.length) (H ++ [l ++ l']) := by
  intro A α s ra rb _ X va vb
  refine ⟨fun Q E hQ => ?_⟩
  cases va with
  | ref ea =>
    cases vb with
    | ref eb =>
      obtain ⟨items, ⟨n, e⟩, hr⟩ := X.lists _ _ _ ea hi
      obtain ⟨items', ⟨n', e'⟩, hr'⟩ := X.lists _ _ _ eb hj
      have h1 := hr.length
      have h2 := hr'.length
      refine P.add_list e e' ?_ (by rw [List.size_toArray, List.size_toArray, sizeLine_eq]; (first | lia | omega))
      obtain ⟨X', x', v'⟩ := X.pushList (hr.append hr')
      rw [← List.append_toArray] at X' x' v'
      exact hQ _ _ _ x' X' v'

theorem foldl_rep {τ : Type} (l : List τ) : ∀ (n : Nat) (acc : Array τ), (List.foldl (fun x1 x2 => x1 ++ x2) acc (List.replicate n l.toArray)).toList = acc.toList ++ (List.replicate n l).flatten
  | 0, acc => by simp
  | n + 1, acc => by
    rw [List.replicate_succ, List.foldl_cons, foldl_rep l n, List.replicate_succ, List.flatten_cons]
    simp
theorem VRs.rep {α : List Addr} {h : Heap} {v : V} {r : Value} (x : VR G α h v r) : ∀ n, VRs G α h (List.replicate n v) (List.replicate n r)
  | 0 => .nil
  | n + 1 => .cons x (VRs.rep x n)
theorem mul_list_raw {prog : Program} {w : World} {A : Around} {E : Value → Shared → Prop} {s : Shared} {l : Addr} {items : Array Value} {k : Nat} {x : Int} {u : Tok} {Q : Value → Shared → Prop}
    (hl : s.heap.get? l = some { cls := .type "list", dict := none, data := .seq items k, slots := #[] })
    (hlo : -(2 ^ 63 : Int) ≤ x) (hhi : x < 2 ^ 63) (hsz : items.size * x.toNat ≤ 2 ^ 24)
    (h : Q (.ref s.heap.objs.size) { s with heap := s.heap.push { cls := .type "list", data := .seq (List.foldl (fun x1 x2 => x1 ++ x2) #[] (List.replicate (if items.isEmpty = true then 0 else x.toNat) items)) } }) :
    wpAny (model prog w) A (binaryOp .Mult (.ref l) (.int x u)) Q E s :=
  wpAny_binaryOp_repeat_ref (T := "list") (U := "int") (by decide) ⟨_, hl, rfl⟩ (fun s' => typeIs_int s' x u) noFill_list_mul F.fills_int_mul F.slot_int_rmul repeat_list F.slot_int_index.lookup
    (call_meets F.slot_int_rmul (typeIs_int s x u) F.entry_int_rmul (F.args_int_rmul_2 _ _) (int___rmul___int_list x u l items k)
      ⟨hl, rfl, ⟨_, hl, rfl⟩, call_meets F.slot_list_mul ⟨_, hl, rfl⟩ F.entry_list_mul (F.args_list_mul_2 _ _)
        (AutoListH.list___mul___list_int_3 l items k x u (by simp [Builtin.List.listFitsIndex]; (first | lia | omega)) (by (first | lia | omega)) (by simp [Builtin.List.listTooLong, sizeLine]; (first | lia | omega)))
        ⟨hl, h⟩⟩)
/-- [x] * n -/
theorem mul_list2 {i : Nat} {v : V} {n : Nat} (hi : H[i]? = some [v]) (hn : n ≤ 1000000) : Act2 G (binaryOp .Mult) (.ref i) (.int n) H (.ref H.length) (H ++ [List.replicate n v]) := by
  intro A α s ra rb _ X va vb
  refine ⟨fun Q E hQ => ?_⟩
  cases va with
  | ref ea =>
    cases vb
    rename_i u
    obtain ⟨items, ⟨k, hl⟩, hr⟩ := X.lists _ _ _ ea hi
    cases hr with
    | cons hv hnil =>
      cases hnil
      rename_i r
      refine mul_list_raw hl (by (first | lia | omega)) (by (first | lia | omega)) (by simp; (first | lia | omega)) ?_
      have e : (List.foldl (fun x1 x2 => x1 ++ x2) #[] (List.replicate (if ([r].toArray : Array Value).isEmpty = true then 0 else (n : Int).toNat) [r].toArray)) = (List.replicate n r).toArray := by
        apply Array.ext'
        have := foldl_rep [r] n #[]
        simpa using this
      obtain ⟨X', x', v'⟩ := X.pushList (VRs.rep hv n)
      rw [e]
      exact hQ _ _ _ x' X' v'

/-! names set -/
noncomputable def setL : Loc → Str → V → Loc
  | [], x, v => [(x, v)]
  | (y, u) :: r, x, v => if y = x then (y, v) :: r else (y, u) :: setL r x v
theorem setL_lookup (x : Str) (v : V) (y : Str) : ∀ loc : Loc, (setL loc x v).lookup y = if y = x then some v else loc.lookup y
  | [] => by
    unfold setL
    rw [List.lookup_cons]
    by_cases h : y = x
    · subst h; simp
    · rw [if_neg h, beq_eq_false_iff_ne.mpr h]
  | (z, u) :: r => by
    unfold setL
    by_cases hz : z = x
    · subst hz
      rw [if_pos rfl, List.lookup_cons, List.lookup_cons]
      by_cases h : y = z
      · subst h; simp
      · rw [if_neg h, beq_eq_false_iff_ne.mpr h]
    · rw [if_neg hz, List.lookup_cons, List.lookup_cons, setL_lookup x v y r]
      by_cases h : y = z
      · subst h; rw [beq_self_eq_true]; simp [hz]
      · rw [beq_eq_false_iff_ne.mpr h]

theorem HRel.but {α : List Addr} {s : Shared} {a : Addr} {h : Heap} (X : HRel G α H s) (hs : Heap.SameBut a s.heap h) (ha : a ∉ α) (h0 : G.h₀.get? a = none) (hz : ∀ o, s.heap.get? a = some o → frozen o = false) : HRel G α H { s with heap := h } := by
  have hx := hs.extBut
  refine ⟨X.pos, fun b o e => hx b o (fun q => by subst q; rw [h0] at e; cases e) (X.keep b o e), X.len, X.nd, X.own, fun i b l hb hl => ?_⟩
  obtain ⟨items, ⟨n, e⟩, hv⟩ := X.lists i b l hb hl
  have hm := List.mem_of_getElem? hb
  exact ⟨items, ⟨n, hx b _ (fun q => ha (q ▸ hm)) e⟩, hv.mono (List.prefix_refl _) fun b o e f => hx b o (fun q => by subst q; rw [hz o e] at f; cases f) e⟩

theorem tupKeep_but {a : Addr} {h h' : Heap} (hs : Heap.SameBut a h h') (hz : ∀ o, h.get? a = some o → frozen o = false) : TupKeep h h' := fun b o e f => hs.extBut b o (fun q => by subst q; rw [hz o e] at f; cases f) e

/-- a frame's names behind a store -/
theorem store_name {env : Env} {α : List Addr} {s : Shared} {x : Str} {v : V} {r : Value} {M : Model} {A : Around} {Q : Unit → Shared → Prop} {E : Value → Shared → Prop} (X : HRel G α H s) (L : LRel G env α loc s.heap) (hv : VR G α s.heap v r)
    (hk : env.kindOf x = some .local ∨ (env.kindOf x = some .cell ∧ ∃ c, env.cells.lookup x = some c))
    (hQ : ∀ s' a, ((env.kindOf x = some .local ∧ a = env.locals) ∨ (env.kindOf x = some .cell ∧ env.cells.lookup x = some a)) → Ext [a] α α s s' → HRel G α H s' → LRel G env α (setL loc x v) s'.heap → VR G α s'.heap v r → Q () s') : wpAny M A (storeName env x r) Q E s := by
  obtain ⟨m, hn, hm⟩ := L.ns
  have nf := L.notFrozen
  have ni := L.notIn X
  rcases hk with hk | ⟨hk, c, hc⟩
  · refine wpAny_storeName_local hk hn (fun h' hn' hs' => ?_) (by rw [L.kind]; rfl)
    have hloc : env.locals ∈ fpOf env := mem_fpOf.mpr (.inl rfl)
    have X' : HRel G α H { s with heap := h' } := X.but hs' (ni _ hloc) L.fresh (nf _ hloc)
    have tk : TupKeep s.heap h' := tupKeep_but hs' (nf _ hloc)
    have hx := hs'.extBut
    have hcell : ∀ y c w, env.cells.lookup y = some c → s.heap.IsCell c w → h'.IsCell c w := fun y c w hc hcw => hcw.sameBut hs' (fun q => by subst q; exact ns_not_cell hn hcw)
    refine hQ _ env.locals (.inl ⟨hk, rfl⟩) ⟨⟨_, _, rfl⟩, List.prefix_refl _, fun a h1 h2 => absurd h1 h2, fun b o e _ hf => hx b o (fun q => hf (q ▸ List.mem_singleton.mpr rfl)) e, fun b o e => ?_⟩ X'.tk ?_ (hv.mono (List.prefix_refl _) tk)
    · by_cases q : b = env.locals
      · subst q; obtain ⟨o', _, _, e', _⟩ := hn'; exact ⟨o', e'⟩
      · exact ⟨o, hx b o q e⟩
    · refine ⟨L.kind, L.glob, L.bins, ⟨_, hn', fun y u hy hky => ?_⟩, fun y u hy => ?_, fun y u hy hky => ?_, fun y c hp => ?_, L.apart, L.fresh⟩
      · rw [setL_lookup] at hy
        by_cases q : y = x
        · rw [if_pos q] at hy; cases hy
          exact ⟨r, if_pos q, hv.mono (List.prefix_refl _) tk⟩
        · rw [if_neg q] at hy
          obtain ⟨r', e', h'⟩ := hm y u hy hky
          exact ⟨r', (if_neg q).trans e', h'.mono (List.prefix_refl _) tk⟩
      · rw [setL_lookup] at hy
        by_cases q : y = x
        · subst q; exact .inl hk
        · rw [if_neg q] at hy; exact L.var y u hy
      · rw [setL_lookup] at hy
        by_cases q : y = x
        · subst q; exact absurd hk hky
        · rw [if_neg q] at hy
          obtain ⟨c, r', hc, hcw, hr⟩ := L.cell y u hy hky
          exact ⟨c, r', hc, hcell y c _ hc hcw, hr.mono (List.prefix_refl _) tk⟩
      · obtain ⟨⟨w, hw⟩, h0⟩ := L.cells y c hp
        exact ⟨⟨w, hcell y c w hp hw⟩, h0⟩
  · have hfp : c ∈ fpOf env := mem_fpOf.mpr (.inr ⟨x, hc⟩)
    obtain ⟨⟨w, hw⟩, h0⟩ := L.cells _ _ hc
    refine wpAny_storeName_cell L.kind hk hc hw fun h' hc' hs' => ?_
    have X' : HRel G α H { s with heap := h' } := X.but hs' (ni _ hfp) h0 (nf _ hfp)
    have tk : TupKeep s.heap h' := tupKeep_but hs' (nf _ hfp)
    have hx := hs'.extBut
    have hne : env.locals ≠ c := fun q => by rw [q] at hn; exact ns_not_cell hn hw
    refine hQ _ c (.inr ⟨hk, hc⟩) ⟨⟨_, _, rfl⟩, List.prefix_refl _, fun a h1 h2 => absurd h1 h2, fun b o e _ hf => hx b o (fun q => hf (q ▸ List.mem_singleton.mpr rfl)) e, fun b o e => ?_⟩ X' ?_ (hv.mono (List.prefix_refl _) tk)
    · by_cases q : b = c
      · subst q; obtain ⟨o', e', _⟩ := hc'; exact ⟨o', e'⟩
      · exact ⟨o, hx b o q e⟩
    · refine ⟨L.kind, L.glob, L.bins, ⟨m, hn.sameBut hs' hne, fun y u hy hky => ?_⟩, fun y u hy => ?_, fun y u hy hky => ?_, fun y c' hp => ?_, L.apart, L.fresh⟩
      · rw [setL_lookup] at hy
        by_cases q : y = x
        · subst q; rw [hk] at hky; cases hky
        · rw [if_neg q] at hy
          obtain ⟨r', e', h'⟩ := hm y u hy hky
          exact ⟨r', e', h'.mono (List.prefix_refl _) tk⟩
      · rw [setL_lookup] at hy
        by_cases q : y = x
        · subst q; exact .inr (.inl hk)
        · rw [if_neg q] at hy; exact L.var y u hy
      · rw [setL_lookup] at hy
        by_cases q : y = x
        · subst q; rw [if_pos rfl] at hy; cases hy
          exact ⟨c, r, hc, hc', hv.mono (List.prefix_refl _) tk⟩
        · rw [if_neg q] at hy
          obtain ⟨c', r', hc2, hcw, hr⟩ := L.cell y u hy hky
          have : c' ≠ c := fun e => q (L.apart _ _ _ hc2 (e ▸ hc))
          exact ⟨c', r', hc2, hcw.sameBut hs' this, hr.mono (List.prefix_refl _) tk⟩
      · obtain ⟨⟨w', hw'⟩, h0'⟩ := L.cells _ _ hp
        by_cases q : c' = c
        · exact ⟨⟨some r, q ▸ hc'⟩, h0'⟩
        · exact ⟨⟨w', hw'.sameBut hs' q⟩, h0'⟩
theorem store_fp {env : Env} {x : Str} {a : Addr} (h : (env.kindOf x = some .local ∧ a = env.locals) ∨ (env.kindOf x = some .cell ∧ env.cells.lookup x = some a)) : ∀ b ∈ [a], b ∈ fpOf env := fun b hb => by
  rw [List.mem_singleton.mp hb]
  exact mem_fpOf.mpr (h.imp (·.2) fun h => ⟨x, h.2⟩)
noncomputable def storable (sc : List (Str × NameKind)) (x : Str) : Prop := sc.lookup x = some .local ∨ sc.lookup x = some .cell
theorem Kinds.store {env : Env} (S : Kinds sc env) {x : Str} (h : storable sc x) : env.kindOf x = some .local ∨ (env.kindOf x = some .cell ∧ ∃ c, env.cells.lookup x = some c) :=
  h.imp (S.loc x) (S.cell x)

theorem BB.name {x : Str} {p : Pos} {v : V} (h : storable sc x) : BB G d sc (.Name x p) v loc H (setL loc x v) H := by
  intro A env α s r R S X L hv
  refine ⟨fun Q E hQ => ?_⟩
  exact wpAny_assign_Name (store_name X L hv (S.store h) fun s' a ha x' X' L' _ => hQ _ _ _ (x'.mono (store_fp ha)) X' L' trivial)

/-! statements -/
theorem BSs.nil : BSs G d sc [] loc H .next loc H := by
  intro A env α s R S X L
  refine ⟨fun Q E hQ => ?_⟩
  exact wpAny_execs_nil (hQ _ _ _ Ext.refl X L .next)
theorem BSs.cons {st : Stmt} {r : List Stmt} {f : Fl} (h1 : BS G d sc st loc H .next loc' H') (h2 : BSs G d sc r loc' H' f loc'' H'') : BSs G d sc (st :: r) loc H f loc'' H'' := by
  intro A env α s R S X L
  refine ⟨fun Q E hQ => ?_⟩
  refine wpAny_execs_cons ((h1 A env α s R S X L).out _ _ fun g s1 α1 x1 X1 L1 e => ?_)
  cases e
  exact (h2 A env α1 s1 R S X1 L1).out _ _ fun g s2 α2 x2 X2 L2 e => hQ _ _ _ (x1.trans x2) X2 L2 e
theorem BSs.ret {st : Stmt} {r : List Stmt} {v : V} (h1 : BS G d sc st loc H (.ret v) loc' H') : BSs G d sc (st :: r) loc H (.ret v) loc' H' := by
  intro A env α s R S X L
  refine ⟨fun Q E hQ => ?_⟩
  refine wpAny_execs_cons ((h1 A env α s R S X L).out _ _ fun g s1 α1 x1 X1 L1 e => ?_)
  cases e with
  | ret e => exact hQ _ _ _ x1 X1 L1 (.ret e)
theorem BS.ret {e : Expr} {p : Pos} {v : V} (h : BE G d sc e loc H v H') : BS G d sc (.Return (some e) p) loc H (.ret v) loc H' := by
  intro A env α s R S X L
  refine ⟨fun Q E hQ => ?_⟩
  exact wpAny_Return_some ((h A env α s R S X L).out _ _ fun r s1 α1 x1 X1 v1 => hQ _ _ _ (x1.mono (by simp)) X1 (L.ext X x1) (.ret v1))
theorem BS.assign {x : Str} {p p' : Pos} {value : Expr} {v : V} (h : BE G d sc value loc H v H') (hx : storable sc x)
    (hs : ∀ env, swapsWith value (some (.Name x p')) p.line env = pure false := by intro _; rfl) : BS G d sc (.Assign [.Name x p'] value p) loc H .next (setL loc x v) H' := by
  intro A env α s R S X L
  refine ⟨fun Q E hQ => ?_⟩
  refine wpAny_Assign_Name ((h A env α s R S X L).out _ _ fun r s1 α1 x1 X1 v1 => ?_) (hs env)
  exact store_name X1 (L.ext X x1) v1 (S.store hx) fun s2 a ha x2 X2 L2 _ => hQ _ _ _ ((x1.mono (by simp)).trans (x2.mono (store_fp ha))) X2 L2 .next
theorem BS.ifT {test : Expr} {body orelse : List Stmt} {p : Pos} {f : Fl} (h : BT G d sc test loc H true H') (h2 : BSs G d sc body loc H' f loc' H'') : BS G d sc (.If test body orelse p) loc H f loc' H'' := by
  intro A env α s R S X L
  refine ⟨fun Q E hQ => ?_⟩
  refine wpAny_If ((h A env α s R S X L).out _ _ fun b s1 α1 x1 X1 e => ?_)
  subst e
  exact (h2 A env α1 s1 R S X1 (L.ext X x1)).out _ _ fun g s2 α2 x2 X2 L2 e => hQ _ _ _ ((x1.mono (by simp)).trans x2) X2 L2 e
theorem BS.ifF {test : Expr} {body orelse : List Stmt} {p : Pos} {f : Fl} (h : BT G d sc test loc H false H') (h2 : BSs G d sc orelse loc H' f loc' H'') : BS G d sc (.If test body orelse p) loc H f loc' H'' := by
  intro A env α s R S X L
  refine ⟨fun Q E hQ => ?_⟩
  refine wpAny_If ((h A env α s R S X L).out _ _ fun b s1 α1 x1 X1 e => ?_)
  subst e
  exact (h2 A env α1 s1 R S X1 (L.ext X x1)).out _ _ fun g s2 α2 x2 X2 L2 e => hQ _ _ _ ((x1.mono (by simp)).trans x2) X2 L2 e
theorem BE.ifT {test body orelse : Expr} {p : Pos} {v : V} (h : BT G d sc test loc H true H') (h2 : BE G d sc body loc H' v H'') : BE G d sc (.IfExp test body orelse p) loc H v H'' := by
  intro A env α s R S X L
  refine ⟨fun Q E hQ => ?_⟩
  show wpAny _ A (do if ← isTrue test env (eval test env) then eval body env else eval orelse env) Q E s
  refine wpAny_bind ((h A env α s R S X L).out _ _ fun b s1 α1 x1 X1 e => ?_)
  subst e
  exact (h2 A env α1 s1 R S X1 (L.ext X x1)).out _ _ fun r s2 α2 x2 X2 v2 => hQ _ _ _ (x1.trans x2) X2 v2
theorem BE.ifF {test body orelse : Expr} {p : Pos} {v : V} (h : BT G d sc test loc H false H') (h2 : BE G d sc orelse loc H' v H'') : BE G d sc (.IfExp test body orelse p) loc H v H'' := by
  intro A env α s R S X L
  refine ⟨fun Q E hQ => ?_⟩
  show wpAny _ A (do if ← isTrue test env (eval test env) then eval body env else eval orelse env) Q E s
  refine wpAny_bind ((h A env α s R S X L).out _ _ fun b s1 α1 x1 X1 e => ?_)
  subst e
  exact (h2 A env α1 s1 R S X1 (L.ext X x1)).out _ _ fun r s2 α2 x2 X2 v2 => hQ _ _ _ (x1.trans x2) X2 v2
theorem BE.or_t {a : Expr} {r : List Expr} {p : Pos} {v : V} (h : BE G (d + 1) sc a loc H v H') (ht : Tru G v H' true) (hr : r ≠ []) : BE G (d + 1) sc (.BoolOp .Or (a :: r) p) loc H v H' := by
  intro A env α s R S X L
  refine ⟨fun Q E hQ => ?_⟩
  cases r with
  | nil => exact absurd rfl hr
  | cons b r =>
    show wpAny _ A (do let v ← eval a env; standAt p; let t ← holding [v] (truthy v); match BoolOp.Or, t with | .And, false | .Or, true => pure v | _, _ => boolOp p .Or (evalEach (b :: r) env)) Q E s
    refine wpAny_bind ((h A env α s R S X L).out _ _ fun r1 s1 α1 x1 X1 v1 => wpAny_bind (wpAny_standAt (wpAny_bind (wpAny_holding ((ht A α1 s1 r1 R.one X1 v1).out _ _ fun b s2 α2 x2 X2 e => ?_)))))
    subst e
    exact wpAny_pure (hQ _ _ _ (x1.trans x2) X2 (v1.mono x2.pre (x2.tups0 X1)))
theorem BE.or_f {a b : Expr} {p : Pos} {v v' : V} (h : BE G (d + 1) sc a loc H v H') (ht : Tru G v H' false) (h2 : BE G (d + 1) sc b loc H' v' H'') : BE G (d + 1) sc (.BoolOp .Or [a, b] p) loc H v' H'' := by
  intro A env α s R S X L
  refine ⟨fun Q E hQ => ?_⟩
  show wpAny _ A (do let v ← eval a env; standAt p; let t ← holding [v] (truthy v); match BoolOp.Or, t with | .And, false | .Or, true => pure v | _, _ => boolOp p .Or (evalEach [b] env)) Q E s
  refine wpAny_bind ((h A env α s R S X L).out _ _ fun r1 s1 α1 x1 X1 v1 => wpAny_bind (wpAny_standAt (wpAny_bind (wpAny_holding ((ht A α1 s1 r1 R.one X1 v1).out _ _ fun c s2 α2 x2 X2 e => ?_)))))
  subst e
  exact (h2 A env α2 s2 R S X2 ((L.ext X x1).ext X1 x2)).out _ _ fun r s3 α3 x3 X3 v3 => hQ _ _ _ ((x1.trans x2).trans x3) X3 v3
theorem BE.and_t {a b : Expr} {p : Pos} {v v' : V} (h : BE G (d + 1) sc a loc H v H') (ht : Tru G v H' true) (h2 : BE G (d + 1) sc b loc H' v' H'') : BE G (d + 1) sc (.BoolOp .And [a, b] p) loc H v' H'' := by
  intro A env α s R S X L
  refine ⟨fun Q E hQ => ?_⟩
  show wpAny _ A (do let v ← eval a env; standAt p; let t ← holding [v] (truthy v); match BoolOp.And, t with | .And, false | .Or, true => pure v | _, _ => boolOp p .And (evalEach [b] env)) Q E s
  refine wpAny_bind ((h A env α s R S X L).out _ _ fun r1 s1 α1 x1 X1 v1 => wpAny_bind (wpAny_standAt (wpAny_bind (wpAny_holding ((ht A α1 s1 r1 R.one X1 v1).out _ _ fun c s2 α2 x2 X2 e => ?_)))))
  subst e
  exact (h2 A env α2 s2 R S X2 ((L.ext X x1).ext X1 x2)).out _ _ fun r s3 α3 x3 X3 v3 => hQ _ _ _ ((x1.trans x2).trans x3) X3 v3
theorem neg_int2 {x : Expr} {p : Pos} {i : Int} (h : BE G d sc x loc H (.int i) H') : BE G d sc (.UnaryOp .USub x p) loc H (.int (-i)) H' := by
  intro A env α s R S X L
  refine ⟨fun Q E hQ => ?_⟩
  show wpAny _ A (do let v ← eval x env; standAt p; holding [v] (unaryOp .USub v)) Q E s
  refine wpAny_bind ((h A env α s R S X L).out _ _ fun r1 s1 α1 x1 X1 v1 => wpAny_bind (wpAny_standAt (wpAny_holding ?_)))
  cases v1
  exact P.neg_int (hQ _ _ _ (x1.trans Ext.tok) X1.tk (.int _ _))
end
end Mine
end
section
open PySem PySem.Calls PyProof.Rows
set_option Elab.async false
set_option maxRecDepth 100000
namespace Mine

/-! cells of a scope -/
theorem cellsFrom_keep {x : Str} {c : Addr} : ∀ (names : List (Str × NameKind)) (n : Nat) (acc : List (Str × Addr)), (x, c) ∈ acc → (x, c) ∈ cellsFrom n names acc
  | [], _, _, h => h
  | (y, k) :: r, n, acc, h => by
    unfold cellsFrom
    split
    · exact cellsFrom_keep r _ _ (List.mem_cons_of_mem _ h)
    · exact cellsFrom_keep r _ _ h
theorem cellsFrom_has {x : Str} : ∀ (names : List (Str × NameKind)) (n : Nat) (acc : List (Str × Addr)), (x, NameKind.cell) ∈ names → ∃ c, (x, c) ∈ cellsFrom n names acc
  | [], _, _, h => (nomatch h)
  | (y, k) :: r, n, acc, h => by
    unfold cellsFrom
    rcases List.mem_cons.mp h with h | h
    · cases h
      exact ⟨n, cellsFrom_keep r _ _ List.mem_cons_self⟩
    · split
      · exact cellsFrom_has r _ _ h
      · exact cellsFrom_has r _ _ h
theorem lookup_of_mem {τ : Type} {x : Str} {c : τ} : ∀ {l : List (Str × τ)}, (l.map (·.1)).Nodup → (x, c) ∈ l → l.lookup x = some c
  | (y, d) :: r, hn, h => by
    rw [List.lookup_cons]
    rw [List.map_cons, List.nodup_cons] at hn
    rcases List.mem_cons.mp h with h | h
    · cases h; simp
    · have : x ≠ y := fun e => hn.1 (e ▸ List.mem_map.mpr ⟨(x, c), h, rfl⟩)
      rw [beq_eq_false_iff_ne.mpr this]
      exact lookup_of_mem hn.2 h
theorem cellsFrom_nodup : ∀ (names : List (Str × NameKind)) (n : Nat) (acc : List (Str × Addr)), (names.map (·.1)).Nodup → (acc.map (·.1)).Nodup → (∀ x ∈ acc.map (·.1), x ∉ names.map (·.1)) → ((cellsFrom n names acc).map (·.1)).Nodup
  | [], _, _, _, h, _ => h
  | (y, k) :: r, n, acc, hn, ha, hd => by
    unfold cellsFrom
    rw [List.map_cons, List.nodup_cons] at hn
    split
    · refine cellsFrom_nodup r _ _ hn.2 ?_ ?_
      · rw [List.map_cons, List.nodup_cons]
        exact ⟨fun h => hd y h List.mem_cons_self, ha⟩
      · intro x hx
        rcases List.mem_cons.mp hx with hx | hx
        · have hx : x = y := hx
          subst hx; exact hn.1
        · exact fun h => hd x hx (List.mem_cons_of_mem _ h)
    · exact cellsFrom_nodup r _ _ hn.2 ha fun x hx h => hd x hx (List.mem_cons_of_mem _ h)
noncomputable def nodupB : List Str → Bool
  | [] => true
  | x :: r => !(r.any (· == x)) && nodupB r
theorem nodupB_is : ∀ {l : List Str}, nodupB l = true → l.Nodup
  | [], _ => List.nodup_nil
  | x :: r, h => by
    unfold nodupB at h
    rw [Bool.and_eq_true] at h
    rw [List.nodup_cons]
    refine ⟨fun hm => ?_, nodupB_is h.2⟩
    have : r.any (· == x) = true := List.any_eq_true.mpr ⟨x, hm, by simp⟩
    rw [this] at h
    exact absurd h.1 (by decide)

section
variable {G : GL} {d : Nat} {sc : List (Str × NameKind)} {loc loc' loc'' : Loc} {H H' H'' H''' : Lists}

/-! a def is called -/
noncomputable def locOf : List (Str × V) → Loc → Loc
  | [], loc => loc
  | (x, v) :: r, loc => locOf r (setL loc x v)
theorem locOf_rel {α : List Addr} {h : Heap} {kind : Str → Option NameKind} {vs : List V} {rs : List Value} (x : VRs G α h vs rs) : ∀ (ns : List Str) (loc : Loc) (m cm : Str → Option Value), (∀ x ∈ ns, kind x = some .local ∨ kind x = some .cell) →
    (∀ x v, loc.lookup x = some v → (kind x = some .local ∨ kind x = some .cell) ∧ (kind x = some .local → ∃ r, m x = some r ∧ VR G α h v r) ∧ (kind x ≠ some .local → ∃ r, cm x = some r ∧ VR G α h v r)) →
    ∀ x v, (locOf (ns.zip vs) loc).lookup x = some v → (kind x = some .local ∨ kind x = some .cell) ∧ (kind x = some .local → ∃ r, bindL kind (ns.zip rs) m x = some r ∧ VR G α h v r) ∧ (kind x ≠ some .local → ∃ r, bindC kind (ns.zip rs) cm x = some r ∧ VR G α h v r) := by
  refine x.ind (P := fun vs rs => ∀ (ns : List Str) (loc : Loc) (m cm : Str → Option Value), (∀ x ∈ ns, kind x = some .local ∨ kind x = some .cell) →
        (∀ x v, loc.lookup x = some v → (kind x = some .local ∨ kind x = some .cell) ∧ (kind x = some .local → ∃ r, m x = some r ∧ VR G α h v r) ∧ (kind x ≠ some .local → ∃ r, cm x = some r ∧ VR G α h v r)) →
        ∀ x v, (locOf (ns.zip vs) loc).lookup x = some v → (kind x = some .local ∨ kind x = some .cell) ∧ (kind x = some .local → ∃ r, bindL kind (ns.zip rs) m x = some r ∧ VR G α h v r) ∧ (kind x ≠ some .local → ∃ r, bindC kind (ns.zip rs) cm x = some r ∧ VR G α h v r)) ?_ ?_
  · intro ns loc m cm hk h0 x v hx
    rw [List.zip_nil_right] at hx
    simp only [List.zip_nil_right, bindL, bindC]
    exact h0 x v hx
  · intro u q l rs hv hl ih ns loc m cm hk h0 x v hx
    cases ns with
    | nil => exact h0 x v hx
    | cons y ns =>
      rw [List.zip_cons_cons] at hx
      unfold locOf at hx
      simp only [List.zip_cons_cons, bindL, bindC]
      refine ih ns _ _ _ (fun x hx => hk x (List.mem_cons_of_mem _ hx)) (fun z w hz => ?_) x v hx
      rw [setL_lookup] at hz
      by_cases e : z = y
      · subst e
        rw [if_pos rfl] at hz; cases hz
        refine ⟨hk z List.mem_cons_self, fun h => ?_, fun h => ?_⟩
        · exact ⟨q, by rw [if_pos h]; simp, hv⟩
        · exact ⟨q, by rw [if_neg h]; simp, hv⟩
      · rw [if_neg e] at hz
        obtain ⟨h1, h2, h3⟩ := h0 z w hz
        refine ⟨h1, fun h => ?_, fun h => ?_⟩
        · obtain ⟨r, e1, e2⟩ := h2 h
          refine ⟨r, ?_, e2⟩
          split
          · simpa [e] using e1
          · exact e1
        · obtain ⟨r, e1, e2⟩ := h3 h
          refine ⟨r, ?_, e2⟩
          split
          · exact e1
          · simpa [e] using e1

/-- a call of a value -/
noncomputable def BC (G : GL) (d : Nat) (rf : Value) (args : List V) (H : Lists) (v : V) (H' : Lists) : Prop :=
  ∀ (A : Around) (α : List Addr) (s : Shared) (rs : List Value), Room d A → HRel G α H s → VRs G α s.heap args rs →
    Does G (call rf rs) α H' (fun α' h r => VR G α' h v r) A s

theorem Ext.drop {fp α α' : List Addr} {s s' : Shared} (x : Ext fp α α' s s') (h : ∀ a ∈ fp, s.heap.get? a = none) : Ext [] α α' s s' :=
  ⟨x.same, x.pre, x.new, fun b o e h1 _ => x.keep b o e h1 (fun q => by rw [h b q] at e; cases e), x.alive⟩
theorem get_none_of_ge {h : Heap} {a : Addr} (hs : h.objs.size ≤ a) : h.get? a = none := by
  cases e : h.get? a with
  | none => rfl
  | some o => exact absurd (Nat.lt_of_lt_of_le (Heap.lt_size e) hs) (Nat.lt_irrefl _)
theorem size_le {G : GL} {α : List Addr} {s : Shared} (X : HRel G α H s) {a : Addr} (ha : s.heap.get? a = none) : G.h₀.get? a = none := by
  cases e : G.h₀.get? a with
  | none => rfl
  | some o => rw [X.keep a o e] at ha; cases ha
/-- what the runs of a body end in -/
inductive CallOut : Fl → V → Prop where
  | ret (v : V) : CallOut (.ret v) v
  | next : CallOut .next .none

theorem BC.def (K : GOk G) {dr : DefRec} (hd : dr ∈ G.defs) {args : List V} {v : V} {f : Fl} {names : List Str}
    (hbody : BSs G d dr.scope.names dr.body (locOf (names.zip args) []) H f loc' H') (hf : CallOut f v)
    (hbind : ∀ pm cd doc (rs : List Value), rs.length = args.length → bindArgs (docDef dr.name dr.params dr.body dr.scope pm cd doc) ⟨rs, []⟩ = pure (names.zip rs))
    (hk : ∀ x ∈ names, dr.scope.names.lookup x = some .local ∨ dr.scope.names.lookup x = some .cell)
    (hnd : nodupB (dr.scope.names.map (·.1)) = true) (hkind : dr.scope.kind = .function := by rfl)
    (hco : dr.scope.isCoroutine = false := by rfl) (hgen : dr.scope.isGenerator = false := by rfl) :
    ∀ a, G.mg dr.name = some (.ref a) → BC G (d + 1) (.ref a) args H v H' := by
  intro a hma A α s rs R X hv
  refine ⟨fun Q E hQ => ?_⟩
  obtain ⟨a', o, pm, cd, doc, e1, e2, e3, e4⟩ := K.fns dr hd
  rw [hma] at e1; cases e1
  have hnd' := nodupB_is hnd
  refine wpAny_call ?_
  have cellOk : ∀ x, dr.scope.names.lookup x = some .cell → ∃ c, (cellsFrom (s.heap.objs.size + 1) dr.scope.names []).lookup x = some c := fun x hx => by
    obtain ⟨c, hc⟩ := cellsFrom_has dr.scope.names (s.heap.objs.size + 1) [] (mem_of_lookup hx)
    exact ⟨c, lookup_of_mem (cellsFrom_nodup _ _ _ hnd' List.nodup_nil (fun x h => nomatch h)) hc⟩
  refine call_cells (body := dr.body) (binds := names.zip rs) (by have := R.depth; (first | lia | omega)) (X.keep a o e2) e3 (K.nolimit.keeps X.keep) (Heap.CodeRec.keeps e4 X.keep) rfl (hbind pm cd doc rs hv.length) rfl
    (fun x hx => ?_) (fun s₁ ht I => ?_) hco hgen hkind
  · have hx' := hk x.1 (List.of_mem_zip hx).1
    exact hx'.imp id fun h => ⟨h, by obtain ⟨c, hc⟩ := cellOk x.1 h; rw [show (docDef dr.name dr.params dr.body dr.scope pm cd doc).scope = dr.scope from rfl, hc]; rfl⟩
  · have ik := I.toInCall.keep
    have sm : ∃ h t, s₁ = { s with heap := h, toks := t } := I.toInCall.same
    have X1 : HRel G α H s₁ := ⟨Nat.le_trans X.pos ht, fun b o e => ik b o (X.keep b o e), X.len, X.nd, X.own, fun i b l e1 e2 => by
        obtain ⟨items, ⟨n, e⟩, hv⟩ := X.lists i b l e1 e2
        exact ⟨items, ⟨n, ik _ _ e⟩, hv.mono (List.prefix_refl _) fun b o e _ => ik b o e⟩⟩
    have x1 : Ext [] α α s s₁ := by
      obtain ⟨h, t, rfl⟩ := sm
      exact Ext.keeps ik
    have tk := x1.tups0 X
    have hv1 := hv.mono (List.prefix_refl α) tk
    have hfresh : ∀ c, s.heap.objs.size ≤ c → s.heap.get? c = none := fun c h => get_none_of_ge h
    have hcells : ∀ p ∈ (callEnvC (docDef dr.name dr.params dr.body dr.scope pm cd doc) s.heap.objs.size a).cells, s.heap.objs.size < p.2 := fun p hp => I.above p.1 p.2 hp
    have L1 : LRel G (callEnvC (docDef dr.name dr.params dr.body dr.scope pm cd doc) s.heap.objs.size a) α (locOf (names.zip args) []) s₁.heap := by
      have key := locOf_rel (kind := (callEnvC (docDef dr.name dr.params dr.body dr.scope pm cd doc) s.heap.objs.size a).kindOf) hv1 names [] (fun _ => none) (fun _ => none) hk (fun x v h => by cases h)
      refine ⟨hkind, rfl, rfl, ⟨_, I.toInCall.ns, fun x v h1 h2 => (key x v h1).2.1 h2⟩, fun x v h => (key x v h).1.imp id .inl, fun x v h1 h2 => ?_, fun y c hp => ?_, fun y y' c h1 h2 => name_of_addr I.apart (mem_of_lookup h1) (mem_of_lookup h2), ?_⟩
      · obtain ⟨h3, _, h4⟩ := key x v h1
        obtain ⟨r, e5, e6⟩ := h4 h2
        rcases h3 with h3 | h3
        · exact absurd h3 h2
        · obtain ⟨c, hc⟩ := cellOk x h3
          have := I.cell x c hc
          rw [e5] at this
          exact ⟨c, r, hc, this, e6⟩
      · exact ⟨⟨_, I.cell y c hp⟩, size_le X (hfresh _ (Nat.le_of_lt (hcells (y, c) (mem_of_lookup hp))))⟩
      · exact size_le X (hfresh _ (Nat.le_refl _))
    have R1 : Room d (A.deeper (callEnvC (docDef dr.name dr.params dr.body dr.scope pm cd doc) s.heap.objs.size a)) := by
      refine ⟨R.handled, ?_, ?_⟩
      · have := R.depth; show A.depth + 1 + d < _; (first | lia | omega)
      · have := R.units; show A.units + 3 + 128 * d < _; (first | lia | omega)
    have S1 : Kinds dr.scope.names (callEnvC (docDef dr.name dr.params dr.body dr.scope pm cd doc) s.heap.objs.size a) := ⟨fun x h => h, fun x h => h, fun x h => ⟨h, cellOk x h⟩, fun x h => .inl h⟩
    refine (hbody _ _ α s₁ R1 S1 X1 L1).out _ _ fun r s2 α2 x2 X2 L2 e => ?_
    have x3 : Ext [] α α2 s s2 := by
      refine ((x1.mono (fp' := fpOf (callEnvC (docDef dr.name dr.params dr.body dr.scope pm cd doc) s.heap.objs.size a)) (by simp)).trans x2).drop fun b hb => ?_
      rcases mem_fpOf.mp hb with hb | ⟨y, hb⟩
      · rw [hb]; exact hfresh _ (Nat.le_refl _)
      · exact hfresh _ (Nat.le_of_lt (hcells (y, b) (mem_of_lookup hb)))
    cases hf with
    | ret v => cases e with | ret e => exact hQ _ _ _ x3 X2 e
    | next => cases e; exact hQ _ _ _ x3 X2 .none
end
end Mine
end
section
open PySem PySem.Calls PyProof.Rows
set_option Elab.async false
set_option maxRecDepth 100000
namespace Mine
section
variable {G : GL} {d : Nat} {sc : List (Str × NameKind)} {loc loc' loc'' : Loc} {H H' H'' H''' : Lists}

noncomputable def ArgsOk (args : List Expr) (pos : Pos) : Prop := ∀ env, ∃ t ts, backTo pos (starEach args env) = (false, t) :: ts ∧ ts.any (·.1) = false

theorem BE.callF (K : GOk G) {x : Str} {p pos : Pos} {args : List Expr} {vs : List V} {v : V} {dr : DefRec} (hd : dr ∈ G.defs) (h0 : BE G d sc (.Name x p) loc H (.fn dr.name) H) (ha : BA G d sc args loc H vs H')
    (hc : ∀ a, G.mg dr.name = some (.ref a) → BC G d (.ref a) vs H' v H'') (hs : ArgsOk args pos := by intro _; exact ⟨_, _, rfl, rfl⟩) :
    BE G d sc (.Call (.Name x p) args [] pos) loc H v H'' := by
  intro A env α s R S X L
  refine ⟨fun Q E hQ => ?_⟩
  refine wpAny_Call_NameR ((h0 A env α s R S X L).out _ _ fun rf s1 α1 x1 X1 v1 => ?_)
  cases v1 with
  | fn e =>
    rename_i a
    obtain ⟨a', o, pm, cd, doc, e1, e2, e3, e4⟩ := K.fns dr hd
    rw [e] at e1; cases e1
    obtain ⟨t, ts, h1, h2⟩ := hs env
    have ha' := ha A env α1 s1 pos R S X1 (L.ext X x1)
    have ha' := ha'.out
    rw [h1] at ha' ⊢
    refine callWith_function (o := o) (fd := docDef dr.name dr.params dr.body dr.scope pm cd doc) (evalArgs_plain (ha' _ _ fun rs s2 α2 x2 X2 v2 => ⟨⟨X2.keep _ _ e2, e3⟩, ?_⟩))
    exact (hc a e A α2 s2 rs R X2 v2).out _ _ fun r s3 α3 x3 X3 v3 => hQ _ _ _ ((x1.trans x2).trans x3) X3 v3

theorem BE.callB (K : GOk G) {x : Str} {p pos : Pos} {args : List Expr} {vs : List V} {v : V} {id : String} (hk : sc.lookup x = some .globalImplicit) (hg : gval G x (.builtin id)) (ha : BA G d sc args loc H vs H')
    (hc : BC G d (.builtin id) vs H' v H'') (hd : (x == ("__debug__" : Str)) = false := by decide) (hs : ArgsOk args pos := by intro _; exact ⟨_, _, rfl, rfl⟩) :
    BE G d sc (.Call (.Name x p) args [] pos) loc H v H'' := by
  intro A env α s R S X L
  refine ⟨fun Q E hQ => ?_⟩
  have key : wpAny (model G.prog G.w) A (callWith pos (.builtin id) [] (backTo pos (starEach args env)) []) Q E s := by
    obtain ⟨t, ts, h1, h2⟩ := hs env
    have ha' := ha A env α s pos R S X L
    have ha' := ha'.out
    rw [h1] at ha' ⊢
    refine callWith_builtin (by rw [List.any_cons, h2]; rfl) (evalArgs_plain (ha' _ _ fun rs s2 α2 x2 X2 v2 => ?_))
    exact (hc A α2 s2 rs R X2 v2).out _ _ fun r s3 α3 x3 X3 v3 => hQ _ _ _ (x2.trans x3) X3 v3
  refine wpAny_Call_NameR (Name_function_global L.kind (S.glob x hk) ?_ hd)
  rcases hg with hg | ⟨hg, hb⟩
  · exact loadGlobal_global (L.glob ▸ K.ns.keeps X.keep) hg key
  · exact loadGlobal_builtin (L.glob ▸ K.ns.keeps X.keep) hg (L.bins ▸ K.nsb.keeps X.keep) hb key

theorem BE.callT (K : GOk G) {x : Str} {p pos : Pos} {args : List Expr} {vs : List V} {v : V} {T : String} (hk : sc.lookup x = some .globalImplicit) (hg : gval G x (.type T)) (ha : BA G d sc args loc H vs H')
    (hc : BC G d (.type T) vs H' v H'') (hd : (x == ("__debug__" : Str)) = false := by decide) (hs : ArgsOk args pos := by intro _; exact ⟨_, _, rfl, rfl⟩) :
    BE G d sc (.Call (.Name x p) args [] pos) loc H v H'' := by
  intro A env α s R S X L
  refine ⟨fun Q E hQ => ?_⟩
  have key : wpAny (model G.prog G.w) A (callWith pos (.type T) [] (backTo pos (starEach args env)) []) Q E s := by
    obtain ⟨t, ts, h1, h2⟩ := hs env
    have ha' := ha A env α s pos R S X L
    have ha' := ha'.out
    rw [h1] at ha' ⊢
    refine PySem.callWith_type (by rw [List.any_cons, h2]; rfl) (evalArgs_plain (ha' _ _ fun rs s2 α2 x2 X2 v2 => ?_))
    exact (hc A α2 s2 rs R X2 v2).out _ _ fun r s3 α3 x3 X3 v3 => hQ _ _ _ (x2.trans x3) X3 v3
  refine wpAny_Call_NameR (Name_function_global L.kind (S.glob x hk) ?_ hd)
  rcases hg with hg | ⟨hg, hb⟩
  · exact loadGlobal_global (L.glob ▸ K.ns.keeps X.keep) hg key
  · exact loadGlobal_builtin (L.glob ▸ K.ns.keeps X.keep) hg (L.bins ▸ K.nsb.keeps X.keep) hb key

/-! methods -/
noncomputable def Meth (T : String) (name : Str) (id : String) : Prop := PlainAttrs T ∧ Slot T name id ∧ typeOf (.builtin id) = pure (.type "method_descriptor")
theorem m_lower : Meth "str" "lower" "str.lower" := ⟨F.plainAttrs_str, F.slot_str_lower, F.type_str_lower⟩
theorem m_split : Meth "str" "split" "str.split" := ⟨F.plainAttrs_str, F.slot_str_split, F.type_str_split⟩
theorem m_join : Meth "str" "join" "str.join" := ⟨F.plainAttrs_str, F.slot_str_join, F.type_str_join⟩
theorem m_append : Meth "list" "append" "list.append" := ⟨F.plainAttrs_list, F.slot_list_append, F.type_list_append⟩
theorem vT_bare {α : List Addr} {s : Shared} (X : HRel G α H s) {v : V} {T : String} (hv : vT v = some T) {r : Value} (h : VR G α s.heap v r) : ∀ a, r = .ref a → ∃ ob, s.heap.get? a = some ob ∧ ob.dict = Option.none := fun a e => by
  cases h <;> simp only [vT] at hv <;> cases hv
  case str => cases e
  case tup e1 _ => cases e; obtain ⟨n, e1⟩ := e1; exact ⟨_, e1, rfl⟩
  case ref e1 => cases e; obtain ⟨items, n, e'⟩ := X.isList (List.mem_of_getElem? e1); exact ⟨_, e', rfl⟩

theorem BE.meth {o : Expr} {name : Str} {apos pos : Pos} {args : List Expr} {ov v : V} {vs : List V} {T id : String} (h0 : BE G d sc o loc H ov H') (hm : Meth T name id) (ha : BA G d sc args loc H' vs H'') (hc : BC G d (.builtin id) (ov :: vs) H'' v H''')
    (hT : vT ov = some T := by rfl) (hbase : ∀ env, attributeBase o name env (eval o env) = eval o env := by intro _; rfl)
    (hfew : ∀ env, ((backTo pos (starEach args env)).all (fun x => !x.1) && (backToKw pos (keywordEach [] env)).all (fun x => x.1.isSome)
      && decide (args.length + ([] : List Keyword).length + (if ([] : List Keyword).isEmpty then 0 else 1) < 30)) = true := by intro _; rfl)
    (hline : (apos.endLine == pos.line) = true := by rfl) (hs : ArgsOk args pos := by intro _; exact ⟨_, _, rfl, rfl⟩) :
    BE G d sc (.Call (.Attribute o name apos) args [] pos) loc H v H''' := by
  intro A env α s R S X L
  refine ⟨fun Q E hQ => ?_⟩
  refine wpAny_Call_method (T := T) (id := id) (hbase env) (hfew env) hline hm.1 hm.2.1 hm.2.2 ((h0 A env α s R S X L).out _ _ fun ro s1 α1 x1 X1 v1 => ⟨vT_is X1 hT v1, vT_bare X1 hT v1, ?_⟩)
  obtain ⟨t, ts, h1, h2⟩ := hs env
  have ha' := ha A env α1 s1 pos R S X1 (L.ext X x1)
  have ha' := ha'.out
  rw [h1] at ha' ⊢
  refine callWith_builtin (by rw [List.any_cons, h2]; rfl) (evalArgs_plain (ha' _ _ fun rs s2 α2 x2 X2 v2 => ?_))
  exact (hc A α2 s2 (ro :: rs) R X2 (.cons (v1.mono x2.pre (x2.tups0 X1)) v2)).out _ _ fun r s3 α3 x3 X3 v3 => hQ _ _ _ ((x1.trans x2).trans x3) X3 v3
theorem BE.meth0 {o : Expr} {name : Str} {apos pos : Pos} {ov v : V} {T id : String} (h0 : BE G d sc o loc H ov H') (hm : Meth T name id) (hc : BC G d (.builtin id) [ov] H' v H'')
    (hT : vT ov = some T := by rfl) (hbase : ∀ env, attributeBase o name env (eval o env) = eval o env := by intro _; rfl)
    (hline : (apos.endLine == pos.line) = true := by rfl) :
    BE G d sc (.Call (.Attribute o name apos) [] [] pos) loc H v H'' := by
  intro A env α s R S X L
  refine ⟨fun Q E hQ => ?_⟩
  refine wpAny_Call_method (T := T) (id := id) (hbase env) rfl hline hm.1 hm.2.1 hm.2.2 ((h0 A env α s R S X L).out _ _ fun ro s1 α1 x1 X1 v1 => ⟨vT_is X1 hT v1, vT_bare X1 hT v1, ?_⟩)
  refine callWith_builtin rfl (PySem.evalArgs_none ?_)
  exact (hc A α1 s1 [ro] R X1 (.cons v1 .nil)).out _ _ fun r s3 α3 x3 X3 v3 => hQ _ _ _ (x1.trans x3) X3 v3
end
end Mine
end
section
open PySem PySem.Calls PyProof.Rows
set_option Elab.async false
set_option maxRecDepth 100000
namespace Mine

/-- an iterator of known items -/
structure It (G : GL) (I : Addr) (vs : List V) (src : Lists → Prop) (α₀ : List Addr) (St : Nat → Heap → Prop) : Prop where
  frame : ∀ i h h', St i h → (∀ o, h.get? I = some o → h'.get? I = some o) → St i h'
  soft : ∀ i h o, St i h → h.get? I = some o → frozen o = false
  live : ∀ i h, St i h → ∃ o, h.get? I = some o
  item : ∀ (A : Around) (i : Nat) (v : V) (s : Shared) (α : List Addr) (H : Lists) (Q : Option Value → Shared → Prop) (E : Value → Shared → Prop), A.handled = none → vs[i]? = some v → α₀ <+: α → HRel G α H s → src H → St i s.heap →
    (∀ r h' tk, VR G α s.heap v r → St (i + 1) h' → (∀ b o, b ≠ I → s.heap.get? b = some o → h'.get? b = some o) → Q (some r) { s with heap := h', toks := tk }) → wpAny (model G.prog G.w) A (pyNext (.ref I)) Q E s
  done : ∀ (A : Around) (s : Shared) (α : List Addr) (H : Lists) (Q : Option Value → Shared → Prop) (E : Value → Shared → Prop), A.handled = none → α₀ <+: α → HRel G α H s → src H → St vs.length s.heap →
    (∀ h' tk, (∀ b o, b ≠ I → s.heap.get? b = some o → h'.get? b = some o) → Q none { s with heap := h', toks := tk }) → wpAny (model G.prog G.w) A (pyNext (.ref I)) Q E s
  go : ∀ (A : Around) (i : Nat) (s : Shared) (target : Expr) (v : Value) (Q : Unit → Shared → Prop) (E : Value → Shared → Prop), St i s.heap → Q () s → wpAny (model G.prog G.w) A (letOwnedTupleGo target (.ref I) v) Q E s
  self : ∀ (A : Around) (i : Nat) (s : Shared) (Q : Value → Shared → Prop) (E : Value → Shared → Prop), St i s.heap → Q (.ref I) s → wpAny (model G.prog G.w) A (pyIter (.ref I)) Q E s

/-- the loop's own tuple is none of these iterators' -/
theorem go_plain {M : Model} {A : Around} {s : Shared} {I : Addr} {o : Obj} {n : String} {target : Expr} {v : Value} {Q : Unit → Shared → Prop} {E : Value → Shared → Prop} (ho : s.heap.get? I = some o) (hc : o.cls = .type n)
    (hn : (["enumerate", "zip", "dict_itemiterator", "dict_reverseitemiterator", "odict_iterator", "itertools.zip_longest", "itertools.pairwise"] : List String).contains n = false) (h : Q () s) : wpAny M A (letOwnedTupleGo target (.ref I) v) Q E s := by
  unfold letOwnedTupleGo
  cases target <;> first
    | exact wpAny_pure h
    | (cases v <;> first
        | exact wpAny_pure h
        | (refine wpAny_bind (wpAny_load ho ?_)
           rw [hc]
           cases o.data <;> first
             | exact wpAny_pure h
             | (dsimp only
                rw [hn]
                exact wpAny_pure h)))

section
variable {G : GL} {d : Nat} {sc : List (Str × NameKind)} {loc loc' loc'' : Loc} {H H' H'' H''' : Lists}

/-- a step that touches one thing of its own -/
structure Own (I : Addr) (s s' : Shared) : Prop where
  same : ∃ h t, s' = { s with heap := h, toks := t }
  keep : ∀ b o, b ≠ I → s.heap.get? b = some o → s'.heap.get? b = some o
  soft : ∀ o, s.heap.get? I = some o → frozen o = false
  toks : s.toks ≤ s'.toks
theorem Own.tups {I : Addr} {s s' : Shared} (x : Own I s s') : TupKeep s.heap s'.heap := fun a o e f => x.keep a o (fun q => by subst q; rw [x.soft o e] at f; cases f) e
theorem Own.ext {I : Addr} {fp α α' : List Addr} {s₀ s s' : Shared} (x : Own I s s') (y : Ext fp α α' s₀ s) (hI : s₀.heap.get? I = none) : Ext fp α α' s₀ s' where
  same := by obtain ⟨h, t, rfl⟩ := y.same; obtain ⟨h', t', rfl⟩ := x.same; exact ⟨_, _, rfl⟩
  pre := y.pre
  new := y.new
  keep := fun b o e h1 h2 => x.keep b o (fun q => by subst q; rw [hI] at e; cases e) (y.keep b o e h1 h2)
  alive := fun b o e => let ⟨o', e'⟩ := y.alive b o e; ⟨o', x.keep b o' (fun q => by subst q; rw [hI] at e; cases e) e'⟩
theorem Own.hrel {I : Addr} {α : List Addr} {s s' : Shared} (x : Own I s s') (X : HRel G α H s) (hI : I ∉ α) (h0 : G.h₀.get? I = none) : HRel G α H s' :=
  ⟨Nat.le_trans X.pos x.toks, fun b o e => x.keep b o (fun q => by subst q; rw [h0] at e; cases e) (X.keep b o e), X.len, X.nd, X.own, fun i a l h1 h2 => by
    obtain ⟨items, ⟨n, e⟩, hv⟩ := X.lists i a l h1 h2
    exact ⟨items, ⟨n, x.keep _ _ (fun q => hI (q ▸ List.mem_of_getElem? h1)) e⟩, hv.mono (List.prefix_refl _) x.tups⟩⟩
theorem Own.lrel {I : Addr} {α : List Addr} {env : Env} {s s' : Shared} (x : Own I s s') (L : LRel G env α loc s.heap) (hI : I ∉ fpOf env) : LRel G env α loc s'.heap := by
  have kp : ∀ a ∈ fpOf env, ∀ o, s.heap.get? a = some o → s'.heap.get? a = some o := fun a ha o e => x.keep a o (fun q => hI (q ▸ ha)) e
  refine ⟨L.kind, L.glob, L.bins, ?_, L.var, fun y v hy hk => ?_, fun y c hp => ?_, L.apart, L.fresh⟩
  · obtain ⟨m, hn, hm⟩ := L.ns
    refine ⟨m, hn.at' fun o e => kp _ (mem_fpOf.mpr (.inl rfl)) o e, fun y v hy hk => ?_⟩
    obtain ⟨r, e, hr⟩ := hm y v hy hk
    exact ⟨r, e, hr.mono (List.prefix_refl _) x.tups⟩
  · obtain ⟨c, r, hc, ⟨o, e, d⟩, hr⟩ := L.cell y v hy hk
    exact ⟨c, r, hc, ⟨o, kp c (mem_fpOf.mpr (.inr ⟨y, hc⟩)) o e, d⟩, hr.mono (List.prefix_refl _) x.tups⟩
  · obtain ⟨⟨v, o, e, d⟩, f⟩ := L.cells y c hp
    exact ⟨⟨v, o, kp c (mem_fpOf.mpr (.inr ⟨y, hp⟩)) o e, d⟩, f⟩
/-- a thing that no step of the run touches -/
theorem Ext.notIn {fp α α' : List Addr} {s s' : Shared} (x : Ext fp α α' s s') {I : Addr} {o : Obj} (hI : s.heap.get? I = some o) (hn : I ∉ α) : I ∉ α' := fun h => by
  have := x.new I h hn; rw [hI] at this; cases this
theorem LRel.livefp {env : Env} {α : List Addr} {h : Heap} (L : LRel G env α loc h) {a : Addr} (ha : a ∈ fpOf env) : ∃ o, h.get? a = some o := by
  rcases mem_fpOf.mp ha with rfl | ⟨y, ha⟩
  · obtain ⟨m, ⟨o, _, _, e, _⟩, _⟩ := L.ns; exact ⟨o, e⟩
  · obtain ⟨⟨v, o, e, _⟩, _⟩ := L.cells y a ha; exact ⟨o, e⟩

/-- an expression's iterator -/
noncomputable def BIt (G : GL) (d : Nat) (sc : List (Str × NameKind)) (e : Expr) (loc : Loc) (H : Lists) (vs : List V) (src : Lists → Prop) (H' : Lists) : Prop :=
  ∀ (A : Around) (env : Env) (α : List Addr) (s : Shared), Room d A → Kinds sc env → HRel G α H s → LRel G env α loc s.heap →
    ∀ (Q : Value → Shared → Prop) (E : Value → Shared → Prop), (∀ I St s' α', Ext [] α α' s s' → HRel G α' H' s' → It G I vs src α' St → St 0 s'.heap → s.heap.get? I = none → I ∉ α' → src H' → Q (.ref I) s') →
      wpAny (model G.prog G.w) A (eval e env) (fun x s₁ => wpAny (model G.prog G.w) A (pyIter x) Q E s₁) E s

theorem It.list {I ax : Addr} {j : Nat} {l : List V} {α₀ : List Addr} (ha : α₀[j]? = some ax) (_ : ax ≠ I) : It G I l (fun H => H[j]? = some l) α₀ (fun i h => h.IsListIter I ax i) where
  frame := fun i h h' st hk => let ⟨o, e, c, d⟩ := st; ⟨o, hk o e, c, d⟩
  soft := fun i h o st e => by obtain ⟨o', e', c, d⟩ := st; rw [e] at e'; cases e'; unfold frozen; rw [d]; simp [c]
  live := fun i h st => let ⟨o, e, _, _⟩ := st; ⟨o, e⟩
  item := fun A i v s α H Q E hh hv hp X hs st hQ => by
    have ha' : α[j]? = some ax := by obtain ⟨t, rfl⟩ := hp; rw [List.getElem?_append_left (List.getElem?_eq_some_iff.mp ha).1]; exact ha
    obtain ⟨items, hl, hr⟩ := X.lists j ax l ha' hs
    obtain ⟨r, er, hvr⟩ := hr.get hv
    exact wpAny_pyNext_list_item st hl.isList (x := r) (by simpa using er) fun h' hit' hs' => hQ r h' s.toks hvr hit' fun b o hb e => hs'.extBut b o hb e
  done := fun A s α H Q E hh hp X hs st hQ => by
    have ha' : α[j]? = some ax := by obtain ⟨t, rfl⟩ := hp; rw [List.getElem?_append_left (List.getElem?_eq_some_iff.mp ha).1]; exact ha
    obtain ⟨items, hl, hr⟩ := X.lists j ax l ha' hs
    exact wpAny_pyNext_list_end hh st hl.isList (by simp [hr.length]) fun h' he' => hQ h' s.toks fun b o hb e => he' b o hb e
  go := fun A i s target v Q E st h => let ⟨_, ho, hc, _⟩ := st; go_plain ho hc (by decide) h
  self := fun A i s Q E st h => wpAny_pyIter_listiter st h
theorem BIt.list {e : Expr} {j : Nat} {l : List V} (h : BE G d sc e loc H (.ref j) H') (hl : H'[j]? = some l) : BIt G d sc e loc H l (fun H => H[j]? = some l) H' := by
  intro A env α s R S X L
  intro Q E hQ
  refine (h A env α s R S X L).out _ _ fun r s1 α1 x1 X1 v1 => ?_
  cases v1 with
  | ref ea =>
    rename_i a
    obtain ⟨items, hp, hr⟩ := X1.lists _ _ _ ea hl
    have hm : a ∈ α1 := List.mem_of_getElem? ea
    obtain ⟨n, hp'⟩ := id hp
    have hfr := fresh_size s1.heap
    refine wpAny_pyIter_list hp.isList ?_
    have hne : a ≠ s1.heap.objs.size := fun q => by rw [← q, hp'] at hfr; cases hfr
    refine hQ _ _ _ α1 (x1.trans (Ext.keeps (push_keep _))) (X1.keeps (push_keep _)) (It.list ea hne) ⟨_, Heap.get?_push_size _ rfl, rfl, rfl⟩ ?_ (fun h => ?_) hl
    · cases q : s.heap.get? s1.heap.objs.size with
      | none => rfl
      | some o => obtain ⟨o', e'⟩ := x1.alive _ _ q; rw [hfr] at e'; cases e'
    · obtain ⟨it, k, e'⟩ := X1.isList h; rw [hfr] at e'; cases e'

end

/-! for -/
inductive ForR (G : GL) (d : Nat) (sc : List (Str × NameKind)) (target : Expr) (body : List Stmt) (src : Lists → Prop) : List V → Loc → Lists → Fl → Loc → Lists → Prop where
  | nil {l : Loc} {h : Lists} (hs : src h) : ForR G d sc target body src [] l h .next l h
  | cons {v : V} {vs : List V} {l l1 l2 l3 : Loc} {h h1 h2 h3 : Lists} {f : Fl} (hs : src h) (a : BB G d sc target v l h l1 h1) (b : BSs G d sc body l1 h1 .next l2 h2) (c : ForR G d sc target body src vs l2 h2 f l3 h3) :
    ForR G d sc target body src (v :: vs) l h f l3 h3
  | ret {v r : V} {vs : List V} {l l1 l2 : Loc} {h h1 h2 : Lists} (hs : src h) (a : BB G d sc target v l h l1 h1) (b : BSs G d sc body l1 h1 (.ret r) l2 h2) :
    ForR G d sc target body src (v :: vs) l h (.ret r) l2 h2

section
variable {G : GL} {d : Nat} {sc : List (Str × NameKind)} {loc loc' loc'' : Loc} {H H' H'' H''' : Lists}

theorem BS.for {target iter : Expr} {body : List Stmt} {p : Pos} {vs : List V} {src : Lists → Prop} {f : Fl} (hi : BIt G d sc iter loc H vs src H') (hr : ForR G d sc target body src vs loc H' f loc' H'')
    (hs : ∀ env x, foldedSetIterable iter env x = pure x := by intro _ _; rfl) :
    BS G d sc (.For target iter body [] p) loc H f loc' H'' := by
  intro A env α s R S X L
  refine ⟨fun Q E hQ => ?_⟩
  refine wpAny_For (hi A env α s R S X L _ _ fun I St s1 α1 x1 X1 W st hI0 hIα hsrc => ?_) (hs env)
  have hI0' : G.h₀.get? I = none := size_le X hI0
  have hIfp : I ∉ fpOf env := fun h => by obtain ⟨o, e⟩ := L.livefp h; rw [hI0] at e; cases e
  refine codeAny_forLoop_any (fun n s' => ∃ i α' locI HI, α1 <+: α' ∧ Ext (fpOf env) α α' s s' ∧ HRel G α' HI s' ∧ LRel G env α' locI s'.heap ∧ St i s'.heap ∧ I ∉ α' ∧ n = vs.length - i ∧ i ≤ vs.length ∧ ForR G d sc target body src (vs.drop i) locI HI f loc' H'')
    (fun n s' hn => ?_) vs.length ⟨0, α1, loc, H', List.prefix_refl _, x1.mono (by simp), X1, L.ext X x1, st, hIα, rfl, Nat.zero_le _, hr⟩
  obtain ⟨i, α', locI, HI, hp, x', X', L', st', hIα', rfl, hile, hr'⟩ := hn
  obtain ⟨oI, hoI⟩ := W.live _ _ st'
  by_cases hi' : i < vs.length
  · obtain ⟨v, hv⟩ : ∃ v, vs[i]? = some v := ⟨vs[i], List.getElem?_eq_getElem hi'⟩
    have hdrop : vs.drop i = v :: vs.drop (i + 1) := by
      rw [List.drop_eq_getElem_cons hi']
      congr 1
      rw [List.getElem?_eq_getElem hi'] at hv; exact Option.some.inj hv
    rw [hdrop] at hr'
    have hsrc' : src HI := by cases hr' <;> assumption
    refine wpAny_toks (W.item A i v s' α' HI _ _ R.handled hv hp X' hsrc' st' fun r h' tk hvr st2 hk htk => ?_)
    have O : Own I s' { s' with heap := h', toks := tk } := ⟨⟨_, _, rfl⟩, hk, fun o e => W.soft _ _ _ st' e, htk⟩
    have X2 := O.hrel X' hIα' hI0'
    have L2 := O.lrel L' hIfp
    have x2 := O.ext x' hI0
    have v2 := hvr.mono (List.prefix_refl _) O.tups
    have keepI : ∀ {α2 : List Addr} {s2 s3 : Shared}, Ext (fpOf env) α' α2 s2 s3 → (∃ o, s2.heap.get? I = some o) → (∀ o, s2.heap.get? I = some o → s3.heap.get? I = some o) := fun y _ o e => y.keep I o e hIα' hIfp
    refine W.go A _ _ _ _ _ _ st2 ?_
    cases hr' with
    | cons _ h1 h2 h3 =>
      refine (h1 A env α' _ r R S X2 L2 v2).out _ _ fun _ s3 α3 x3 X3 L3 _ => ?_
      obtain ⟨oI2, hoI2⟩ := W.live _ _ st2
      have st3 : St (i + 1) s3.heap := W.frame _ _ _ st2 fun o e => x3.keep I o e hIα' hIfp
      have n3 : I ∉ α3 := x3.notIn hoI2 hIα'
      refine (h2 A env α3 s3 R S X3 L3).out _ _ fun g s4 α4 x4 X4 L4 e => ?_
      cases e
      obtain ⟨oI3, hoI3⟩ := W.live _ _ st3
      exact ⟨_, by (first | lia | omega), i + 1, α4, _, _, hp.trans (x3.pre.trans x4.pre), (x2.trans x3).trans x4, X4, L4, W.frame _ _ _ st3 fun o e => x4.keep I o e n3 hIfp, x4.notIn hoI3 n3, rfl, hi', h3⟩
    | ret _ h1 h2 =>
      refine (h1 A env α' _ r R S X2 L2 v2).out _ _ fun _ s3 α3 x3 X3 L3 _ => ?_
      refine (h2 A env α3 s3 R S X3 L3).out _ _ fun g s4 α4 x4 X4 L4 e => ?_
      cases e with
      | ret e => exact hQ _ _ _ ((x2.trans x3).trans x4) X4 L4 (.ret e)
  · have hil : i = vs.length := by (first | lia | omega)
    subst hil
    rw [List.drop_length] at hr'
    cases hr' with
    | nil hs' =>
      refine wpAny_toks (W.done A s' α' _ _ _ R.handled hp X' hs' st' fun h' tk hk htk => ?_)
      have O : Own I s' { s' with heap := h', toks := tk } := ⟨⟨_, _, rfl⟩, hk, fun o e => W.soft _ _ _ st' e, htk⟩
      exact wpAny_execs_nil (hQ _ _ _ (O.ext x' hI0) (O.hrel X' hIα' hI0') (O.lrel L' hIfp) .next)
end
end Mine
end
section
open PySem PySem.Calls PyProof.Rows
set_option Elab.async false
set_option maxRecDepth 100000
namespace Mine
section
variable {G : GL} {d : Nat} {sc : List (Str × NameKind)} {loc loc' loc'' : Loc} {H H' H'' H''' : Lists}

/-! ranges -/
noncomputable def rngL (a c : Int) (n : Nat) : List V := (List.range n).map fun i => V.int (a + (i : Nat) * c)
theorem rngL_get {a c : Int} {n i : Nat} {v : V} (h : (rngL a c n)[i]? = some v) : i < n ∧ v = .int (a + (i : Nat) * c) := by
  unfold rngL at h
  rw [List.getElem?_map] at h
  cases e : (List.range n)[i]? with
  | none => rw [e] at h; cases h
  | some j =>
    rw [e] at h
    have := List.getElem?_eq_some_iff.mp e
    obtain ⟨h1, h2⟩ := this
    rw [List.length_range] at h1
    rw [List.getElem_range] at h2
    subst h2
    cases h
    exact ⟨h1, rfl⟩
theorem rngL_len {a c : Int} {n : Nat} : (rngL a c n).length = n := by simp [rngL]
theorem It.range {I : Addr} {a c : Int} {n : Nat} {α₀ : List Addr} : It G I (rngL a c n) (fun _ => True) α₀ (fun i h => IsRangeIter h I (a + (i : Nat) * c) ((n : Int) - (i : Nat)) c) where
  frame := fun i h h' st hk => hk _ st
  soft := fun i h o st e => by rw [st] at e; cases e; rfl
  live := fun i h st => ⟨_, st⟩
  item := fun A i v s α H Q E hh hv hp X hs st hQ => by
    obtain ⟨hi, rfl⟩ := rngL_get hv
    refine wpAny_pyNext_range_item st (by (first | lia | omega)) fun h' hit' hs' => ?_
    refine hQ _ h' _ (.int _ _) ?_ fun b o hb e => hs'.extBut b o hb e
    have e1 : a + ((i + 1 : Nat) : Int) * c = a + (i : Int) * c + c := by push_cast; rw [Int.add_mul, Int.one_mul, Int.add_assoc]
    have e2 : (n : Int) - ((i + 1 : Nat) : Int) = (n : Int) - (i : Int) - 1 := by push_cast; (first | lia | omega)
    rw [e1, e2]; exact hit'
  done := fun A s α H Q E hh hp X hs st hQ => by
    rw [rngL_len] at st
    exact wpAny_pyNext_range_end hh st (by (first | lia | omega)) fun h' he' => hQ h' s.toks fun b o hb e => he' b o hb e
  go := fun A i s target v Q E st h => go_plain st rfl (by decide) h
  self := fun A i s Q E st h => wpAny_pyIter_rangeiter st h

/-- an expression that is a range -/
noncomputable def BRng (G : GL) (d : Nat) (sc : List (Str × NameKind)) (e : Expr) (loc : Loc) (H : Lists) (a b c : Int) (H' : Lists) : Prop :=
  ∀ (A : Around) (env : Env) (α : List Addr) (s : Shared), Room d A → Kinds sc env → HRel G α H s → LRel G env α loc s.heap →
    Does G (eval e env) α H' (fun _ h r => ∃ x t u v, r = .ref x ∧ IsRange h x a b c t u v) A s
theorem gval_use (K : GOk G) {x : Str} {v : Value} {env : Env} {α : List Addr} {s : Shared} {p : Pos} {Q : Value → Shared → Prop} {E : Value → Shared → Prop} {A : Around} (S : Kinds sc env) (L : LRel G env α loc s.heap) (X : HRel G α H s)
    (hk : sc.lookup x = some .globalImplicit) (hg : gval G x v) (h : Q v s) (hd : (x == ("__debug__" : Str)) = false := by decide) : wpAny (model G.prog G.w) A (eval (.Name x p) env) Q E s := by
  refine Name_function_global L.kind (S.glob x hk) ?_ hd
  rcases hg with hg | ⟨hg, hb⟩
  · exact loadGlobal_global (L.glob ▸ K.ns.keeps X.keep) hg h
  · exact loadGlobal_builtin (L.glob ▸ K.ns.keeps X.keep) hg (L.bins ▸ K.nsb.keeps X.keep) hb h
theorem BRng.one (K : GOk G) {p pos : Pos} {e : Expr} {n : Int} (hk : sc.lookup ("range" : Str) = some .globalImplicit) (hg : gval G "range" (.type "range")) (ha : BA G d sc [e] loc H [.int n] H') (hs : ArgsOk [e] pos := by intro _; exact ⟨_, _, rfl, rfl⟩) :
    BRng G d sc (.Call (.Name "range" p) [e] [] pos) loc H 0 n 1 H' := by
  intro A env α s R S X L
  refine ⟨fun Q E hQ => ?_⟩
  refine wpAny_Call_NameR (gval_use K S L X hk hg ?_)
  obtain ⟨t, ts, h1, h2⟩ := hs env
  have ha' := ha A env α s pos R S X L
  have ha' := ha'.out
  rw [h1] at ha' ⊢
  refine PySem.callWith_type (by rw [List.any_cons, h2]; rfl) (evalArgs_plain (ha' _ _ fun rs s2 α2 x2 X2 v2 => ?_))
  cases v2 with
  | cons v2 w =>
    cases w
    cases v2
    refine call_range_1 ?_
    exact hQ _ _ α2 (x2.trans (Ext.keeps (push_keep _))) (X2.keeps (push_keep _)).tk.tk ⟨_, _, _, _, rfl, IsRange.new ..⟩
theorem BRng.two (K : GOk G) {p pos : Pos} {e e' : Expr} {a b : Int} (hk : sc.lookup ("range" : Str) = some .globalImplicit) (hg : gval G "range" (.type "range")) (ha : BA G d sc [e, e'] loc H [.int a, .int b] H') (hs : ArgsOk [e, e'] pos := by intro _; exact ⟨_, _, rfl, rfl⟩) :
    BRng G d sc (.Call (.Name "range" p) [e, e'] [] pos) loc H a b 1 H' := by
  intro A env α s R S X L
  refine ⟨fun Q E hQ => ?_⟩
  refine wpAny_Call_NameR (gval_use K S L X hk hg ?_)
  obtain ⟨t, ts, h1, h2⟩ := hs env
  have ha' := ha A env α s pos R S X L
  have ha' := ha'.out
  rw [h1] at ha' ⊢
  refine PySem.callWith_type (by rw [List.any_cons, h2]; rfl) (evalArgs_plain (ha' _ _ fun rs s2 α2 x2 X2 v2 => ?_))
  cases v2 with
  | cons v2 w =>
    cases w with
    | cons v3 w =>
      cases w
      cases v2; cases v3
      refine call_range_2 ?_
      exact hQ _ _ α2 (x2.trans (Ext.keeps (push_keep _))) (X2.keeps (push_keep _)).tk ⟨_, _, _, _, rfl, IsRange.new ..⟩
theorem BRng.three (K : GOk G) {p pos : Pos} {e e' e'' : Expr} {a b c : Int} (hk : sc.lookup ("range" : Str) = some .globalImplicit) (hg : gval G "range" (.type "range")) (ha : BA G d sc [e, e', e''] loc H [.int a, .int b, .int c] H') (hc : c ≠ 0) (hc' : c.natAbs < 1073741824)
    (hs : ArgsOk [e, e', e''] pos := by intro _; exact ⟨_, _, rfl, rfl⟩) :
    BRng G d sc (.Call (.Name "range" p) [e, e', e''] [] pos) loc H a b c H' := by
  intro A env α s R S X L
  refine ⟨fun Q E hQ => ?_⟩
  refine wpAny_Call_NameR (gval_use K S L X hk hg ?_)
  obtain ⟨t, ts, h1, h2⟩ := hs env
  have ha' := ha A env α s pos R S X L
  have ha' := ha'.out
  rw [h1] at ha' ⊢
  refine PySem.callWith_type (by rw [List.any_cons, h2]; rfl) (evalArgs_plain (ha' _ _ fun rs s2 α2 x2 X2 v2 => ?_))
  cases v2 with
  | cons v2 w =>
    cases w with
    | cons v3 w =>
      cases w with
      | cons v4 w =>
        cases w
        cases v2; cases v3; cases v4
        refine call_range_3 hc ?_ (.inl (PyProof.noPylong_small hc'))
        exact hQ _ _ α2 (x2.trans (Ext.keeps (push_keep _))) (X2.keeps (push_keep _)) ⟨_, _, _, _, rfl, IsRange.new ..⟩

theorem BIt.range {e : Expr} {a b c : Int} {n : Nat} (h : BRng G d sc e loc H a b c H') (hsm : Builtin.Range.small a b c = true) (hn : Builtin.Range.rangeSize a b c = n) : BIt G d sc e loc H (rngL a c n) (fun _ => True) H' := by
  intro A env α s R S X L
  intro Q E hQ
  refine (h A env α s R S X L).out _ _ fun r s1 α1 x1 X1 v1 => ?_
  obtain ⟨x, t, u, v, rfl, hr⟩ := v1
  have hfr := fresh_size s1.heap
  refine wpAny_pyIter_range hr hsm ?_
  rw [hn]
  refine hQ _ _ _ α1 (x1.trans (Ext.keeps (push_keep _))) (X1.keeps (push_keep _)) It.range ?_ ?_ (fun h => ?_) trivial
  · have := Heap.get?_push_size (h := s1.heap) (o := { cls := .type "range_iterator", data := .fields #[rawInt a, rawInt (n : Int), rawInt c] }) rfl
    simpa using this
  · cases q : s.heap.get? s1.heap.objs.size with
    | none => rfl
    | some o => obtain ⟨o', e'⟩ := x1.alive _ _ q; rw [hfr] at e'; cases e'
  · obtain ⟨it, k, e'⟩ := X1.isList h; rw [hfr] at e'; cases e'

theorem vrs_of_items {α : List Addr} {h : Heap} {a c : Int} {n : Nat} {acc : Array Value} (hi : ItemsOf (fun i v => ∃ t, v = .int (a + i * c) t) acc n) : VRs G α h (rngL a c n) acc.toList := by
  obtain ⟨hsz, hP⟩ := hi
  have key : ∀ (k : Nat) (l : List Value) (j : Nat), (∀ (i : Nat) (v : Value), l[i]? = some v → ∃ t, v = Value.int (a + (j + i : Nat) * c) t) → l.length = k → VRs G α h ((List.range' j k).map fun i => V.int (a + (i : Nat) * c)) l := by
    intro k
    induction k with
    | zero => intro l j _ hl; rw [List.length_eq_zero_iff.mp hl]; exact .nil
    | succ k ih =>
      intro l j hP hl
      cases l with
      | nil => cases hl
      | cons v l =>
        rw [List.range'_succ, List.map_cons]
        refine .cons ?_ (ih l (j + 1) (fun i w hw => ?_) (by simpa using hl))
        · obtain ⟨t, rfl⟩ := hP 0 v (by simp)
          exact .int _ _
        · obtain ⟨t, rfl⟩ := hP (i + 1) w (by simpa using hw)
          exact ⟨t, by rw [show j + 1 + i = j + (i + 1) by (first | lia | omega)]⟩
  have := key n acc.toList 0 (fun i v hv => by
    obtain ⟨t, e⟩ := hP i v (by simpa using hv)
    exact ⟨t, by rw [e]; simp⟩) (by simp [hsz])
  rw [← List.range_eq_range'] at this
  exact this
theorem BE.listRange (K : GOk G) {e : Expr} {p pos : Pos} {a b c : Int} {n : Nat} (h : BRng G d sc e loc H a b c H') (hk : sc.lookup ("list" : Str) = some .globalImplicit) (hg : gval G "list" (.type "list")) (hsm : Builtin.Range.small a b c = true) (hn : Builtin.Range.rangeSize a b c = n) (hlen : n ≤ 2 ^ 24)
    (hs : ∀ env, backTo pos (starEach [e] env) = [(false, eval e env)] := by intro _; rfl) :
    BE G d sc (.Call (.Name "list" p) [e] [] pos) loc H (.ref H'.length) (H' ++ [rngL a c n]) := by
  intro A env α s R S X L
  refine ⟨fun Q E hQ => ?_⟩
  refine wpAny_Call_NameR (gval_use K S L X hk hg ?_)
  rw [hs env]
  refine PySem.callWith_type rfl (evalArgs_plain (spliced_cons ((h A env α s R S X L).out _ _ fun r s1 α1 x1 X1 v1 => spliced_nil ?_)))
  obtain ⟨x, t, u, v, rfl, hr⟩ := v1
  refine wpAny_toks (call_list_range R.handled hr hsm hn hlen fun h' tk acc' c' hk' hl hi htk => ?_)
  have hfr := fresh_size s1.heap
  have X1' : HRel G α1 H' { s1 with toks := tk } := X1.tok (Nat.le_trans X1.pos htk)
  obtain ⟨X', x', v'⟩ := X1'.newList (items := acc'.toList) (h := h') hfr hk' ⟨c', by rw [hl]⟩ (vrs_of_items hi)
  exact hQ _ _ _ ((x1.trans Ext.tok).trans x') X' v'

/-! a text's signs -/
noncomputable def chL (x : Str) : List V := x.cps.toList.map fun c => V.str ⟨#[c]⟩
theorem It.strOf {I : Addr} {x : Str} {t : Tok} {α₀ : List Addr} {ty : String} (hty : ty = "str_ascii_iterator" ∨ ty = "str_iterator") : It G I (chL x) (fun _ => True) α₀ (fun i h => h.IsStrIter I ty x t i) where
  frame := fun i h h' st hk => let ⟨o, e, r⟩ := st; ⟨o, hk o e, r⟩
  soft := fun i h o st e => by
    obtain ⟨o', e', c, d⟩ := st
    rw [e] at e'; cases e'
    unfold frozen; rw [d]
    rcases hty with rfl | rfl <;> simp [c]
  live := fun i h st => let ⟨o, e, _⟩ := st; ⟨o, e⟩
  item := fun A i v s α H Q E hh hv hp X hs st hQ => by
    unfold chL at hv
    rw [List.getElem?_map] at hv
    cases e : x.cps.toList[i]? with
    | none => rw [e] at hv; cases hv
    | some c =>
      rw [e] at hv; cases hv
      have hc : x.cps[i]? = some c := by simpa using e
      rcases hty with rfl | rfl
      · exact wpAny_pyNext_ascii_item st hc fun h' hit' hs' => hQ _ h' _ (.str _ _) hit' fun b o hb e => hs'.extBut b o hb e
      · exact wpAny_pyNext_wide_item st hc fun h' hit' hs' => hQ _ h' _ (.str _ _) hit' fun b o hb e => hs'.extBut b o hb e
  done := fun A s α H Q E hh hp X hs st hQ => by
    have hc : x.cps[(chL x).length]? = none := by simp [chL]
    rcases hty with rfl | rfl
    · exact wpAny_pyNext_ascii_end hh st hc fun h' he' => hQ h' s.toks fun b o hb e => he' b o hb e
    · exact wpAny_pyNext_wide_end hh st hc fun h' he' => hQ h' s.toks fun b o hb e => he' b o hb e
  go := fun A i s target v Q E st h => by
    obtain ⟨o, ho, hc, _⟩ := st
    rcases hty with rfl | rfl <;> exact go_plain ho hc (by decide) h
  self := fun A i s Q E st h => by
    rcases hty with rfl | rfl
    · exact wpAny_pyIter_striter_ascii st h
    · exact wpAny_pyIter_striter_wide st h
theorem BIt.str {e : Expr} {x : Str} (h : BE G d sc e loc H (.str x) H') : BIt G d sc e loc H (chL x) (fun _ => True) H' := by
  intro A env α s R S X L
  intro Q E hQ
  refine (h A env α s R S X L).out _ _ fun r s1 α1 x1 X1 v1 => ?_
  cases v1
  have hfr := fresh_size s1.heap
  refine wpAny_pyIter_strU ?_
  refine hQ _ _ _ α1 (x1.trans (Ext.keeps (push_keep _))) (X1.keeps (push_keep _)) (It.strOf (ty := strIterType x) ?_) ⟨_, Heap.get?_push_size _ rfl, rfl, rfl⟩ ?_ (fun h => ?_) trivial
  · unfold strIterType; split <;> simp
  · cases q : s.heap.get? s1.heap.objs.size with
    | none => rfl
    | some o => obtain ⟨o', e'⟩ := x1.alive _ _ q; rw [hfr] at e'; cases e'
  · obtain ⟨it, k, e'⟩ := X1.isList h; rw [hfr] at e'; cases e'

end
/-! while -/
inductive WhileR (G : GL) (d : Nat) (sc : List (Str × NameKind)) (test : Expr) (body : List Stmt) : Nat → Loc → Lists → Loc → Lists → Prop where
  | stop {n : Nat} {l : Loc} {h h1 : Lists} (a : BT G d sc test l h false h1) : WhileR G d sc test body n l h l h1
  | step {n : Nat} {l l2 l3 : Loc} {h h1 h2 h3 : Lists} (a : BT G d sc test l h true h1) (b : BSs G d sc body l h1 .next l2 h2) (c : WhileR G d sc test body n l2 h2 l3 h3) : WhileR G d sc test body (n + 1) l h l3 h3
section
variable {G : GL} {d : Nat} {sc : List (Str × NameKind)} {loc loc' loc'' : Loc} {H H' H'' H''' : Lists}
theorem BS.while {test : Expr} {body : List Stmt} {p : Pos} {n : Nat} (hr : WhileR G d sc test body n loc H loc' H') : BS G d sc (.While test body [] p) loc H .next loc' H' := by
  intro A env α s R S X L
  refine ⟨fun Q E hQ => ?_⟩
  refine wpAny_While ?_
  refine codeAny_whileLoop (fun n s' => ∃ α' locI HI, Ext (fpOf env) α α' s s' ∧ HRel G α' HI s' ∧ LRel G env α' locI s'.heap ∧ WhileR G d sc test body n locI HI loc' H') (fun n s' hn => ?_) n ⟨α, loc, H, Ext.refl, X, L, hr⟩
  obtain ⟨α', locI, HI, x', X', L', hr'⟩ := hn
  cases hr' with
  | stop a =>
    refine (a A env α' s' R S X' L').out _ _ fun b s1 α1 x1 X1 e => ?_
    subst e
    exact wpAny_execs_nil (hQ _ _ _ (x'.trans (x1.mono (by simp))) X1 (L'.ext X' x1) .next)
  | step a b c =>
    refine (a A env α' s' R S X' L').out _ _ fun r s1 α1 x1 X1 e => ?_
    subst e
    refine (b A env α1 s1 R S X1 (L'.ext X' x1)).out _ _ fun g s2 α2 x2 X2 L2 e => ?_
    cases e
    exact ⟨_, Nat.lt_succ_self _, α2, _, _, (x'.trans (x1.mono (by simp))).trans x2, X2, L2, c⟩
end
end Mine
end
section
open PySem PySem.Calls PyProof.Rows
set_option Elab.async false
set_option maxRecDepth 100000
namespace Mine

/-! the cells of a comprehension's frame -/
noncomputable def Inj (l : List (Str × Addr)) : Prop := ∀ y y' c, l.lookup y = some c → l.lookup y' = some c → y = y'
theorem cellsFrom_spec : ∀ (names : List (Str × NameKind)) (h : Heap) (acc : List (Str × Addr)), Inj acc → (∀ y c, acc.lookup y = some c → c < h.objs.size) →
    Inj (cellsFrom h.objs.size names acc) ∧
    (∀ y c, (cellsFrom h.objs.size names acc).lookup y = some c → acc.lookup y = some c ∨ ((pushCells h names).IsCell c none ∧ h.objs.size ≤ c ∧ (y, NameKind.cell) ∈ names)) ∧
    (∀ y, (y, NameKind.cell) ∈ names → ∃ c, (cellsFrom h.objs.size names acc).lookup y = some c) ∧
    (∀ y, (y, NameKind.cell) ∉ names → (cellsFrom h.objs.size names acc).lookup y = acc.lookup y) ∧
    (∀ y, (acc.lookup y).isSome = true → ((cellsFrom h.objs.size names acc).lookup y).isSome = true)
  | [], h, acc, hi, hb => ⟨hi, fun y c e => .inl e, (fun y hm => (nomatch hm)), (fun y _ => rfl), (fun y e => e)⟩
  | (name, kind) :: r, h, acc, hi, hb => by
    unfold cellsFrom pushCells
    cases hk : kind == NameKind.cell with
    | false =>
      have hkc : kind ≠ .cell := by intro q; subst q; simp at hk
      obtain ⟨a, b, c, d, e⟩ := cellsFrom_spec r h acc hi hb
      simp only [Bool.false_eq_true, if_false]
      refine ⟨a, fun y c' h1 => (b y c' h1).imp id fun h => ⟨h.1, h.2.1, List.mem_cons_of_mem _ h.2.2⟩, fun y hm => ?_, fun y hm => d y fun h => hm (List.mem_cons_of_mem _ h), e⟩
      rcases List.mem_cons.mp hm with hm | hm
      · cases hm; exact absurd rfl hkc
      · exact c y hm
    | true =>
      have hkc : kind = .cell := by cases kind <;> first | rfl | simp at hk
      subst hkc
      simp only [if_true]
      have hi' : Inj ((name, h.objs.size) :: acc) := fun y y' c h1 h2 => by
        rw [List.lookup_cons] at h1 h2
        cases e1 : y == name <;> cases e2 : y' == name <;> rw [e1] at h1 <;> rw [e2] at h2
        · exact hi y y' c h1 h2
        · cases h2; exact absurd (hb y _ h1) (Nat.lt_irrefl _)
        · cases h1; exact absurd (hb y' _ h2) (Nat.lt_irrefl _)
        · exact (beq_iff_eq.mp e1).trans (beq_iff_eq.mp e2).symm
      have hb' : ∀ y c, ((name, h.objs.size) :: acc).lookup y = some c → c < (h.push { cls := .type "cell", data := .cell none }).objs.size := fun y c h1 => by
        rw [Heap.size_push]
        rw [List.lookup_cons] at h1
        cases e1 : y == name <;> rw [e1] at h1
        · exact Nat.lt_succ_of_lt (hb y c h1)
        · cases h1; exact Nat.lt_succ_self _
      obtain ⟨a, b, c, d, e⟩ := cellsFrom_spec r (h.push { cls := .type "cell", data := .cell none }) ((name, h.objs.size) :: acc) hi' hb'
      rw [Heap.size_push] at a b c d e
      refine ⟨a, fun y c' h1 => ?_, fun y hm => ?_, fun y hm => ?_, fun y he => ?_⟩
      · rcases b y c' h1 with h2 | ⟨h2, h3, h4⟩
        · rw [List.lookup_cons] at h2
          cases e1 : y == name <;> rw [e1] at h2
          · exact .inl h2
          · cases h2
            refine .inr ⟨⟨_, pushCells_keeps r _ _ _ (Heap.get?_push_size _ rfl), rfl⟩, Nat.le_refl _, ?_⟩
            rw [beq_iff_eq.mp e1]; exact List.mem_cons_self
        · exact .inr ⟨h2, Nat.le_of_succ_le h3, List.mem_cons_of_mem _ h4⟩
      · rcases List.mem_cons.mp hm with hm | hm
        · cases hm
          exact Option.isSome_iff_exists.mp (e _ (by rw [List.lookup_cons, beq_self_eq_true]; rfl))
        · exact c y hm
      · have h1 : y ≠ name := fun q => hm (q ▸ List.mem_cons_self)
        rw [d y fun h => hm (List.mem_cons_of_mem _ h), List.lookup_cons, beq_eq_false_iff_ne.mpr h1]
      · refine e y ?_
        rw [List.lookup_cons]
        cases y == name
        · exact he
        · rfl

noncomputable def clOf (env : Env) : List (Str × NameKind) → List (Str × Addr) → List (Str × Addr)
  | [], acc => acc
  | (n, k) :: r, acc => if k == .free then clOf env r ((n, (env.cells.lookup n).getD 0) :: acc) else clOf env r acc
theorem closureFor_is {env : Env} {scope : Scope} (h : ∀ y, (y, NameKind.free) ∈ scope.names → ∃ c, env.cells.lookup y = some c) : closureFor scope env = pure (clOf env scope.names []) := by
  have key : ∀ (names : List (Str × NameKind)) (acc : List (Str × Addr)), (∀ y, (y, NameKind.free) ∈ names → ∃ c, env.cells.lookup y = some c) →
      (forIn names acc fun (x : Str × NameKind) (cs : List (Str × Addr)) => (if (x.2 == .free) = true then (do let a ← cellOf env x.1; pure (ForInStep.yield ((x.1, a) :: cs))) else pure (ForInStep.yield cs) : Sem (ForInStep (List (Str × Addr))))) = pure (clOf env names acc) := by
    intro names
    induction names with
    | nil => intro acc _; rw [List.forIn_nil]; rfl
    | cons x r ih =>
      obtain ⟨n, k⟩ := x
      intro acc h
      rw [List.forIn_cons]
      unfold clOf
      cases hk : k == NameKind.free with
      | false =>
        simp only [hk, Bool.false_eq_true, if_false]
        exact ih _ fun y hy => h y (List.mem_cons_of_mem _ hy)
      | true =>
        have hkc : k = .free := by cases k <;> first | rfl | simp at hk
        subst hkc
        obtain ⟨c, hc⟩ := h n List.mem_cons_self
        simp only [hk, if_true, cellOf, hc]
        exact ih _ fun y hy => h y (List.mem_cons_of_mem _ hy)
  have h1 := key scope.names [] h
  unfold closureFor
  show (forIn scope.names [] _ >>= fun s => pure s) = _
  have h2 : (forIn scope.names [] fun (x : Str × NameKind) (cs : List (Str × Addr)) => (match x with | (name, kind) => if (kind == .free) = true then (do let a ← cellOf env name; pure (ForInStep.yield ((name, a) :: cs))) else pure (ForInStep.yield cs) : Sem (ForInStep (List (Str × Addr))))) = pure (clOf env scope.names []) := h1
  exact (congrArg (fun t : Sem (List (Str × Addr)) => t >>= fun s => pure s) h2)
theorem clOf_lookup {env : Env} {y : Str} {c : Addr} : ∀ (names : List (Str × NameKind)) (acc : List (Str × Addr)), (∀ y, (y, NameKind.free) ∈ names → ∃ c, env.cells.lookup y = some c) → (clOf env names acc).lookup y = some c →
    acc.lookup y = some c ∨ ((y, NameKind.free) ∈ names ∧ env.cells.lookup y = some c)
  | [], acc, _, e => .inl e
  | (n, k) :: r, acc, h, e => by
    unfold clOf at e
    split at e
    · rename_i hk
      have hkc : k = .free := by cases k <;> first | rfl | simp at hk
      subst hkc
      rcases clOf_lookup r _ (fun y hy => h y (List.mem_cons_of_mem _ hy)) e with e | ⟨e1, e2⟩
      · rw [List.lookup_cons] at e
        cases hb : y == n <;> rw [hb] at e
        · exact .inl e
        · obtain ⟨c', hc⟩ := h n List.mem_cons_self
          rw [hc] at e
          cases e
          rw [beq_iff_eq.mp hb]
          exact .inr ⟨List.mem_cons_self, hc⟩
      · exact .inr ⟨List.mem_cons_of_mem _ e1, e2⟩
    · exact (clOf_lookup r _ (fun y hy => h y (List.mem_cons_of_mem _ hy)) e).imp id fun h => ⟨List.mem_cons_of_mem _ h.1, h.2⟩
theorem clOf_has {env : Env} {y : Str} : ∀ (names : List (Str × NameKind)) (acc : List (Str × Addr)), ((y, NameKind.free) ∈ names ∨ (acc.lookup y).isSome = true) → ((clOf env names acc).lookup y).isSome = true
  | [], acc, h => h.elim (fun h => nomatch h) id
  | (n, k) :: r, acc, h => by
    unfold clOf
    split
    · rename_i hk
      refine clOf_has r _ ?_
      by_cases e : y = n
      · subst e; right; rw [List.lookup_cons, beq_self_eq_true]; rfl
      · rcases h with h | h
        · rcases List.mem_cons.mp h with h | h
          · cases h; exact absurd rfl e
          · exact .inl h
        · right; rw [List.lookup_cons, beq_eq_false_iff_ne.mpr e]; exact h
    · rename_i hk
      refine clOf_has r _ ?_
      rcases h with h | h
      · rcases List.mem_cons.mp h with h | h
        · cases h; exact absurd rfl hk
        · exact .inl h
      · exact .inr h

theorem wpAny_newFunctionEnv_comp {M : Model} {A : Around} {E : Value → Shared → Prop} {s : Shared} {scope : Scope} {globals : Addr} {cl : List (Str × Addr)} {qual : Str} {env : Env} {Q : Env → Shared → Prop}
    (h : Q (newEnv scope s.heap.objs.size globals (cellsFrom (s.heap.objs.size + 1) scope.names cl) qual none .none (some env) builtinsNs) { s with heap := pushCells (s.heap.push { cls := .type "dict", data := .dict #[] }) scope.names }) :
    wpAny M A (newFunctionEnv scope globals cl [] qual none .none (some env)) Q E s := by
  simp only [newFunctionEnv, Option.isSome_some, if_true]
  refine wpAny_bind (wpAny_alloc ?_)
  refine wpAny_bind (wpAny_layCells _ (fun name kind cells => by cases hkc : kind == NameKind.cell <;> simp [hkc]) _ _ _ _ ?_)
  rw [show ({ s with heap := s.heap.push { cls := .type "dict", data := .dict #[] } } : Shared).heap.objs.size = s.heap.objs.size + 1 from Heap.size_push ..]
  rw [List.forIn_nil]
  exact wpAny_bind (wpAny_pure (wpAny_pure h))

/-! list comprehensions -/
noncomputable def BIfs (G : GL) (d : Nat) (sc : List (Str × NameKind)) (ifs : List Expr) (loc : Loc) (H : Lists) (b : Bool) (H' : Lists) : Prop := match ifs with
  | [] => b = true ∧ H' = H
  | [c] => BT G d sc c loc H b H'
  | _ => False
inductive CompR (G : GL) (d : Nat) (sc : List (Str × NameKind)) (x : Str) (elt : Expr) (ifs : List Expr) (src : Lists → Prop) : List V → Loc → Lists → List V → Lists → Prop where
  | nil {l : Loc} {h : Lists} (hs : src h) : CompR G d sc x elt ifs src [] l h [] h
  | skip {v : V} {vs out : List V} {l : Loc} {h h1 h2 : Lists} (hs : src h) (a : BIfs G d sc ifs (setL l x v) h false h1) (c : CompR G d sc x elt ifs src vs (setL l x v) h1 out h2) : CompR G d sc x elt ifs src (v :: vs) l h out h2
  | take {v r : V} {vs out : List V} {l : Loc} {h h1 h2 h3 : Lists} (hs : src h) (a : BIfs G d sc ifs (setL l x v) h true h1) (b : BE G d sc elt (setL l x v) h1 r h2) (c : CompR G d sc x elt ifs src vs (setL l x v) h2 out h3) :
    CompR G d sc x elt ifs src (v :: vs) l h (r :: out) h3
theorem CompR.src {G : GL} {d : Nat} {sc : List (Str × NameKind)} {x : Str} {elt : Expr} {ifs : List Expr} {src : Lists → Prop} {vs out : List V} {l : Loc} {h h' : Lists} (c : CompR G d sc x elt ifs src vs l h out h') : src h := by
  cases c <;> assumption

/-- the names that a comprehension takes along -/
noncomputable def locC (names : List (Str × NameKind)) (loc : Loc) : Loc := loc.filter fun p => names.lookup p.1 == some .free
noncomputable def freeOk (sc : List (Str × NameKind)) (loc : Loc) (names : List (Str × NameKind)) : Bool := names.all fun p => p.2 != .free || ((loc.lookup p.1).isSome && (sc.lookup p.1 == some .cell || sc.lookup p.1 == some .free))
theorem locC_lookup {names : List (Str × NameKind)} {y : Str} {v : V} : ∀ {loc : Loc}, (locC names loc).lookup y = some v → loc.lookup y = some v ∧ names.lookup y = some .free
  | [], h => by cases h
  | (z, u) :: r, h => by
    unfold locC at h
    rw [List.filter_cons] at h
    rw [List.lookup_cons]
    split at h
    · rename_i hz
      rw [List.lookup_cons] at h
      cases e : y == z <;> rw [e] at h
      · exact locC_lookup h
      · cases h
        rw [beq_iff_eq.mp e]
        exact ⟨rfl, by simpa using hz⟩
    · rename_i hz
      obtain ⟨h1, h2⟩ := locC_lookup (loc := r) h
      refine ⟨?_, h2⟩
      cases e : y == z
      · exact h1
      · rw [beq_iff_eq.mp e] at h2
        exact absurd (by simpa using h2) hz
theorem relabel_lookup {scope : Scope} {env : Env} {y : Str} {k : NameKind} (h : scope.names.lookup y = some k) : (relabel scope env).names.lookup y = some k ∨ (k = .free ∧ (relabel scope env).names.lookup y = some .cell) := by
  unfold relabel
  have key : ∀ (l : List (Str × NameKind)), l.lookup y = some k →
      (l.map fun (n, k) => if (k == NameKind.free && env.scope.kind == .function && env.kindOf n == some .cell) then (n, NameKind.cell) else (n, k)).lookup y = some k ∨
      (k = .free ∧ (l.map fun (n, k) => if (k == NameKind.free && env.scope.kind == .function && env.kindOf n == some .cell) then (n, NameKind.cell) else (n, k)).lookup y = some .cell) := by
    intro l
    induction l with
    | nil => intro h; cases h
    | cons p r ih =>
      obtain ⟨n, k'⟩ := p
      intro h
      rw [List.lookup_cons] at h
      rw [List.map_cons]
      cases e : y == n <;> rw [e] at h
      · have := ih h
        dsimp only
        split <;> (rw [List.lookup_cons, e]; exact this)
      · cases h
        dsimp only
        split
        · rename_i hc
          rw [Bool.and_eq_true, Bool.and_eq_true] at hc
          refine .inr ⟨by simpa using hc.1.1, ?_⟩
          rw [List.lookup_cons, e]
        · refine .inl ?_
          rw [List.lookup_cons, e]
  exact key _ h
end Mine
end
section
open PySem PySem.Calls PyProof.Rows
set_option Elab.async false
set_option maxRecDepth 100000
namespace Mine
section
variable {G : GL} {d : Nat} {sc : List (Str × NameKind)} {loc loc' loc'' : Loc} {H H' H'' H''' : Lists}

noncomputable def cEnv (scope : Scope) (cl : List (Str × Addr)) (C : Addr) (env : Env) : Env :=
  { scope := relabel scope env, locals := C, globals := env.globals, cells := cellsFrom (C + 1) scope.names cl, qual := env.qual, func := none, code := env.code, frame := env.frame, builtins := env.builtins }

structure CompOk (G : GL) (scope : Scope) (env : Env) (α : List Addr) (loc : Loc) (s : Shared) (x : Str) : Prop where
  clos : closureFor scope env = pure (clOf env scope.names [])
  kinds : Kinds scope.names (cEnv scope (clOf env scope.names []) s.heap.objs.size env)
  rel : LRel G (cEnv scope (clOf env scope.names []) s.heap.objs.size env) α (locC scope.names loc) (pushCells (s.heap.push { cls := .type "dict", data := .dict #[] }) scope.names)
  keep : ∀ b o, s.heap.get? b = some o → (pushCells (s.heap.push { cls := .type "dict", data := .dict #[] }) scope.names).get? b = some o
  fp : ∀ a ∈ fpOf (cEnv scope (clOf env scope.names []) s.heap.objs.size env), s.heap.objs.size ≤ a ∨ a ∈ fpOf env
  own : ∀ a, ((cEnv scope (clOf env scope.names []) s.heap.objs.size env).kindOf x = some .local ∧ a = s.heap.objs.size) ∨ ((cEnv scope (clOf env scope.names []) s.heap.objs.size env).kindOf x = some .cell ∧
    (cEnv scope (clOf env scope.names []) s.heap.objs.size env).cells.lookup x = some a) → s.heap.objs.size ≤ a

theorem compOk {env : Env} {α : List Addr} {s : Shared} {scope : Scope} {x : Str} (S : Kinds sc env) (X : HRel G α H s) (L : LRel G env α loc s.heap) (hnd : nodupB (scope.names.map (·.1)) = true) (hfree : freeOk sc loc scope.names = true)
    (hkind : scope.kind = .function) (hx : storable scope.names x) : CompOk G scope env α loc s x := by
  have hnd' := nodupB_is hnd
  have hcell : ∀ y, (y, NameKind.free) ∈ scope.names → ∃ v c r, loc.lookup y = some v ∧ env.cells.lookup y = some c ∧ s.heap.IsCell c (some r) ∧ VR G α s.heap v r := fun y hy => by
    have h1 := List.all_eq_true.mp hfree _ hy
    simp only [bne_self_eq_false, Bool.false_or, Bool.and_eq_true, Bool.or_eq_true, beq_iff_eq] at h1
    obtain ⟨h1, h2⟩ := h1
    obtain ⟨v, hv⟩ := Option.isSome_iff_exists.mp h1
    have h3 : env.kindOf y ≠ some .local := fun q => by
      rcases h2 with h2 | h2
      · rw [(S.cell y h2).1] at q; cases q
      · rcases S.free y h2 with h4 | h4 <;> (rw [h4] at q; cases q)
    obtain ⟨c, r, hc, hcw, hr⟩ := L.cell y v hv h3
    exact ⟨v, c, r, hv, hc, hcw, hr⟩
  have hfc : ∀ y, (y, NameKind.free) ∈ scope.names → ∃ c, env.cells.lookup y = some c := fun y hy => let ⟨_, c, _, _, h, _⟩ := hcell y hy; ⟨c, h⟩
  have clLook : ∀ y c, (clOf env scope.names []).lookup y = some c → (y, NameKind.free) ∈ scope.names ∧ env.cells.lookup y = some c := fun y c h => by
    rcases clOf_lookup scope.names [] hfc h with h | h
    · cases h
    · exact h
  have hsz : (s.heap.push { cls := .type "dict", data := .dict #[] }).objs.size = s.heap.objs.size + 1 := Heap.size_push ..
  have hlt : ∀ y c, env.cells.lookup y = some c → c < s.heap.objs.size := fun y c h => let ⟨⟨_, hw⟩, _⟩ := L.cells y c h; hw.lt
  obtain ⟨sp1, sp2, sp3, sp4, sp5⟩ := cellsFrom_spec scope.names (s.heap.push { cls := .type "dict", data := .dict #[] }) (clOf env scope.names []) (fun y y' c h1 h2 => L.apart y y' c (clLook y c h1).2 (clLook y' c h2).2)
    (fun y c h => by rw [hsz]; exact Nat.lt_succ_of_lt (hlt y c (clLook y c h).2))
  rw [hsz] at sp1 sp2 sp3 sp4 sp5
  have kp : ∀ b o, s.heap.get? b = some o → (pushCells (s.heap.push { cls := .type "dict", data := .dict #[] }) scope.names).get? b = some o := fun b o e => pushCells_keeps _ _ b o (Heap.get?_push_of_some _ e)
  have tk : TupKeep s.heap (pushCells (s.heap.push { cls := .type "dict", data := .dict #[] }) scope.names) := fun b o e _ => kp b o e
  have fr : ∀ a, s.heap.objs.size ≤ a → G.h₀.get? a = none := fun a ha => size_le X (get_none_of_ge ha)
  have rl : ∀ y k, scope.names.lookup y = some k → (cEnv scope (clOf env scope.names []) s.heap.objs.size env).kindOf y = some k ∨ (k = .free ∧ (cEnv scope (clOf env scope.names []) s.heap.objs.size env).kindOf y = some .cell) := fun y k h => relabel_lookup h
  refine ⟨closureFor_is hfc, ⟨fun y h => ?_, fun y h => ?_, fun y h => ?_, fun y h => ?_⟩, ⟨hkind, L.glob, L.bins, ⟨fun _ => none, (Heap.Ns.new s.heap (.type "dict")).keeps (pushCells_keeps _ _), fun y v hy hk => ?_⟩, fun y v hy => ?_, fun y v hy hk => ?_, fun y c hp => ?_, sp1, fr _ (Nat.le_refl _)⟩, kp, fun a ha => ?_, fun a ha => ?_⟩
  · rcases rl y _ h with h | ⟨h, _⟩
    · exact h
    · cases h
  · rcases rl y _ h with h | ⟨h, _⟩
    · exact h
    · cases h
  · refine ⟨?_, sp3 y (mem_of_lookup h)⟩
    rcases rl y _ h with h | ⟨h, _⟩
    · exact h
    · cases h
  · rcases rl y _ h with h | ⟨_, h⟩
    · exact .inl h
    · exact .inr h
  · rcases rl y _ (locC_lookup hy).2 with h | ⟨_, h⟩ <;> (rw [h] at hk; cases hk)
  · rcases rl y _ (locC_lookup hy).2 with h | ⟨_, h⟩
    · exact .inr (.inr h)
    · exact .inr (.inl h)
  · obtain ⟨h1, h2⟩ := locC_lookup hy
    obtain ⟨v', c, r, e1, e2, e3, e4⟩ := hcell y (mem_of_lookup h2)
    rw [h1] at e1; cases e1
    have h3 := clOf_has (env := env) scope.names [] (.inl (mem_of_lookup h2))
    obtain ⟨c', hc'⟩ := Option.isSome_iff_exists.mp h3
    have h4 := (clLook y c' hc').2
    rw [e2] at h4; cases h4
    have h5 : (y, NameKind.cell) ∉ scope.names := fun hm => by rw [lookup_of_mem hnd' hm] at h2; cases h2
    exact ⟨c, r, (sp4 y h5).trans hc', e3.keeps kp, e4.mono (List.prefix_refl _) tk⟩
  · rcases sp2 y c hp with h | ⟨h1, h2, _⟩
    · obtain ⟨⟨v, hw⟩, h0⟩ := L.cells y c (clLook y c h).2
      exact ⟨⟨v, hw.keeps kp⟩, h0⟩
    · exact ⟨⟨_, h1⟩, fr _ (by (first | lia | omega))⟩
  · rcases mem_fpOf.mp ha with rfl | ⟨y, hy⟩
    · exact .inl (Nat.le_refl _)
    · rcases sp2 y a hy with h | ⟨_, h2, _⟩
      · exact .inr (mem_fpOf.mpr (.inr ⟨y, (clLook y a h).2⟩))
      · exact .inl (by (first | lia | omega))
  · rcases ha with ⟨_, rfl⟩ | ⟨_, ha⟩
    · exact Nat.le_refl _
    · rcases sp2 x a ha with h | ⟨_, h2, _⟩
      · have h1 := lookup_of_mem hnd' (clLook x a h).1
        rcases hx with hx | hx <;> (rw [h1] at hx; cases hx)
      · (first | lia | omega)
end
end Mine
end
section
open PySem PySem.Calls PyProof.Rows
set_option Elab.async false
set_option maxRecDepth 100000
namespace Mine
section
variable {G : GL} {d : Nat} {sc : List (Str × NameKind)} {loc loc' loc'' : Loc} {H H' H'' H''' : Lists}

theorem fresh_of_alive {fp α α' : List Addr} {s s' : Shared} (x : Ext fp α α' s s') {a : Addr} (h : s'.heap.get? a = none) : s.heap.get? a = none := by
  cases e : s.heap.get? a with
  | none => rfl
  | some o => obtain ⟨o', e'⟩ := x.alive a o e; rw [h] at e'; cases e'

theorem BIfs.run {ifs : List Expr} {b : Bool} (h : BIfs G d sc ifs loc H b H') {A : Around} {env : Env} {α : List Addr} {s : Shared} (R : Room d A) (S : Kinds sc env) (X : HRel G α H s) (L : LRel G env α loc s.heap) {Q : Bool → Shared → Prop} {E : Value → Shared → Prop}
    (hQ : ∀ s' α', Ext [] α α' s s' → HRel G α' H' s' → Q b s') :
    wpAny (model G.prog G.w) A (forIn ifs true fun c r => if r = true then do let ok ← isTrue c env (eval c env); pure (ForInStep.yield ok) else pure (ForInStep.yield r)) Q E s := by
  unfold BIfs at h
  split at h
  · obtain ⟨rfl, rfl⟩ := h
    rw [List.forIn_nil]
    exact wpAny_pure (hQ _ _ Ext.refl X)
  · rw [List.forIn_cons, if_pos rfl]
    refine wpAny_bind (wpAny_bind ((h A env α s R S X L).out _ _ fun r s1 α1 x1 X1 e => ?_))
    subst e
    refine wpAny_pure ?_
    dsimp only
    rw [List.forIn_nil]
    exact wpAny_pure (hQ _ _ x1 X1)
  · exact h.elim

theorem HRel.join {α : List Addr} {s : Shared} (X : HRel G α H s) {D : Addr} {l : List V} {items : List Value} (hD : D ∉ α) (h0 : G.h₀.get? D = none) (hl : s.heap.PlainList D items.toArray) (hv : VRs G α s.heap l items) :
    HRel G (α ++ [D]) (H ++ [l]) s ∧ VR G (α ++ [D]) s.heap (.ref H.length) (.ref D) := by
  refine ⟨⟨X.pos, X.keep, by simp [X.len], nodup_concat X.nd hD, fun a ha => ?_, fun i a k ha hk => ?_⟩, .ref (by rw [← X.len]; simp)⟩
  · rcases List.mem_append.mp ha with ha | ha
    · exact X.own a ha
    · rw [List.mem_singleton.mp ha]; exact h0
  · by_cases hi : i < α.length
    · rw [List.getElem?_append_left hi] at ha
      rw [List.getElem?_append_left (X.len ▸ hi)] at hk
      obtain ⟨it, hp, hr⟩ := X.lists i a k ha hk
      exact ⟨it, hp, hr.mono (List.prefix_append _ _) (TupKeep.refl _)⟩
    · have h1 : i = α.length := by
        have := (List.getElem?_eq_some_iff.mp ha).1
        simp at this; (first | lia | omega)
      subst h1
      simp at ha
      rw [X.len] at hk
      simp at hk
      subst ha hk
      exact ⟨items, hl, hv.mono (List.prefix_append _ _) (TupKeep.refl _)⟩

theorem comp_loop {elt iter : Expr} {x : Str} {px pos : Pos} {ifs : List Expr} {scope : Scope} {names : List (Str × NameKind)} {vs out : List V} {src : Lists → Prop} {A : Around} {cenv : Env} {α₀ α₁ : List Addr} {s₀ s₃ : Shared} {I D : Addr} {St : Nat → Heap → Prop} {RR : Result → Shared → Prop}
    (W : It G I vs src α₁ St) (R : Room d A) (S : Kinds names cenv) (hx : storable names x) (x₃ : Ext [] α₀ α₁ s₀ s₃) (X₃ : HRel G α₁ H' s₃) (L₃ : LRel G cenv α₁ loc s₃.heap) (st₃ : St 0 s₃.heap) (hp₃ : s₃.heap.PlainList D ([] : List Value).toArray)
    (hI : s₀.heap.get? I = none) (hI0 : G.h₀.get? I = none) (hIα : I ∉ α₁) (hIfp : I ∉ fpOf cenv) (hD : s₀.heap.get? D = none) (hD0 : G.h₀.get? D = none) (hDα : D ∉ α₁) (hDfp : D ∉ fpOf cenv) (hDI : D ≠ I)
    (hown : ∀ a, ((cenv.kindOf x = some .local ∧ a = cenv.locals) ∨ (cenv.kindOf x = some .cell ∧ cenv.cells.lookup x = some a)) → s₀.heap.get? a = none)
    (hr : CompR G d names x elt ifs src vs loc H' out H'') (hlen : out.length ≤ 1000000)
    (fin : ∀ s' α' loc' items, Ext [] α₀ α' s₀ s' → HRel G α' H'' s' → LRel G cenv α' loc' s'.heap → s'.heap.PlainList D items.toArray → VRs G α' s'.heap out items → D ∉ α' → RR (.ok .next) s') :
    codeAny (model G.prog G.w) A (.compLoop (.ListComp elt [⟨.Name x px, iter, ifs, 0⟩] scope pos) 0 (.ref I) (.ref D) cenv) RR s₃ := by
  refine codeAny_compLoop_tests (fun n s' => ∃ i α' loc' HI outD outR ys, α₁ <+: α' ∧ Ext [] α₀ α' s₀ s' ∧ HRel G α' HI s' ∧ LRel G cenv α' loc' s'.heap ∧ St i s'.heap ∧ I ∉ α' ∧ D ∉ α' ∧ s'.heap.PlainList D ys.toArray ∧ VRs G α' s'.heap outD ys ∧
      n = vs.length - i ∧ i ≤ vs.length ∧ out = outD ++ outR ∧ CompR G d names x elt ifs src (vs.drop i) loc' HI outR H'') (fun n s' hn => ?_) vs.length
    ⟨0, α₁, loc, H', [], out, [], List.prefix_refl _, x₃, X₃, L₃, st₃, hIα, hDα, hp₃, .nil, rfl, Nat.zero_le _, rfl, hr⟩
  obtain ⟨i, α', loc', HI, outD, outR, ys, hp, x', X', L', st', hIα', hDα', hpl, hys, rfl, hile, hout, hr'⟩ := hn
  by_cases hi' : i < vs.length
  · obtain ⟨v, hv⟩ : ∃ v, vs[i]? = some v := ⟨vs[i], List.getElem?_eq_getElem hi'⟩
    have hdrop : vs.drop i = v :: vs.drop (i + 1) := by
      rw [List.drop_eq_getElem_cons hi']
      congr 1
      rw [List.getElem?_eq_getElem hi'] at hv; exact Option.some.inj hv
    rw [hdrop] at hr'
    refine wpAny_toks (W.item A i v s' α' HI _ _ R.handled hv hp X' hr'.src st' fun r h' tk hvr st2 hk htk => ?_)
    have O : Own I s' { s' with heap := h', toks := tk } := ⟨⟨_, _, rfl⟩, hk, fun o e => W.soft _ _ _ st' e, htk⟩
    have X2 := O.hrel X' hIα' hI0
    have L2 := O.lrel L' hIfp
    have x2 := O.ext x' hI
    have v2 := hvr.mono (List.prefix_refl _) O.tups
    have hpl2 : h'.PlainList D ys.toArray := let ⟨n, e⟩ := hpl; ⟨n, hk _ _ hDI e⟩
    have hys2 : VRs G α' h' outD ys := hys.mono (List.prefix_refl _) O.tups
    obtain ⟨oI2, hoI2⟩ := W.live _ _ st2
    refine wpAny_assign_Name (store_name X2 L2 v2 (S.store hx) fun s3 a ha x3 X3 L3 v3 => ?_)
    have hafp : ∀ b ∈ [a], b ∈ fpOf cenv := store_fp ha
    have haI : I ∉ [a] := fun h => hIfp (hafp _ h)
    have haD : D ∉ [a] := fun h => hDfp (hafp _ h)
    have x3' : Ext [] α₀ α' s₀ s3 := ((x2.mono (fp' := [a]) (by simp)).trans x3).drop fun b hb => by rw [List.mem_singleton.mp hb]; exact hown a ha
    have st3 : St (i + 1) s3.heap := W.frame _ _ _ st2 fun o e => x3.keep I o e hIα' haI
    have hpl3 : s3.heap.PlainList D ys.toArray := let ⟨n, e⟩ := hpl2; ⟨n, x3.keep _ _ e hDα' haD⟩
    have hys3 : VRs G α' s3.heap outD ys := hys2.mono (List.prefix_refl _) (x3.tups X2 fun b hb => L2.notFrozen b (hafp b hb))
    cases hr' with
    | skip _ a c =>
      refine a.run R S X3 L3 fun s4 α4 x4 X4 => ?_
      rw [if_neg (by decide)]
      obtain ⟨oI3, hoI3⟩ := W.live _ _ st3
      obtain ⟨nD, hD3⟩ := id hpl3
      exact ⟨_, by (first | lia | omega), i + 1, α4, _, _, outD, outR, ys, hp.trans x4.pre, x3'.trans x4, X4, L3.ext X3 x4, W.frame _ _ _ st3 fun o e => x4.keep I o e hIα' (by simp), x4.notIn hoI3 hIα', x4.notIn hD3 hDα', ⟨nD, x4.keep _ _ hD3 hDα' (by simp)⟩,
        hys3.mono x4.pre (x4.tups0 X3), rfl, hi', hout, c⟩
    | @take _ r' _ outR' _ _ _ _ _ _ a b c =>
      refine a.run R S X3 L3 fun s4 α4 x4 X4 => ?_
      rw [if_pos rfl]
      refine (b A cenv α4 s4 R S X4 (L3.ext X3 x4)).out _ _ fun q s5 α5 x5 X5 v5 => ?_
      obtain ⟨oI3, hoI3⟩ := W.live _ _ st3
      obtain ⟨nD, hD3⟩ := id hpl3
      have x45 := x4.trans x5
      have nI5 : I ∉ α5 := x45.notIn hoI3 hIα'
      have nD5 : D ∉ α5 := x45.notIn hD3 hDα'
      have hD5 := x45.keep _ _ hD3 hDα' (by simp)
      have hys5 : VRs G α5 s5.heap outD ys := hys3.mono x45.pre (x45.tups0 X3)
      have L5 : LRel G cenv α5 _ s5.heap := L3.ext X3 x45
      have st5 : St (i + 1) s5.heap := W.frame _ _ _ st3 fun o e => x45.keep I o e hIα' (by simp)
      refine wpAny_list_append_plain ⟨nD, hD5⟩ (fun h6 hl6 hs6 => ?_) ?_
      · have O6 : Own D s5 { s5 with heap := h6 } := ⟨⟨_, _, rfl⟩, fun b o hb e => hs6.extBut b o hb e, fun o e => isList_not_frozen ⟨nD, hD5⟩ e, Nat.le_refl _⟩
        refine ⟨_, by (first | lia | omega), i + 1, α5, _, _, outD ++ [r'], outR', ys ++ [q], hp.trans x45.pre, O6.ext (x3'.trans x45) hD, O6.hrel X5 nD5 hD0, O6.lrel L5 hDfp, W.frame _ _ _ st5 fun o e => hs6.extBut I o (Ne.symm hDI) e, nI5, nD5, ?_, ?_, rfl, hi', ?_, c⟩
        · have e : (ys ++ [q]).toArray = ys.toArray.push q := by simp
          rw [e]; exact hl6
        · exact (hys5.append (.cons v5 .nil)).mono (List.prefix_refl _) O6.tups
        · rw [hout, List.append_assoc]; rfl
      · rw [List.size_toArray, hys5.length, sizeLine_eq]
        have : outD.length ≤ out.length := by rw [hout, List.length_append]; (first | lia | omega)
        (first | lia | omega)
  · have hil : i = vs.length := by (first | lia | omega)
    subst hil
    rw [List.drop_length] at hr'
    cases hr' with
    | nil hs' =>
      refine wpAny_toks (W.done A s' α' _ _ _ R.handled hp X' hs' st' fun h' tk hk htk => ?_)
      have O : Own I s' { s' with heap := h', toks := tk } := ⟨⟨_, _, rfl⟩, hk, fun o e => W.soft _ _ _ st' e, htk⟩
      rw [List.append_nil] at hout
      subst hout
      exact fin _ α' loc' ys (O.ext x' hI) (O.hrel X' hIα' hI0) (O.lrel L' hIfp) (let ⟨n, e⟩ := hpl; ⟨n, hk _ _ hDI e⟩) (hys.mono (List.prefix_refl _) O.tups) hDα'

theorem comp_core {elt iter : Expr} {x : Str} {px pos pos' : Pos} {ifs : List Expr} {scope : Scope} {vs out : List V} {src : Lists → Prop} {A : Around} {env : Env} {α : List Addr} {s : Shared} {use : Option (Value → Sem Unit)} {Q : Value → Shared → Prop} {E : Value → Shared → Prop}
    (hi : BIt G d sc iter loc H vs src H') (hr : CompR G d scope.names x elt ifs src vs (locC scope.names loc) H' out H'') (hnd : nodupB (scope.names.map (·.1)) = true) (hfree : freeOk sc loc scope.names = true) (hx : storable scope.names x)
    (hkind : scope.kind = .function) (hlen : out.length ≤ 1000000) (R : Room d A) (S : Kinds sc env) (X : HRel G α H s) (L : LRel G env α loc s.heap)
    (hs : ∀ v, foldedSetIterable iter env v = pure v)
    (fin : ∀ D C s' α', Ext [] α α' s s' → HRel G α' (H'' ++ [out]) s' → VR G α' s'.heap (.ref H''.length) (.ref D) → (∃ m, s'.heap.Ns C m) → s.heap.get? C = none → C ∉ α' → compPost (model G.prog G.w) A E use Q (.ref D) C (.ok .next) s') :
    wpAny (model G.prog G.w) A (comprehension (.ListComp elt [⟨.Name x px, iter, ifs, 0⟩] scope pos) scope env pos' (newList []) false (eval iter env) use) Q E s := by
  have hnd' := nodupB_is hnd
  refine wpAny_comprehension_free (use := use) rfl hs (compOk S X L hnd hfree hkind hx).clos hkind (fun p hp hl => lookup_of_mem hnd' (by rw [← hl]; exact hp)) ?_
  refine hi A env α s R S X L _ _ fun I St s1 α1 x1 X1 W st hI0 hIα hsrc => ?_
  obtain ⟨oI, hoI⟩ := W.live _ _ st
  refine wpAny_newObj_type ?_
  generalize hD : s1.heap.objs.size = D
  have hDfr : s1.heap.get? D = none := hD ▸ fresh_size _
  have hDo := Heap.get?_push_size (h := s1.heap) (o := { cls := .type "list", data := .seq ([] : List Value).toArray }) rfl
  rw [hD] at hDo
  have x2 : Ext [] α α1 s { s1 with heap := s1.heap.push { cls := .type "list", data := .seq ([] : List Value).toArray } } := x1.trans (Ext.keeps (push_keep _))
  have X2 := X1.keeps (push_keep { cls := .type "list", data := .seq ([] : List Value).toArray })
  have L2 := L.ext X x2
  generalize hs2 : ({ s1 with heap := s1.heap.push { cls := .type "list", data := .seq ([] : List Value).toArray } } : Shared) = s2 at x2 X2 L2
  have hD2 : s2.heap.get? D = some { cls := .type "list", data := .seq ([] : List Value).toArray } := by rw [← hs2]; exact hDo
  have hst2 : St 0 s2.heap := W.frame _ _ _ st fun o e => by rw [← hs2]; exact push_keep _ _ _ e
  have hsz2 : D < s2.heap.objs.size := Heap.lt_size hD2
  obtain ⟨oI2, hoI2⟩ := W.live _ _ hst2
  have hIsz : I < s2.heap.objs.size := Heap.lt_size hoI2
  have ok := compOk S X2 L2 hnd hfree hkind hx
  refine wpAny_newFunctionEnv_comp ?_
  have hDI : D ≠ I := fun q => by rw [q, hoI] at hDfr; cases hDfr
  have hDα : D ∉ α1 := fun h => by obtain ⟨it, k, e⟩ := X1.isList h; rw [hDfr] at e; cases e
  have hDs : s.heap.get? D = none := fresh_of_alive x1 hDfr
  have hD0 : G.h₀.get? D = none := size_le X hDs
  have hI0' : G.h₀.get? I = none := size_le X hI0
  have hCfr : ∀ a, s2.heap.objs.size ≤ a → s.heap.get? a = none := fun a ha => fresh_of_alive x2 (get_none_of_ge ha)
  have hIfp : I ∉ fpOf (cEnv scope (clOf env scope.names []) s2.heap.objs.size env) := fun h => by
    rcases ok.fp I h with h | h
    · exact absurd hIsz (Nat.not_lt.mpr h)
    · obtain ⟨o, e⟩ := L.livefp h; rw [hI0] at e; cases e
  have hDfp : D ∉ fpOf (cEnv scope (clOf env scope.names []) s2.heap.objs.size env) := fun h => by
    rcases ok.fp D h with h | h
    · exact absurd hsz2 (Nat.not_lt.mpr h)
    · obtain ⟨o, e⟩ := L.livefp h; rw [hDs] at e; cases e
  have kp3 := ok.keep
  have X3 : HRel G α1 H' { s2 with heap := pushCells (s2.heap.push { cls := .type "dict", data := .dict #[] }) scope.names } := X2.keeps kp3
  have x3 : Ext [] α α1 s { s2 with heap := pushCells (s2.heap.push { cls := .type "dict", data := .dict #[] }) scope.names } := x2.trans (Ext.keeps kp3)
  have L3 := ok.rel
  have st3 : St 0 (pushCells (s2.heap.push { cls := .type "dict", data := .dict #[] }) scope.names) := W.frame _ _ _ hst2 fun o e => kp3 _ _ e
  have hpl3 : (pushCells (s2.heap.push { cls := .type "dict", data := .dict #[] }) scope.names).PlainList D ([] : List Value).toArray := ⟨0, kp3 _ _ hD2⟩
  have S3 := ok.kinds
  have own3 := ok.own
  have loop : codeAny (model G.prog G.w) A (.compLoop (.ListComp elt [⟨.Name x px, iter, ifs, 0⟩] scope pos) 0 (.ref I) (.ref D) (cEnv scope (clOf env scope.names []) s2.heap.objs.size env))
      (compPost (model G.prog G.w) A E use Q (.ref D) s2.heap.objs.size) { s2 with heap := pushCells (s2.heap.push { cls := .type "dict", data := .dict #[] }) scope.names } := by
    refine comp_loop W R S3 hx x3 X3 L3 st3 hpl3 hI0 hI0' hIα hIfp hDs hD0 hDα hDfp hDI (fun a ha => hCfr a (own3 a ha)) hr hlen fun s' α' loc' items x' X' L' hpl hv hDn => ?_
    obtain ⟨XJ, VJ⟩ := X'.join hDn hD0 hpl hv
    refine fin D _ s' (α' ++ [D]) ⟨x'.same, x'.pre.trans (List.prefix_append _ _), fun a ha hn => ?_, x'.keep, x'.alive⟩ XJ VJ ?_ (hCfr _ (Nat.le_refl _)) (fun h => ?_)
    · rcases List.mem_append.mp ha with ha | ha
      · exact x'.new a ha hn
      · rw [List.mem_singleton.mp ha]; exact hDs
    · obtain ⟨m, hn, _⟩ := L'.ns; exact ⟨m, hn⟩
    · rcases List.mem_append.mp h with h | h
      · exact L'.notIn X' _ (mem_fpOf.mpr (.inl rfl)) h
      · exact hDfp (mem_fpOf.mpr (.inl (List.mem_singleton.mp h).symm))
  show codeAny _ A (.compStart _ 0 (.ref I) (.ref D) (cEnv scope (clOf env scope.names []) s2.heap.objs.size env)) (compPost (model G.prog G.w) A E use Q (.ref D) s2.heap.objs.size) _
  exact codeAny_compStart_list loop (W.self A 0 _ _ _ st3 loop)

theorem BE.comp {elt iter : Expr} {x : Str} {px pos : Pos} {ifs : List Expr} {scope : Scope} {vs out : List V} {src : Lists → Prop}
    (hi : BIt G d sc iter loc H vs src H') (hr : CompR G d scope.names x elt ifs src vs (locC scope.names loc) H' out H'') (hlen : out.length ≤ 1000000) (hx : storable scope.names x)
    (hnd : nodupB (scope.names.map (·.1)) = true := by decide +kernel) (hfree : freeOk sc loc scope.names = true := by decide +kernel)
    (hkind : scope.kind = .function := by rfl) (hs : ∀ env v, foldedSetIterable iter env v = pure v := by intro _ _; rfl) :
    BE G d sc (.ListComp elt [⟨.Name x px, iter, ifs, 0⟩] scope pos) loc H (.ref H''.length) (H'' ++ [out]) := by
  intro A env α s R S X L
  refine ⟨fun Q E hQ => ?_⟩
  rw [eval_ListComp]
  refine comp_core (use := Option.none) hi hr hnd hfree hx hkind hlen R S X L (hs env) fun D C s' α' x' X' v' hC hCs hCα => ?_
  obtain ⟨m, hn⟩ := hC
  refine ⟨m, hn, fun h' hs' => ?_⟩
  have O : Own C s' { s' with heap := h' } := ⟨⟨_, _, rfl⟩, fun b o hb e => hs'.extBut b o hb e, fun o e => ns_not_frozen hn e, Nat.le_refl _⟩
  exact hQ _ _ _ (O.ext x' hCs) (O.hrel X' hCα (size_le X hCs)) (v'.mono (List.prefix_refl _) O.tups)

theorem BS.assignUsed {elt iter : Expr} {x y : Str} {px py pos pos' : Pos} {ifs : List Expr} {scope : Scope} {vs out : List V} {src : Lists → Prop}
    (hi : BIt G d sc iter loc H vs src H') (hr : CompR G d scope.names x elt ifs src vs (locC scope.names loc) H' out H'') (hlen : out.length ≤ 1000000) (hx : storable scope.names x) (hy : sc.lookup y = some .local)
    (hsw : ∀ env, env.scope.kind = .function → env.kindOf y = some .local → swapsWith (.ListComp elt [⟨.Name x px, iter, ifs, 0⟩] scope pos) (some (.Name y py)) pos'.line env = pure true)
    (hnd : nodupB (scope.names.map (·.1)) = true := by decide +kernel) (hfree : freeOk sc loc scope.names = true := by decide +kernel)
    (hkind : scope.kind = .function := by rfl) (hs : ∀ env v, foldedSetIterable iter env v = pure v := by intro _ _; rfl) :
    BS G d sc (.Assign [.Name y py] (.ListComp elt [⟨.Name x px, iter, ifs, 0⟩] scope pos) pos') loc H .next (setL loc y (.ref H''.length)) (H'' ++ [out]) := by
  intro A env α s R S X L
  refine ⟨fun Q E hQ => ?_⟩
  rw [exec_Assign_Name_used _ _ _ _ (hsw env L.kind (S.loc y hy))]
  refine wpAny_bind (wpAny_standAt (wpAny_bind ?_))
  show wpAny _ _ (do let _ ← comprehension (.ListComp elt [⟨.Name x px, iter, ifs, 0⟩] scope pos) scope env _ (newList []) false (eval iter env) (some (PySem.assign (.Name y py) env))) _ _ s
  refine wpAny_bind (wpAny_mono (comp_core (use := some (PySem.assign (.Name y py) env)) (Q := fun _ s' => Q .next s') hi hr hnd hfree hx hkind hlen R S X L (hs env) fun D C s' α' x' X' v' hC hCs hCα => ?_) (fun _ s' hq => wpAny_pure (wpAny_pure hq)) fun _ _ e => e)
  obtain ⟨m, hn⟩ := hC
  show wpAny _ A (PySem.assign (.Name y py) env (.ref D)) _ _ _
  refine wpAny_assign_Name (store_name X' (L.ext X x') v' (S.store (.inl hy)) fun s2 a ha x2 X2 L2 v2 => ?_)
  have hfa : a ∈ fpOf env := store_fp ha a (List.mem_singleton.mpr rfl)
  have hCa : C ≠ a := fun q => by
    subst q
    obtain ⟨o, e⟩ := L.livefp hfa
    rw [hCs] at e; cases e
  have hn2 : s2.heap.Ns C m := hn.at' fun o e => x2.keep C o e hCα (by simpa using hCa)
  refine ⟨m, hn2, fun h' hs' => ?_⟩
  have O : Own C s2 { s2 with heap := h' } := ⟨⟨_, _, rfl⟩, fun b o hb e => hs'.extBut b o hb e, fun o e => ns_not_frozen hn2 e, Nat.le_refl _⟩
  exact hQ _ _ _ (O.ext ((x'.mono (by simp)).trans (x2.mono (store_fp ha))) hCs) (O.hrel X2 hCα (size_le X hCs)) (O.lrel L2 fun h => by obtain ⟨o, e⟩ := L.livefp h; rw [hCs] at e; cases e) .next
end
end Mine
end
section
open PySem PySem.Calls PyProof.Rows
set_option Elab.async false
set_option maxRecDepth 100000
namespace Mine
section
variable {G : GL} {d : Nat} {sc : List (Str × NameKind)} {loc loc' loc'' : Loc} {H H' H'' H''' : Lists}

/-! builtins -/
theorem VRs.one {α : List Addr} {h : Heap} {v : V} {rs : List Value} (x : VRs G α h [v] rs) : ∃ r, rs = [r] ∧ VR G α h v r := by
  cases x with | cons a b => cases b; exact ⟨_, rfl, a⟩
theorem VRs.two {α : List Addr} {h : Heap} {v u : V} {rs : List Value} (x : VRs G α h [v, u] rs) : ∃ r q, rs = [r, q] ∧ VR G α h v r ∧ VR G α h u q := by
  cases x with | cons a b => obtain ⟨q, rfl, c⟩ := b.one; exact ⟨_, _, rfl, a, c⟩
theorem VRs.three {α : List Addr} {h : Heap} {v u w : V} {rs : List Value} (x : VRs G α h [v, u, w] rs) : ∃ r q p, rs = [r, q, p] ∧ VR G α h v r ∧ VR G α h u q ∧ VR G α h w p := by
  cases x with | cons a b => obtain ⟨q, p, rfl, c⟩ := b.two; exact ⟨_, _, _, rfl, a, c⟩

theorem bc_len_list {i : Nat} {l : List V} (hl : H[i]? = some l) (hn : l.length ≤ 1000000) : BC G (d + 1) (.builtin "len") [.ref i] H (.int l.length) H := by
  intro A α s rs R X hv
  refine ⟨fun Q E hQ => ?_⟩
  obtain ⟨r, rfl, hx⟩ := hv.one
  cases hx with
  | ref e =>
    obtain ⟨items, hp, hr⟩ := X.lists _ _ _ e hl
    refine call_len_list hp.isList (by rw [List.size_toArray, hr.length]; (first | lia | omega)) ?_
    rw [List.size_toArray, hr.length]
    exact hQ _ _ _ Ext.tok X.tk.tk (.int _ _)
theorem bc_len_str {x : Str} (hn : x.length ≤ 1000000) : BC G (d + 1) (.builtin "len") [.str x] H (.int x.length) H := by
  intro A α s rs R X hv
  refine ⟨fun Q E hQ => ?_⟩
  obtain ⟨r, rfl, hx⟩ := hv.one
  cases hx
  exact P.len_str (by (first | lia | omega)) (hQ _ _ _ Ext.tok X.tk.tk (.int _ _))
theorem ints_len : ∀ {vs : List Value} {ns : List Int}, IntsAre vs ns → vs.length = ns.length
  | _, _, .nil => rfl
  | _, _, .cons _ _ h => by rw [List.length_cons, List.length_cons, ints_len h]
theorem ints_get : ∀ {vs : List Value} {ns : List Int}, IntsAre vs ns → ∀ {i : Nat} {n : Int}, ns[i]? = some n → ∃ t, vs[i]? = some (.int n t)
  | _, _, .nil, i, n, h => by simp at h
  | _, _, .cons m t h, 0, n, e => by simp at e; subst e; exact ⟨t, by simp⟩
  | _, _, .cons m t h, i + 1, n, e => by simp at e; obtain ⟨u, hu⟩ := ints_get h e; exact ⟨u, by simpa using hu⟩
theorem plain_keeps {h h' : Heap} {a : Addr} {l : Array Value} (x : h.PlainList a l) (k : ∀ b o, h.get? b = some o → h'.get? b = some o) : h'.PlainList a l := let ⟨n, e⟩ := x; ⟨n, k _ _ e⟩
theorem bc_len_scr (K : GOk G) (hn : G.script.length ≤ 1000000) : BC G (d + 1) (.builtin "len") [.scr] H (.int G.script.length) H := by
  intro A α s rs R X hv
  refine ⟨fun Q E hQ => ?_⟩
  obtain ⟨r, rfl, hx⟩ := hv.one
  cases hx
  obtain ⟨items, hp, hi⟩ := K.scr
  have hl := ints_len hi
  rw [Array.length_toList] at hl
  refine call_len_list (plain_keeps hp X.keep).isList (by rw [hl]; (first | lia | omega)) ?_
  rw [hl]
  exact hQ _ _ _ Ext.tok X.tk.tk (.int _ _)
theorem item_scr2 (K : GOk G) {k : Int} {v : Int} (h0 : 0 ≤ k) (hk : k < 2 ^ 63) (hv : G.script[k.toNat]? = some v) : Act2 G getItem .scr (.int k) H (.int v) H := by
  intro A α s ra rb _ X va vb
  refine ⟨fun Q E hQ => ?_⟩
  cases va; cases vb
  obtain ⟨items, hp, hi⟩ := K.scr
  obtain ⟨t, e⟩ := ints_get hi hv
  exact wpAny_getItem_list (plain_keeps hp X.keep).isList h0 hk (by simpa using e) (hQ _ _ _ Ext.refl X (.int _ _))
theorem bc_ord {c : Nat} : BC G (d + 1) (.builtin "ord") [.str ⟨#[c]⟩] H (.int c) H := by
  intro A α s rs R X hv
  refine ⟨fun Q E hQ => ?_⟩
  obtain ⟨r, rfl, hx⟩ := hv.one
  cases hx
  exact P.ord_of_char (hQ _ _ _ Ext.tok X.tk (.int _ _))
theorem bc_chr {i : Int} (h0 : 0 ≤ i) (h1 : i ≤ 1114111) : BC G (d + 1) (.builtin "chr") [.int i] H (.str ⟨#[i.toNat]⟩) H := by
  intro A α s rs R X hv
  refine ⟨fun Q E hQ => ?_⟩
  obtain ⟨r, rfl, hx⟩ := hv.one
  cases hx
  exact chr_of_range h0 h1 (hQ _ _ _ Ext.tok X.tk (.str _ _))
theorem bc_min {a b : Int} : BC G (d + 1) (.builtin "min") [.int a, .int b] H (.int (min a b)) H := by
  intro A α s rs R X hv
  refine ⟨fun Q E hQ => ?_⟩
  obtain ⟨r, q, rfl, hx, hu⟩ := hv.two
  cases hx; cases hu
  refine wpAny_toks (min_two_ints R.handled fun h' tk hk htk => ?_)
  have X1 : HRel G α H { s with heap := h', toks := tk } := (X.keeps hk).tok (Nat.le_trans X.pos htk)
  split
  · rename_i h
    have e : min a b = b := by (first | lia | omega)
    rw [e] at hQ; exact hQ _ _ _ (Ext.keeps hk) X1 (.int _ _)
  · rename_i h
    have e : min a b = a := by (first | lia | omega)
    rw [e] at hQ; exact hQ _ _ _ (Ext.keeps hk) X1 (.int _ _)
noncomputable def tyOf : V → Option String
  | .none => some "NoneType"
  | .bool _ => some "bool"
  | .int _ => some "int"
  | .str _ => some "str"
  | .tup _ => some "tuple"
  | .ref _ => some "list"
  | _ => Option.none
theorem tyOf_is {α : List Addr} {s : Shared} (X : HRel G α H s) {v : V} {T : String} (hv : tyOf v = some T) {r : Value} (h : VR G α s.heap v r) : s.TypeIs r T := by
  cases h <;> simp only [tyOf] at hv <;> cases hv
  case none => exact typeIs_none s
  case bool => exact PySem.typeIs_bool s _
  case int => exact typeIs_int s _ _
  case str x t => exact typeIs_str s x t
  case tup e _ => obtain ⟨n, e⟩ := e; exact ⟨_, e, rfl⟩
  case ref e => obtain ⟨items, n, e'⟩ := X.isList (List.mem_of_getElem? e); exact ⟨_, e', rfl⟩
theorem bc_type {v : V} {T : String} (hT : tyOf v = some T) : BC G (d + 1) (.type "type") [v] H (.ty T) H := by
  intro A α s rs R X hv
  refine ⟨fun Q E hQ => ?_⟩
  obtain ⟨r, rfl, hx⟩ := hv.one
  refine call_type_of (tyOf_is X hT hx) ?_ (hQ _ _ _ Ext.refl X (.ty _))
  cases v <;> simp only [tyOf] at hT <;> cases hT <;> decide

/-! texts -/
theorem bc_lower {x : Str} (hf : (Txt.lower x).length ≤ 1000000) : BC G (d + 1) (.builtin "str.lower") [.str x] H (.str (Txt.lower x)) H := by
  intro A α s rs R X hv
  refine ⟨fun Q E hQ => ?_⟩
  obtain ⟨r, rfl, hx⟩ := hv.one
  cases hx
  exact SC.lower (by unfold Builtin.Str.tooLong sizeLine; exact decide_eq_false (by (first | lia | omega))) (hQ _ _ _ Ext.tok X.tk (.str _ _))
theorem strs_are {α : List Addr} {h : Heap} : ∀ {ys : List Str} {rs : List Value}, VRs G α h (ys.map .str) rs → StrsAre rs ys
  | [], _, x => by cases x; exact .nil
  | y :: ys, _, x => by
    cases x with
    | cons a b => cases a; exact .cons _ _ (strs_are b)
theorem bc_join {sep : Str} {i : Nat} {ys : List Str} (hl : H[i]? = some (ys.map .str)) (hs : sep.length ≤ 16) (hw : (ys.map (·.length)).sum + ys.length ≤ 1000000) : BC G (d + 1) (.builtin "str.join") [.str sep, .ref i] H (.str (Txt.join sep ys)) H := by
  intro A α s rs R X hv
  refine ⟨fun Q E hQ => ?_⟩
  obtain ⟨r, q, rfl, hx, hu⟩ := hv.two
  cases hx
  cases hu with
  | ref e =>
    obtain ⟨items, hp, hr⟩ := X.lists _ _ _ e hl
    refine wpAny_toks (join_listW hp.isList (by simpa using strs_are hr) hs (by (first | lia | omega)) fun t' k htk => ?_)
    exact hQ _ _ _ Ext.tok (X.tok (Nat.le_trans X.pos htk)) (.str _ _)
/-! tables -/
theorem flat_str {v : Value} {x : Str} (h : PyProof.V.Flat v (.str x)) : ∃ t, v = .str x t := by have h' := h {}; cases h'; exact ⟨_, rfl⟩
theorem flat_none {v : Value} (h : PyProof.V.Flat v .none) : v = .none := by have h' := h {}; cases h'; rfl
noncomputable def b3get (D : List (PyData × PyData)) (k : Int) : Option V := match (PySem.Spec.lookup (.int k) D) with
  | some (.str x) => some (V.str x)
  | none => some V.none
  | _ => none
theorem in_b1 (K : GOk G) {k : Int} : Act2 G (compareOp .In) (.int k) .b1 H (.bool (G.b1S k)) H := by
  intro A α s ra rb _ X va vb
  refine ⟨fun Q E hQ => ?_⟩
  cases va; cases vb
  obtain ⟨n, hS⟩ := K.b1
  obtain ⟨o, ho, hso⟩ := hS.objOf
  have hb : n < scanBound := by
    have hS' := hS
    obtain ⟨_, _, _, _, _, _, _, _, _, hb, _, hn⟩ := hS'
    (first | lia | omega)
  exact wpAny_inSet_of (intKind_is _ _ _ _) rfl (hso.setOf (X.keep _ _ ho) hb) (hQ _ _ _ Ext.tok X.tk (.bool _))
end
end Mine
end
section
open PySem PySem.Calls PyProof.Rows
set_option Elab.async false
set_option maxRecDepth 100000
namespace Mine
section
variable {G : GL} {d : Nat} {sc : List (Str × NameKind)} {loc loc' loc'' : Loc} {H H' H'' H''' : Lists}

/-! lists in place -/
theorem setItem_plain {prog : Program} {w : World} {A : Around} {E : Value → Shared → Prop} {s : Shared} {l : Addr} {items : Array Value} {k : Int} {t : Tok} {v : Value} {Q : Unit → Shared → Prop} (hl : s.heap.PlainList l items) (h0 : 0 ≤ k) (hk : k < items.size) (hfit : k < 2 ^ 63)
    (hQ : ∀ h', h'.PlainList l (items.setIfInBounds k.toNat v) → Heap.SameBut l s.heap h' → Q () { s with heap := h' }) : wpAny (model prog w) A (setItem (.ref l) (.int k t) v) Q E s := by
  obtain ⟨n, ho⟩ := hl
  have hT : s.TypeIs (.ref l) "list" := ⟨_, ho, rfl⟩
  unfold setItem
  try with_reducible refine wpAny_holding ?_
  first
    | refine wpAny_bind (wpAny_pure ?_)
    | skip
  refine wpAny_bind (wpAny_sequenceKey hT (by decide) ?_)
  refine wpAny_bind (wpAny_callSpecial?_slot (name := Str.ofString "__setitem__") hT slot_list_setitem (wpAny_call_entry slot_list_setitem hT entry_list_setitem ?_ (args_list_setitem _ _ _)))
  show wpAny _ _ (Builtin.List.listSubscript? (.int k t) >>= _) _ _ s
  refine wpAny_bind (wpAny_listSubscript_int (fitsIndex_of h0 hfit) ?_)
  clear hfit
  obtain ⟨j, rfl⟩ := Int.eq_ofNat_of_zero_le h0
  have hj : j < items.size := by (first | lia | omega)
  show wpAny _ _ ((seqItemAt l j >>= fun r => pure (r.map (j, ·))) >>= _) _ _ s
  refine wpAny_bind (wpAny_bind (wpAny_seqItemAt ho rfl (wpAny_pure ?_)))
  rw [show items[j]? = some items[j] from Array.getElem?_eq_getElem hj]
  show wpAny _ _ (setSeqItemAt l j v >>= _) _ _ s
  refine wpAny_bind (wpAny_setSeqItemAt ho rfl ?_)
  have fin : Q () { s with heap := s.heap.update l (Obj.mapSeq (·.setIfInBounds j v)) } := hQ _ ⟨_, IsL.update (n := n) ho _⟩ (Heap.SameBut.update ..)
  first
    | exact wpAny_bind (wpAny_pure (wpAny_pure ⟨.none, rfl, wpAny_pure fin⟩))
    | exact wpAny_pure ⟨.none, rfl, wpAny_pure fin⟩

/-- an act that gives nothing back -/
noncomputable def ActU (G : GL) (m : List Value → Sem Unit) (vs : List V) (H H' : Lists) : Prop :=
  ∀ (A : Around) (α : List Addr) (s : Shared) (rs : List Value), Room 1 A → HRel G α H s → VRs G α s.heap vs rs →
    ∀ (Q : Unit → Shared → Prop) (E : Value → Shared → Prop), (∀ s' α', Ext [] α α' s s' → HRel G α' H' s' → Q () s') → wpAny (model G.prog G.w) A (m rs) Q E s

noncomputable def setItemOf : List Value → Sem Unit
  | [o, i, v] => setItem o i v
  | _ => pure ()
noncomputable def delItemOf : List Value → Sem Unit
  | [o, i] => delItem o i
  | _ => pure ()
theorem setArr {items : List Value} {j : Nat} {v : Value} : items.toArray.setIfInBounds j v = (items.set j v).toArray := by
  apply Array.ext'; simp
theorem act_setItem {i : Nat} {l : List V} {k : Int} {v : V} (hl : H[i]? = some l) (h0 : 0 ≤ k) (hk : k.toNat < l.length) (hn : l.length ≤ 1000000) : ActU G setItemOf [.ref i, .int k, v] H (H.set i (l.set k.toNat v)) := by
  intro A α s rs R X hv
  intro Q E hQ
  obtain ⟨r, q, p, rfl, h1, h2, h3⟩ := hv.three
  cases h1 with
  | ref e =>
    cases h2
    obtain ⟨items, hp, hr⟩ := X.lists _ _ _ e hl
    obtain ⟨j, rfl⟩ := Int.eq_ofNat_of_zero_le h0
    have hlen := hr.length
    have hj : j < l.length := by simpa using hk
    refine setItem_plain hp h0 (by rw [List.size_toArray, hlen]; (first | lia | omega)) (by (first | lia | omega)) fun h' hl' hs' => ?_
    rw [setArr] at hl'
    obtain ⟨X', x'⟩ := X.setList e hs' hl' (hr.set j h3)
    exact hQ _ _ x' X'
theorem act_delItem {i : Nat} {l : List V} {k : Int} {j : Nat} (hl : H[i]? = some l) (hk : seqIndex? k l.length = some j) (hk1 : -(2 ^ 62) ≤ k) (hk2 : k < 2 ^ 62) (hn : l.length ≤ 1000000) : ActU G delItemOf [.ref i, .int k] H (H.set i (l.eraseIdx j)) := by
  intro A α s rs R X hv
  intro Q E hQ
  obtain ⟨r, q, rfl, h1, h2⟩ := hv.two
  cases h1 with
  | ref e =>
    cases h2
    obtain ⟨items, hp, hr⟩ := X.lists _ _ _ e hl
    have hlen := hr.length
    refine wpAny_delItem_plain hp (by unfold Builtin.List.listFitsIndex; simp; (first | lia | omega)) (by rw [List.size_toArray, hlen]; exact hk) (fun h' hl' hs' => ?_) (by rw [List.size_toArray, hlen, sizeLine_eq]; (first | lia | omega))
    have e1 : items.toArray.eraseIdxIfInBounds j = (items.eraseIdx j).toArray := by
      apply Array.ext'; simp
    rw [e1] at hl'
    obtain ⟨X', x'⟩ := X.setList e hs' hl' (hr.eraseIdx j)
    exact hQ _ _ x' X'
theorem bc_append {i : Nat} {l : List V} {v : V} (hl : H[i]? = some l) (hn : l.length ≤ 1000000) : BC G (d + 1) (.builtin "list.append") [.ref i, v] H .none (H.set i (l ++ [v])) := by
  intro A α s rs R X hv
  refine ⟨fun Q E hQ => ?_⟩
  obtain ⟨r, q, rfl, h1, h2⟩ := hv.two
  cases h1 with
  | ref e =>
    obtain ⟨items, hp, hr⟩ := X.lists _ _ _ e hl
    refine wpAny_list_append_plain hp (fun h' hl' hs' => ?_) (by rw [List.size_toArray, hr.length, sizeLine_eq]; (first | lia | omega))
    have e1 : items.toArray.push q = (items ++ [q]).toArray := by simp
    rw [e1] at hl'
    obtain ⟨X', x'⟩ := X.setList e hs' hl' (hr.append (.cons h2 .nil))
    exact hQ _ _ _ x' X' .none

/-! statements -/
theorem BS.exprNone {e : Expr} {p : Pos} (h : BE G d sc e loc H .none H') (hi : ∀ env, env.scope.kind = .function → interactive env = false := by intro env h; (unfold interactive; rw [h]; rfl))
    (hs : ∀ env, swapsWith e Option.none p.line env = pure false := by intro _; rfl) : BS G d sc (.Expr e p) loc H .next loc H' := by
  intro A env α s R S X L
  refine ⟨fun Q E hQ => ?_⟩
  refine wpAny_Expr ((h A env α s R S X L).out _ _ fun r s1 α1 x1 X1 v1 => ?_) (hi env L.kind) (hs env)
  cases v1
  exact hQ _ _ _ (x1.mono (by simp)) X1 (L.ext X x1) .next

theorem BS.setItem {o i value : Expr} {p p' : Pos} {ov iv v : V} {H4 : Lists} (h1 : BE G (d + 1) sc value loc H v H') (h2 : BE G (d + 1) sc o loc H' ov H'') (h3 : BE G (d + 1) sc i loc H'' iv H''') (h4 : ActU G setItemOf [ov, iv, v] H''' H4)
    (hs : ∀ env, swapsWith value (some (.Subscript o i p')) p.line env = pure false := by intro _; rfl) : BS G (d + 1) sc (.Assign [.Subscript o i p'] value p) loc H .next loc H4 := by
  intro A env α s R S X L
  refine ⟨fun Q E hQ => ?_⟩
  refine wpAny_Assign_Subscript ((h1 A env α s R S X L).out _ _ fun r1 s1 α1 x1 X1 v1 => ?_) (hs env)
  refine (h2 A env α1 s1 R S X1 (L.ext X x1)).out _ _ fun r2 s2 α2 x2 X2 v2 => ?_
  refine (h3 A env α2 s2 R S X2 ((L.ext X x1).ext X1 x2)).out _ _ fun r3 s3 α3 x3 X3 v3 => ?_
  have x23 := x2.trans x3
  refine h4 A α3 s3 [r2, r3, r1] R.one X3 (.cons (v2.mono x3.pre (x3.tups0 X2)) (.cons v3 (.cons (v1.mono x23.pre (x23.tups0 X1)) .nil))) _ _ fun s4 α4 x4 X4 => ?_
  exact hQ _ _ _ (((x1.trans x23).trans x4).mono (by simp)) X4 (L.ext X ((x1.trans x23).trans x4)) .next
theorem BS.aug {x : Str} {p p' : Pos} {op : Operator} {value : Expr} {a b v : V} (hx : loc.lookup x = some a) (h : BE G (d + 1) sc value loc H b H') (h3 : Act2 G (inplaceOp op) a b H' v H'') (hs : storable sc x) : BS G (d + 1) sc (.AugAssign (.Name x p') op value p) loc H .next (setL loc x v) H'' := by
  intro A env α s R S X L
  refine ⟨fun Q E hQ => ?_⟩
  have ld : ∀ (K : Value → Shared → Prop), (∀ r, VR G α s.heap a r → K r s) → wpAny (model G.prog G.w) A (loadName env x) K E s := fun K hK => by
    by_cases hk : env.kindOf x = some .local
    · obtain ⟨m, hn, hm⟩ := L.ns
      obtain ⟨r, e, hr⟩ := hm x a hx hk
      exact wpAny_loadName_local L.kind hk hn e (hK _ hr)
    · obtain ⟨c, r, hcl, hcell, hr⟩ := L.cell x a hx hk
      rcases S.store hs with h | ⟨h, _⟩
      · exact absurd h hk
      · exact wpAny_loadName_cell L.kind h hcl hcell (hK _ hr)
  refine wpAny_AugAssign_Name (ld _ fun r1 v1 => ?_)
  refine (h A env α s R S X L).out _ _ fun r2 s2 α2 x2 X2 v2 => ?_
  refine (h3 A α2 s2 r1 r2 R.one X2 (v1.mono x2.pre (x2.tups0 X)) v2).out _ _ fun r3 s3 α3 x3 X3 v3 => ?_
  have x23 := x2.trans x3
  exact store_name X3 (L.ext X x23) v3 (S.store hs) fun s4 a ha x4 X4 L4 _ => hQ _ _ _ ((x23.mono (by simp)).trans (x4.mono (store_fp ha))) X4 L4 .next
theorem iadd_int2 {a b : Int} : Act2 G (inplaceOp .Add) (.int a) (.int b) H (.int (a + b)) H := by
  intro A α s ra rb _ X va vb
  refine ⟨fun Q E hQ => ?_⟩
  cases va; cases vb
  exact wpAny_iadd_int (hQ _ _ _ Ext.tok X.tk (.int _ _))
theorem isub_int2 {a b : Int} : Act2 G (inplaceOp .Sub) (.int a) (.int b) H (.int (a - b)) H := by
  intro A α s ra rb _ X va vb
  refine ⟨fun Q E hQ => ?_⟩
  cases va; cases vb
  exact P.isub_int (hQ _ _ _ Ext.tok X.tk (.int _ _))

/-! several targets -/
theorem BS.assign2 {t₁ t₂ value : Expr} {p : Pos} {v : V} {loc1 loc2 : Loc} {H1 H2 : Lists} (h : BE G d sc value loc H v H') (h1 : BB G d sc t₁ v loc H' loc1 H1) (h2 : BB G d sc t₂ v loc1 H1 loc2 H2) (hv : ∀ α h h' r, VR G α h v r → VR G α h' v r)
    (he : ∀ env, (assignEach [t₁, t₂] env).map (·.2) = [PySem.assign t₁ env, PySem.assign t₂ env] := by intro _; rfl)
    (hw : ∀ env, swappedStores [t₁, t₂] value env = pure Option.none := by intro _; rfl) : BS G d sc (.Assign [t₁, t₂] value p) loc H .next loc2 H2 := by
  intro A env α s R S X L
  refine ⟨fun Q E hQ => ?_⟩
  refine wpAny_Assign_two ((h A env α s R S X L).out _ _ fun r s1 α1 x1 X1 v1 => ?_) (he env) (hw env)
  refine (h1 A env α1 s1 r R S X1 (L.ext X x1) v1).out _ _ fun _ s2 α2 x2 X2 L2 _ => ?_
  refine (h2 A env α2 s2 r R S X2 L2 (hv _ _ _ _ (v1.mono x2.pre (TupKeep.refl _)))).out _ _ fun _ s3 α3 x3 X3 L3 _ => ?_
  exact hQ _ _ _ (((x1.mono (by simp)).trans x2).trans x3) X3 L3 .next

/-- stores in turn -/
noncomputable def BBs (G : GL) (d : Nat) (sc : List (Str × NameKind)) (ts : List Expr) (vs : List V) (loc : Loc) (H : Lists) (loc' : Loc) (H' : Lists) : Prop :=
  ∀ (A : Around) (env : Env) (α : List Addr) (s : Shared) (rs : List Value), Room d A → Kinds sc env → HRel G α H s → LRel G env α loc s.heap → VRs G α s.heap vs rs →
    DoesF G (fpOf env) env (assignInOrder ((assignEach ts env).map (·.2)) rs) α H' loc' (fun _ _ _ => True) A s
theorem BBs.nil : BBs G d sc [] [] loc H loc H := by
  intro A env α s rs R S X L hv
  refine ⟨fun Q E hQ => ?_⟩
  cases hv
  exact wpAny_pure (hQ _ _ _ Ext.refl X L trivial)
theorem BBs.name {x : Str} {p : Pos} {ts : List Expr} {v : V} {vs : List V} (hx : storable sc x) (h : BBs G d sc ts vs (setL loc x v) H loc' H') : BBs G d sc (.Name x p :: ts) (v :: vs) loc H loc' H' := by
  intro A env α s rs R S X L hv
  refine ⟨fun Q E hQ => ?_⟩
  cases hv with
  | cons v1 vl =>
    show wpAny _ A (do holding _ (PySem.assign (.Name x p) env _); assignInOrder ((assignEach ts env).map (·.2)) _) Q E s
    refine wpAny_bind (wpAny_holding (wpAny_assign_Name (store_name X L v1 (S.store hx) fun s2 a ha x2 X2 L2 _ => ?_)))
    have hafp := store_fp ha
    refine (h A env α s2 _ R S X2 L2 (vl.mono (List.prefix_refl _) (x2.tups X fun b hb => L.notFrozen b (hafp b hb)))).out _ _ fun _ s3 α3 x3 X3 L3 _ => ?_
    exact hQ _ _ _ ((x2.mono hafp).trans x3) X3 L3 trivial
theorem assignEach_len : ∀ (ts : List Expr) (env : Env), (assignEach ts env).length = ts.length
  | [], _ => rfl
  | t :: ts, env => by
    have ih := assignEach_len ts env
    cases t <;> simp [assignEach, ih]
theorem BB.tuple {ts : List Expr} {k : Nat} {p : Pos} {vs : List V} (h : BBs G d sc ts vs loc H loc' H') (hn : ts.length = vs.length := by rfl) (hstar : ∀ env, (assignEach ts env).findIdx? (·.1) = Option.none := by intro _; rfl) :
    BB G d sc (.Tuple ts k p) (.tup vs) loc H loc' H' := by
  intro A env α s r R S X L hv
  refine ⟨fun Q E hQ => ?_⟩
  cases hv with
  | tup e hl =>
    rename_i a items
    obtain ⟨n, e⟩ := e
    refine wpAny_assign_Tuple (items := items.toArray) R.handled ⟨_, e, rfl, n, rfl⟩ (by rw [assignEach_len, List.size_toArray, hl.length]; exact hn) (hstar env) fun h' he' => ?_
    have hk : ∀ b o, s.heap.get? b = some o → h'.get? b = some o := fun b o e => he' b o (Nat.ne_of_lt (Heap.lt_size e)) e
    have x1 : Ext [] α α s { s with heap := h' } := Ext.keeps hk
    refine (h A env α { s with heap := h' } items R S (X.keeps hk) (L.ext X x1) (hl.mono (List.prefix_refl _) (x1.tups0 X))).out _ _ fun _ s3 α3 x3 X3 L3 _ => ?_
    exact hQ _ _ _ ((x1.mono (by simp)).trans x3) X3 L3 trivial
theorem BS.assignTuple {ts : List Expr} {k : Nat} {p p' : Pos} {value : Expr} {v : V} (h : BE G d sc value loc H v H') (hb : BB G d sc (.Tuple ts k p') v loc H' loc' H'')
    (hs : ∀ env, swapsWithSole [.Tuple ts k p'] value p.line env = pure false := by intro _; rfl)
    (hw : ∀ env, env.scope.kind = .function → Kinds sc env → swappedStores [.Tuple ts k p'] value env = pure Option.none := by intro _ _ _; rfl) :
    BS G d sc (.Assign [.Tuple ts k p'] value p) loc H .next loc' H'' := by
  intro A env α s R S X L
  refine ⟨fun Q E hQ => ?_⟩
  refine wpAny_Assign_stores ((h A env α s R S X L).out _ _ fun r s1 α1 x1 X1 v1 => ?_) (hs env) (hw env L.kind S)
  show wpAny _ A (PySem.assign (.Tuple ts k p') env r) _ _ _
  exact (hb A env α1 s1 r R S X1 (L.ext X x1) v1).out _ _ fun _ s2 α2 x2 X2 L2 _ => hQ _ _ _ ((x1.mono (by simp)).trans x2) X2 L2 .next
end
end Mine
end
section
open PySem PySem.Calls PyProof.Rows
set_option Elab.async false
set_option maxRecDepth 100000
namespace Mine
theorem len_1 {τ : Type} {l : List τ} (h : l.length = 1) : ∃ x, l = [x] := List.length_eq_one_iff.mp h
theorem len_S {τ : Type} {l : List τ} {n : Nat} (h : l.length = n + 1) : ∃ x r, l = x :: r ∧ r.length = n := by
  cases l with
  | nil => cases h
  | cons x r => exact ⟨x, r, rfl, Nat.succ.inj h⟩
theorem len_2 {τ : Type} {l : List τ} (h : l.length = 2) : ∃ x y, l = [x, y] := by
  obtain ⟨x, r, rfl, h1⟩ := len_S h
  obtain ⟨y, rfl⟩ := len_1 h1
  exact ⟨x, y, rfl⟩
theorem len_3 {τ : Type} {l : List τ} (h : l.length = 3) : ∃ x y z, l = [x, y, z] := by
  obtain ⟨x, r, rfl, h1⟩ := len_S h
  obtain ⟨y, z, rfl⟩ := len_2 h1
  exact ⟨x, y, z, rfl⟩
theorem len_5 {τ : Type} {l : List τ} (h : l.length = 5) : ∃ x y z u v, l = [x, y, z, u, v] := by
  obtain ⟨x, r, rfl, h1⟩ := len_S h
  obtain ⟨y, r, rfl, h2⟩ := len_S h1
  obtain ⟨z, u, v, rfl⟩ := len_3 h2
  exact ⟨x, y, z, u, v, rfl⟩
section
variable {G : GL} {d : Nat} {sc : List (Str × NameKind)} {loc loc' loc'' : Loc} {H H' H'' H''' : Lists}

theorem news_are {α : List Addr} {h : Heap} : ∀ {ys : List Str} {rs : List Value}, VRs G α h (ys.map .new) rs → StrsAre rs ys
  | [], _, x => by cases x; exact .nil
  | y :: ys, _, x => by
    cases x with
    | cons a b => cases a; exact .cons _ _ (news_are b)
theorem ints_are {α : List Addr} {h : Heap} : ∀ {ys : List Int} {rs : List Value}, VRs G α h (ys.map .int) rs → IntsAre rs ys
  | [], _, x => by cases x; exact .nil
  | y :: ys, _, x => by
    cases x with
    | cons a b => cases a; exact .cons _ _ (ints_are b)
theorem in_news2 {i : Nat} {ys : List Str} {k : Str} (hl : H[i]? = some (ys.map .new)) : Act2 G (compareOp .In) (.old k) (.ref i) H (.bool (ys.any (· == k))) H := by
  intro A α s ra rb _ X va vb
  refine ⟨fun Q E hQ => ?_⟩
  cases va
  cases vb with
  | ref e =>
    obtain ⟨items, hp, hr⟩ := X.lists _ _ _ e hl
    exact in_list_strs hp.isList (news_are hr) (hQ _ _ _ Ext.refl X (.bool _))
theorem in_ints2 {i : Nat} {ys : List Int} {k : Int} (hl : H[i]? = some (ys.map .int)) : Act2 G (compareOp .In) (.int k) (.ref i) H (.bool (ys.any (· == k))) H := by
  intro A α s ra rb _ X va vb
  refine ⟨fun Q E hQ => ?_⟩
  cases va
  cases vb with
  | ref e =>
    obtain ⟨items, hp, hr⟩ := X.lists _ _ _ e hl
    exact in_list_ints hp.isList (ints_are hr) (hQ _ _ _ Ext.refl X (.bool _))
theorem intsAre_items : ∀ {vs : List Value} {ns : List Int}, IntsAre vs ns → ∃ xs : List (Int × Tok), vs = xs.map (fun p => Value.int p.1 p.2) ∧ xs.map (·.1) = ns
  | _, _, .nil => ⟨[], rfl, rfl⟩
  | _, _, .cons n t h => let ⟨xs, e1, e2⟩ := intsAre_items h; ⟨(n, t) :: xs, by simp [e1], by simp [e2]⟩
theorem bc_sum {i : Nat} {ys : List Int} (hl : H[i]? = some (ys.map .int)) : BC G (d + 1) (.builtin "sum") [.ref i] H (.int ys.sum) H := by
  intro A α s rs R X hv
  refine ⟨fun Q E hQ => ?_⟩
  obtain ⟨r, rfl, hx⟩ := hv.one
  cases hx with
  | ref e =>
    obtain ⟨items, hp, hr⟩ := X.lists _ _ _ e hl
    obtain ⟨xs, e1, e2⟩ := intsAre_items (ints_are hr)
    have e3 : items.toArray = intItems xs.toArray := by subst e1; simp [intItems]
    rw [e3] at hp
    refine wpAny_toks (sum_intListG R.handled hp.isList fun h' tk t' hk htk => ?_)
    have e4 : preSum (numAt xs.toArray) xs.toArray.size = ys.sum := by
      rw [preSum_eq, List.take_of_length_le (by simp)]
      rw [← e2]
    rw [e4]
    exact hQ _ _ _ (Ext.keeps hk) ((X.keeps hk).tok (Nat.le_trans X.pos htk)) (.int _ _)
theorem signs_vrs {α : List Addr} {h : Heap} {x : Str} {acc : Array Value} (hi : ItemsOf (SignAt x) acc x.cps.size) : VRs G α h (chL x) acc.toList := by
  obtain ⟨hsz, hP⟩ := hi
  have key : ∀ (cs : List Nat) (l : List Value), l.length = cs.length → (∀ (j : Nat) (v : Value), l[j]? = some v → ∃ c u, cs[j]? = some c ∧ v = .str ⟨#[c]⟩ u) → VRs G α h (cs.map fun c => V.str ⟨#[c]⟩) l := by
    intro cs
    induction cs with
    | nil => intro l hl _; rw [List.length_eq_zero_iff.mp hl]; exact .nil
    | cons c cs ih =>
      intro l hl hP
      cases l with
      | nil => cases hl
      | cons v l =>
        refine .cons ?_ (ih l (by simpa using hl) fun j w hw => ?_)
        · obtain ⟨c', u, e1, rfl⟩ := hP 0 v (by simp)
          simp at e1; subst e1
          exact .str _ _
        · obtain ⟨c', u, e1, e2⟩ := hP (j + 1) w (by simpa using hw)
          exact ⟨c', u, by simpa using e1, e2⟩
  exact key x.cps.toList acc.toList (by simp [hsz]) fun j v hv => by
    obtain ⟨c, u, e1, e2⟩ := hP j v (by simpa using hv)
    exact ⟨c, u, by simpa using e1, e2⟩
theorem bc_list_str {x : Str} (hn : x.length ≤ 1000000) : BC G (d + 1) (.type "list") [.str x] H (.ref H.length) (H ++ [chL x]) := by
  intro A α s rs R X hv
  refine ⟨fun Q E hQ => ?_⟩
  obtain ⟨r, rfl, hx⟩ := hv.one
  cases hx
  refine wpAny_toks (call_list_str R.handled x _ (fun h' tk acc' c' hk hl hi htk => ?_) (by rw [sizeLine_eq]; unfold Str.length at hn; (first | lia | omega)))
  have X1 : HRel G α H { s with toks := tk } := X.tok (Nat.le_trans X.pos htk)
  obtain ⟨X', x', v'⟩ := X1.newList (items := acc'.toList) (h := h') (fresh_size _) hk ⟨c', by rw [hl]⟩ (signs_vrs hi)
  exact hQ _ _ _ (Ext.tok.trans x') X' v'

/-! b3_exceptions.get -/
theorem b3_get (K : GOk G) {x : Str} {p apos pos : Pos} {e : Expr} {k : Int} {v : V} (hk : sc.lookup x = some .globalImplicit) (hg : gval G x (.ref G.aB3)) (ha : BA G d sc [e] loc H [.int k] H') (hv : b3get G.b3D k = some v)
    (hd : (x == ("__debug__" : Str)) = false := by decide) (hbase : ∀ env, attributeBase (.Name x p) "get" env (eval (.Name x p) env) = eval (.Name x p) env := by intro _; rfl)
    (hfew : ∀ env, ((backTo pos (starEach [e] env)).all (fun x => !x.1) && (backToKw pos (keywordEach [] env)).all (fun x => x.1.isSome)
      && decide ([e].length + ([] : List Keyword).length + (if ([] : List Keyword).isEmpty then 0 else 1) < 30)) = true := by intro _; rfl)
    (hline : (apos.endLine == pos.line) = true := by rfl) (hs : ArgsOk [e] pos := by intro _; exact ⟨_, _, rfl, rfl⟩) :
    BE G d sc (.Call (.Attribute (.Name x p) "get" apos) [e] [] pos) loc H v H' := by
  intro A env α s R S X L
  refine ⟨fun Q E hQ => ?_⟩
  have T : IntTab G.prog G.w s.heap G.aB3 G.b3D := TabAt.keep K.b3 X.keep
  obtain ⟨lo, kvs, hdict, hf⟩ := id T
  refine wpAny_Call_method (T := "dict") (id := "dict.get") (hbase env) (hfew env) hline F.plainAttrs_dict F.slot_dict_get F.type_dict_get (gval_use K S L X hk hg ⟨hdict.typeIs, hdict.mapOf.noDict, ?_⟩ hd)
  obtain ⟨t, ts, h1, h2⟩ := hs env
  have ha' := ha A env α s pos R S X L
  have ha' := ha'.out
  rw [h1] at ha' ⊢
  refine callWith_builtin (by rw [List.any_cons, h2]; rfl) (evalArgs_plain (ha' _ _ fun rs s2 α2 x2 X2 v2 => ?_))
  obtain ⟨r, rfl, hx⟩ := v2.one
  cases hx
  refine call_get1_intTab (TabAt.keep K.b3 X2.keep) fun q hq => ?_
  unfold b3get at hv
  split at hv
  · rename_i y e
    rw [e] at hq
    obtain ⟨t', rfl⟩ := flat_str hq
    cases hv
    exact hQ _ _ _ (x2.trans Ext.tok) X2.tk (.str _ _)
  · rename_i e
    rw [e] at hq
    have := flat_none hq
    subst this
    cases hv
    exact hQ _ _ _ (x2.trans Ext.tok) X2.tk .none
  · cases hv

/-! replace by constants -/
theorem BE.replace (K : GOk G) {o : Expr} {y z : Str} {k1 k2 : Nat} {p1 p2 apos pos : Pos} {x : Str} (h0 : BE G d sc o loc H (.str x) H') (hyz : (y == z) = false) (hx : x.length ≤ 1000000) (hz : z.length ≤ 14)
    (hbase : ∀ env, attributeBase o "replace" env (eval o env) = eval o env := by intro _; rfl) (hline : (apos.endLine == pos.line) = true := by rfl) :
    BE G d sc (.Call (.Attribute o "replace" apos) [.Constant (.str y) k1 p1, .Constant (.str z) k2 p2] [] pos) loc H (.str (Txt.replace x y z)) H' := by
  intro A env α s R S X L
  refine ⟨fun Q E hQ => ?_⟩
  refine wpAny_Call_method (T := "str") (id := "str.replace") (hbase env) rfl hline F.plainAttrs_str F.slot_str_replace F.type_str_replace ((h0 A env α s R S X L).out _ _ fun ro s1 α1 x1 X1 v1 => ⟨vT_is X1 rfl v1, vT_bare X1 rfl v1, ?_⟩)
  cases v1
  have hp : 0 < s1.toks := Nat.lt_of_lt_of_le K.thr X1.pos
  show wpAny _ A (callWith pos (.builtin "str.replace") [_] [(false, eval (.Constant (.str y) k1 p1) env), (false, eval (.Constant (.str z) k2 p2) env)] []) Q E s1
  refine callWith_builtin rfl (evalArgs_plain (spliced_cons (wpAny_Constant_str (spliced_cons (wpAny_Constant_str (spliced_nil ?_))))))
  refine wpAny_toks (SC.replaceW (Nat.ne_of_gt hp) (Nat.succ_ne_zero _) (Nat.ne_of_lt (Nat.lt_succ_self _)) hyz (by (first | lia | omega)) hz fun t' k htk => ?_)
  exact hQ _ _ α1 (x1.trans Ext.tok) (X1.tok (Nat.le_trans X1.pos (Nat.le_trans (Nat.le_trans (Nat.le_succ _) (Nat.le_succ _)) htk))) (.str _ _)

/-! try, where nothing is raised -/
theorem BS.try {body : List Stmt} {h₀ : ExceptHandler} {hs : List ExceptHandler} {p : Pos} {v : V} (h : BSs G d sc body loc H (.ret v) loc' H') : BS G d sc (.Try body (h₀ :: hs) [] [] p) loc H (.ret v) loc' H' := by
  intro A env α s R S X L
  refine ⟨fun Q E hQ => ?_⟩
  refine wpAny_Try_except ((h A env α s R S X L).out _ _ fun f s1 α1 x1 X1 L1 e => ?_)
  cases e with
  | ret e => exact hQ _ _ _ x1 X1 L1 (.ret e)

/-! two names swapped -/
theorem BS.swap {x y : Str} {px py tp p : Pos} {k : Nat} {value : Expr} {u v : V} (h : BE G d sc value loc H (.tup [u, v]) H') (hx : sc.lookup x = some .local) (hy : sc.lookup y = some .local)
    (hs : ∀ env, swapsWithSole [.Tuple [.Name x px, .Name y py] k tp] value p.line env = pure false := by intro _; rfl)
    (hw : ∀ env, env.scope.kind = .function → env.kindOf x = some .local → env.kindOf y = some .local → swappedStores [.Tuple [.Name x px, .Name y py] k tp] value env = pure (some [x, y])) :
    BS G d sc (.Assign [.Tuple [.Name x px, .Name y py] k tp] value p) loc H .next (setL (setL loc y v) x u) H' := by
  intro A env α s R S X L
  refine ⟨fun Q E hQ => ?_⟩
  refine Assign_Tuple_swapped (names := [x, y]) ((h A env α s R S X L).out _ _ fun r s1 α1 x1 X1 v1 => ?_) (hs env) (hw env L.kind (S.loc x hx) (S.loc y hy))
  cases v1 with
  | tup e hl =>
    rename_i a items
    obtain ⟨n, e⟩ := e
    obtain ⟨r1, r2, rfl, hu, hv⟩ := hl.two
    refine wpAny_unpackItems_tuple (items := [r1, r2].toArray) R.handled ⟨_, e, rfl, n, rfl⟩ fun h' he' => ?_
    have hk : ∀ b o, s1.heap.get? b = some o → h'.get? b = some o := fun b o e => he' b o (Nat.ne_of_lt (Heap.lt_size e)) e
    have x2 : Ext [] α1 α1 s1 { s1 with heap := h' } := Ext.keeps hk
    have L2 := (L.ext X x1).ext X1 x2
    have X2 := X1.keeps hk
    show wpAny _ A (do holding _ (bindName env y r2); holding _ (bindName env x r1); pure ()) _ _ _
    refine wpAny_bind (wpAny_holding (wpAny_bindName (store_name X2 L2 (hv.mono (List.prefix_refl _) (x2.tups0 X1)) (S.store (.inl hy)) fun s3 b hb x3 X3 L3 _ => ?_)))
    have hbf := store_fp hb
    have hu3 : VR G α1 s3.heap u r1 := (hu.mono (List.prefix_refl _) (x2.tups0 X1)).mono (List.prefix_refl _) (x3.tups X2 fun c hc => L2.notFrozen c (hbf c hc))
    refine wpAny_bind (wpAny_holding (wpAny_bindName (store_name X3 L3 hu3 (S.store (.inl hx)) fun s4 c hc x4 X4 L4 _ => ?_)))
    exact wpAny_pure (hQ _ _ _ ((((x1.trans x2).mono (by simp)).trans (x3.mono hbf)).trans (x4.mono (store_fp hc))) X4 L4 .next)
end
end Mine
end
section
open PySem PySem.Calls PyProof.Rows
set_option Elab.async false
set_option maxRecDepth 100000
namespace Mine

noncomputable def drOf (i : Nat) : DefRec := match PySem.Challenge.pw_tc0071_01.main.body[i]? with
  | some (.FunctionDef name params body _ _ _ scope _ _ pos) => ⟨name, params, body, scope, pos⟩
  | _ => ⟨Str.empty, default, [], default, default⟩
noncomputable def defIdx : List Nat := [1, 2, 3, 4, 5, 6, 7, 10, 12, 17, 18, 20, 21, 22, 23, 24, 25, 27, 28, 29, 30, 31, 32, 33]
noncomputable def biList : List (Str × Value) := [("len", .builtin "len"), ("range", .type "range"), ("list", .type "list"), ("enumerate", .type "enumerate"), ("chr", .builtin "chr"), ("ord", .builtin "ord"), ("min", .builtin "min"), ("sum", .builtin "sum"),
  ("type", .type "type"), ("int", .type "int"), ("bool", .type "bool"), ("hasattr", .builtin "hasattr"), ("ValueError", .type "ValueError"), ("sum", .builtin "sum")]

structure LK (G : GL) : Prop extends GOk G where
  defs : ∀ i ∈ defIdx, drOf i ∈ G.defs
  bi : ∀ x v, (x, v) ∈ biList → gval G x v
  move : ∃ t, gval G "_MOVE_COST" (.int 2 t)
  case_ : ∃ t, gval G "_CASE_COST" (.int 1 t)
  maxs : ∃ t, gval G "_MAX_STRING_SIZE" (.int 40 t)
  b1n : gval G "b1_set" (.ref G.aB1)
  b3n : gval G "b3_exceptions" (.ref G.aB3)

section
variable {G : GL} {d : Nat} {sc : List (Str × NameKind)} {loc loc' loc'' : Loc} {H H' H'' H''' : Lists}
theorem LK.fn (K : LK G) {i : Nat} (hi : i ∈ defIdx) {p : Pos} {x : Str} (hn : (drOf i).name = x) (hk : sc.lookup x = some .globalImplicit) (hd : (x == ("__debug__" : Str)) = false) : BE G d sc (.Name x p) loc H (.fn x) H := by
  subst hn
  obtain ⟨a, o, pm, cd, doc, e1, _⟩ := K.fns (drOf i) (K.defs i hi)
  exact BE.glob K.toGOk hk (.inl e1) (fun α h => .fn e1) hd
theorem LK.ty (K : LK G) {p : Pos} {x : Str} {T : String} (hb : (x, Value.type T) ∈ biList) (hk : sc.lookup x = some .globalImplicit) (hd : (x == ("__debug__" : Str)) = false) : BE G d sc (.Name x p) loc H (.ty T) H :=
  BE.glob K.toGOk hk (K.bi _ _ hb) (fun _ _ => .ty _) hd
theorem LK.moveE (K : LK G) {p : Pos} (hk : sc.lookup ("_MOVE_COST" : Str) = some .globalImplicit) : BE G d sc (.Name "_MOVE_COST" p) loc H (.int 2) H :=
  let ⟨_, h⟩ := K.move; BE.glob K.toGOk hk h (fun _ _ => .int _ _) rfl
theorem LK.caseE (K : LK G) {p : Pos} (hk : sc.lookup ("_CASE_COST" : Str) = some .globalImplicit) : BE G d sc (.Name "_CASE_COST" p) loc H (.int 1) H :=
  let ⟨_, h⟩ := K.case_; BE.glob K.toGOk hk h (fun _ _ => .int _ _) rfl
theorem LK.maxsE (K : LK G) {p : Pos} (hk : sc.lookup ("_MAX_STRING_SIZE" : Str) = some .globalImplicit) : BE G d sc (.Name "_MAX_STRING_SIZE" p) loc H (.int 40) H :=
  let ⟨_, h⟩ := K.maxs; BE.glob K.toGOk hk h (fun _ _ => .int _ _) rfl

/-- a def's call, from a run of its body -/
theorem LK.call (K : LK G) (i : Nat) (names : List Str) {args : List V} {v : V} {f : Fl} (hf : CallOut f v) (hi : i ∈ defIdx) (hbody : ∃ loc', BSs G d (drOf i).scope.names (drOf i).body (locOf (names.zip args) []) H f loc' H')
    (hbind : ∀ pm cd doc (rs : List Value), rs.length = args.length → bindArgs (docDef (drOf i).name (drOf i).params (drOf i).body (drOf i).scope pm cd doc) ⟨rs, []⟩ = pure (names.zip rs))
    (hk : ∀ x ∈ names, (drOf i).scope.names.lookup x = some .local ∨ (drOf i).scope.names.lookup x = some .cell)
    (hnd : nodupB ((drOf i).scope.names.map (·.1)) = true) (hkind : (drOf i).scope.kind = .function := by rfl)
    (hco : (drOf i).scope.isCoroutine = false := by rfl) (hgen : (drOf i).scope.isGenerator = false := by rfl) :
    ∀ a, G.mg (drOf i).name = some (.ref a) → BC G (d + 1) (.ref a) args H v H' :=
  let ⟨_, h⟩ := hbody
  BC.def K.toGOk (K.defs i hi) h hf hbind hk hnd hkind hco hgen

/-- b in hand: the arguments of a def bound in turn -/
theorem BS.delItem {o i : Expr} {p p' : Pos} {ov iv : V} {H4 : Lists} (h2 : BE G (d + 1) sc o loc H ov H') (h3 : BE G (d + 1) sc i loc H' iv H'') (h4 : ActU G delItemOf [ov, iv] H'' H4) : BS G (d + 1) sc (.Delete [.Subscript o i p'] p) loc H .next loc H4 := by
  intro A env α s R S X L
  refine ⟨fun Q E hQ => ?_⟩
  refine wpAny_Delete (wpAny_deleteEach_cons (wpAny_delete_Subscript ((h2 A env α s R S X L).out _ _ fun r2 s2 α2 x2 X2 v2 => ?_)))
  refine (h3 A env α2 s2 R S X2 (L.ext X x2)).out _ _ fun r3 s3 α3 x3 X3 v3 => ?_
  refine h4 A α3 s3 [r2, r3] R.one X3 (.cons (v2.mono x3.pre (x3.tups0 X2)) (.cons v3 .nil)) _ _ fun s4 α4 x4 X4 => ?_
  exact wpAny_deleteEach_nil (hQ _ _ _ (((x2.trans x3).trans x4).mono (by simp)) X4 (L.ext X ((x2.trans x3).trans x4)) .next)

theorem f_ne (K : LK G) {u v : V} {r : V} (h : Act2 G (compareOp .NotEq) u v H r H') : ∀ a, G.mg (drOf 1).name = some (.ref a) → BC G (d + 2) (.ref a) [u, v] H r H' := by
  refine K.call 1 ["a", "b"] (.ret _) (by decide) ?_ ?_ ?_ ?_
  · exact ⟨_, BSs.ret (BS.ret (BE.cmp (BE.var rfl rfl rfl) (BE.var rfl rfl rfl) h))⟩
  · intro pm cd doc rs hl
    obtain ⟨x, y, rfl⟩ := len_2 hl
    rfl
  · decide +kernel
  · decide +kernel
theorem f_sub (K : LK G) {u v : Int} : ∀ a, G.mg (drOf 2).name = some (.ref a) → BC G (d + 2) (.ref a) [.int u, .int v] H (.int (u - v)) H := by
  refine K.call 2 ["a", "b"] (.ret _) (by decide) ?_ ?_ ?_ ?_
  · exact ⟨_, BSs.ret (BS.ret (BE.bin (BE.var rfl rfl rfl) (BE.var rfl rfl rfl) sub_int2))⟩
  · intro pm cd doc rs hl
    obtain ⟨x, y, rfl⟩ := len_2 hl
    rfl
  · decide +kernel
  · decide +kernel
theorem f_contains (K : LK G) {u v : V} {r : V} (h : Act2 G (compareOp .In) v u H r H') : ∀ a, G.mg (drOf 4).name = some (.ref a) → BC G (d + 2) (.ref a) [u, v] H r H' := by
  refine K.call 4 ["a", "b"] (.ret _) (by decide) ?_ ?_ ?_ ?_
  · exact ⟨_, BSs.ret (BS.ret (BE.cmp (BE.var rfl rfl rfl) (BE.var rfl rfl rfl) h))⟩
  · intro pm cd doc rs hl
    obtain ⟨x, y, rfl⟩ := len_2 hl
    rfl
  · decide +kernel
  · decide +kernel
theorem f_delitem (K : LK G) {u v : V} (h : ActU G delItemOf [u, v] H H') : ∀ a, G.mg (drOf 5).name = some (.ref a) → BC G (d + 2) (.ref a) [u, v] H .none H' := by
  refine K.call 5 ["a", "b"] .next (by decide) ?_ ?_ ?_ ?_
  · exact ⟨_, BSs.cons (BS.delItem (BE.var rfl rfl rfl) (BE.var rfl rfl rfl) h) BSs.nil⟩
  · intro pm cd doc rs hl
    obtain ⟨x, y, rfl⟩ := len_2 hl
    rfl
  · decide +kernel
  · decide +kernel
theorem f_setitem (K : LK G) {u v w : V} (h : ActU G setItemOf [u, v, w] H H') : ∀ a, G.mg (drOf 7).name = some (.ref a) → BC G (d + 2) (.ref a) [u, v, w] H .none H' := by
  refine K.call 7 ["a", "b", "c"] .next (by decide) ?_ ?_ ?_ ?_
  · exact ⟨_, BSs.cons (BS.setItem (BE.var rfl rfl rfl) (BE.var rfl rfl rfl) (BE.var rfl rfl rfl) h) BSs.nil⟩
  · intro pm cd doc rs hl
    obtain ⟨x, y, z, rfl⟩ := len_3 hl
    rfl
  · decide +kernel
  · decide +kernel
theorem b1E (K : LK G) {p : Pos} (hk : sc.lookup ("b1_set" : Str) = some .globalImplicit) : BE G d sc (.Name "b1_set" p) loc H .b1 H := BE.glob K.toGOk hk K.b1n (fun _ _ => .b1) rfl
theorem f_b1 (K : LK G) {c : Nat} : ∀ a, G.mg (drOf 10).name = some (.ref a) → BC G (d + 2) (.ref a) [.str ⟨#[c]⟩] H (.bool (G.b1S c)) H := by
  refine K.call 10 ["code"] (.ret _) (by decide) ?_ ?_ ?_ ?_
  · exact ⟨_, BSs.ret (BS.ret (BE.cmp (BE.callB K.toGOk rfl (K.bi "ord" _ (by decide +kernel)) (BA.cons (BE.var rfl rfl rfl) BA.nil) bc_ord rfl) (b1E K rfl) (in_b1 K.toGOk)))⟩
  · intro pm cd doc rs hl
    obtain ⟨x, rfl⟩ := len_1 hl
    rfl
  · decide +kernel
  · decide +kernel
/-- what map_table_b3 answers for a sign -/
noncomputable def mapB3 (D : List (PyData × PyData)) (c : Nat) : Str := match PySem.Spec.lookup (.int c) D with
  | some (.str x) => x
  | _ => Txt.lower ⟨#[c]⟩
theorem f_b3 (K : LK G) {c : Nat} (hd : (b3get G.b3D c).isSome = true) (hl : (Txt.lower ⟨#[c]⟩).length ≤ 1000000) : ∀ a, G.mg (drOf 12).name = some (.ref a) → BC G (d + 2) (.ref a) [.str ⟨#[c]⟩] H (.str (mapB3 G.b3D c)) H := by
  obtain ⟨v, hv⟩ := Option.isSome_iff_exists.mp hd
  have hb : ∀ (pm cd doc : Value) (rs : List Value), rs.length = [V.str ⟨#[c]⟩].length → bindArgs (docDef (drOf 12).name (drOf 12).params (drOf 12).body (drOf 12).scope pm cd doc) ⟨rs, []⟩ = pure ((["code"] : List Str).zip rs) := by
    intro pm cd doc rs hl
    obtain ⟨x, rfl⟩ := len_1 hl
    rfl
  have hv0 := hv
  unfold b3get at hv
  unfold mapB3
  split at hv
  · rename_i y e
    rw [e]
    cases hv
    refine K.call 12 ["code"] (.ret _) (by decide) ?_ hb ?_ ?_
    · exact ⟨_, BSs.cons (BS.assign (b3_get K.toGOk rfl K.b3n (BA.cons (BE.callB K.toGOk rfl (K.bi "ord" _ (by decide +kernel)) (BA.cons (BE.var rfl rfl rfl) BA.nil) bc_ord rfl) BA.nil) hv0 rfl) (.inl rfl)) (BSs.ret (BS.ifT (BT.cmp (BE.var rfl rfl rfl) BE.none isNot_none2) (BSs.ret (BS.ret (BE.var rfl rfl rfl)))))⟩
    · decide +kernel
    · decide +kernel
  · rename_i e
    rw [e]
    cases hv
    refine K.call 12 ["code"] (.ret _) (by decide) ?_ hb ?_ ?_
    · exact ⟨_, BSs.cons (BS.assign (b3_get K.toGOk rfl K.b3n (BA.cons (BE.callB K.toGOk rfl (K.bi "ord" _ (by decide +kernel)) (BA.cons (BE.var rfl rfl rfl) BA.nil) bc_ord rfl) BA.nil) hv0 rfl) (.inl rfl)) (BSs.cons (BS.ifF (BT.cmp (BE.var rfl rfl rfl) BE.none isNot_none2) BSs.nil) (BSs.ret (BS.ret (BE.meth0 (BE.var rfl rfl rfl) m_lower (bc_lower hl)))))⟩
    · decide +kernel
    · decide +kernel
  · cases hv
theorem f_told (K : LK G) {u v : Int} : ∀ a, G.mg (drOf 32).name = some (.ref a) → BC G (d + 2) (.ref a) [.int u, .int v] H (.bool (u == v)) H := by
  refine K.call 32 ["told", "due"] (.ret _) (by decide) ?_ ?_ ?_ ?_
  · exact ⟨_, BSs.ret (BS.ret (BE.and_t (BE.cmp (BE.callT K.toGOk rfl (K.bi "type" _ (by decide +kernel)) (BA.cons (BE.var rfl rfl rfl) BA.nil) (bc_type rfl) rfl) (K.ty (x := "int") (T := "int") (by decide +kernel) rfl rfl) is_ty2) tru_bool
      (BE.cmp (BE.var rfl rfl rfl) (BE.var rfl rfl rfl) eq_int2)))⟩
  · intro pm cd doc rs hl
    obtain ⟨x, y, rfl⟩ := len_2 hl
    rfl
  · decide +kernel
  · decide +kernel
end
end Mine
end
section
open PySem PySem.Calls PyProof.Rows
set_option Elab.async false
set_option maxRecDepth 8000
namespace Mine
theorem md_check (a : Addr) : checkBuiltinCall "method_descriptor.__get__" ⟨[.builtin "list.__getitem__", .ref a, .type "list"], []⟩ = pure () := by kernel_rfl
noncomputable def mdCheck (a : Addr) : Sem Unit := do
  if !(← isInstance (.ref a) (.type "list")) then
    rule "descr.get.wrong-instance"
    raiseError "TypeError" s!"descriptor '{(Str.ofString "__getitem__").toString}' for '{← typeName (.type "list")}' objects doesn't apply to a '{← typeNameOf (.ref a)}' object"
theorem md_tree (a : Addr) : Builtin.«method_descriptor.__get__» ⟨[.builtin "list.__getitem__", .ref a, .type "list"], []⟩ = (mdCheck a >>= fun _ => newFields "builtin_function_or_method" [.builtin "list.__getitem__", .ref a] >>= fun v => ret v) := by kernel_rfl
theorem md_get {prog : Program} {w : World} {A : Around} {s : Shared} {a : Addr} {R : Result → Shared → Prop} (hT : s.TypeIs (.ref a) "list")
    (h : ∀ x h' tk, (∀ b o, s.heap.get? b = some o → h'.get? b = some o) → R (.ok (.ret (.ref x))) { s with heap := h', toks := tk }) :
    codeAny (model prog w) A (.call (.builtin "method_descriptor.__get__") ⟨[.builtin "list.__getitem__", .ref a, .type "list"], []⟩) R s := by
  refine codeAny_call_builtin (by decide +kernel) (entryFor_of_tree (by kernel_rfl) : entryFor table "method_descriptor.__get__" = some Builtin.«method_descriptor.__get__») ?_
  rw [md_check, md_tree]
  refine wpAny_pure (wpAny_bind ?_)
  unfold mdCheck
  refine wpAny_bind ?_
  refine wpAny_isInstance (T := "list") (U := "list") (b := true) hT (by rw [isSubtype_type]; kernel_rfl) ?_
  rw [if_neg (by decide)]
  refine wpAny_pure (wpAny_bind (wpAny_newObj_type ?_))
  exact wpAny_pure (h _ _ _ fun b o e => Heap.get?_push_of_some _ e)

set_option maxHeartbeats 4000000 in
theorem hit_list (a : Addr) (xs : Array Value) (k : Nat) (u : Tok) :
    Meets (Builtin.«object.__getattribute__» ⟨[.ref a, .str "__getitem__" u], []⟩) (fun A R s => s.heap.get? a = some { cls := .type "list", dict := none, data := .seq xs k, slots := #[] } ∧ (∀ x h' tk, (∀ b o, s.heap.get? b = some o → h'.get? b = some o) → R (.ok (.ret (.ref x))) { s with heap := h', toks := tk })) :=
  Meets.of_wp fun prog w A R s hs => by
    obtain ⟨hp, g, d, tk, os⟩ := s
    obtain ⟨hx, hs⟩ := hs
    have hT : (⟨hp, g, d, tk, os⟩ : Shared).TypeIs (.ref a) "list" := ⟨_, hx, rfl⟩
    have hl := slot_list_getitem.lookup
    have hk : builtinKind "list.__getitem__" = some .method := by decide +kernel
    have hg : typeLookup (.type "method_descriptor") (Str.ofString "__get__") = pure (some (.builtin "method_descriptor.__get__")) := by rw [typeLookup_type, builtinLookup_eq_fast]; kernel_rfl
    have hst : typeLookup (.type "method_descriptor") (Str.ofString "__set__") = pure none := by rw [typeLookup_type, builtinLookup_eq_fast]; kernel_rfl
    have hdl : typeLookup (.type "method_descriptor") (Str.ofString "__delete__") = pure none := by rw [typeLookup_type, builtinLookup_eq_fast]; kernel_rfl
    unfold Builtin.«object.__getattribute__»
    repeat (any_goals (first | assumption | wp_step))
    repeat (
      rw [hk]
      dsimp only
      repeat (any_goals (first | assumption | wp_step)))
    refine md_get hT fun v h' tk hk => ?_
    exact wpAny_pure ⟨_, rfl, hs v h' tk hk⟩
end Mine
end
section
open PySem PySem.Calls PyProof.Rows
set_option Elab.async false
set_option maxRecDepth 8000
namespace Mine
set_option maxHeartbeats 4000000 in
theorem hasattr_list {prog : Program} {w : World} {A : Around} {E : Value → Shared → Prop} {s : Shared} {a : Addr} {xs : Array Value} {k : Nat} {u : Tok} {Q : Value → Shared → Prop}
    (hx : s.heap.get? a = some { cls := .type "list", dict := none, data := .seq xs k, slots := #[] }) (h : ∀ h' tk, (∀ b o, s.heap.get? b = some o → h'.get? b = some o) → Q (.bool true) { s with heap := h', toks := tk }) :
    wpAny (model prog w) A (call (.builtin "hasattr") [.ref a, .str "__getitem__" u]) Q E s := by
  obtain ⟨hp, g, d, tk, os⟩ := s
  have hT : (⟨hp, g, d, tk, os⟩ : Shared).TypeIs (.ref a) "list" := ⟨_, hx, rfl⟩
  refine call_function_entry (b := Builtin.«hasattr») (by decide +kernel) (by decide +kernel) (entryFor_of_tree (by kernel_rfl)) (by unfold argsOk; kernel_rfl) ?_
  have f3 := F.slot_list_getattribute.lookup
  have f4 := F.slot_list_getattribute.bind (.ref a)
  have hl := slot_list_getitem.lookup
  have hmod : isSubtype (.type "list") (.type "module") = pure false := by rw [isSubtype_type]; kernel_rfl
  unfold Builtin.«hasattr»
  repeat (any_goals (first | assumption | ((with_reducible show wpAny _ _ (call (Value.builtin "list.__getattribute__") _ _) _ _ _); refine call_meets F.slot_list_getattribute hT am_entry_list_getattribute (F.args_list_getattribute_2 _ _) (hit_list a xs k u) ⟨hx, fun v h' tk hk => ?_⟩) | wp_step))
  show wpAny _ _ (handedOut (.ref v)) _ _ _
  refine wpAny_pure (M := model prog w) (wpAny_pure ?_)
  show wpAny _ _ (ret (.bool true)) _ _ _
  exact wpAny_pure ⟨_, rfl, h h' _ hk⟩
end Mine
end
section
open PySem PySem.Calls PyProof.Rows
set_option Elab.async false
set_option maxRecDepth 100000
namespace Mine

mutual
/-- a value that holds no list -/
noncomputable def plainV : V → Bool
  | .tup l => plainVs l
  | .ref _ => false
  | _ => true
noncomputable def plainVs : List V → Bool
  | [] => true
  | v :: l => plainV v && plainVs l
end
noncomputable def plainH (H : Lists) : Bool := H.all plainVs

section
variable {G : GL}
theorem VRs.plain {α α' : List Addr} {h : Heap} {l : List V} {rs : List Value} (x : VRs G α h l rs) : plainVs l = true → VRs G α' h l rs :=
  VRs.rec (motive_1 := fun v r _ => plainV v = true → VR G α' h v r) (motive_2 := fun l rs _ => plainVs l = true → VRs G α' h l rs)
    (fun _ => .none) (fun b _ => .bool b) (fun i t _ => .int i t) (fun x t _ => .str x t) (fun x t h0 ht _ => .old x t h0 ht) (fun x t ht _ => .new x t ht)
    (fun n _ => .ty n) (fun e _ => .fn e) (fun _ => .scr) (fun _ => .b1) (fun _ => .b3) (fun e _ ih p => .tup e (ih p)) (fun e _ => .sl e)
    (fun _ p => nomatch (p : false = true)) (fun r _ => .raw r) (fun _ => .nil) (fun _ _ i1 i2 p => .cons (i1 (Bool.and_eq_true_iff.mp p).1) (i2 (Bool.and_eq_true_iff.mp p).2)) x
theorem VR.plain {α α' : List Addr} {h : Heap} {v : V} {r : Value} (x : VR G α h v r) (p : plainV v = true) : VR G α' h v r := by
  have := VRs.plain (α' := α') (VRs.cons x .nil) (show (plainV v && true) = true by rw [p]; rfl)
  cases this with
  | cons hv _ => exact hv
variable {d : Nat} {sc : List (Str × NameKind)} {loc loc' loc'' : Loc} {H H' H'' X : Lists}

theorem HRel.sel {α α' : List Addr} {s : Shared} (x : HRel G α H s) (hl : α'.length = H'.length) (hn : α'.Nodup) (hs : ∀ (i : Nat) (a : Addr) (l : List V), α'[i]? = some a → H'[i]? = some l → ∃ k : Nat, α[k]? = some a ∧ H[k]? = some l) (hp : plainH H' = true) : HRel G α' H' s where
  pos := x.pos
  keep := x.keep
  len := hl
  nd := hn
  own := fun a ha => by
    obtain ⟨i, hi, rfl⟩ := List.getElem_of_mem ha
    obtain ⟨k, h1, _⟩ := hs i _ _ (List.getElem?_eq_getElem hi) (List.getElem?_eq_getElem (hl ▸ hi))
    exact x.own _ (List.mem_of_getElem? h1)
  lists := fun i a l h1 h2 => by
    obtain ⟨k, h3, h4⟩ := hs i a l h1 h2
    obtain ⟨items, h5, h6⟩ := x.lists k a l h3 h4
    exact ⟨items, h5, h6.plain (List.all_eq_true.mp hp l (List.mem_of_getElem? h2))⟩
theorem pre_get {τ : Type} {α α' : List τ} (h : α <+: α') {i : Nat} {a : τ} (e : α[i]? = some a) : α'[i]? = some a := by
  obtain ⟨t, rfl⟩ := h
  rw [List.getElem?_append_left (List.getElem?_eq_some_iff.mp e).1]; exact e
theorem HRel.cut {α α' : List Addr} {s s₀ : Shared} (x : HRel G α' (H ++ X) s) (y : HRel G α H s₀) (hp : plainH H = true) (ha : α <+: α') : HRel G α H s :=
  x.sel y.len y.nd (fun i a l h1 h2 => ⟨i, pre_get ha h1, by rw [List.getElem?_append_left (List.getElem?_eq_some_iff.mp h2).1]; exact h2⟩) hp
theorem Ext.cut {fp α α' : List Addr} {s s' : Shared} (x : Ext fp α α' s s') : Ext fp α α s s' :=
  ⟨x.same, List.prefix_refl _, fun _ h h' => absurd h h', x.keep, x.alive⟩
theorem BC.drop {rf : Value} {args : List V} {v : V} (h : BC G d rf args H v (H ++ X)) (hp : plainH H = true) (hv : plainV v = true) : BC G d rf args H v H := by
  intro A α s rs R Y V
  refine ⟨fun Q E hQ => ?_⟩
  exact (h A α s rs R Y V).out Q E fun r s' α' x y z => hQ r s' α x.cut (y.cut Y hp x.pre) (z.plain hv)
theorem BE.drop {e : Expr} {v : V} (h : BE G d sc e loc H v (H ++ X)) (hp : plainH H = true) (hv : plainV v = true) : BE G d sc e loc H v H := by
  intro A env α s R S Y L
  refine ⟨fun Q E hQ => ?_⟩
  exact (h A env α s R S Y L).out Q E fun r s' α' x y z => hQ r s' α x.cut (y.cut Y hp x.pre) (z.plain hv)
theorem BT.drop {e : Expr} {b : Bool} (h : BT G d sc e loc H b (H ++ X)) (hp : plainH H = true) : BT G d sc e loc H b H := by
  intro A env α s R S Y L
  refine ⟨fun Q E hQ => ?_⟩
  exact (h A env α s R S Y L).out Q E fun r s' α' x y z => hQ r s' α x.cut (y.cut Y hp x.pre) z
/-- a call that hands out one new list -/
theorem BC.dropTo {rf : Value} {args : List V} {j : Nat} {l : List V} (h : BC G d rf args H (.ref j) (H ++ X)) (hp : plainH H = true) (hj : H.length ≤ j) (hl : (H ++ X)[j]? = some l) (hv : plainVs l = true) : BC G d rf args H (.ref H.length) (H ++ [l]) := by
  intro A α s rs R Y V
  refine ⟨fun Q E hQ => ?_⟩
  refine (h A α s rs R Y V).out Q E fun r s' α' x y z => ?_
  cases z with
  | ref e =>
  rename_i a
  have hna : a ∉ α := fun hm => by
    obtain ⟨i, hi, he⟩ := List.getElem_of_mem hm
    have h1 : α'[i]? = some a := pre_get x.pre (by rw [List.getElem?_eq_getElem hi, he])
    have := nodup_inj y.nd h1 e
    have := Y.len
    (first | lia | omega)
  have hlen : α.length = H.length := Y.len
  refine hQ _ s' (α ++ [a]) ⟨x.same, List.prefix_append _ _, fun b hb hb' => x.new b ?_ hb', x.keep, x.alive⟩ (y.sel (by simp [hlen]) (nodup_concat Y.nd hna) (fun i b m h1 h2 => ?_) ?_) (.ref (by rw [List.getElem?_append_right (by (first | lia | omega)), hlen]; simp))
  · rcases List.mem_append.mp hb with hb | hb
    · exact absurd hb hb'
    · rw [List.mem_singleton.mp hb]; exact List.mem_of_getElem? e
  · by_cases hi : i < H.length
    · refine ⟨i, ?_, ?_⟩
      · rw [List.getElem?_append_left (by (first | lia | omega))] at h1; exact pre_get x.pre h1
      · rw [List.getElem?_append_left hi] at h2 ⊢; exact h2
    · have hi' : i = H.length := by
        have := (List.getElem?_eq_some_iff.mp h2).1
        simp at this; (first | lia | omega)
      subst hi'
      rw [List.getElem?_append_right (by (first | lia | omega)), hlen] at h1
      rw [List.getElem?_append_right (by (first | lia | omega))] at h2
      simp at h1 h2
      subst h1 h2
      exact ⟨j, e, hl⟩
  · unfold plainH at hp ⊢
    rw [List.all_append, hp]
    simp [hv]

theorem bc_hasattr {i : Nat} {l : List V} (hl : H[i]? = some l) : BC G (d + 1) (.builtin "hasattr") [.ref i, .str "__getitem__"] H (.bool true) H := by
  intro A α s rs R Y V
  refine ⟨fun Q E hQ => ?_⟩
  obtain ⟨r, q, rfl, h1, h2⟩ := V.two
  cases h1 with
  | ref e =>
  cases h2 with
  | str _ t =>
  obtain ⟨items, ⟨n, he⟩, _⟩ := Y.lists _ _ _ e hl
  refine wpAny_toks (hasattr_list he fun h' tk hk ht => ?_)
  exact hQ _ _ α (Ext.keeps hk) ((Y.keeps hk).tok (Nat.le_trans Y.pos ht)) (.bool _)
end
end Mine
end
section
open PySem PySem.Calls PyProof.Rows
set_option Elab.async false
set_option maxRecDepth 100000
namespace Mine

/-- the names of one loc stand in another -/
noncomputable def subL : Loc → Loc → Prop
  | [], _ => True
  | (x, v) :: r, l => l.lookup x = some v ∧ subL r l
theorem subL.get {l : Loc} : ∀ {l0 : Loc}, subL l0 l → ∀ x v, l0.lookup x = some v → l.lookup x = some v
  | [], _, x, v, h => by cases h
  | (y, u) :: r, ⟨h1, h2⟩, x, v, h => by
    rw [List.lookup_cons] at h
    cases e : x == y with
    | true => rw [e] at h; cases h; rw [beq_iff_eq.mp e]; exact h1
    | false => rw [e] at h; exact h2.get x v h

noncomputable def Sub (l0 l : Loc) : Prop := ∀ x v, l0.lookup x = some v → l.lookup x = some v
section
variable {G : GL} {d : Nat} {sc : List (Str × NameKind)} {loc loc' loc'' : Loc} {H H' H'' X : Lists}
theorem LRel.sub {env : Env} {α : List Addr} {h : Heap} (L : LRel G env α loc h) (s : ∀ x v, loc'.lookup x = some v → loc.lookup x = some v) : LRel G env α loc' h :=
  ⟨L.kind, L.glob, L.bins, let ⟨m, h1, h2⟩ := L.ns; ⟨m, h1, fun x v e => h2 x v (s x v e)⟩, fun x v e => L.var x v (s x v e), fun x v e => L.cell x v (s x v e), L.cells, L.apart, L.fresh⟩
theorem BSs.conseq {sts : List Stmt} {f : Fl} {l1 l2 : Loc} (h : BSs G d sc sts l1 H f l2 H') (h1 : Sub l1 loc) (h2 : Sub loc' l2) : BSs G d sc sts loc H f loc' H' := by
  intro A env α s R S X L
  refine ⟨fun Q E hQ => ?_⟩
  exact (h A env α s R S X (L.sub h1)).out Q E fun r s' α' x y l z => hQ r s' α' x y (l.sub h2) z
theorem BS.conseq {st : Stmt} {f : Fl} {l1 l2 : Loc} (h : BS G d sc st l1 H f l2 H') (h1 : Sub l1 loc) (h2 : Sub loc' l2) : BS G d sc st loc H f loc' H' := by
  intro A env α s R S X L
  refine ⟨fun Q E hQ => ?_⟩
  exact (h A env α s R S X (L.sub h1)).out Q E fun r s' α' x y l z => hQ r s' α' x y (l.sub h2) z
theorem setL_setL (x : Str) (u v : V) : ∀ loc : Loc, setL (setL loc x u) x v = setL loc x v
  | [] => by simp [setL]
  | (y, w) :: r => by
    unfold setL
    by_cases h : y = x
    · subst h; simp [setL]
    · simp [h, setL, setL_setL x u v r]
theorem CompR.map {x : Str} {elt : Expr} {src : Lists → Prop} (f : V → V) (hs : src H) {l : Loc} : ∀ {vs : List V} {l' : Loc}, (∀ v, setL l' x v = setL l x v) → (∀ v ∈ vs, BE G d sc elt (setL l x v) H (f v) H) → CompR G d sc x elt [] src vs l' H (vs.map f) H
  | [], l', _, _ => .nil hs
  | v :: vs, l', hl, hb => .take hs ⟨rfl, rfl⟩ (by rw [hl]; exact hb v List.mem_cons_self) (CompR.map f hs (fun u => by rw [hl, setL_setL]) fun u hu => hb u (List.mem_cons_of_mem _ hu))
theorem CompR.filter {x : Str} {elt c : Expr} {src : Lists → Prop} (f : V → V) (b : V → Bool) (hs : src H) {l : Loc} : ∀ {vs : List V} {l' : Loc}, (∀ v, setL l' x v = setL l x v) → (∀ v ∈ vs, BT G d sc c (setL l x v) H (b v) H) → (∀ v ∈ vs, b v = true → BE G d sc elt (setL l x v) H (f v) H) →
    CompR G d sc x elt [c] src vs l' H ((vs.filter b).map f) H
  | [], l', _, _, _ => .nil hs
  | v :: vs, l', hl, hc, hb => by
    have ih := CompR.filter f b hs (l := l) (vs := vs) (l' := setL l' x v) (fun u => by rw [hl, setL_setL]) (fun u hu => hc u (List.mem_cons_of_mem _ hu)) (fun u hu => hb u (List.mem_cons_of_mem _ hu))
    have h0 := hc v List.mem_cons_self
    rw [List.filter_cons]
    cases e : b v with
    | true => exact .take hs (by show BT G d sc c _ H true H; rw [hl, ← e]; exact h0) (by rw [hl]; exact hb v List.mem_cons_self e) ih
    | false => exact .skip hs (by show BT G d sc c _ H false H; rw [hl, ← e]; exact h0) ih
theorem ForR.go {target : Expr} {body : List Stmt} {src : Lists → Prop} {L : Nat → Loc} {Hs : Nat → Lists} (hs : ∀ i, src (Hs i)) : ∀ {vs : List V} {n : Nat},
    (∀ i v, vs[i]? = some v → ∃ l1 h1 l2, BB G d sc target v (L (n + i)) (Hs (n + i)) l1 h1 ∧ BSs G d sc body l1 h1 .next l2 (Hs (n + i + 1)) ∧ Sub (L (n + i + 1)) l2) →
    ForR G d sc target body src vs (L n) (Hs n) .next (L (n + vs.length)) (Hs (n + vs.length))
  | [], n, _ => .nil (hs n)
  | v :: vs, n, st => by
    obtain ⟨l1, h1, l2, a, b, c⟩ := st 0 v rfl
    have ih := ForR.go hs (vs := vs) (n := n + 1) fun i u hu => by
      have := st (i + 1) u (by simpa using hu)
      have e : n + (i + 1) = n + 1 + i := by (first | lia | omega)
      rw [e] at this; exact this
    have e : n + 1 + vs.length = n + (v :: vs).length := by simp only [List.length_cons]; (first | lia | omega)
    rw [e] at ih
    exact .cons (hs n) a (b.conseq (fun _ _ h => h) c) ih
theorem BS.forGo {target iter : Expr} {body : List Stmt} {p : Pos} {vs : List V} {src : Lists → Prop} (L : Nat → Loc) (Hs : Nat → Lists) (h0 : subL (L 0) loc) (e0 : Hs 0 = H') (hi : BIt G d sc iter (L 0) H vs src H') (hs : ∀ i, src (Hs i))
    (st : ∀ i v, vs[i]? = some v → ∃ l1 h1 l2, BB G d sc target v (L i) (Hs i) l1 h1 ∧ BSs G d sc body l1 h1 .next l2 (Hs (i + 1)) ∧ Sub (L (i + 1)) l2)
    (hf : ∀ env x, foldedSetIterable iter env x = pure x := by intro _ _; rfl) : BS G d sc (.For target iter body [] p) loc H .next (L vs.length) (Hs vs.length) := by
  subst e0
  have := ForR.go (n := 0) hs (vs := vs) (fun i v h => by rw [Nat.zero_add]; exact st i v h)
  rw [Nat.zero_add] at this
  exact BS.conseq (BS.for hi this hf) h0.get fun _ _ h => h
end
end Mine
end
section
open PySem PySem.Calls PyProof.Rows
set_option Elab.async false
set_option maxRecDepth 100000
namespace Mine
section
variable {G : GL} {d : Nat} {sc : List (Str × NameKind)} {loc loc' loc'' : Loc} {H H' H'' X : Lists}
theorem LK.len (K : LK G) : gval G "len" (.builtin "len") := K.bi _ _ (by decide +kernel)
theorem LK.chr (K : LK G) : gval G "chr" (.builtin "chr") := K.bi _ _ (by decide +kernel)
theorem LK.min (K : LK G) : gval G "min" (.builtin "min") := K.bi _ _ (by decide +kernel)
theorem LK.hasattr (K : LK G) : gval G "hasattr" (.builtin "hasattr") := K.bi _ _ (by decide +kernel)
theorem LK.range (K : LK G) : gval G "range" (.type "range") := K.bi _ _ (by decide +kernel)
theorem LK.list (K : LK G) : gval G "list" (.type "list") := K.bi _ _ (by decide +kernel)
theorem LK.type (K : LK G) : gval G "type" (.type "type") := K.bi _ _ (by decide +kernel)

theorem f_concat (K : LK G) {i j : Nat} {l l' : List V} (hi : H[i]? = some l) (hj : H[j]? = some l') (hn : l.length + l'.length ≤ 1000000) : ∀ a, G.mg (drOf 3).name = some (.ref a) → BC G (d + 3) (.ref a) [.ref i, .ref j] H (.ref H.length) (H ++ [l ++ l']) := by
  refine K.call 3 ["a", "b"] (.ret _) (by decide) ?_ ?_ ?_ ?_
  · exact ⟨_, BSs.cons (BS.ifF (BT.not (BT.val (BE.callB K.toGOk rfl K.hasattr (BA.cons (BE.var rfl rfl rfl) (BA.cons BE.str BA.nil)) (bc_hasattr hi) rfl) tru_bool)) BSs.nil) (BSs.ret (BS.ret (BE.bin (BE.var rfl rfl rfl) (BE.var rfl rfl rfl) (add_list2 hi hj hn))))⟩
  · intro pm cd doc rs hl
    obtain ⟨x, y, rfl⟩ := len_2 hl
    rfl
  · decide +kernel
  · decide +kernel
noncomputable def subCost (x y : Nat) : Int := if x = y then 0 else if Txt.lower ⟨#[x]⟩ = Txt.lower ⟨#[y]⟩ then 1 else 2
theorem BT.cast {e : Expr} {b b' : Bool} (h : BT G d sc e loc H b H') (hb : b = b') : BT G d sc e loc H b' H' := hb ▸ h
theorem BS.iteT {test : Expr} {body orelse : List Stmt} {p : Pos} {f : Fl} {b : Bool} (h : BT G d sc test loc H b H') (hb : b = true) (h2 : BSs G d sc body loc H' f loc' H'') : BS G d sc (.If test body orelse p) loc H f loc' H'' := BS.ifT (hb ▸ h) h2
theorem BS.iteF {test : Expr} {body orelse : List Stmt} {p : Pos} {f : Fl} {b : Bool} (h : BT G d sc test loc H b H') (hb : b = false) (h2 : BSs G d sc orelse loc H' f loc' H'') : BS G d sc (.If test body orelse p) loc H f loc' H'' := BS.ifF (hb ▸ h) h2
theorem f_subst (K : LK G) {x y : Nat} (hx : (Txt.lower ⟨#[x]⟩).length ≤ 1000000) (hy : (Txt.lower ⟨#[y]⟩).length ≤ 1000000) : ∀ a, G.mg (drOf 17).name = some (.ref a) → BC G (d + 3) (.ref a) [.str ⟨#[x]⟩, .str ⟨#[y]⟩] H (.int (subCost x y)) H := by
  refine K.call 17 ["ch_a", "ch_b"] (.ret _) (by decide) ?_ ?_ ?_ ?_
  · by_cases h1 : x = y
    · rw [show subCost x y = 0 from if_pos h1]
      exact ⟨_, BSs.ret (BS.iteT (BT.cmp (BE.var rfl rfl rfl) (BE.var rfl rfl rfl) eq_str2) (by simp [h1]) (BSs.ret (BS.ret BE.int)))⟩
    · by_cases h2 : Txt.lower ⟨#[x]⟩ = Txt.lower ⟨#[y]⟩
      · rw [show subCost x y = 1 by simp [subCost, h1, h2]]
        exact ⟨_, BSs.cons (BS.iteF (BT.cmp (BE.var rfl rfl rfl) (BE.var rfl rfl rfl) eq_str2) (by simp [h1]) BSs.nil)
          (BSs.ret (BS.iteT (BT.cmp (BE.meth0 (BE.var rfl rfl rfl) m_lower (bc_lower hx)) (BE.meth0 (BE.var rfl rfl rfl) m_lower (bc_lower hy)) eq_str2) (by simp [h2]) (BSs.ret (BS.ret (K.caseE rfl)))))⟩
      · rw [show subCost x y = 2 by simp [subCost, h1, h2]]
        exact ⟨_, BSs.cons (BS.iteF (BT.cmp (BE.var rfl rfl rfl) (BE.var rfl rfl rfl) eq_str2) (by simp [h1]) BSs.nil)
          (BSs.cons (BS.iteF (BT.cmp (BE.meth0 (BE.var rfl rfl rfl) m_lower (bc_lower hx)) (BE.meth0 (BE.var rfl rfl rfl) m_lower (bc_lower hy)) eq_str2) (by simp [h2]) BSs.nil) (BSs.ret (BS.ret (K.moveE rfl))))⟩
  · intro pm cd doc rs hl
    obtain ⟨x, y, rfl⟩ := len_2 hl
    rfl
  · decide +kernel
  · decide +kernel
end
end Mine
end
section
open PySem PySem.Calls PyProof.Rows
set_option Elab.async false
set_option maxRecDepth 100000
namespace Mine
section
variable {G : GL} {d : Nat} {sc : List (Str × NameKind)} {loc loc' loc'' : Loc} {H H' H'' X : Lists}
theorem replace_free {x z : Str} {c : Nat} (h : c ∉ x.cps.toList) : Txt.replace x ⟨#[c]⟩ z = x := by
  rw [StrLaws.replace_one]
  have h1 := StrLaws.join_split x ⟨#[c]⟩
  generalize Txt.split x ⟨#[c]⟩ = ps at h1 ⊢
  match ps, h1 with
  | [], h1 => exact h1
  | [p], h1 => exact h1
  | p :: q :: r, h1 =>
    exfalso
    apply h
    rw [← h1]
    show c ∈ (p ++ ⟨#[c]⟩ ++ Str.join ⟨#[c]⟩ (q :: r)).cps.toList
    simp [Str.cps_append]
theorem esc_step (K : GOk G) {c : Nat} {x z : Str} {k k1 k2 : Nat} {p1 p2 p3 p4 p5 p6 p7 p8 p9 ap pos : Pos} (hx : x.length ≤ 1000000) (hz : z.length ≤ 14) (hyz : ((⟨#[c]⟩ : Str) == z) = false) (hst : storable sc "text") (hline : (ap.endLine == pos.line) = true) :
    BS G (d + 2) sc (.If (.Compare (.Constant (.str ⟨#[c]⟩) k p1) [.In] [.Name "text" p2] p3) [.Assign [.Name "text" p4] (.Call (.Attribute (.Name "text" p5) "replace" ap) [.Constant (.str ⟨#[c]⟩) k1 p6, .Constant (.str z) k2 p7] [] pos) p8] [] p9)
      [("text", .str x)] H .next [("text", .str (Txt.replace x ⟨#[c]⟩ z))] H := by
  have ht : BT G (d + 2) sc (.Compare (.Constant (.str ⟨#[c]⟩) k p1) [.In] [.Name "text" p2] p3) [("text", .str x)] H (!(Builtin.Str.occurrences x ⟨#[c]⟩ 0 x.length 1).isEmpty) H :=
    BT.cmp BE.str (BE.var rfl rfl rfl) in_str2
  by_cases h : c ∈ x.cps.toList
  · exact BS.iteT ht (by rw [StrLaws.found_one]; simpa using h) (BSs.cons (BS.assign (BE.replace K (BE.var rfl rfl rfl) hyz hx hz (by intro _; rfl) hline) hst) BSs.nil)
  · rw [replace_free h]
    exact BS.iteF ht (by rw [StrLaws.found_one]; simpa using h) BSs.nil
noncomputable def escTo (ps : List (Nat × Str)) (x : Str) : Str := ps.foldl (fun t p => Txt.replace t ⟨#[p.1]⟩ p.2) x
noncomputable def escPairs : Nat → List (Nat × Str)
  | 0 => [(38, "&amp;"), (60, "&lt;"), (62, "&gt;")]
  | 1 => [(38, "&amp;"), (60, "&lt;"), (62, "&gt;"), (34, "&quot;"), (13, "&#13;"), (10, "&#10;"), (9, "&#09;")]
  | 2 => [(38, "&amp;"), (62, "&gt;"), (34, "&quot;")]
  | 3 => [(38, "&amp;"), (60, "&lt;"), (62, "&gt;"), (13, "&#xD;")]
  | _ => [(38, "&amp;"), (60, "&lt;"), (34, "&quot;"), (9, "&#x9;"), (10, "&#xA;"), (13, "&#xD;")]
theorem f_esc0 (K : LK G) {x : Str} (hx : ∀ k, (escTo ((escPairs 0).take k) x).length ≤ 1000000) : ∀ a, G.mg (drOf 21).name = some (.ref a) → BC G (d + 3) (.ref a) [.str x] H (.str (escTo (escPairs 0) x)) H := by
  refine K.call 21 ["text"] (.ret _) (by decide) ?_ ?_ ?_ ?_
  · exact ⟨_, BSs.ret (BS.try (BSs.cons (esc_step K.toGOk (hx 0) (by decide) (by decide) (.inl rfl) rfl) (BSs.cons (esc_step K.toGOk (hx 1) (by decide) (by decide) (.inl rfl) rfl) (BSs.cons (esc_step K.toGOk (hx 2) (by decide) (by decide) (.inl rfl) rfl)
      (BSs.ret (BS.ret (BE.var rfl rfl rfl)))))))⟩
  · intro pm cd doc rs hl
    obtain ⟨x, rfl⟩ := len_1 hl
    rfl
  · decide +kernel
  · decide +kernel
theorem f_esc1 (K : LK G) {x : Str} (hx : ∀ k, (escTo ((escPairs 1).take k) x).length ≤ 1000000) : ∀ a, G.mg (drOf 22).name = some (.ref a) → BC G (d + 3) (.ref a) [.str x] H (.str (escTo (escPairs 1) x)) H := by
  refine K.call 22 ["text"] (.ret _) (by decide) ?_ ?_ ?_ ?_
  · exact ⟨_, BSs.ret (BS.try (BSs.cons (esc_step K.toGOk (hx 0) (by decide) (by decide) (.inl rfl) rfl) (BSs.cons (esc_step K.toGOk (hx 1) (by decide) (by decide) (.inl rfl) rfl) (BSs.cons (esc_step K.toGOk (hx 2) (by decide) (by decide) (.inl rfl) rfl)
      (BSs.cons (esc_step K.toGOk (hx 3) (by decide) (by decide) (.inl rfl) rfl) (BSs.cons (esc_step K.toGOk (hx 4) (by decide) (by decide) (.inl rfl) rfl) (BSs.cons (esc_step K.toGOk (hx 5) (by decide) (by decide) (.inl rfl) rfl)
      (BSs.cons (esc_step K.toGOk (hx 6) (by decide) (by decide) (.inl rfl) rfl) (BSs.ret (BS.ret (BE.var rfl rfl rfl)))))))))))⟩
  · intro pm cd doc rs hl
    obtain ⟨x, rfl⟩ := len_1 hl
    rfl
  · decide +kernel
  · decide +kernel
theorem f_esc2 (K : LK G) {x : Str} (hx : ∀ k, (escTo ((escPairs 2).take k) x).length ≤ 1000000) : ∀ a, G.mg (drOf 23).name = some (.ref a) → BC G (d + 3) (.ref a) [.str x] H (.str (escTo (escPairs 2) x)) H := by
  refine K.call 23 ["text"] (.ret _) (by decide) ?_ ?_ ?_ ?_
  · exact ⟨_, BSs.ret (BS.try (BSs.cons (esc_step K.toGOk (hx 0) (by decide) (by decide) (.inl rfl) rfl) (BSs.cons (esc_step K.toGOk (hx 1) (by decide) (by decide) (.inl rfl) rfl) (BSs.cons (esc_step K.toGOk (hx 2) (by decide) (by decide) (.inl rfl) rfl)
      (BSs.ret (BS.ret (BE.var rfl rfl rfl)))))))⟩
  · intro pm cd doc rs hl
    obtain ⟨x, rfl⟩ := len_1 hl
    rfl
  · decide +kernel
  · decide +kernel
theorem f_esc3 (K : LK G) {x : Str} (hx : ∀ k, (escTo ((escPairs 3).take k) x).length ≤ 1000000) : ∀ a, G.mg (drOf 24).name = some (.ref a) → BC G (d + 3) (.ref a) [.str x] H (.str (escTo (escPairs 3) x)) H := by
  refine K.call 24 ["text"] (.ret _) (by decide) ?_ ?_ ?_ ?_
  · exact ⟨_, BSs.ret (BS.try (BSs.cons (esc_step K.toGOk (hx 0) (by decide) (by decide) (.inl rfl) rfl) (BSs.cons (esc_step K.toGOk (hx 1) (by decide) (by decide) (.inl rfl) rfl) (BSs.cons (esc_step K.toGOk (hx 2) (by decide) (by decide) (.inl rfl) rfl)
      (BSs.cons (esc_step K.toGOk (hx 3) (by decide) (by decide) (.inl rfl) rfl) (BSs.ret (BS.ret (BE.var rfl rfl rfl))))))))⟩
  · intro pm cd doc rs hl
    obtain ⟨x, rfl⟩ := len_1 hl
    rfl
  · decide +kernel
  · decide +kernel
theorem f_esc4 (K : LK G) {x : Str} (hx : ∀ k, (escTo ((escPairs 4).take k) x).length ≤ 1000000) : ∀ a, G.mg (drOf 25).name = some (.ref a) → BC G (d + 3) (.ref a) [.str x] H (.str (escTo (escPairs 4) x)) H := by
  refine K.call 25 ["text"] (.ret _) (by decide) ?_ ?_ ?_ ?_
  · exact ⟨_, BSs.ret (BS.try (BSs.cons (esc_step K.toGOk (hx 0) (by decide) (by decide) (.inl rfl) rfl) (BSs.cons (esc_step K.toGOk (hx 1) (by decide) (by decide) (.inl rfl) rfl) (BSs.cons (esc_step K.toGOk (hx 2) (by decide) (by decide) (.inl rfl) rfl)
      (BSs.cons (esc_step K.toGOk (hx 3) (by decide) (by decide) (.inl rfl) rfl) (BSs.cons (esc_step K.toGOk (hx 4) (by decide) (by decide) (.inl rfl) rfl) (BSs.cons (esc_step K.toGOk (hx 5) (by decide) (by decide) (.inl rfl) rfl)
      (BSs.ret (BS.ret (BE.var rfl rfl rfl))))))))))⟩
  · intro pm cd doc rs hl
    obtain ⟨x, rfl⟩ := len_1 hl
    rfl
  · decide +kernel
  · decide +kernel
end
end Mine
end
section
open PySem PySem.Calls PyProof.Rows
set_option Elab.async false
set_option maxRecDepth 100000
namespace Mine
section
variable {G : GL} {d : Nat} {sc : List (Str × NameKind)} {loc loc' loc'' : Loc} {H H' H'' X : Lists}
theorem Act2.cast {f : Value → Value → Sem Value} {a b v v' : V} (h : Act2 G f a b H v H') (e : v = v') : Act2 G f a b H v' H' := e ▸ h
theorem add_nat2 {a b : Nat} : Act2 G (binaryOp .Add) (.int a) (.int b) H (.int (a + b : Nat)) H := add_int2.cast (by simp)
theorem iadd_nat2 {a b : Nat} : Act2 G (inplaceOp .Add) (.int a) (.int b) H (.int (a + b : Nat)) H := iadd_int2.cast (by simp)
theorem mod_nat2 {a b : Nat} (hb : b ≠ 0) : Act2 G (binaryOp .Mod) (.int a) (.int b) H (.int (a % b : Nat)) H := (mod_int2 (by (first | lia | omega))).cast (by
  rw [Int.fmod_eq_emod_of_nonneg _ (by (first | lia | omega))]; simp)
theorem div_nat2 {a b : Nat} (hb : b ≠ 0) (hs : b < 1073741824) : Act2 G (binaryOp .FloorDiv) (.int a) (.int b) H (.int (a / b : Nat)) H := (div_int2 (by (first | lia | omega)) (by (first | lia | omega))).cast (by
  rw [Int.fdiv_eq_ediv_of_nonneg _ (by (first | lia | omega))]; simp)
theorem mul_nat2 {a b : Nat} (hm : a < 2 ^ 64) : Act2 G (binaryOp .Mult) (.int a) (.int b) H (.int (a * b : Nat)) H := (mul_int2 (.of_left (intBits_le_iff.mpr (by (first | lia | omega))))).cast (by simp)
theorem pow_nat2 {n : Nat} (h1 : n ≤ 1000000) : Act2 G (binaryOp .Pow) (.int 2) (.int n) H (.int (2 ^ n : Nat)) H := (pow_int2 (by (first | lia | omega)) (by (first | lia | omega))).cast (by simp)
theorem eq_nat2 {a b : Nat} : Act2 G (compareOp .Eq) (.int a) (.int b) H (.bool (decide (a = b))) H := eq_int2.cast (by
  congr 1; by_cases h : a = b
  · simp [h]
  · have h' : ¬ ((a : Int) = b) := by (first | lia | omega)
    simp [h, h'])
theorem lt_nat2 {a b : Nat} : Act2 G (compareOp .Lt) (.int a) (.int b) H (.bool (decide (a < b))) H := lt_int2.cast (by simp)
theorem item_nat2 {i : Nat} {l : List V} {k : Nat} {v : V} (hl : H[i]? = some l) (hk : k < 2 ^ 62) (hv : l[k]? = some v) : Act2 G getItem (.ref i) (.int k) H v H := item_list2 hl (by (first | lia | omega)) (by (first | lia | omega)) (by simpa using hv)
theorem itemT_nat2 {l : List V} {k : Nat} {v : V} (hk : k < 2 ^ 62) (hv : l[k]? = some v) : Act2 G getItem (.tup l) (.int k) H v H := item_tup2 (by (first | lia | omega)) (by (first | lia | omega)) (by simpa using hv)
theorem BE.subScr (K : GOk G) {value slice : Expr} {p : Pos} {k : Nat} {v : Int} (h1 : BE G (d + 1) sc value loc H .scr H') (h2 : BE G (d + 1) sc slice loc H' (.int k) H'') (hk : k < 2 ^ 62) (hv : G.script[k]? = some v) : BE G (d + 1) sc (.Subscript value slice p) loc H (.int v) H'' := by
  intro A env α s R S X L
  refine ⟨fun Q E hQ => ?_⟩
  refine Subscript_ ((h1 A env α s R S X L).out _ _ fun ra s1 α1 x1 X1 v1 => ?_)
  refine (h2 A env α1 s1 R S X1 (L.ext X x1)).out _ _ fun rb s2 α2 x2 X2 v2 => ?_
  cases v1
  obtain ⟨ops, hs⟩ := subscripted_ops slice (.ref G.aScr) rb
  obtain ⟨items, hp, hi⟩ := K.scr
  have hT : s2.TypeIs (.ref G.aScr) "list" := by obtain ⟨n, e⟩ := plain_keeps hp X2.keep; exact ⟨_, e, rfl⟩
  refine tail_any hT slot_list_getitem.lookup ?_ hs
  refine (item_scr2 K (k := k) (by (first | lia | omega)) (by (first | lia | omega)) (by simpa using hv) A α2 s2 _ rb R.one X2 .scr v2).out _ _ fun r s3 α3 x3 X3 v3 => ?_
  exact hQ _ _ _ ((x1.trans x2).trans x3) X3 v3
theorem rngL_mem {a c : Int} {n : Nat} {v : V} (h : v ∈ rngL a c n) : ∃ i, i < n ∧ v = .int (a + (i : Nat) * c) := by
  obtain ⟨i, hi⟩ := List.getElem?_of_mem h
  exact ⟨i, rngL_get hi⟩

theorem CompR.mapE {x : Str} {elt : Expr} {src : Lists → Prop} (f : V → V) {l l' : Loc} {vs out : List V} (hs : src H) (e : out = vs.map f) (hl : ∀ v, setL l' x v = setL l x v) (hb : ∀ v ∈ vs, BE G d sc elt (setL l x v) H (f v) H) : CompR G d sc x elt [] src vs l' H out H :=
  e ▸ CompR.map f hs hl hb
/-- the six numbers -/
noncomputable def restCells : List Nat := [27, 70, 89, 1192, 1874, 5]
noncomputable def cellAt (script : List Int) (k : Nat) : Nat := if h : k < script.length then (script[k].emod 1000000).toNat else restCells[k]?.getD 0
noncomputable def cellsOf (script : List Int) : List Nat := (List.range 6).map (cellAt script)
theorem f_cells (K : LK G) (hs : G.script.length ≤ 1000000) : ∀ a, G.mg (drOf 27).name = some (.ref a) → BC G (d + 4) (.ref a) [.scr] [] (.ref 0) [(cellsOf G.script).map fun c => .int (c : Nat)] := by
  intro a ha
  have key : BC G (d + 4) (.ref a) [.scr] [] (.ref 1) ([] ++ [restCells.map (fun c => .int (c : Nat)), (cellsOf G.script).map fun c => .int (c : Nat)]) := by
    revert a ha
    refine K.call 27 ["script"] (.ret _) (by decide) ?_ ?_ ?_ ?_
    · refine ⟨_, BSs.cons (BS.assign (BE.list (BA.cons BE.int (BA.cons BE.int (BA.cons BE.int (BA.cons BE.int (BA.cons BE.int (BA.cons BE.int BA.nil))))))) (.inr rfl)) (BSs.ret (BS.ret ?_))⟩
      refine BE.comp (out := (cellsOf G.script).map fun c => .int (c : Nat)) (BIt.range (n := 6) (BRng.one K.toGOk rfl K.range (BA.cons BE.int BA.nil)) (by decide) (by decide))
        (CompR.mapE (fun v => match v with | .int k => .int (cellAt G.script k.toNat : Nat) | _ => .none) trivial (by rfl) (fun _ => rfl) ?_) (by simp [cellsOf]) (.inl rfl)
      · intro v hv
        obtain ⟨i, hi, rfl⟩ := rngL_mem hv
        simp only [Int.zero_add, Int.mul_one, Int.toNat_natCast]
        by_cases h : i < G.script.length
        · refine BE.ifT (BT.cast (BT.cmp (BE.var rfl rfl rfl) (BE.callB K.toGOk rfl K.len (BA.cons (BE.var rfl rfl rfl) BA.nil) (bc_len_scr K.toGOk hs) rfl) lt_nat2) (by simpa using h)) ?_
          refine BE.bin (BE.subScr K.toGOk (BE.var rfl rfl rfl) (BE.var rfl rfl rfl) (by (first | lia | omega)) (List.getElem?_eq_getElem h)) BE.int ((mod_int2 (by decide)).cast ?_)
          rw [Int.fmod_eq_emod_of_nonneg _ (by decide)]
          unfold cellAt
          rw [dif_pos h]
          congr 1
          exact (Int.toNat_of_nonneg (Int.emod_nonneg _ (by decide))).symm
        · refine BE.ifF (BT.cast (BT.cmp (BE.var rfl rfl rfl) (BE.callB K.toGOk rfl K.len (BA.cons (BE.var rfl rfl rfl) BA.nil) (bc_len_scr K.toGOk hs) rfl) lt_nat2) (by simpa using h)) ?_
          refine BE.sub (BE.var rfl rfl rfl) (BE.var rfl rfl rfl) (item_nat2 (l := restCells.map (fun c => V.int (c : Nat))) rfl (by (first | lia | omega)) ?_)
          unfold cellAt
          rw [dif_neg h]
          have : i < restCells.length := hi
          simp [List.getElem?_eq_getElem this]
    · intro pm cd doc rs hl
      obtain ⟨x, rfl⟩ := len_1 hl
      rfl
    · decide +kernel
    · decide +kernel
  exact key.dropTo rfl (Nat.zero_le _) rfl (by simp [cellsOf, plainVs, List.range_succ, plainV])
end
end Mine
end
section
open PySem PySem.Calls PyProof.Rows
set_option Elab.async false
set_option maxRecDepth 100000
namespace Mine
section
variable {G : GL} {d : Nat} {sc : List (Str × NameKind)} {loc loc' loc'' : Loc} {H H' H'' X : Lists}
theorem get_app {i : Nat} {l : List V} (h : H[i]? = some l) : (H ++ X)[i]? = some l := by
  rw [List.getElem?_append_left (List.getElem?_eq_some_iff.mp h).1]; exact h
theorem get_last {l : List V} : (H ++ [l])[H.length]? = some l := by simp
theorem set_last {l l' : List V} : (H ++ [l]).set H.length l' = H ++ [l'] := by simp
theorem plainH_app (h : plainH H = true) (h' : plainH X = true) : plainH (H ++ X) = true := by unfold plainH at *; rw [List.all_append, h, h']; rfl
theorem plainVs_map {τ : Type} {f : τ → V} (h : ∀ x, plainV (f x) = true) : ∀ l : List τ, plainVs (l.map f) = true
  | [] => rfl
  | x :: l => by rw [List.map_cons]; unfold plainVs; rw [h, plainVs_map h l]; rfl
theorem rngN_get {n i : Nat} {v : V} (h : (rngL 0 1 n)[i]? = some v) : i < n ∧ v = .int (i : Nat) := by
  obtain ⟨h1, h2⟩ := rngL_get h
  exact ⟨h1, by rw [h2]; simp⟩
theorem rng_size {n : Nat} : Builtin.Range.rangeSize 0 n 1 = n := by
  unfold Builtin.Range.rangeSize
  rw [if_pos (by decide)]
  split <;> (first | lia | omega)
theorem rng_small {n : Nat} (h : n < 2 ^ 30) : Builtin.Range.small 0 n 1 = true := by
  unfold Builtin.Range.small
  rw [rng_size]
  unfold Builtin.Range.rangeFitsLong
  simp
  (first | lia | omega)
noncomputable def startsN : List Nat := [119808, 119860, 119912, 120016, 120172, 120224, 120276, 120328, 120380, 120432]
noncomputable def stepsN : List Nat := [1, 3, 5, 7, 9, 11, 15, 17, 19, 21, 23, 25]
noncomputable def stepOf (c1 : Nat) : Nat := stepsN[c1 / 26 % 12]?.getD 0
noncomputable def nthOf (c1 k : Nat) : Nat := (c1 + k * stepOf c1) % 26
structure Letter where
  small : Nat
  great : Nat
  price : Nat
noncomputable def letterOf (c1 c3 k : Nat) : Letter :=
  if c3 / 2 ^ k % 2 = 0 then ⟨97 + nthOf c1 k, 65 + nthOf c1 k, 1⟩ else ⟨97 + nthOf c1 k, startsN[(c3 / 256 + k) % 10]?.getD 0 + nthOf c1 k, 2⟩
noncomputable def Letter.v (l : Letter) : V := .tup [.str ⟨#[l.small]⟩, .str ⟨#[l.great]⟩, .int (l.price : Nat)]
noncomputable def lettersOf (c0 c1 c3 : Nat) : List Letter := (List.range (5 + c0 % 4)).map (letterOf c1 c3)
noncomputable def constInts : List Expr → Option (List Int)
  | [] => some []
  | .Constant (.int i) _ _ :: r => match constInts r with
    | some l => some (i :: l)
    | none => none
  | _ :: _ => none
theorem BA.ints : ∀ {es : List Expr} {ns : List Int} {vs : List V}, constInts es = some ns → vs = ns.map .int → BA G d sc es loc H vs H
  | [], ns, vs, h, hv => by
    subst hv
    cases h
    exact BA.nil
  | e :: r, ns, vs, h, hv => by
    unfold constInts at h
    split at h
    · rename_i heq; cases heq
    · rename_i i k p r' heq
      cases heq
      split at h
      · rename_i l hl
        cases h
        subst hv
        exact BA.cons BE.int (BA.ints hl rfl)
      · cases h
    · cases h
theorem getD_of {l : List Nat} {i : Nat} (h : i < l.length) : l[i]? = some (l[i]?.getD 0) := by rw [List.getElem?_eq_getElem h]; rfl
theorem stepsN_get {c1 : Nat} : (stepsN.map fun c => V.int (c : Nat))[c1 / 26 % 12]? = some (.int (stepOf c1 : Nat)) := by
  rw [List.getElem?_map, getD_of (by show _ < 12; (first | lia | omega))]; rfl
theorem starts_le : ∀ i : Nat, startsN[i]?.getD 0 ≤ 120432 := fun i => by
  by_cases h : i < startsN.length
  · have : ∀ x ∈ startsN, x ≤ 120432 := by decide
    rw [List.getElem?_eq_getElem h]; exact this _ (List.getElem_mem h)
  · rw [List.getElem?_eq_none (by (first | lia | omega))]; decide
theorem bc_chr_nat {i : Nat} (h1 : i ≤ 1114111) : BC G (d + 1) (.builtin "chr") [.int i] H (.str ⟨#[i]⟩) H := by
  have := bc_chr (G := G) (d := d) (H := H) (i := (i : Int)) (by (first | lia | omega)) (by (first | lia | omega))
  simpa using this
theorem f_letters (K : LK G) (hp : plainH H = true) {i c0 c1 c2 c3 c4 c5 : Nat} (hi : H[i]? = some [.int c0, .int c1, .int c2, .int c3, .int c4, .int c5]) :
    ∀ a, G.mg (drOf 29).name = some (.ref a) → BC G (d + 6) (.ref a) [.ref i] H (.ref H.length) (H ++ [(lettersOf c0 c1 c3).map Letter.v]) := by
  intro a ha
  have key : BC G (d + 6) (.ref a) [.ref i] H (.ref (H ++ [startsN.map fun c => V.int (c : Nat)]).length) (H ++ [startsN.map fun c => V.int (c : Nat), (lettersOf c0 c1 c3).map Letter.v]) := by
    revert a ha
    refine K.call 29 ["cells"] (.ret _) (by decide) ?_ ?_ ?_ ?_
    · obtain ⟨H1, e1⟩ : ∃ x, x = H ++ [startsN.map fun c => V.int (c : Nat)] := ⟨_, rfl⟩
      have hp1 : plainH H1 = true := by rw [e1]; exact plainH_app hp (by decide)
      have h1 : H1[i]? = some [.int c0, .int c1, .int c2, .int c3, .int c4, .int c5] := by rw [e1]; exact get_app hi
      have h1s : H1[H.length]? = some (startsN.map fun c => V.int (c : Nat)) := by rw [e1]; exact get_last
      have ek : H ++ [startsN.map fun c => V.int (c : Nat), (lettersOf c0 c1 c3).map Letter.v] = H1 ++ [(lettersOf c0 c1 c3).map Letter.v] := by rw [e1, List.append_assoc]; rfl
      rw [ek, ← e1]
      refine ⟨[("cells", .ref i), ("starts", .ref H.length), ("step", .int (stepOf c1 : Nat)), ("letters", .ref H1.length)], ?_⟩
      refine BSs.cons (H' := H1) (loc' := [("cells", .ref i), ("starts", .ref H.length)]) ?_ ?_
      · refine BS.assign (loc := [("cells", .ref i)]) (v := .ref H.length) ?_ ?_
        · rw [e1]
          refine BE.list (vs := startsN.map fun c => V.int (c : Nat)) ?_
          exact BA.ints rfl rfl
        · exact .inl rfl
      refine BSs.cons (H' := H1) (loc' := [("cells", .ref i), ("starts", .ref H.length), ("step", .int (stepOf c1 : Nat))]) ?_ ?_
      · refine BS.assign (loc := [("cells", .ref i), ("starts", .ref H.length)]) (v := .int (stepOf c1 : Nat)) ?_ ?_
        rotate_left
        · exact .inl rfl
        refine BE.drop (X := [stepsN.map fun c => V.int (c : Nat)]) ?_ hp1 rfl
        refine BE.sub (H' := H1 ++ [stepsN.map fun c => V.int (c : Nat)]) (o := .ref H1.length) (i := .int (c1 / 26 % 12 : Nat)) ?_ ?_ (item_nat2 get_last (by (first | lia | omega)) stepsN_get)
        · refine BE.list (vs := stepsN.map fun c => V.int (c : Nat)) ?_
          exact BA.ints rfl rfl
        · exact BE.bin (BE.bin (BE.sub (BE.var rfl rfl rfl) BE.int (item_nat2 (k := 1) (get_app h1) (by decide) rfl)) BE.int (div_nat2 (b := 26) (by decide) (by decide))) BE.int (mod_nat2 (b := 12) (by decide))
      refine BSs.cons (BS.assign (BE.list BA.nil) (.inl rfl)) ?_
      refine BSs.cons (BS.forGo (src := fun _ => True) (vs := rngL 0 1 (5 + c0 % 4)) (fun k => [("cells", .ref i), ("starts", .ref H.length), ("step", .int (stepOf c1 : Nat)), ("letters", .ref H1.length)]) (fun k => H1 ++ [((List.range k).map (letterOf c1 c3)).map Letter.v])
        ⟨rfl, rfl, rfl, rfl, trivial⟩ rfl ?_ (fun _ => trivial) ?_) ?_
      · refine BIt.range (b := (5 + c0 % 4 : Nat)) (BRng.one K.toGOk rfl K.range (BA.cons ?_ BA.nil)) (rng_small (by (first | lia | omega))) rng_size
        exact BE.bin BE.int (BE.bin (BE.sub (BE.var rfl rfl rfl) BE.int (item_nat2 (k := 0) (get_app h1) (by decide) rfl)) BE.int (mod_nat2 (b := 4) (by decide))) (add_nat2 (a := 5))
      rotate_left
      · rw [rngL_len]
        exact BSs.ret (BS.ret (BE.var rfl rfl rfl))
      intro k v hv
      obtain ⟨hk, rfl⟩ := rngN_get hv
      refine ⟨_, _, [("cells", .ref i), ("starts", .ref H.length), ("step", .int (stepOf c1 : Nat)), ("letters", .ref H1.length), ("k", .int k), ("nth", .int (nthOf c1 k : Nat))], BB.name (.inl rfl), ?_, ?_⟩
      · have hg : H1 ++ [((List.range (k + 1)).map (letterOf c1 c3)).map Letter.v] = (H1 ++ [((List.range k).map (letterOf c1 c3)).map Letter.v]).set H1.length (((List.range k).map (letterOf c1 c3)).map Letter.v ++ [(letterOf c1 c3 k).v]) := by
          rw [set_last, List.range_succ, List.map_append, List.map_append]; rfl
        have hap := @bc_append G (d + 4) (H1 ++ [((List.range k).map (letterOf c1 c3)).map Letter.v]) H1.length _ (letterOf c1 c3 k).v get_last (by simp; (first | lia | omega))
        rw [← hg] at hap
        refine BSs.cons (BS.assign (v := .int (nthOf c1 k : Nat)) (BE.bin (BE.bin (BE.sub (BE.var rfl rfl rfl) BE.int (item_nat2 (k := 1) (get_app h1) (by decide) rfl)) (BE.bin (BE.var rfl rfl rfl) (BE.var rfl rfl rfl) (mul_nat2 (by (first | lia | omega)))) add_nat2) BE.int (mod_nat2 (b := 26) (by decide))) (.inl rfl)) ?_
        refine BSs.cons ?_ BSs.nil
        have hn : nthOf c1 k < 26 := Nat.mod_lt _ (by decide)
        by_cases hc : c3 / 2 ^ k % 2 = 0
        · rw [show letterOf c1 c3 k = ⟨97 + nthOf c1 k, 65 + nthOf c1 k, 1⟩ from if_pos hc] at hap
          refine BS.iteT (BT.cmp (BE.bin (BE.bin (BE.sub (BE.var rfl rfl rfl) BE.int (item_nat2 (k := 3) (get_app h1) (by decide) rfl)) (BE.bin BE.int (BE.var rfl rfl rfl) (pow_nat2 (by (first | lia | omega)))) (div_nat2 (by simp) (Nat.lt_of_lt_of_le (Nat.pow_lt_pow_right (by decide) (show k < 10 by (first | lia | omega))) (by decide)))) BE.int (mod_nat2 (b := 2) (by decide))) BE.int (eq_nat2 (b := 0))) (by simpa using hc) (BSs.cons (BS.exprNone (BE.meth (BE.var rfl rfl rfl) m_append (BA.cons (BE.tuple (hn := by simp) (BA.cons (BE.callB K.toGOk rfl K.chr (BA.cons (BE.bin BE.int (BE.var rfl rfl rfl) (add_nat2 (a := 97))) BA.nil) (bc_chr_nat (by (first | lia | omega))) rfl)
            (BA.cons (BE.callB K.toGOk rfl K.chr (BA.cons (BE.bin BE.int (BE.var rfl rfl rfl) (add_nat2 (a := 65))) BA.nil) (bc_chr_nat (by (first | lia | omega))) rfl) (BA.cons BE.int BA.nil)))) BA.nil) hap)) BSs.nil)
        · rw [show letterOf c1 c3 k = _ from if_neg hc] at hap
          have hst := starts_le ((c3 / 256 + k) % 10)
          refine BS.iteF (BT.cmp (BE.bin (BE.bin (BE.sub (BE.var rfl rfl rfl) BE.int (item_nat2 (k := 3) (get_app h1) (by decide) rfl)) (BE.bin BE.int (BE.var rfl rfl rfl) (pow_nat2 (by (first | lia | omega)))) (div_nat2 (by simp) (Nat.lt_of_lt_of_le (Nat.pow_lt_pow_right (by decide) (show k < 10 by (first | lia | omega))) (by decide)))) BE.int (mod_nat2 (b := 2) (by decide))) BE.int (eq_nat2 (b := 0))) (by simpa using hc) (BSs.cons (BS.exprNone (BE.meth (BE.var rfl rfl rfl) m_append (BA.cons (BE.tuple (hn := by simp) (BA.cons (BE.callB K.toGOk rfl K.chr (BA.cons (BE.bin BE.int (BE.var rfl rfl rfl) (add_nat2 (a := 97))) BA.nil) (bc_chr_nat (by (first | lia | omega))) rfl)
            (BA.cons (BE.callB K.toGOk rfl K.chr (BA.cons (BE.bin (BE.sub (BE.var rfl rfl rfl) (BE.bin (BE.bin (BE.bin (BE.sub (BE.var rfl rfl rfl) BE.int (item_nat2 (k := 3) (get_app h1) (by decide) rfl)) BE.int (div_nat2 (b := 256) (by decide) (by decide))) (BE.var rfl rfl rfl) add_nat2) BE.int (mod_nat2 (b := 10) (by decide)))
              (item_nat2 (v := .int (startsN[(c3 / 256 + k) % 10]?.getD 0 : Nat)) (get_app h1s) (by (first | lia | omega)) (by rw [List.getElem?_map, getD_of (by show _ < 10; (first | lia | omega))]; rfl))) (BE.var rfl rfl rfl) add_nat2) BA.nil) (bc_chr_nat (by (first | lia | omega))) rfl) (BA.cons BE.int BA.nil)))) BA.nil) hap)) BSs.nil)
      · exact subL.get ⟨rfl, rfl, rfl, rfl, trivial⟩
    · intro pm cd doc rs hl
      obtain ⟨x, rfl⟩ := len_1 hl
      rfl
    · decide +kernel
    · decide +kernel
  exact key.dropTo hp (by simp) (by simp) (plainVs_map (fun _ => rfl) _)
end
end Mine
end
section
open PySem PySem.Calls PyProof.Rows
set_option Elab.async false
set_option maxRecDepth 100000
namespace Mine
section
variable {G : GL} {d : Nat} {sc : List (Str × NameKind)} {loc loc' loc'' : Loc} {H H' H'' X : Lists}
theorem cutL_init {τ : Type} (l : List τ) : cutL l none (some (-1)) = l.dropLast := by
  unfold cutL clipAt
  rw [List.dropLast_eq_take]
  simp only [Option.elim]
  rw [List.drop_zero]
  congr 1
  rw [if_pos (by decide)]
  (first | lia | omega)
noncomputable def chainStep (mask k : Nat) (c : List Nat) : List Nat := if mask / 2 ^ k % 2 = 0 ∨ c.getLastD 0 = mask % 2 ^ k then c ++ [c.getLastD 0 + 2 ^ k] else c.dropLast.map (· + 2 ^ k)
noncomputable def chainN (mask : Nat) : Nat → List Nat
  | 0 => [0]
  | k + 1 => chainStep mask k (chainN mask k)
theorem mod_pow_succ' (m k : Nat) : m % 2 ^ (k + 1) = m % 2 ^ k + 2 ^ k * (m / 2 ^ k % 2) := by
  rw [Nat.pow_succ, Nat.mod_mul]
theorem getLast_mem' {c : List Nat} (h : c ≠ []) : c.getLastD 0 = c.getLast h := by
  cases c with
  | nil => exact absurd rfl h
  | cons a r => simp [List.getLastD]
theorem chain_mem (m : Nat) : ∀ k, m % 2 ^ k ∈ chainN m k
  | 0 => by simp [chainN, Nat.mod_one]
  | k + 1 => by
    have ih := chain_mem m k
    have e := mod_pow_succ' m k
    unfold chainN chainStep
    by_cases h : m / 2 ^ k % 2 = 0
    · rw [if_pos (.inl h), e, h]
      simp [ih]
    · have h1 : m / 2 ^ k % 2 = 1 := by (first | lia | omega)
      rw [e, h1, Nat.mul_one]
      by_cases h2 : (chainN m k).getLastD 0 = m % 2 ^ k
      · rw [if_pos (.inr h2), h2]; simp
      · rw [if_neg (fun q => q.elim (by decide) h2)]
        refine List.mem_map.mpr ⟨_, ?_, rfl⟩
        have hne : chainN m k ≠ [] := List.ne_nil_of_mem ih
        have := List.dropLast_concat_getLast hne
        rw [← this, List.mem_append] at ih
        rcases ih with ih | ih
        · exact ih
        · rw [List.mem_singleton] at ih
          rw [getLast_mem' hne] at h2
          exact absurd ih.symm h2
theorem chain_ne (m k : Nat) : chainN m k ≠ [] := List.ne_nil_of_mem (chain_mem m k)
theorem chain_len (m : Nat) : ∀ k, (chainN m k).length ≤ k + 1
  | 0 => by simp [chainN]
  | k + 1 => by
    have ih := chain_len m k
    unfold chainN chainStep
    split
    · simp; (first | lia | omega)
    · simp; (first | lia | omega)
noncomputable def natsV (l : List Nat) : List V := l.map fun n => V.int (n : Nat)
noncomputable def chainG (mask k : Nat) : List V := if mask / 2 ^ k % 2 = 0 ∨ (chainN mask k).getLastD 0 = mask % 2 ^ k then natsV [(chainN mask k).getLastD 0 + 2 ^ k] else natsV (chainN mask k).dropLast
noncomputable def chainH (mask : Nat) : Nat → Lists
  | 0 => [natsV [0]]
  | k + 1 => chainH mask k ++ [chainG mask k, natsV (chainN mask (k + 1))]
theorem chainH_len (mask : Nat) : ∀ k, (chainH mask k).length = 2 * k + 1
  | 0 => rfl
  | k + 1 => by unfold chainH; rw [List.length_append, chainH_len mask k]; simp; (first | lia | omega)
theorem chainH_get (mask : Nat) : ∀ k, (chainH mask k)[2 * k]? = some (natsV (chainN mask k))
  | 0 => rfl
  | k + 1 => by
    unfold chainH
    rw [List.getElem?_append_right (by rw [chainH_len]; (first | lia | omega)), chainH_len]
    rw [show 2 * (k + 1) - (2 * k + 1) = 1 by (first | lia | omega)]
    rfl
theorem last_at {c : List Nat} (h : c ≠ []) : (natsV c)[(-1 + ((natsV c).length : Int)).toNat]? = some (.int (c.getLastD 0 : Nat)) := by
  have hl : 0 < c.length := List.length_pos_iff.mpr h
  unfold natsV
  rw [List.length_map, show (-1 + (c.length : Int)).toNat = c.length - 1 by (first | lia | omega), List.getElem?_map, getLast_mem' h, List.getLast_eq_getElem, List.getElem?_eq_getElem (by (first | lia | omega))]
  rfl
theorem f_chain (K : LK G) (hp : plainH H = true) {size mask : Nat} (hz : size ≤ 20) :
    ∀ a, G.mg (drOf 30).name = some (.ref a) → BC G (d + 6) (.ref a) [.int size, .int mask] H (.ref H.length) (H ++ [natsV (chainN mask size)]) := by
  intro a ha
  have key : BC G (d + 6) (.ref a) [.int size, .int mask] H (.ref (H.length + 2 * size)) (H ++ chainH mask size) := by
    revert a ha
    refine K.call 30 ["size", "mask"] (.ret _) (by decide) ?_ ?_ ?_ ?_
    · refine ⟨[("size", .int size), ("mask", .int mask), ("chain", .ref (H.length + 2 * size))], ?_⟩
      refine BSs.cons (BS.assign (BE.list (BA.cons BE.int BA.nil)) (.inl rfl)) ?_
      refine BSs.cons (BS.forGo (src := fun _ => True) (vs := rngL 0 1 size) (fun k => [("size", .int size), ("mask", .int mask), ("chain", .ref (H.length + 2 * k))]) (fun k => H ++ chainH mask k) ⟨rfl, rfl, rfl, trivial⟩ rfl
        (BIt.range (b := (size : Nat)) (BRng.one K.toGOk rfl K.range (BA.cons (BE.var rfl rfl rfl) BA.nil)) (rng_small (by (first | lia | omega))) rng_size) (fun _ => trivial) ?_) ?_
      rotate_left
      · rw [rngL_len]
        exact BSs.ret (BS.ret (BE.var rfl rfl rfl))
      intro k v hv
      obtain ⟨hk, rfl⟩ := rngN_get hv
      refine ⟨_, _, [("size", .int size), ("mask", .int mask), ("chain", .ref (H.length + 2 * (k + 1))), ("k", .int k)], BB.name (.inr rfl), ?_, subL.get ⟨rfl, rfl, rfl, trivial⟩⟩
      have hg : (H ++ chainH mask k)[H.length + 2 * k]? = some (natsV (chainN mask k)) := by
        rw [List.getElem?_append_right (by (first | lia | omega)), Nat.add_sub_cancel_left]; exact chainH_get mask k
      have hlen : (natsV (chainN mask k)).length ≤ k + 1 := by unfold natsV; rw [List.length_map]; exact chain_len mask k
      have hpos : 0 < (natsV (chainN mask k)).length := by unfold natsV; rw [List.length_map]; exact List.length_pos_iff.mpr (chain_ne mask k)
      have hlast : Act2 G getItem (.ref (H.length + 2 * k)) (.int (-1)) (H ++ chainH mask k) (.int ((chainN mask k).getLastD 0 : Nat)) (H ++ chainH mask k) :=
        item_list_neg2 hg (by decide) (by (first | lia | omega)) (by (first | lia | omega)) (last_at (chain_ne mask k))
      have hnz : 2 ^ k ≠ 0 := by simp
      have hsm : 2 ^ k < 1073741824 := Nat.lt_of_lt_of_le (Nat.pow_lt_pow_right (by decide) (show k < 20 by (first | lia | omega))) (by decide)
      have hH : H ++ chainH mask (k + 1) = (H ++ chainH mask k) ++ [chainG mask k, natsV (chainN mask (k + 1))] := by
        rw [List.append_assoc]; rfl
      have hL : (H ++ chainH mask k).length = H.length + 2 * k + 1 := by rw [List.length_append, chainH_len]; (first | lia | omega)
      rw [hH]
      refine BSs.cons ?_ BSs.nil
      by_cases hc : mask / 2 ^ k % 2 = 0 ∨ (chainN mask k).getLastD 0 = mask % 2 ^ k
      · rw [show chainG mask k = natsV [(chainN mask k).getLastD 0 + 2 ^ k] from if_pos hc, show chainN mask (k + 1) = chainN mask k ++ [(chainN mask k).getLastD 0 + 2 ^ k] from if_pos hc]
        have hf : H ++ chainH mask k ++ [natsV [(chainN mask k).getLastD 0 + 2 ^ k], natsV (chainN mask k ++ [(chainN mask k).getLastD 0 + 2 ^ k])] = H ++ chainH mask k ++ [[.int ((chainN mask k).getLastD 0 + 2 ^ k : Nat)]] ++ [natsV (chainN mask k) ++ [.int ((chainN mask k).getLastD 0 + 2 ^ k : Nat)]] := by
          unfold natsV; simp
        have hr : H.length + 2 * (k + 1) = (H ++ chainH mask k ++ [[V.int ((chainN mask k).getLastD 0 + 2 ^ k : Nat)]]).length := by rw [List.length_append, hL]; simp only [List.length_singleton]; (first | lia | omega)
        rw [hf, hr]
        by_cases h0 : mask / 2 ^ k % 2 = 0
        · exact BS.iteT (BT.or_t (BT.cast (BT.cmp (BE.bin (BE.bin (BE.var rfl rfl rfl) (BE.bin BE.int (BE.var rfl rfl rfl) (pow_nat2 (by (first | lia | omega)))) (div_nat2 hnz hsm)) BE.int (mod_nat2 (b := 2) (by decide))) BE.int (eq_nat2 (b := 0))) (by simpa using h0))) rfl (BSs.cons (BS.assign (BE.bin (BE.var rfl rfl rfl) (BE.list (BA.cons (BE.bin (BE.sub (BE.var rfl rfl rfl) (neg_int2 BE.int) hlast) (BE.bin BE.int (BE.var rfl rfl rfl) (pow_nat2 (by (first | lia | omega)))) add_nat2) BA.nil) (by simp))
            (add_list2 (get_app hg) get_last (by simp only [List.length_singleton]; (first | lia | omega)))) (.inl rfl)) BSs.nil)
        · exact BS.iteT (BT.or_f (BT.cast (BT.cmp (BE.bin (BE.bin (BE.var rfl rfl rfl) (BE.bin BE.int (BE.var rfl rfl rfl) (pow_nat2 (by (first | lia | omega)))) (div_nat2 hnz hsm)) BE.int (mod_nat2 (b := 2) (by decide))) BE.int (eq_nat2 (b := 0))) (by simpa using h0)) (BT.or_t (BT.cast (BT.cmp (BE.sub (BE.var rfl rfl rfl) (neg_int2 BE.int) hlast) (BE.bin (BE.var rfl rfl rfl) (BE.bin BE.int (BE.var rfl rfl rfl) (pow_nat2 (by (first | lia | omega)))) (mod_nat2 hnz)) eq_nat2) (by simpa using hc.resolve_left h0)))) rfl (BSs.cons (BS.assign (BE.bin (BE.var rfl rfl rfl) (BE.list (BA.cons (BE.bin (BE.sub (BE.var rfl rfl rfl) (neg_int2 BE.int) hlast) (BE.bin BE.int (BE.var rfl rfl rfl) (pow_nat2 (by (first | lia | omega)))) add_nat2) BA.nil) (by simp))
            (add_list2 (get_app hg) get_last (by simp only [List.length_singleton]; (first | lia | omega)))) (.inl rfl)) BSs.nil)
      · rw [show chainG mask k = natsV (chainN mask k).dropLast from if_neg hc, show chainN mask (k + 1) = (chainN mask k).dropLast.map (· + 2 ^ k) from if_neg hc]
        have hf : H ++ chainH mask k ++ [natsV (chainN mask k).dropLast, natsV ((chainN mask k).dropLast.map (· + 2 ^ k))] = H ++ chainH mask k ++ [cutL (natsV (chainN mask k)) none (some (-1))] ++ [natsV ((chainN mask k).dropLast.map (· + 2 ^ k))] := by
          rw [cutL_init, List.append_assoc, List.append_assoc, List.append_assoc]; unfold natsV; rw [List.map_dropLast]; rfl
        have hr : H.length + 2 * (k + 1) = (H ++ chainH mask k ++ [cutL (natsV (chainN mask k)) none (some (-1))]).length := by rw [List.length_append, hL]; simp only [List.length_singleton]; (first | lia | omega)
        rw [hf, hr]
        refine BS.iteF (BT.or_f (BT.cast (BT.cmp (BE.bin (BE.bin (BE.var rfl rfl rfl) (BE.bin BE.int (BE.var rfl rfl rfl) (pow_nat2 (by (first | lia | omega)))) (div_nat2 hnz hsm)) BE.int (mod_nat2 (b := 2) (by decide))) BE.int (eq_nat2 (b := 0))) (by simpa using fun h => hc (.inl h))) (BT.or_f (BT.cast (BT.cmp (BE.sub (BE.var rfl rfl rfl) (neg_int2 BE.int) hlast) (BE.bin (BE.var rfl rfl rfl) (BE.bin BE.int (BE.var rfl rfl rfl) (pow_nat2 (by (first | lia | omega)))) (mod_nat2 hnz)) eq_nat2) (by simpa using fun h => hc (.inr h))) BT.or_nil)) rfl (BSs.cons ?_ BSs.nil)
        refine BS.assignUsed (BIt.list (BE.sub (BE.var rfl rfl rfl) (BE.slice (a := .none) (b := .int (-1)) ⟨rfl, rfl⟩ (neg_int2 BE.int)) (slice_list2 hg (by (first | lia | omega)))) get_last) (CompR.mapE (fun v => match v with | .int n => .int (n + (2 ^ k : Nat)) | _ => .none) get_last ?_ (fun _ => rfl) ?_) ?_ (.inl rfl) rfl ?_ (hfree := by rfl)
        · rw [cutL_init]; unfold natsV; rw [← List.map_dropLast, List.map_map, List.map_map]
          exact List.map_congr_left fun n _ => by simp
        · intro v hv
          rw [cutL_init] at hv
          unfold natsV at hv
          rw [← List.map_dropLast, List.mem_map] at hv
          obtain ⟨n, _, rfl⟩ := hv
          exact BE.bin (BE.var rfl rfl rfl) (BE.bin BE.int (BE.var rfl rfl rfl) (pow_nat2 (by (first | lia | omega)))) add_int2
        · unfold natsV at hlen ⊢; simp at hlen ⊢; (first | lia | omega)
        · intro env h1 h2
          unfold swapsWith
          show pure (env.blockKind == .function && env.kindOf ("chain" : Str) == some .local && _ && _) = pure true
          have hb : env.blockKind = .function := by unfold Env.blockKind; rw [h1]; rfl
          rw [hb, h2]
          rfl
    · intro pm cd doc rs hl
      obtain ⟨x, y, rfl⟩ := len_2 hl
      rfl
    · decide +kernel
    · decide +kernel
  exact key.dropTo hp (by (first | lia | omega)) (by rw [List.getElem?_append_right (by (first | lia | omega)), Nat.add_sub_cancel_left]; exact chainH_get mask size) (plainVs_map (fun _ => rfl) _)
end
end Mine
end
section
open PySem PySem.Calls PyProof.Rows
set_option Elab.async false
set_option maxRecDepth 100000
namespace Mine
section
variable {G : GL} {d : Nat} {sc : List (Str × NameKind)} {loc loc' loc'' : Loc} {H H' H'' X : Lists}
noncomputable def lvSt (i : Nat) : Stmt := match (drOf 18).body[i]? with
  | some s => s
  | none => .Pass default
noncomputable abbrev lvN := (drOf 18).scope.names
noncomputable def sv (l : List Nat) : V := .str ⟨l.toArray⟩
theorem sv_len (l : List Nat) : (⟨l.toArray⟩ : Str).length = l.length := by simp [Str.length]
theorem sv_tru {l : List Nat} (h : l.length < 2 ^ 62) : Tru G (sv l) H (decide (l ≠ [])) := by
  have := tru_str (G := G) (H := H) (x := ⟨l.toArray⟩) (by rw [sv_len]; exact h)
  have e : (((⟨l.toArray⟩ : Str).length : Int) != 0) = decide (l ≠ []) := by
    rw [sv_len]
    cases l with
    | nil => rfl
    | cons a r => simp; (first | lia | omega)
  rw [e] at this
  exact this
theorem cutS_from (l : List Nat) (i : Nat) : cutS ⟨l.toArray⟩ (some (i : Int)) none = ⟨(l.drop i).toArray⟩ := by
  unfold cutS cutL clipAt
  simp only [Option.elim]
  have e : (max 0 (min (if (i : Int) < 0 then (i : Int) + l.length else (i : Int)) (l.length : Int))).toNat = min i l.length := by
    rw [if_neg (by (first | lia | omega))]; (first | lia | omega)
  rw [e]
  congr 2
  by_cases h : i ≤ l.length
  · rw [Nat.min_eq_left h, List.take_of_length_le (by simp)]
  · rw [Nat.min_eq_right (by (first | lia | omega)), List.drop_eq_nil_of_le (Nat.le_refl _), List.drop_eq_nil_of_le (by (first | lia | omega))]; simp
noncomputable def hiOf (j : Nat) : Option Int := if j = 0 then none else some (-(j : Int))
noncomputable def postV (j : Nat) : V := if j = 0 then .none else .int (-(j : Int))
theorem postV_part (j : Nat) : partOk (postV j) = some (hiOf j) := by
  unfold postV hiOf
  by_cases h : j = 0
  · rw [if_pos h, if_pos h]; rfl
  · rw [if_neg h, if_neg h]; rfl
theorem cutS_to (l : List Nat) {j : Nat} (hj : j ≤ l.length) : cutS ⟨l.toArray⟩ none (hiOf j) = ⟨(l.take (l.length - j)).toArray⟩ := by
  unfold cutS cutL hiOf
  by_cases h : j = 0
  · rw [if_pos h]; subst h; simp
  · rw [if_neg h]
    simp only [Option.elim]
    unfold clipAt
    rw [if_pos (by (first | lia | omega)), List.drop_zero]
    congr 3
    (first | lia | omega)
theorem BE.postOr {p1 p2 p3 : Pos} {k j : Nat} (hl : loc.lookup ("post" : Str) = some (.int (-(j : Int)))) : BE G (d + 1) sc (.BoolOp .Or [.Name "post" p1, .Constant .none k p2] p3) loc H (postV j) H := by
  unfold postV
  by_cases h : j = 0
  · rw [if_pos h]
    exact BE.or_f (BE.var hl) (by have := tru_int (G := G) (H := H) (i := -(j : Int)); rw [h] at this ⊢; exact this) BE.none
  · rw [if_neg h]
    refine BE.or_t (BE.var hl) ?_ (by simp)
    have := tru_int (G := G) (H := H) (i := -(j : Int))
    have e : ((-(j : Int)) != 0) = true := by simp; (first | lia | omega)
    rw [e] at this
    exact this
theorem slice_from {l : List Nat} {i : Nat} (hn : l.length ≤ 1000000) : Act2 G getItem (sv l) (.sl (some (i : Int)) none) H (sv (l.drop i)) H := (slice_str2 (by rw [sv_len]; exact hn)).cast (by rw [cutS_from]; rfl)
theorem slice_to {l : List Nat} {j : Nat} (hj : j ≤ l.length) (hn : l.length ≤ 1000000) : Act2 G getItem (sv l) (.sl none (hiOf j)) H (sv (l.take (l.length - j))) H := (slice_str2 (by rw [sv_len]; exact hn)).cast (by rw [cutS_to l hj]; rfl)
theorem item_sv {l : List Nat} {i c : Nat} (hi : l[i]? = some c) (hn : l.length ≤ 1000000) : Act2 G getItem (sv l) (.int (i : Nat)) H (.str ⟨#[c]⟩) H := by
  have hlt : i < l.length := (List.getElem?_eq_some_iff.mp hi).1
  refine item_str2 (j := i) (by (first | lia | omega)) ?_ (by simpa using hi)
  rw [sv_len]
  unfold seqIndex?
  have e0 : (if (i : Int) < 0 then (i : Int) + (l.length : Nat) else (i : Int)) = i := if_neg (by (first | lia | omega))
  simp only [e0]
  rw [if_pos (by simp; (first | lia | omega))]
  simp
theorem item_sv_neg {l : List Nat} {j c : Nat} (hj : j < l.length) (hi : l[l.length - 1 - j]? = some c) (hn : l.length ≤ 1000000) : Act2 G getItem (sv l) (.int (-(j : Int) - 1)) H (.str ⟨#[c]⟩) H := by
  refine item_str2 (j := l.length - 1 - j) (by (first | lia | omega)) ?_ (by simpa using hi)
  rw [sv_len]
  unfold seqIndex?
  have e0 : (if -(j : Int) - 1 < 0 then -(j : Int) - 1 + (l.length : Nat) else -(j : Int) - 1) = ((l.length - 1 - j : Nat) : Int) := by rw [if_pos (by (first | lia | omega))]; (first | lia | omega)
  simp only [e0]
  rw [if_pos (by simp; (first | lia | omega))]
  simp
noncomputable def lcp : List Nat → List Nat → Nat
  | x :: a, y :: b => if x = y then lcp a b + 1 else 0
  | _, _ => 0
theorem lcp_le : ∀ a b : List Nat, lcp a b ≤ a.length ∧ lcp a b ≤ b.length
  | [], _ => by simp [lcp]
  | _ :: _, [] => by simp [lcp]
  | x :: a, y :: b => by
    unfold lcp
    have := lcp_le a b
    split
    · simp; (first | lia | omega)
    · simp
theorem lcp_lt : ∀ {a b : List Nat} {i : Nat}, i < lcp a b → ∃ c, a[i]? = some c ∧ b[i]? = some c
  | [], _, _, h => by simp [lcp] at h
  | _ :: _, [], _, h => by simp [lcp] at h
  | x :: a, y :: b, i, h => by
    unfold lcp at h
    split at h
    · rename_i e
      subst e
      cases i with
      | zero => exact ⟨x, rfl, rfl⟩
      | succ i => exact lcp_lt (a := a) (b := b) (by (first | lia | omega))
    · (first | lia | omega)
theorem lcp_at : ∀ {a b : List Nat}, lcp a b < a.length → lcp a b < b.length → ∃ c c', a[lcp a b]? = some c ∧ b[lcp a b]? = some c' ∧ c ≠ c'
  | [], _, h, _ => by simp at h
  | _ :: _, [], _, h => by simp at h
  | x :: a, y :: b, h, h' => by
    unfold lcp at h h' ⊢
    split
    · rename_i e
      rw [if_pos e] at h h'
      obtain ⟨c, c', h1, h2, h3⟩ := lcp_at (a := a) (b := b) (by simpa using h) (by simpa using h')
      exact ⟨c, c', by simpa using h1, by simpa using h2, h3⟩
    · rename_i e
      exact ⟨x, y, rfl, rfl, e⟩

/-- the heads alike -/
theorem lev_while1 {a b : List Nat} {m : V} (ha : a.length ≤ 1000) (hb : b.length ≤ 1000) (i : Nat) : ∀ (n : Nat), lcp a b = i + n →
    BS G (d + 4) lvN (lvSt 2) [("a", sv a), ("b", sv b), ("max_cost", m), ("pre", .int (i : Nat))] H .next [("a", sv a), ("b", sv b), ("max_cost", m), ("pre", .int (lcp a b : Nat))] H := by
  intro n hn
  refine BS.while (n := n) ?_
  induction n generalizing i with
  | zero =>
    have hi : lcp a b = i := hn
    rw [hi]
    refine WhileR.stop (h1 := H) ?_
    by_cases h1 : i < a.length
    · have t1 : decide (a.drop i ≠ []) = true := by simp; (first | lia | omega)
      by_cases h2 : i < b.length
      · have t2 : decide (b.drop i ≠ []) = true := by simp; (first | lia | omega)
        obtain ⟨c, c', e1, e2, e3⟩ := lcp_at (a := a) (b := b) (by (first | lia | omega)) (by (first | lia | omega))
        rw [hi] at e1 e2
        exact BT.and_t (BT.cast (BT.val (BE.sub (BE.var rfl rfl rfl) (BE.slice (a := .int (i : Nat)) (b := .none) (BE.var rfl rfl rfl) ⟨rfl, rfl⟩) (slice_from (by (first | lia | omega)))) (sv_tru (by simp; (first | lia | omega)))) t1)
          (BT.and_t (BT.cast (BT.val (BE.sub (BE.var rfl rfl rfl) (BE.slice (a := .int (i : Nat)) (b := .none) (BE.var rfl rfl rfl) ⟨rfl, rfl⟩) (slice_from (by (first | lia | omega)))) (sv_tru (by simp; (first | lia | omega)))) t2)
            (BT.and_f (BT.cast (BT.cmp (BE.sub (BE.var rfl rfl rfl) (BE.var rfl rfl rfl) (item_sv e1 (by (first | lia | omega)))) (BE.sub (BE.var rfl rfl rfl) (BE.var rfl rfl rfl) (item_sv e2 (by (first | lia | omega)))) eq_str2) (by simp; exact e3))))
      · have t2 : decide (b.drop i ≠ []) = false := by simp; (first | lia | omega)
        exact BT.and_t (BT.cast (BT.val (BE.sub (BE.var rfl rfl rfl) (BE.slice (a := .int (i : Nat)) (b := .none) (BE.var rfl rfl rfl) ⟨rfl, rfl⟩) (slice_from (by (first | lia | omega)))) (sv_tru (by simp; (first | lia | omega)))) t1)
          (BT.and_f (BT.cast (BT.val (BE.sub (BE.var rfl rfl rfl) (BE.slice (a := .int (i : Nat)) (b := .none) (BE.var rfl rfl rfl) ⟨rfl, rfl⟩) (slice_from (by (first | lia | omega)))) (sv_tru (by simp; (first | lia | omega)))) t2))
    · have t1 : decide (a.drop i ≠ []) = false := by simp; (first | lia | omega)
      exact BT.and_f (BT.cast (BT.val (BE.sub (BE.var rfl rfl rfl) (BE.slice (a := .int (i : Nat)) (b := .none) (BE.var rfl rfl rfl) ⟨rfl, rfl⟩) (slice_from (by (first | lia | omega)))) (sv_tru (by simp; (first | lia | omega)))) t1)
  | succ n ih =>
    have hle := lcp_le a b
    obtain ⟨c, e1, e2⟩ := lcp_lt (a := a) (b := b) (i := i) (by (first | lia | omega))
    have t1 : decide (a.drop i ≠ []) = true := by simp; (first | lia | omega)
    have t2 : decide (b.drop i ≠ []) = true := by simp; (first | lia | omega)
    refine WhileR.step (h1 := H) ?_ ?_ (ih (i + 1) (by (first | lia | omega)))
    · exact BT.and_t (BT.cast (BT.val (BE.sub (BE.var rfl rfl rfl) (BE.slice (a := .int (i : Nat)) (b := .none) (BE.var rfl rfl rfl) ⟨rfl, rfl⟩) (slice_from (by (first | lia | omega)))) (sv_tru (by simp; (first | lia | omega)))) t1)
        (BT.and_t (BT.cast (BT.val (BE.sub (BE.var rfl rfl rfl) (BE.slice (a := .int (i : Nat)) (b := .none) (BE.var rfl rfl rfl) ⟨rfl, rfl⟩) (slice_from (by (first | lia | omega)))) (sv_tru (by simp; (first | lia | omega)))) t2)
          (BT.and_t (BT.cast (BT.cmp (BE.sub (BE.var rfl rfl rfl) (BE.var rfl rfl rfl) (item_sv e1 (by (first | lia | omega)))) (BE.sub (BE.var rfl rfl rfl) (BE.var rfl rfl rfl) (item_sv e2 (by (first | lia | omega)))) eq_str2) (by simp)) BT.and_nil))
    · exact BSs.cons (BS.aug rfl BE.int (iadd_nat2 (b := 1)) (.inl rfl)) BSs.nil
/-- the tails alike -/
noncomputable def tcp (a b : List Nat) : Nat := lcp a.reverse b.reverse
theorem tcp_le (a b : List Nat) : tcp a b ≤ a.length ∧ tcp a b ≤ b.length := by
  have := lcp_le a.reverse b.reverse
  simpa [tcp] using this
theorem rev_get {a : List Nat} {j c : Nat} (h : a.reverse[j]? = some c) : a[a.length - 1 - j]? = some c := by
  have := (List.getElem?_eq_some_iff.mp h).1
  rw [List.length_reverse] at this
  rw [List.getElem?_reverse this] at h
  exact h
theorem lev_while2 {a b : List Nat} {m p : V} (ha : a.length ≤ 1000) (hb : b.length ≤ 1000) (j : Nat) : ∀ (n : Nat), tcp a b = j + n →
    BS G (d + 4) lvN (lvSt 6) [("a", sv a), ("b", sv b), ("max_cost", m), ("pre", p), ("post", .int (-(j : Int)))] H .next [("a", sv a), ("b", sv b), ("max_cost", m), ("pre", p), ("post", .int (-((tcp a b : Nat) : Int)))] H := by
  intro n hn
  refine BS.while (n := n) ?_
  induction n generalizing j with
  | zero =>
    have hi : tcp a b = j := hn
    have hle := tcp_le a b
    rw [hi] at hle ⊢
    refine WhileR.stop (h1 := H) ?_
    by_cases h1 : j < a.length
    · have t1 : decide (a.take (a.length - j) ≠ []) = true := by
        have : a.take (a.length - j) ≠ [] := by rw [← List.length_pos_iff, List.length_take]; (first | lia | omega)
        simpa using this
      by_cases h2 : j < b.length
      · have t2 : decide (b.take (b.length - j) ≠ []) = true := by
          have : b.take (b.length - j) ≠ [] := by rw [← List.length_pos_iff, List.length_take]; (first | lia | omega)
          simpa using this
        obtain ⟨c, c', e1, e2, e3⟩ := lcp_at (a := a.reverse) (b := b.reverse) (by show tcp a b < _; rw [hi, List.length_reverse]; exact h1) (by show tcp a b < _; rw [hi, List.length_reverse]; exact h2)
        rw [show lcp a.reverse b.reverse = j from hi] at e1 e2
        exact BT.and_t (BT.cast (BT.val (BE.sub (BE.var rfl rfl rfl) (BE.slice (a := .none) (b := postV j) (lo := none) (hi := hiOf j) ⟨rfl, rfl⟩ (BE.postOr (j := j) rfl) rfl (postV_part j)) (slice_to (by (first | lia | omega)) (by (first | lia | omega)))) (sv_tru (by simp; (first | lia | omega)))) t1) (BT.and_t (BT.cast (BT.val (BE.sub (BE.var rfl rfl rfl) (BE.slice (a := .none) (b := postV j) (lo := none) (hi := hiOf j) ⟨rfl, rfl⟩ (BE.postOr (j := j) rfl) rfl (postV_part j)) (slice_to (by (first | lia | omega)) (by (first | lia | omega)))) (sv_tru (by simp; (first | lia | omega)))) t2) (BT.and_f (BT.cast (BT.cmp (BE.sub (BE.var rfl rfl rfl) (BE.bin (BE.var rfl rfl rfl) BE.int sub_int2) (item_sv_neg (by (first | lia | omega)) (rev_get e1) (by (first | lia | omega)))) (BE.sub (BE.var rfl rfl rfl) (BE.bin (BE.var rfl rfl rfl) BE.int sub_int2) (item_sv_neg (by (first | lia | omega)) (rev_get e2) (by (first | lia | omega)))) eq_str2) (by simp; exact e3))))
      · have t2 : decide (b.take (b.length - j) ≠ []) = false := by
          have : b.take (b.length - j) = [] := by rw [show b.length - j = 0 by (first | lia | omega)]; rfl
          simp [this]
        exact BT.and_t (BT.cast (BT.val (BE.sub (BE.var rfl rfl rfl) (BE.slice (a := .none) (b := postV j) (lo := none) (hi := hiOf j) ⟨rfl, rfl⟩ (BE.postOr (j := j) rfl) rfl (postV_part j)) (slice_to (by (first | lia | omega)) (by (first | lia | omega)))) (sv_tru (by simp; (first | lia | omega)))) t1) (BT.and_f (BT.cast (BT.val (BE.sub (BE.var rfl rfl rfl) (BE.slice (a := .none) (b := postV j) (lo := none) (hi := hiOf j) ⟨rfl, rfl⟩ (BE.postOr (j := j) rfl) rfl (postV_part j)) (slice_to (by (first | lia | omega)) (by (first | lia | omega)))) (sv_tru (by simp; (first | lia | omega)))) t2))
    · have t1 : decide (a.take (a.length - j) ≠ []) = false := by
        have : a.take (a.length - j) = [] := by rw [show a.length - j = 0 by (first | lia | omega)]; rfl
        simp [this]
      exact BT.and_f (BT.cast (BT.val (BE.sub (BE.var rfl rfl rfl) (BE.slice (a := .none) (b := postV j) (lo := none) (hi := hiOf j) ⟨rfl, rfl⟩ (BE.postOr (j := j) rfl) rfl (postV_part j)) (slice_to (by (first | lia | omega)) (by (first | lia | omega)))) (sv_tru (by simp; (first | lia | omega)))) t1)
  | succ n ih =>
    have hle := tcp_le a b
    obtain ⟨c, e1, e2⟩ := lcp_lt (a := a.reverse) (b := b.reverse) (i := j) (by show _ < tcp a b; (first | lia | omega))
    have t1 : decide (a.take (a.length - j) ≠ []) = true := by
      have : a.take (a.length - j) ≠ [] := by rw [← List.length_pos_iff, List.length_take]; (first | lia | omega)
      simpa using this
    have t2 : decide (b.take (b.length - j) ≠ []) = true := by
      have : b.take (b.length - j) ≠ [] := by rw [← List.length_pos_iff, List.length_take]; (first | lia | omega)
      simpa using this
    refine WhileR.step (h1 := H) ?_ ?_ (ih (j + 1) (by (first | lia | omega)))
    · exact BT.and_t (BT.cast (BT.val (BE.sub (BE.var rfl rfl rfl) (BE.slice (a := .none) (b := postV j) (lo := none) (hi := hiOf j) ⟨rfl, rfl⟩ (BE.postOr (j := j) rfl) rfl (postV_part j)) (slice_to (by (first | lia | omega)) (by (first | lia | omega)))) (sv_tru (by simp; (first | lia | omega)))) t1) (BT.and_t (BT.cast (BT.val (BE.sub (BE.var rfl rfl rfl) (BE.slice (a := .none) (b := postV j) (lo := none) (hi := hiOf j) ⟨rfl, rfl⟩ (BE.postOr (j := j) rfl) rfl (postV_part j)) (slice_to (by (first | lia | omega)) (by (first | lia | omega)))) (sv_tru (by simp; (first | lia | omega)))) t2) (BT.and_t (BT.cast (BT.cmp (BE.sub (BE.var rfl rfl rfl) (BE.bin (BE.var rfl rfl rfl) BE.int sub_int2) (item_sv_neg (by (first | lia | omega)) (rev_get e1) (by (first | lia | omega)))) (BE.sub (BE.var rfl rfl rfl) (BE.bin (BE.var rfl rfl rfl) BE.int sub_int2) (item_sv_neg (by (first | lia | omega)) (rev_get e2) (by (first | lia | omega)))) eq_str2) (by simp)) BT.and_nil))
    · exact BSs.cons (BS.aug rfl BE.int (isub_int2.cast (show V.int (-(j : Int) - 1) = .int (-((j + 1 : Nat) : Int)) by congr 1; (first | lia | omega))) (.inl rfl)) BSs.nil
end
end Mine
end
section
open PySem PySem.Calls PyProof.Rows
set_option Elab.async false
set_option maxRecDepth 100000
namespace Mine
section
variable {G : GL} {d : Nat} {sc : List (Str × NameKind)} {loc loc' loc'' : Loc} {H H' H'' X : Lists}
noncomputable def subN (x y : Nat) : Nat := if x = y then 0 else if Txt.lower ⟨#[x]⟩ = Txt.lower ⟨#[y]⟩ then 1 else 2
theorem subN_is (x y : Nat) : subCost x y = (subN x y : Nat) := by
  unfold subCost subN
  split
  · rfl
  · split <;> rfl
theorem subN_le (x y : Nat) : subN x y ≤ 2 := by
  unfold subN
  split
  · (first | lia | omega)
  · split <;> (first | lia | omega)
/-- the costs, as the program reckons them -/
noncomputable def dpD (l s : List Nat) : Nat → Nat → Nat
  | 0, i => 2 * i
  | j + 1, 0 => 2 * (j + 1)
  | j + 1, i + 1 => min (min (if i = 0 then 2 * j else dpD l s (j + 1) i) (dpD l s j (i + 1)) + 2) (dpD l s j i + subN (l[j]?.getD 0) (s[i]?.getD 0))
  termination_by j i => (j, i)
noncomputable def lfD (l s : List Nat) (j i : Nat) : Nat := if i = 0 then 2 * j else dpD l s (j + 1) i
theorem dpD_step (l s : List Nat) (j i : Nat) : dpD l s (j + 1) (i + 1) = min (min (lfD l s j i) (dpD l s j (i + 1)) + 2) (dpD l s j i + subN (l[j]?.getD 0) (s[i]?.getD 0)) := by
  rw [dpD]; rfl
theorem dpD_col (l s : List Nat) (j : Nat) : dpD l s j 0 = 2 * j := by
  cases j with
  | zero => rw [dpD]
  | succ j => rw [dpD]
noncomputable def rowAt (l s : List Nat) (j i : Nat) : List Nat := (List.range s.length).map fun t => if t < i then dpD l s (j + 1) (t + 1) else dpD l s j (t + 1)
noncomputable def minTo (l s : List Nat) (j : Nat) : Nat → Nat
  | 0 => 9223372036854775807
  | i + 1 => if dpD l s (j + 1) (i + 1) < minTo l s j i then dpD l s (j + 1) (i + 1) else minTo l s j i
theorem rowAt_set (l s : List Nat) (j : Nat) {i : Nat} : (natsV (rowAt l s j i)).set i (.int (dpD l s (j + 1) (i + 1) : Nat)) = natsV (rowAt l s j (i + 1)) := by
  unfold natsV
  rw [← List.map_set]
  congr 1
  unfold rowAt
  apply List.ext_getElem
  · simp
  · intro t h1 h2
    simp at h1
    rw [List.getElem_set]
    simp only [List.getElem_map, List.getElem_range]
    by_cases h : i = t
    · subst h; simp
    · rw [if_neg h]
      by_cases h3 : t < i
      · rw [if_pos h3, if_pos (by (first | lia | omega))]
      · rw [if_neg h3, if_neg (by (first | lia | omega))]
theorem rowAt_get (l s : List Nat) (j : Nat) {i : Nat} (hi : i < s.length) : (natsV (rowAt l s j i))[i]? = some (.int (dpD l s j (i + 1) : Nat)) := by
  unfold natsV rowAt
  rw [List.map_map, List.getElem?_map, List.getElem?_range hi]
  simp
theorem rowAt_next (l s : List Nat) (j : Nat) : rowAt l s j s.length = rowAt l s (j + 1) 0 := by
  unfold rowAt
  apply List.map_congr_left
  intro t ht
  rw [if_pos (List.mem_range.mp ht), if_neg (by (first | lia | omega))]
theorem bc_min_nat {a b : Nat} : BC G (d + 1) (.builtin "min") [.int a, .int b] H (.int (min a b : Nat)) H := by
  have := bc_min (G := G) (d := d) (H := H) (a := (a : Int)) (b := (b : Int))
  rw [show ((min a b : Nat) : Int) = min (a : Int) (b : Int) by (first | lia | omega)]
  exact this
theorem f_substN (K : LK G) {x y : Nat} (hx : (Txt.lower ⟨#[x]⟩).length ≤ 1000000) (hy : (Txt.lower ⟨#[y]⟩).length ≤ 1000000) : ∀ a, G.mg (drOf 17).name = some (.ref a) → BC G (d + 3) (.ref a) [.str ⟨#[x]⟩, .str ⟨#[y]⟩] H (.int (subN x y : Nat)) H := by
  rw [← subN_is]; exact f_subst K hx hy
theorem gt_nat2 {a b : Nat} : Act2 G (compareOp .Gt) (.int a) (.int b) H (.bool (decide (b < a))) H := gt_int2.cast (by simp)
theorem setNat {i : Nat} {l : List V} {k : Nat} {v : V} (hl : H[i]? = some l) (hk : k < l.length) (hn : l.length ≤ 1000000) : ActU G setItemOf [.ref i, .int (k : Nat), v] H (H.set i (l.set k v)) := by
  have := act_setItem (G := G) (k := (k : Int)) (v := v) hl (by (first | lia | omega)) (by simpa using hk) hn
  simpa using this

noncomputable def lvFor : List Stmt := match lvSt 15 with
  | .For _ _ b _ _ => b
  | _ => []
/-- one row -/
theorem lev_row (K : LK G) {l s : List Nat} {mx j : Nat} {r0 : V} (hlow : ∀ c ∈ l ++ s, (Txt.lower ⟨#[c]⟩).length ≤ 1000000) (hl : l.length ≤ 1000) (hs : s.length ≤ 1000) (hj : j < l.length)
    {f : Fl} {locx : Loc} {Hx : Lists} (ht : BSs G (d + 6) lvN (lvFor.drop 4) [("a", sv s), ("b", sv l), ("max_cost", .int (mx : Nat)), ("row", .ref H.length), ("result", .int (lfD l s j s.length : Nat)), ("bindex", .int (j : Nat)), ("bchar", .str ⟨#[l[j]?.getD 0]⟩), ("distance", .int (dpD l s j s.length : Nat)), ("minimum", .int (minTo l s j s.length : Nat))] (H ++ [natsV (rowAt l s j s.length)]) f locx Hx) :
    BSs G (d + 6) lvN lvFor [("a", sv s), ("b", sv l), ("max_cost", .int (mx : Nat)), ("row", .ref H.length), ("result", r0), ("bindex", .int (j : Nat))] (H ++ [natsV (rowAt l s j 0)]) f locx Hx := by
  have hlj : l[j]? = some (l[j]?.getD 0) := getD_of hj
  refine BSs.cons (BS.assign (BE.sub (BE.var rfl rfl rfl) (BE.var rfl rfl rfl) (item_sv hlj (by (first | lia | omega)))) (.inl rfl)) ?_
  refine BSs.cons (BS.assign2 (v := .int (2 * j : Nat)) (BE.bin (BE.var rfl rfl rfl) (K.moveE rfl) ((mul_nat2 (b := 2) (by (first | lia | omega))).cast (by rw [Nat.mul_comm]))) (BB.name (.inl rfl)) (BB.name (.inl rfl)) ?_) ?_
  · intro α h h' r hv; cases hv; exact .int _ _
  refine BSs.cons (BS.assign BE.int (.inl rfl)) ?_
  refine BSs.cons (BS.forGo (src := fun _ => True) (vs := rngL 0 1 s.length) (fun i => [("a", sv s), ("b", sv l), ("max_cost", .int (mx : Nat)), ("row", .ref H.length), ("result", .int (lfD l s j i : Nat)), ("bindex", .int (j : Nat)), ("bchar", .str ⟨#[l[j]?.getD 0]⟩), ("distance", .int (dpD l s j i : Nat)), ("minimum", .int (minTo l s j i : Nat))])
    (fun i => H ++ [natsV (rowAt l s j i)]) ?_ rfl (BIt.range (b := (s.length : Nat)) (BRng.one K.toGOk rfl K.range (BA.cons (BE.callB K.toGOk rfl K.len (BA.cons (BE.var rfl rfl rfl) BA.nil) ?_ rfl) BA.nil)) (rng_small (by (first | lia | omega))) rng_size) (fun _ => trivial) ?_) ?_
  rotate_left 3
  · rw [rngL_len]; exact ht
  · refine ⟨rfl, rfl, rfl, rfl, ?_, rfl, rfl, ?_, rfl, trivial⟩
    · rfl
    · rw [dpD_col]; rfl
  · have := bc_len_str (G := G) (d := d + 5) (H := H ++ [natsV (rowAt l s j 0)]) (x := ⟨s.toArray⟩) (by rw [sv_len]; (first | lia | omega))
    rw [sv_len] at this
    exact this
  intro i v hv
  obtain ⟨hi, rfl⟩ := rngN_get hv
  have hsi : s[i]? = some (s[i]?.getD 0) := getD_of hi
  have hstep := dpD_step l s j i
  have hlf : lfD l s j (i + 1) = dpD l s (j + 1) (i + 1) := if_neg (by (first | lia | omega))
  refine ⟨_, _, [("a", sv s), ("b", sv l), ("max_cost", .int (mx : Nat)), ("row", .ref H.length), ("result", .int (dpD l s (j + 1) (i + 1) : Nat)), ("bindex", .int (j : Nat)), ("bchar", .str ⟨#[l[j]?.getD 0]⟩), ("distance", .int (dpD l s j (i + 1) : Nat)), ("minimum", .int (minTo l s j (i + 1) : Nat)),
    ("index", .int (i : Nat)), ("substitute", .int (dpD l s j i + subN (l[j]?.getD 0) (s[i]?.getD 0) : Nat)), ("insert_delete", .int (min (lfD l s j i) (dpD l s j (i + 1)) + 2 : Nat))], BB.name (.inl rfl), ?_, subL.get ⟨rfl, rfl, rfl, rfl, by rw [hlf]; rfl, rfl, rfl, rfl, rfl, trivial⟩⟩
  refine BSs.cons (BS.assign (BE.bin (BE.var rfl rfl rfl) (BE.callF K.toGOk (K.defs 17 (by decide)) (K.fn (i := 17) (by decide) rfl rfl rfl) (BA.cons (BE.var rfl rfl rfl) (BA.cons (BE.sub (BE.var rfl rfl rfl) (BE.var rfl rfl rfl) (item_sv hsi (by (first | lia | omega)))) BA.nil))
    (f_substN K (hlow _ (List.mem_append_left _ (List.mem_of_getElem? hlj))) (hlow _ (List.mem_append_right _ (List.mem_of_getElem? hsi))))) add_nat2) (.inl rfl)) ?_
  refine BSs.cons (BS.assign (BE.sub (BE.var rfl rfl rfl) (BE.var rfl rfl rfl) (item_nat2 get_last (by (first | lia | omega)) (rowAt_get l s j hi))) (.inl rfl)) ?_
  refine BSs.cons (BS.assign (BE.bin (BE.callB K.toGOk rfl K.min (BA.cons (BE.var rfl rfl rfl) (BA.cons (BE.var rfl rfl rfl) BA.nil)) bc_min_nat rfl) (K.moveE rfl) (add_nat2 (b := 2))) (.inl rfl)) ?_
  refine BSs.cons (BS.assign (BE.callB K.toGOk rfl K.min (BA.cons (BE.var rfl rfl rfl) (BA.cons (BE.var rfl rfl rfl) BA.nil)) bc_min_nat rfl) (.inl rfl)) ?_
  rw [← hstep]
  have hrow : (natsV (rowAt l s j i)).length = s.length := by unfold natsV rowAt; simp
  refine BSs.cons (H' := H ++ [natsV (rowAt l s j (i + 1))]) (BS.setItem (BE.var rfl rfl rfl) (BE.var rfl rfl rfl) (BE.var rfl rfl rfl) ?_) ?_
  · have := setNat (G := G) (H := H ++ [natsV (rowAt l s j i)]) (k := i) (v := .int (dpD l s (j + 1) (i + 1) : Nat)) get_last (by (first | lia | omega)) (by (first | lia | omega))
    rw [set_last, rowAt_set] at this
    exact this
  refine BSs.cons ?_ BSs.nil
  have hmin : minTo l s j (i + 1) = if dpD l s (j + 1) (i + 1) < minTo l s j i then dpD l s (j + 1) (i + 1) else minTo l s j i := rfl
  rw [hmin]
  by_cases hc : dpD l s (j + 1) (i + 1) < minTo l s j i
  · rw [if_pos hc]
    exact BS.iteT (BT.cmp (BE.var rfl rfl rfl) (BE.var rfl rfl rfl) lt_nat2) (by simpa using hc) (BSs.cons (BS.assign (BE.var rfl rfl rfl) (.inl rfl)) BSs.nil)
  · rw [if_neg hc]
    exact BS.iteF (BT.cmp (BE.var rfl rfl rfl) (BE.var rfl rfl rfl) lt_nat2) (by simpa using hc) BSs.nil
end
end Mine
end
section
open PySem PySem.Calls PyProof.Rows
set_option Elab.async false
set_option maxRecDepth 100000
namespace Mine
section
variable {G : GL} {d : Nat} {sc : List (Str × NameKind)} {loc loc' loc'' : Loc} {H H' H'' X : Lists}
noncomputable def rowsFrom (l s : List Nat) (mx : Nat) : Nat → Nat → Bool
  | 0, _ => true
  | k + 1, j => decide (minTo l s j s.length ≤ mx) && rowsFrom l s mx k (j + 1)
noncomputable def resAt (l s : List Nat) (j : Nat) : Nat := if j = 0 then 0 else dpD l s j s.length
noncomputable def lvL (l s : List Nat) (mx R j : Nat) : Loc := [("a", sv s), ("b", sv l), ("max_cost", .int (mx : Nat)), ("row", .ref R), ("result", .int (resAt l s j : Nat))]
noncomputable def lvE (l s : List Nat) (mx R j : Nat) : Loc := [("a", sv s), ("b", sv l), ("max_cost", .int (mx : Nat)), ("row", .ref R), ("result", .int (resAt l s (j + 1) : Nat)), ("bindex", .int (j : Nat)), ("bchar", .str ⟨#[l[j]?.getD 0]⟩), ("distance", .int (dpD l s j s.length : Nat)), ("minimum", .int (minTo l s j s.length : Nat))]
theorem lev_rows (K : LK G) {l s : List Nat} {mx : Nat} (hlow : ∀ c ∈ l ++ s, (Txt.lower ⟨#[c]⟩).length ≤ 1000000) (hl : l.length ≤ 1000) (hs : s.length ≤ 1000) (hs0 : 0 < s.length) {p : Pos} :
    ∀ (k j : Nat), j + k = l.length → ∃ loc' H', ForR G (d + 6) lvN (.Name "bindex" p) lvFor (fun _ => True) ((rngL 0 1 l.length).drop j) (lvL l s mx H.length j) (H ++ [natsV (rowAt l s j 0)])
      (if rowsFrom l s mx k j = true then .next else .ret (.int (mx + 1 : Nat))) loc' H' ∧ (∃ Y, H' = H ++ Y) ∧ (rowsFrom l s mx k j = true → Sub (lvL l s mx H.length l.length) loc')
  | 0, j, h => by
    have e : (rngL 0 1 l.length).drop j = [] := List.drop_eq_nil_of_le (by rw [rngL_len]; (first | lia | omega))
    rw [e]
    refine ⟨lvL l s mx H.length j, H ++ [natsV (rowAt l s j 0)], .nil trivial, ⟨_, rfl⟩, fun _ => ?_⟩
    rw [show j = l.length by (first | lia | omega)]
    exact fun _ _ h => h
  | k + 1, j, h => by
    have hj : j < l.length := by (first | lia | omega)
    have hd : (rngL 0 1 l.length).drop j = .int (j : Nat) :: (rngL 0 1 l.length).drop (j + 1) := by
      rw [List.drop_eq_getElem_cons (by rw [rngL_len]; exact hj)]
      congr 1
      unfold rngL; simp
    rw [hd]
    have hlf : lfD l s j s.length = resAt l s (j + 1) := by
      unfold lfD resAt
      rw [if_neg (by (first | lia | omega)), if_neg (by (first | lia | omega))]
    by_cases hm : minTo l s j s.length ≤ mx
    · obtain ⟨loc', H', r, hY, hsub⟩ := lev_rows K hlow hl hs hs0 (p := p) k (j + 1) (by (first | lia | omega))
      have he : rowsFrom l s mx (k + 1) j = rowsFrom l s mx k (j + 1) := by show (decide _ && _) = _; simp [hm]
      rw [he]
      refine ⟨loc', H', ?_, hY, hsub⟩
      refine .cons trivial (BB.name (.inl rfl)) (BSs.conseq (lev_row K hlow hl hs hj (locx := lvE l s mx H.length j) ?_) (fun _ _ h => h) (subL.get ?_)) r
      · rw [rowAt_next, hlf]
        exact (BSs.cons (BS.iteF (BT.cmp (BE.var rfl rfl rfl) (BE.var rfl rfl rfl) gt_nat2) (by simpa using hm) BSs.nil) BSs.nil)
      · exact ⟨rfl, rfl, rfl, rfl, rfl, trivial⟩
    · have he : rowsFrom l s mx (k + 1) j = false := by show (decide _ && _) = _; simp [hm]
      rw [he]
      refine ⟨lvE l s mx H.length j, H ++ [natsV (rowAt l s j s.length)], .ret trivial (BB.name (.inl rfl)) (lev_row K hlow hl hs hj ?_), ⟨_, rfl⟩, fun h => nomatch h⟩
      rw [hlf]
      exact (BSs.ret (BS.iteT (BT.cmp (BE.var rfl rfl rfl) (BE.var rfl rfl rfl) gt_nat2) (by simpa using hm) (BSs.ret (BS.ret (BE.bin (BE.var rfl rfl rfl) BE.int (add_nat2 (b := 1)))))))
end
end Mine
end
section
open PySem PySem.Calls PyProof.Rows
set_option Elab.async false
set_option maxRecDepth 100000
namespace Mine
section
variable {G : GL} {d : Nat} {sc : List (Str × NameKind)} {loc loc' loc'' : Loc} {H H' H'' X : Lists}
noncomputable def levDp (l s : List Nat) (mx : Nat) : Nat := if mx < 2 * (l.length - s.length) then mx + 1 else if rowsFrom l s mx l.length 0 = true then dpD l s l.length s.length else mx + 1
noncomputable def levTail (a b : List Nat) (mx : Nat) : Nat := if a = [] ∨ b = [] then 2 * (a.length + b.length) else if b.length < a.length then levDp a b mx else levDp b a mx
noncomputable def levCut (a b : List Nat) (mx : Nat) : Nat := levTail (a.take (a.length - tcp a b)) (b.take (b.length - tcp a b)) mx
noncomputable def levF (a b : List Nat) (mx : Nat) : Nat := if a = b then 0 else levCut (a.drop (lcp a b)) (b.drop (lcp a b)) mx
theorem BSs.anyLoc {sts : List Stmt} {f : Fl} {l2 : Loc} (h : BSs G d sc sts loc H f l2 H') : BSs G d sc sts loc H f [] H' := h.conseq (fun _ _ h => h) (fun _ _ h => nomatch h)
theorem subN2_nat {a b : Nat} (h : b ≤ a) : Act2 G (binaryOp .Sub) (.int a) (.int b) H (.int (a - b : Nat)) H := sub_int2.cast (by congr 1; (first | lia | omega))
theorem len_sv (K : LK G) {p1 p2 pos : Pos} {x : Str} {l : List Nat} (hx : loc.lookup x = some (sv l)) (hl : l.length ≤ 1000) (hk : sc.lookup ("len" : Str) = some .globalImplicit := by rfl)
    (hd : (x == ("__debug__" : Str)) = false := by decide) (hc : (x == ("__classdict__" : Str)) = false := by decide) : BE G (d + 2) sc (.Call (.Name "len" p1) [.Name x p2] [] pos) loc H (.int (l.length : Nat)) H := by
  have := bc_len_str (G := G) (d := d + 1) (H := H) (x := ⟨l.toArray⟩) (by rw [sv_len]; (first | lia | omega))
  rw [sv_len] at this
  exact BE.callB K.toGOk hk K.len (BA.cons (BE.var hx hd hc) BA.nil) this rfl
theorem lev_dp (K : LK G) {l s : List Nat} {mx : Nat} (hlow : ∀ c ∈ l ++ s, (Txt.lower ⟨#[c]⟩).length ≤ 1000000) (hl : l.length ≤ 40) (hs : s.length ≤ 40) (hs0 : 0 < s.length) (hls : s.length ≤ l.length) :
    ∃ Y, BSs G (d + 6) lvN ((drOf 18).body.drop 12) [("a", sv s), ("b", sv l), ("max_cost", .int (mx : Nat))] H (.ret (.int (levDp l s mx : Nat))) [] (H ++ Y) := by
  by_cases h1 : mx < 2 * (l.length - s.length)
  · refine ⟨[], ?_⟩
    rw [List.append_nil, show levDp l s mx = mx + 1 from if_pos h1]
    refine BSs.anyLoc (l2 := [("a", sv s), ("b", sv l), ("max_cost", .int (mx : Nat))]) (BSs.ret (BS.iteT (BT.cmp (BE.bin (BE.bin (len_sv K rfl (by (first | lia | omega))) (len_sv K rfl (by (first | lia | omega))) (subN2_nat hls)) (K.moveE rfl) (mul_nat2 (b := 2) (by (first | lia | omega)))) (BE.var rfl rfl rfl) gt_nat2) ?_ (BSs.ret (BS.ret (BE.bin (BE.var rfl rfl rfl) BE.int (add_nat2 (b := 1)))))))
    simp; (first | lia | omega)
  · have hX : H ++ [natsV (rowAt l s 0 0)] = H ++ [rngL 2 2 s.length] := by
      congr 2
      unfold natsV rowAt rngL
      rw [List.map_map]
      apply List.map_congr_left
      intro t _
      simp only [Function.comp, if_neg (Nat.not_lt_zero t)]
      rw [dpD]
      congr 1
      (first | lia | omega)
    have hsz : Builtin.Range.rangeSize 2 (2 * (s.length + 1) : Nat) 2 = s.length := by
      unfold Builtin.Range.rangeSize
      rw [if_pos (by decide)]
      split <;> (first | lia | omega)
    have hsm : Builtin.Range.small 2 (2 * (s.length + 1) : Nat) 2 = true := by
      unfold Builtin.Range.small
      rw [hsz]
      unfold Builtin.Range.rangeFitsLong
      simp
      (first | lia | omega)
    obtain ⟨loc', H', hr, ⟨Y, rfl⟩, hsub⟩ := lev_rows (d := d) (H := H) (mx := mx) K hlow (by (first | lia | omega)) (by (first | lia | omega)) hs0 l.length 0 (by (first | lia | omega))
    refine ⟨Y, ?_⟩
    refine BSs.cons (loc' := [("a", sv s), ("b", sv l), ("max_cost", .int (mx : Nat))]) (H' := H) (BS.iteF (BT.cmp (BE.bin (BE.bin (len_sv K rfl (by (first | lia | omega))) (len_sv K rfl (by (first | lia | omega))) (subN2_nat hls)) (K.moveE rfl) (mul_nat2 (b := 2) (by (first | lia | omega)))) (BE.var rfl rfl rfl) gt_nat2) ?_ BSs.nil) ?_
    · simp; (first | lia | omega)
    refine BSs.cons (loc' := [("a", sv s), ("b", sv l), ("max_cost", .int (mx : Nat)), ("row", .ref H.length)]) (H' := H ++ [natsV (rowAt l s 0 0)]) ?_ ?_
    · rw [hX]
      refine BS.assign (loc := [("a", sv s), ("b", sv l), ("max_cost", .int (mx : Nat))]) (BE.listRange K.toGOk (BRng.three (b := (2 * (s.length + 1) : Nat)) K.toGOk rfl K.range (BA.cons (K.moveE rfl) (BA.cons (BE.bin (K.moveE rfl) (BE.bin (len_sv K rfl (by (first | lia | omega))) BE.int (add_nat2 (b := 1))) (mul_nat2 (a := 2) (by (first | lia | omega)))) (BA.cons (K.moveE rfl) BA.nil))) (by decide) (by decide)) rfl K.list hsm hsz (by (first | lia | omega))) (.inl rfl)
    refine BSs.cons (loc' := lvL l s mx H.length 0) (BS.assign BE.int (.inl rfl)) ?_
    by_cases hr2 : rowsFrom l s mx l.length 0 = true
    · rw [show levDp l s mx = dpD l s l.length s.length by unfold levDp; rw [if_neg h1, if_pos hr2]]
      rw [if_pos hr2] at hr
      refine BSs.cons (BS.for (BIt.range (b := (l.length : Nat)) (BRng.one K.toGOk rfl K.range (BA.cons (len_sv K rfl (by (first | lia | omega))) BA.nil)) (rng_small (by (first | lia | omega))) rng_size) hr) (BSs.anyLoc (BSs.ret (BS.ret ?_)))
      refine BE.var (hsub hr2 _ _ ?_)
      show some (V.int ((resAt l s l.length : Nat) : Int)) = _
      rw [show resAt l s l.length = dpD l s l.length s.length from if_neg (by (first | lia | omega))]
    · rw [show levDp l s mx = mx + 1 by unfold levDp; rw [if_neg h1, if_neg hr2]]
      rw [if_neg hr2] at hr
      exact BSs.anyLoc (BSs.ret (BS.for (BIt.range (b := (l.length : Nat)) (BRng.one K.toGOk rfl K.range (BA.cons (len_sv K rfl (by (first | lia | omega))) BA.nil)) (rng_small (by (first | lia | omega))) rng_size) hr))
noncomputable def levBody (i : Nat) : List Stmt := (drOf 18).body.drop i
theorem tru_sv {l : List Nat} (h : l.length ≤ 1000) (hne : l ≠ []) : Tru G (sv l) H true := by
  have := sv_tru (G := G) (H := H) (l := l) (by (first | lia | omega))
  rwa [decide_eq_true hne] at this
theorem tru_sv_nil : Tru G (sv []) H false := by
  have := sv_tru (G := G) (H := H) (l := []) (by decide)
  exact this
theorem lev_tail (K : LK G) {a b : List Nat} {mx : Nat} (hlow : ∀ c ∈ a ++ b, (Txt.lower ⟨#[c]⟩).length ≤ 1000000) (ha : a.length ≤ 40) (hb : b.length ≤ 40) :
    ∃ Y, BSs G (d + 6) lvN (levBody 9) [("a", sv a), ("b", sv b), ("max_cost", .int (mx : Nat))] H (.ret (.int (levTail a b mx : Nat))) [] (H ++ Y) := by
  by_cases h1 : a = [] ∨ b = []
  · refine ⟨[], ?_⟩
    rw [List.append_nil, show levTail a b mx = 2 * (a.length + b.length) from if_pos h1]
    refine BSs.anyLoc (l2 := [("a", sv a), ("b", sv b), ("max_cost", .int (mx : Nat))]) (BSs.ret (BS.ifT ?_ (BSs.ret (BS.ret (BE.bin (K.moveE rfl) (BE.bin (len_sv K rfl (by (first | lia | omega))) (len_sv K rfl (by (first | lia | omega))) add_nat2) (mul_nat2 (a := 2) (by (first | lia | omega))))))))
    by_cases h2 : a = []
    · subst h2
      exact BT.or_t (BT.not (c := false) (BT.val (BE.var rfl rfl rfl) tru_sv_nil))
    · have h3 := h1.resolve_left h2
      subst h3
      exact BT.or_f (BT.not (c := true) (BT.val (BE.var rfl rfl rfl) (tru_sv (by (first | lia | omega)) h2))) (BT.or_t (BT.not (c := false) (BT.val (BE.var rfl rfl rfl) tru_sv_nil)))
  · have h2 : a ≠ [] := fun q => h1 (.inl q)
    have h3 : b ≠ [] := fun q => h1 (.inr q)
    have p2 := List.length_pos_iff.mpr h2
    have p3 := List.length_pos_iff.mpr h3
    have pre : ∀ {Y : Lists} {v : V}, BSs G (d + 6) lvN (levBody 11) [("a", sv a), ("b", sv b), ("max_cost", .int (mx : Nat))] H (.ret v) [] (H ++ Y) → BSs G (d + 6) lvN (levBody 9) [("a", sv a), ("b", sv b), ("max_cost", .int (mx : Nat))] H (.ret v) [] (H ++ Y) := by
      intro Y v h
      refine BSs.cons (loc' := [("a", sv a), ("b", sv b), ("max_cost", .int (mx : Nat))]) (H' := H) (BS.ifF (BT.or_f (BT.not (c := true) (BT.val (BE.var rfl rfl rfl) (tru_sv (by (first | lia | omega)) h2))) (BT.or_f (BT.not (c := true) (BT.val (BE.var rfl rfl rfl) (tru_sv (by (first | lia | omega)) h3))) BT.or_nil)) BSs.nil) ?_
      refine BSs.cons (loc' := [("a", sv a), ("b", sv b), ("max_cost", .int (mx : Nat))]) (H' := H) (BS.ifF (BT.or_f (BT.cast (BT.cmp (len_sv K rfl (by (first | lia | omega))) (K.maxsE rfl) (gt_nat2 (b := 40))) ?_) (BT.or_f (BT.cast (BT.cmp (len_sv K rfl (by (first | lia | omega))) (K.maxsE rfl) (gt_nat2 (b := 40))) ?_) BT.or_nil)) BSs.nil) h
      · simp; (first | lia | omega)
      · simp; (first | lia | omega)
    by_cases h4 : b.length < a.length
    · obtain ⟨Y, h⟩ := lev_dp (d := d) (H := H) (l := a) (s := b) (mx := mx) K (fun c hc => hlow c hc) ha hb p3 (by (first | lia | omega))
      refine ⟨Y, ?_⟩
      rw [show levTail a b mx = levDp a b mx by unfold levTail; rw [if_neg h1, if_pos h4]]
      refine pre (BSs.cons (loc' := [("a", sv b), ("b", sv a), ("max_cost", .int (mx : Nat))]) (H' := H) (BS.iteT (BT.cmp (len_sv K rfl (by (first | lia | omega))) (len_sv K rfl (by (first | lia | omega))) lt_nat2) (by simpa using h4) ?_) h)
      refine BSs.cons (loc' := [("a", sv b), ("b", sv a), ("max_cost", .int (mx : Nat))]) (H' := H) ?_ BSs.nil
      refine BS.swap (loc := [("a", sv a), ("b", sv b), ("max_cost", .int (mx : Nat))]) (u := sv b) (v := sv a) (BE.tuple (BA.cons (BE.var rfl rfl rfl) (BA.cons (BE.var rfl rfl rfl) BA.nil)) (by simp)) rfl rfl (hw := ?_)
      intro env h1 h2 h3
      have hb : env.blockKind = .function := by unfold Env.blockKind; rw [h1]; rfl
      unfold swappedStores
      simp only [hb, List.filterMap, h2, h3]
      rfl
    · obtain ⟨Y, h⟩ := lev_dp (d := d) (H := H) (l := b) (s := a) (mx := mx) K (fun c hc => hlow c (by simp at hc ⊢; exact hc.symm)) hb ha p2 (by (first | lia | omega))
      refine ⟨Y, ?_⟩
      rw [show levTail a b mx = levDp b a mx by unfold levTail; rw [if_neg h1, if_neg h4]]
      refine pre (BSs.cons (loc' := [("a", sv a), ("b", sv b), ("max_cost", .int (mx : Nat))]) (H' := H) (BS.iteF (BT.cmp (len_sv K rfl (by (first | lia | omega))) (len_sv K rfl (by (first | lia | omega))) lt_nat2) (by simpa using h4) BSs.nil) h)
theorem f_lev (K : LK G) (hp : plainH H = true) {a b : List Nat} {mx : Nat} (hlow : ∀ c ∈ a ++ b, (Txt.lower ⟨#[c]⟩).length ≤ 1000000) (ha : a.length ≤ 40) (hb : b.length ≤ 40) :
    ∀ x, G.mg (drOf 18).name = some (.ref x) → BC G (d + 7) (.ref x) [sv a, sv b, .int (mx : Nat)] H (.int (levF a b mx : Nat)) H := by
  intro x hx
  suffices h : ∃ Y, BC G (d + 7) (.ref x) [sv a, sv b, .int (mx : Nat)] H (.int (levF a b mx : Nat)) (H ++ Y) from let ⟨_, h⟩ := h; h.drop hp rfl
  have main : ∃ Y, BSs G (d + 6) lvN (drOf 18).body [("a", sv a), ("b", sv b), ("max_cost", .int (mx : Nat))] H (.ret (.int (levF a b mx : Nat))) [] (H ++ Y) := by
    by_cases h1 : a = b
    · refine ⟨[], ?_⟩
      rw [List.append_nil, show levF a b mx = 0 from if_pos h1]
      refine BSs.anyLoc (l2 := [("a", sv a), ("b", sv b), ("max_cost", .int (mx : Nat))]) (BSs.ret (BS.iteT (BT.cmp (BE.var rfl rfl rfl) (BE.var rfl rfl rfl) eq_str2) ?_ (BSs.ret (BS.ret BE.int))))
      rw [h1]; simp
    · have hle := lcp_le a b
      have hle2 := tcp_le (a.drop (lcp a b)) (b.drop (lcp a b))
      obtain ⟨Y, h⟩ := lev_tail (d := d) (H := H) (mx := mx) (a := (a.drop (lcp a b)).take ((a.drop (lcp a b)).length - tcp (a.drop (lcp a b)) (b.drop (lcp a b)))) (b := (b.drop (lcp a b)).take ((b.drop (lcp a b)).length - tcp (a.drop (lcp a b)) (b.drop (lcp a b)))) K
        (fun c hc => hlow c (by
          rcases List.mem_append.mp hc with hc | hc
          · exact List.mem_append_left _ (List.mem_of_mem_drop (List.mem_of_mem_take hc))
          · exact List.mem_append_right _ (List.mem_of_mem_drop (List.mem_of_mem_take hc))))
        (by simp; (first | lia | omega)) (by simp; (first | lia | omega))
      refine ⟨Y, ?_⟩
      rw [show levF a b mx = levCut (a.drop (lcp a b)) (b.drop (lcp a b)) mx from if_neg h1]
      refine BSs.cons (loc' := [("a", sv a), ("b", sv b), ("max_cost", .int (mx : Nat))]) (H' := H) (BS.iteF (BT.cmp (BE.var rfl rfl rfl) (BE.var rfl rfl rfl) eq_str2) (by simp; exact h1) BSs.nil) ?_
      refine BSs.cons (loc' := [("a", sv a), ("b", sv b), ("max_cost", .int (mx : Nat)), ("pre", .int (0 : Nat))]) (H' := H) (BS.assign BE.int (.inl rfl)) ?_
      refine BSs.cons (loc' := [("a", sv a), ("b", sv b), ("max_cost", .int (mx : Nat)), ("pre", .int (lcp a b : Nat))]) (H' := H) (lev_while1 (d := d + 2) (by (first | lia | omega)) (by (first | lia | omega)) 0 (lcp a b) (by (first | lia | omega))) ?_
      refine BSs.cons (loc' := [("a", sv (a.drop (lcp a b))), ("b", sv b), ("max_cost", .int (mx : Nat)), ("pre", .int (lcp a b : Nat))]) (H' := H) (BS.assign (BE.sub (BE.var rfl rfl rfl) (BE.slice (a := .int (lcp a b : Nat)) (b := .none) (BE.var rfl rfl rfl) ⟨rfl, rfl⟩) (slice_from (by (first | lia | omega)))) (.inl rfl)) ?_
      refine BSs.cons (loc' := [("a", sv (a.drop (lcp a b))), ("b", sv (b.drop (lcp a b))), ("max_cost", .int (mx : Nat)), ("pre", .int (lcp a b : Nat))]) (H' := H) (BS.assign (BE.sub (BE.var rfl rfl rfl) (BE.slice (a := .int (lcp a b : Nat)) (b := .none) (BE.var rfl rfl rfl) ⟨rfl, rfl⟩) (slice_from (by (first | lia | omega)))) (.inl rfl)) ?_
      have la : (a.drop (lcp a b)).length ≤ 40 := by rw [List.length_drop]; (first | lia | omega)
      have lb : (b.drop (lcp a b)).length ≤ 40 := by rw [List.length_drop]; (first | lia | omega)
      unfold levCut
      generalize a.drop (lcp a b) = a1 at *
      generalize b.drop (lcp a b) = b1 at *
      refine BSs.cons (loc' := [("a", sv a1), ("b", sv b1), ("max_cost", .int (mx : Nat)), ("pre", .int (lcp a b : Nat)), ("post", .int (-((0 : Nat) : Int)))]) (H' := H) (BS.assign BE.int (.inl rfl)) ?_
      refine BSs.cons (loc' := [("a", sv a1), ("b", sv b1), ("max_cost", .int (mx : Nat)), ("pre", .int (lcp a b : Nat)), ("post", .int (-((tcp a1 b1 : Nat) : Int)))]) (H' := H) (lev_while2 (d := d + 2) (by (first | lia | omega)) (by (first | lia | omega)) 0 (tcp a1 b1) (by (first | lia | omega))) ?_
      refine BSs.cons (loc' := [("a", sv (a1.take (a1.length - tcp a1 b1))), ("b", sv b1), ("max_cost", .int (mx : Nat)), ("pre", .int (lcp a b : Nat)), ("post", .int (-((tcp a1 b1 : Nat) : Int)))]) (H' := H)
        (BS.assign (BE.sub (BE.var rfl rfl rfl) (BE.slice (a := .none) (b := postV (tcp a1 b1)) (lo := none) (hi := hiOf (tcp a1 b1)) ⟨rfl, rfl⟩ (BE.postOr (j := tcp a1 b1) rfl) rfl (postV_part _)) (slice_to hle2.1 (by (first | lia | omega)))) (.inl rfl)) ?_
      refine BSs.cons (loc' := [("a", sv (a1.take (a1.length - tcp a1 b1))), ("b", sv (b1.take (b1.length - tcp a1 b1))), ("max_cost", .int (mx : Nat)), ("pre", .int (lcp a b : Nat)), ("post", .int (-((tcp a1 b1 : Nat) : Int)))]) (H' := H)
        (BS.assign (BE.sub (BE.var rfl rfl rfl) (BE.slice (a := .none) (b := postV (tcp a1 b1)) (lo := none) (hi := hiOf (tcp a1 b1)) ⟨rfl, rfl⟩ (BE.postOr (j := tcp a1 b1) rfl) rfl (postV_part _)) (slice_to hle2.2 (by (first | lia | omega)))) (.inl rfl)) ?_
      exact BSs.conseq h (subL.get ⟨rfl, rfl, rfl, trivial⟩) (fun _ _ h => nomatch h)
  obtain ⟨Y, h⟩ := main
  refine ⟨Y, ?_⟩
  revert x hx
  refine K.call 18 ["a", "b", "max_cost"] (.ret _) (by decide) ⟨_, h⟩ ?_ ?_ ?_
  · intro pm cd doc rs hl
    obtain ⟨x, y, z, rfl⟩ := len_3 hl
    rfl
  · decide +kernel
  · decide +kernel
end
end Mine
end
section
open PySem PySem.Calls PyProof.Rows
set_option Elab.async false
set_option maxRecDepth 100000
namespace Mine
section
variable {G : GL} {d : Nat} {sc : List (Str × NameKind)} {loc loc' loc'' : Loc} {H H' H'' X : Lists}
theorem sys_lt (K : GOk G) {α : List Addr} {s : Shared} (X : HRel G α H s) {a : Addr} (h : s.heap.objs.size ≤ a) : (a == sysModules) = false := by
  obtain ⟨o, es, ep, e, _⟩ := K.ns
  have := Heap.lt_size (X.keep _ _ e)
  have h2 : sysModules < mainGlobals := by decide
  rw [beq_eq_false_iff_ne]
  have h3 : sysModules < a := Nat.lt_of_lt_of_le (Nat.lt_trans h2 this) h
  exact Nat.ne_of_gt h3
/-- a display of constant texts -/
theorem dict_eval (K : GOk G) {keys : List (Option Expr)} {values : List Expr} {pos : Pos} {D : List (PyData × PyData)} (hD : litPairs keys values = some D) (hs : strKeyed D = true) (hn : (strKeysOf D).Nodup)
    (hall : keys.all (·.isSome) = true) (hl : keys.length = values.length) (h0 : keys ≠ []) (hlen : keys.length ≤ 15) {A : Around} {env : Env} {α : List Addr} {s : Shared} (X : HRel G α H s)
    {Q : Value → Shared → Prop} {E : Value → Shared → Prop} (h : ∀ a s', Ext [] α α s s' → HRel G α H s' → StrTab G.prog G.w s'.heap a D → s.heap.get? a = none → (∃ o, s'.heap.get? a = some o) → Q (.ref a) s') :
    wpAny (model G.prog G.w) A (eval (.Dict keys values pos) env) Q E s := by
  refine wpAny_toks (Dict_lits_str hD hs hn hall hl h0 hlen fun a o h₁ tk hsz ho hd hk ht => ?_)
  obtain ⟨kvs, hq, hf⟩ := hd
  exact h a _ (Ext.keeps hk) ((X.keeps hk).tok (Nat.le_trans X.pos ht)) (TabAt.ofObj (sys_lt K X hsz) ho hq hf) (get_none_of_ge hsz) ⟨o, ho⟩
theorem tab_ext {α α' : List Addr} {fp : List Addr} {s s' : Shared} {a : Addr} {D : List (PyData × PyData)} (x : Ext fp α α' s s') (T : StrTab G.prog G.w s.heap a D) (h1 : a ∉ α) (h2 : a ∉ fp) : StrTab G.prog G.w s'.heap a D := by
  obtain ⟨lo, kvs, hd, hf⟩ := T
  obtain ⟨o, ho, q⟩ := Heap.dictOf_iff.mp hd
  exact ⟨lo, kvs, Heap.dictOf_iff.mpr ⟨o, x.keep a o ho h1 h2, q⟩, hf⟩
noncomputable def lateX : List (PyData × PyData) := [(.str "\r", .str "&#xD;"), (.str "\n", .str "&#xA;"), (.str "\t", .str "&#x9;")]
noncomputable def lateD : List (PyData × PyData) := [(.str "\r", .str "&#13;"), (.str "\n", .str "&#10;"), (.str "\t", .str "&#09;")]
noncomputable def lateOf (way : Nat) : List (PyData × PyData) := if way = 1 then lateD else lateX
noncomputable def mainD : List (PyData × PyData) := [(.str "&", .str "&amp;"), (.str "<", .str "&lt;"), (.str ">", .str "&gt;"), (.str "\"", .str "&quot;")]
noncomputable def refOf (way : Nat) (x : Str) : Str := match PySem.Spec.lookup (.str x) (lateOf way) with
  | some (.str y) => y
  | _ => match PySem.Spec.lookup (.str x) mainD with
    | some (.str y) => y
    | _ => ""
noncomputable def rfSt (i : Nat) : Stmt := match (drOf 28).body[i]? with
  | some s => s
  | none => .Pass default
theorem ref_last (K : GOk G) {way : V} {x y : Str} {D : List (PyData × PyData)} {dd : Addr} (h1 : PySem.Spec.lookup (.str x) D = none) (h2 : PySem.Spec.lookup (.str x) mainD = some (.str y))
    {A : Around} {env : Env} {α : List Addr} {s : Shared} (R : Room (d + 3) A) (S : Kinds (drOf 28).scope.names env) (X : HRel G α H s) (L : LRel G env α [("way", way), ("sign", .str x), ("late", .raw (.ref dd))] s.heap) (T : StrTab G.prog G.w s.heap dd D) (hd : dd ∉ α) :
    DoesF G (fpOf env) env (execs [rfSt 2, rfSt 3] env) α H [("way", way), ("sign", .str x), ("late", .raw (.ref dd))] (fun α' h r => FR G α' h (.ret (.str y)) r) A s := by
  refine ⟨fun Q E hQ => ?_⟩
  refine wpAny_execs_cons (wpAny_If (wpAny_isTrue_Compare1 ?_))
  refine (BE.var (d := d + 3) (x := "sign") (v := .str x) rfl rfl rfl A env α s R S X L).out _ _ fun r1 s1 α1 x1 X1 v1 => ?_
  cases v1
  have L1 := L.ext X x1
  have T1 := tab_ext x1 T hd (by simp)
  refine (BE.var (d := d + 3) (x := "late") (v := .raw (.ref dd)) rfl rfl rfl A env α1 s1 R S X1 L1).out _ _ fun r2 s2 α2 x2 X2 v2 => ?_
  cases v2
  have hd1 : ∀ {α α' : List Addr} {fp : List Addr} {s s' : Shared}, Ext fp α α' s s' → StrTab G.prog G.w s.heap dd D → dd ∉ α → dd ∉ α' := fun x T h => by
    obtain ⟨_, kvs, hq, _⟩ := T
    obtain ⟨o, ho, _⟩ := Heap.dictOf_iff.mp hq
    exact x.notIn ho h
  have d1 := hd1 x1 T hd
  have T2 := tab_ext x2 T1 d1 (by simp)
  have d2 := hd1 x2 T1 d1
  have L2 := L1.ext X1 x2
  refine in_strTab T2 ?_
  rw [h1]
  refine wpAny_truthy_bool ?_
  refine wpAny_execs_nil ?_
  have X3 := X2.tk
  have x3 : Ext [] α2 α2 s2 { s2 with toks := s2.toks + 1 } := Ext.tok
  have L3 := L2.ext X2 x3
  refine wpAny_execs_cons ?_
  refine wpAny_Return_some ?_
  refine Subscript_ ?_
  have hD : ∀ (keys : List (Option Expr)) (values : List Expr) (pos : Pos) (Q : Value → Shared → Prop) (E : Value → Shared → Prop) (hD : litPairs keys values = some mainD) (hall : keys.all (·.isSome) = true) (hl : keys.length = values.length) (h0 : keys ≠ []) (hlen : keys.length ≤ 15),
      (∀ a s', Ext [] α2 α2 { s2 with toks := s2.toks + 1 } s' → HRel G α2 H s' → StrTab G.prog G.w s'.heap a mainD → s2.heap.get? a = none → Q (.ref a) s') → wpAny (model G.prog G.w) A (eval (.Dict keys values pos) env) Q E { s2 with toks := s2.toks + 1 } :=
    fun keys values pos Q E hD hall hl h0 hlen h => dict_eval K hD rfl (by decide) hall hl h0 hlen X3 fun a s' x X T hn _ => h a s' x X T hn
  refine hD _ _ _ _ _ ?_ ?_ ?_ ?_ ?_ ?_
  · rfl
  · rfl
  · rfl
  · simp
  · decide
  intro a4 s4 x4 X4 T4 hn4
  refine (BE.var (d := d + 3) (x := "sign") (v := .str x) rfl rfl rfl A env α2 s4 R S X4 (L3.ext X3 x4)).out _ _ fun r5 s5 α5 x5 X5 v5 => ?_
  cases v5
  have d4 : a4 ∉ α2 := fun h => by
    obtain ⟨l, n, hl⟩ := X3.isList h
    rw [hn4] at hl; cases hl
  obtain ⟨lo, kvs, hdo, hf⟩ := tab_ext x5 T4 d4 (by simp)
  obtain ⟨v, hv, hfl⟩ := hf.of_lookup PyProof.V.same_str h2
  obtain ⟨ops, hs⟩ := subscripted_ops _ (.ref a4) (.str x _)
  refine tail_any hdo.typeIs slot_dict_getitem.lookup (wpAny_getItem_of (strKind_is _ _ _ _) hdo.mapOf hv ?_) hs
  obtain ⟨t, rfl⟩ := hfl.str_inv
  have xx := (((((x1.trans x2).trans x3).trans x4).trans x5).trans (Ext.tok (t := s5.toks + 1)))
  exact hQ _ _ _ (xx.mono (by simp)) X5.tk (L.ext X xx) (.ret (.str _ _))
theorem ref_first {way : V} {x y : Str} {D : List (PyData × PyData)} {dd : Addr} (h1 : PySem.Spec.lookup (.str x) D = some (.str y))
    {A : Around} {env : Env} {α : List Addr} {s : Shared} (R : Room (d + 3) A) (S : Kinds (drOf 28).scope.names env) (X : HRel G α H s) (L : LRel G env α [("way", way), ("sign", .str x), ("late", .raw (.ref dd))] s.heap) (T : StrTab G.prog G.w s.heap dd D) (hd : dd ∉ α) :
    DoesF G (fpOf env) env (execs [rfSt 2, rfSt 3] env) α H [("way", way), ("sign", .str x), ("late", .raw (.ref dd))] (fun α' h r => FR G α' h (.ret (.str y)) r) A s := by
  refine ⟨fun Q E hQ => ?_⟩
  refine wpAny_execs_cons (wpAny_If (wpAny_isTrue_Compare1 ?_))
  refine (BE.var (d := d + 3) (x := "sign") (v := .str x) rfl rfl rfl A env α s R S X L).out _ _ fun r1 s1 α1 x1 X1 v1 => ?_
  cases v1
  have L1 := L.ext X x1
  have T1 := tab_ext x1 T hd (by simp)
  refine (BE.var (d := d + 3) (x := "late") (v := .raw (.ref dd)) rfl rfl rfl A env α1 s1 R S X1 L1).out _ _ fun r2 s2 α2 x2 X2 v2 => ?_
  cases v2
  have hd1 : ∀ {α α' : List Addr} {fp : List Addr} {s s' : Shared}, Ext fp α α' s s' → StrTab G.prog G.w s.heap dd D → dd ∉ α → dd ∉ α' := fun x T h => by
    obtain ⟨_, kvs, hq, _⟩ := T
    obtain ⟨o, ho, _⟩ := Heap.dictOf_iff.mp hq
    exact x.notIn ho h
  have d1 := hd1 x1 T hd
  have T2 := tab_ext x2 T1 d1 (by simp)
  have d2 := hd1 x2 T1 d1
  have L2 := L1.ext X1 x2
  refine in_strTab T2 ?_
  rw [h1]
  refine wpAny_truthy_bool ?_
  have X3 := X2.tk
  have x3 : Ext [] α2 α2 s2 { s2 with toks := s2.toks + 1 } := Ext.tok
  have L3 := L2.ext X2 x3
  have T3 := tab_ext x3 T2 d2 (by simp)
  refine wpAny_execs_cons (wpAny_Return_some (Subscript_ ?_))
  refine (BE.var (d := d + 3) (x := "late") (v := .raw (.ref dd)) rfl rfl rfl A env α2 _ R S X3 L3).out _ _ fun r4 s4 α4 x4 X4 v4 => ?_
  cases v4
  have T4 := tab_ext x4 T3 d2 (by simp)
  have d4 := hd1 x4 T3 d2
  refine (BE.var (d := d + 3) (x := "sign") (v := .str x) rfl rfl rfl A env α4 s4 R S X4 (L3.ext X3 x4)).out _ _ fun r5 s5 α5 x5 X5 v5 => ?_
  cases v5
  refine item_strTab (tab_ext x5 T4 d4 (by simp)) h1 fun v hv => ?_
  obtain ⟨t, rfl⟩ := hv.str_inv
  have xx := (((((x1.trans x2).trans x3).trans x4).trans x5).trans (Ext.tok (t := s5.toks + 1)))
  exact hQ _ _ _ (xx.mono (by simp)) X5.tk (L.ext X xx) (.ret (.str _ _))
theorem late_set (K : GOk G) {keys : List (Option Expr)} {values : List Expr} {pos p p' : Pos} {D : List (PyData × PyData)} (hD : litPairs keys values = some D) (hs : strKeyed D = true) (hn : (strKeysOf D).Nodup)
    (hall : keys.all (·.isSome) = true) (hl : keys.length = values.length) (h0 : keys ≠ []) (hlen : keys.length ≤ 15) {A : Around} {env : Env} {α : List Addr} {s : Shared} (S : Kinds (drOf 28).scope.names env) (X : HRel G α H s) (L : LRel G env α loc s.heap)
    {Q : Flow → Shared → Prop} {E : Value → Shared → Prop} (h : ∀ a s', Ext (fpOf env) α α s s' → HRel G α H s' → LRel G env α (setL loc "late" (.raw (.ref a))) s'.heap → StrTab G.prog G.w s'.heap a D → a ∉ α → Q .next s') :
    wpAny (model G.prog G.w) A (exec (.Assign [.Name "late" p] (.Dict keys values pos) p') env) Q E s := by
  refine wpAny_Assign_Name (dict_eval K hD hs hn hall hl h0 hlen X fun a s1 x1 X1 T1 hn1 hl1 => ?_) rfl
  have na : a ∉ α := fun hm => by
    obtain ⟨l, n, hl⟩ := X.isList hm
    rw [hn1] at hl; cases hl
  refine store_name X1 (L.ext X x1) (.raw (.ref a)) (S.store (.inl rfl)) fun s2 b hb x2 X2 L2 _ => ?_
  have nb : a ∉ [b] := fun hm => by
    rw [List.mem_singleton] at hm
    subst hm
    obtain ⟨o, e⟩ := L.livefp (store_fp hb a (List.mem_singleton.mpr rfl))
    rw [hn1] at e; cases e
  exact h a s2 ((x1.mono (by simp)).trans (x2.mono (store_fp hb))) X2 L2 (tab_ext x2 T1 na nb) na
theorem f_ref (K : LK G) {way : Nat} {x y : Str} (h : PySem.Spec.lookup (.str x) (lateOf way) = some (.str y) ∨ (PySem.Spec.lookup (.str x) (lateOf way) = none ∧ PySem.Spec.lookup (.str x) mainD = some (.str y))) :
    ∀ a, G.mg (drOf 28).name = some (.ref a) → BC G (d + 4) (.ref a) [.int way, .str x] H (.str y) H := by
  have fin : ∀ {A : Around} {env : Env} {α : List Addr} {s : Shared} {dd : Addr}, Room (d + 3) A → Kinds (drOf 28).scope.names env → HRel G α H s → LRel G env α [("way", .int way), ("sign", .str x), ("late", .raw (.ref dd))] s.heap → StrTab G.prog G.w s.heap dd (lateOf way) → dd ∉ α →
      DoesF G (fpOf env) env (execs [rfSt 2, rfSt 3] env) α H [("way", .int way), ("sign", .str x), ("late", .raw (.ref dd))] (fun α' h r => FR G α' h (.ret (.str y)) r) A s := by
    intro A env α s dd R S X L T hd
    rcases h with h | ⟨h1, h2⟩
    · exact ref_first h R S X L T hd
    · exact ref_last K.toGOk h1 h2 R S X L T hd
  refine K.call 28 ["way", "sign"] (.ret _) (by decide) ⟨[("way", .int way), ("sign", .str x)], ?_⟩ ?_ ?_ ?_
  · intro A env α s R S X L
    refine ⟨fun Q E hQ => ?_⟩
    refine wpAny_execs_cons ?_
    refine late_set (D := lateX) (α := α) (H := H) (loc := [("way", .int way), ("sign", .str x)]) ?_ ?_ ?_ ?_ ?_ ?_ ?_ ?_ ?_ ?_ ?_ ?_
    · exact K.toGOk
    · rfl
    · rfl
    · decide
    · rfl
    · rfl
    · simp
    · decide
    · exact S
    · exact X
    · exact L
    intro a1 s1 x1 X1 L1 T1 n1
    refine wpAny_execs_cons ?_
    refine wpAny_If ?_
    refine (BT.cmp (d := d + 2) (BE.var (x := "way") (v := .int way) rfl rfl rfl) BE.int (eq_nat2 (b := 1)) (by with_unfolding_all rfl) A env α s1 R S X1 L1).out _ _ fun b s2 α2 x2 X2 e => ?_
    subst e
    have L2 := L1.ext X1 x2
    have sub0 : Sub [("way", .int way), ("sign", .str x)] [("way", .int way), ("sign", .str x), ("late", .raw (.ref a1))] := subL.get ⟨rfl, rfl, trivial⟩
    have n2 : a1 ∉ α2 := by
      obtain ⟨_, kvs, hq, _⟩ := T1
      obtain ⟨o, ho, _⟩ := Heap.dictOf_iff.mp hq
      exact x2.notIn ho n1
    by_cases hw : way = 1
    · rw [if_pos (by simpa using hw)]
      refine wpAny_execs_cons ?_
      refine late_set (D := lateD) (α := α2) (H := H) (loc := [("way", .int way), ("sign", .str x), ("late", .raw (.ref a1))]) ?_ ?_ ?_ ?_ ?_ ?_ ?_ ?_ ?_ ?_ ?_ ?_
      · exact K.toGOk
      · rfl
      · rfl
      · decide
      · rfl
      · rfl
      · simp
      · decide
      · exact S
      · exact X2
      · exact L2
      intro a3 s3 x3 X3 L3 T3 n3
      refine wpAny_execs_nil ?_
      refine (fin R S X3 L3 (by rw [show lateOf way = lateD from if_pos hw]; exact T3) n3).out _ _ fun r s4 α4 x4 X4 L4 f4 => ?_
      exact hQ r s4 α4 (((x1.trans (x2.mono (by simp))).trans x3).trans x4) X4 (L4.sub (subL.get ⟨rfl, rfl, trivial⟩)) f4
    · rw [if_neg (by simpa using hw)]
      refine wpAny_execs_nil ?_
      refine (fin R S X2 L2 (by rw [show lateOf way = lateX from if_neg hw]; exact tab_ext x2 T1 n1 (by simp)) n2).out _ _ fun r s4 α4 x4 X4 L4 f4 => ?_
      exact hQ r s4 α4 ((x1.trans (x2.mono (by simp))).trans x4) X4 (L4.sub (subL.get ⟨rfl, rfl, trivial⟩)) f4
  · intro pm cd doc rs hl
    obtain ⟨x, y, rfl⟩ := len_2 hl
    rfl
  · decide +kernel
  · decide +kernel
end
end Mine
end
section
open PySem PySem.Calls PyProof.Rows
set_option Elab.async false
set_option maxRecDepth 100000
namespace Mine
section
variable {G : GL} {d : Nat} {sc : List (Str × NameKind)} {loc loc' loc'' : Loc} {H H' H'' X : Lists}
theorem strsFrom_vrs {α : List Addr} {h : Heap} : ∀ (ys : List Str) (t : Nat), G.thr ≤ t → VRs G α h (ys.map .new) (strsFrom t ys)
  | [], _, _ => .nil
  | y :: ys, t, ht => .cons (.new y t ht) (strsFrom_vrs ys (t + 1) (Nat.le_succ_of_le ht))
theorem bc_split {x y : Str} (h1 : (decide (x.length < y.length) || decide (Builtin.Str.strKind x < Builtin.Str.strKind y)) = false) (hy : (y.length == 0) = false)
    (hf : (Builtin.Str.occurrences x y 0 x.length (x.length + 1)).isEmpty = false) (hx : x.length ≤ 1000000) (hn : (Txt.split x y).length ≤ 1000000) :
    BC G (d + 1) (.builtin "str.split") [.str x, .str y] H (.ref H.length) (H ++ [(Txt.split x y).map .new]) := by
  have he : Txt.split x y = Builtin.Str.partsBetween x (Builtin.Str.occurrences x y 0 x.length (x.length + 1)) y.length := by
    unfold Txt.split; rw [h1, hf]; rfl
  rw [he] at hn ⊢
  intro A α s rs R X hv
  refine ⟨fun Q E hQ => ?_⟩
  obtain ⟨r, q, rfl, hx1, hx2⟩ := hv.two
  cases hx1
  cases hx2
  refine call_meets F.slot_str_split (typeIs_str _ _ _) F.entry_str_split (F.args_str_split_2 _ _) (meets_str_split_sep x y _ _ h1 hy hf (by rw [sizeLine_eq]; (first | lia | omega)) (by rw [sizeLine_eq]; (first | lia | omega))) ?_
  obtain ⟨X', x', v'⟩ := X.pushList (l := (Builtin.Str.partsBetween x (Builtin.Str.occurrences x y 0 x.length (x.length + 1)) y.length).map .new) (strsFrom_vrs (h := s.heap) _ s.toks X.pos)
  exact hQ _ _ _ (x'.trans Ext.tok) (X'.tok (Nat.le_trans X.pos (Nat.le_add_right _ _))) v'
end
end Mine
end
section
open PySem PySem.Calls PyProof.Rows
set_option Elab.async false
set_option maxRecDepth 100000
namespace Mine
/-- a step that touches things of its own -/
structure OwnP (P : Addr → Prop) (s s' : Shared) : Prop where
  same : ∃ h t, s' = { s with heap := h, toks := t }
  keep : ∀ b o, ¬ P b → s.heap.get? b = some o → s'.heap.get? b = some o
  soft : ∀ b o, P b → s.heap.get? b = some o → frozen o = false
  toks : s.toks ≤ s'.toks
section
variable {G : GL} {d : Nat} {sc : List (Str × NameKind)} {loc loc' loc'' : Loc} {H H' H'' X : Lists} {P : Addr → Prop}
theorem OwnP.tups {s s' : Shared} (x : OwnP P s s') : TupKeep s.heap s'.heap := fun a o e f => x.keep a o (fun q => by rw [x.soft a o q e] at f; cases f) e
theorem OwnP.ext {fp α α' : List Addr} {s₀ s s' : Shared} (x : OwnP P s s') (y : Ext fp α α' s₀ s) (hI : ∀ b, P b → s₀.heap.get? b = none) : Ext fp α α' s₀ s' where
  same := by obtain ⟨h, t, rfl⟩ := y.same; obtain ⟨h', t', rfl⟩ := x.same; exact ⟨_, _, rfl⟩
  pre := y.pre
  new := y.new
  keep := fun b o e h1 h2 => x.keep b o (fun q => by rw [hI b q] at e; cases e) (y.keep b o e h1 h2)
  alive := fun b o e => let ⟨o', e'⟩ := y.alive b o e; ⟨o', x.keep b o' (fun q => by rw [hI b q] at e; cases e) e'⟩
theorem OwnP.hrel {α : List Addr} {s s' : Shared} (x : OwnP P s s') (X : HRel G α H s) (hI : ∀ b, P b → b ∉ α) (h0 : ∀ b, P b → G.h₀.get? b = none) : HRel G α H s' :=
  ⟨Nat.le_trans X.pos x.toks, fun b o e => x.keep b o (fun q => by rw [h0 b q] at e; cases e) (X.keep b o e), X.len, X.nd, X.own, fun i a l h1 h2 => by
    obtain ⟨items, ⟨n, e⟩, hv⟩ := X.lists i a l h1 h2
    exact ⟨items, ⟨n, x.keep _ _ (fun q => hI _ q (List.mem_of_getElem? h1)) e⟩, hv.mono (List.prefix_refl _) x.tups⟩⟩
theorem OwnP.lrel {α : List Addr} {env : Env} {s s' : Shared} (x : OwnP P s s') (L : LRel G env α loc s.heap) (hI : ∀ b, P b → b ∉ fpOf env) : LRel G env α loc s'.heap := by
  have kp : ∀ a ∈ fpOf env, ∀ o, s.heap.get? a = some o → s'.heap.get? a = some o := fun a ha o e => x.keep a o (fun q => hI a q ha) e
  refine ⟨L.kind, L.glob, L.bins, ?_, L.var, fun y v hy hk => ?_, fun y c hp => ?_, L.apart, L.fresh⟩
  · obtain ⟨m, hn, hm⟩ := L.ns
    refine ⟨m, hn.at' fun o e => kp _ (mem_fpOf.mpr (.inl rfl)) o e, fun y v hy hk => ?_⟩
    obtain ⟨r, e, hr⟩ := hm y v hy hk
    exact ⟨r, e, hr.mono (List.prefix_refl _) x.tups⟩
  · obtain ⟨c, r, hc, ⟨o, e, d⟩, hr⟩ := L.cell y v hy hk
    exact ⟨c, r, hc, ⟨o, kp c (mem_fpOf.mpr (.inr ⟨y, hc⟩)) o e, d⟩, hr.mono (List.prefix_refl _) x.tups⟩
  · obtain ⟨⟨v, o, e, d⟩, f⟩ := L.cells y c hp
    exact ⟨⟨v, o, kp c (mem_fpOf.mpr (.inr ⟨y, hp⟩)) o e, d⟩, f⟩

theorem BT.isOrEq (K : GOk G) {y k : Str} {j b : Str} {p1 p2 p3 p4 p5 p6 p7 : Pos} (hj : loc.lookup j = some (.new y)) (hb : loc.lookup b = some (.old k))
    (hd : (j == ("__debug__" : Str)) = false) (hc : (j == ("__classdict__" : Str)) = false) (hd' : (b == ("__debug__" : Str)) = false) (hc' : (b == ("__classdict__" : Str)) = false) :
    BT G (d + 1) sc (.BoolOp .Or [.Compare (.Name j p1) [.Is] [.Name b p2] p3, .Compare (.Name j p4) [.Eq] [.Name b p5] p6] p7) loc H (decide (y = k)) H := by
  have second : BT G (d + 1) sc (.BoolOp .Or [.Compare (.Name j p4) [.Eq] [.Name b p5] p6] p7) loc H (decide (y = k)) H := by
    have h := BT.cmp (d := d) (H''' := H) (p := p6) (c := decide (y = k)) (BE.var (G := G) (sc := sc) (H := H) (p := p4) hj hd hc) (BE.var (p := p5) hb hd' hc') (op := .Eq) (by
      intro A α s ra rb _ X va vb
      refine ⟨fun Q E hQ => ?_⟩
      cases va; cases vb
      exact (eq_str2 A α s _ _ ‹_› X (.str _ _) (.str _ _)).out _ _ hQ) (by with_unfolding_all rfl)
    cases e : decide (y = k) with
    | true => rw [e] at h; exact BT.or_t h
    | false => rw [e] at h; exact BT.or_f h BT.or_nil
  intro A env α s R S X L
  refine ⟨fun Q E hQ => ?_⟩
  refine isTrue_or ?_
  refine wpAny_isTrue_Compare1 ?_ (by with_unfolding_all rfl)
  refine (BE.var (d := d) (p := p1) hj hd hc A env α s ⟨R.handled, by have := R.depth; (first | lia | omega), by have := R.units; (first | lia | omega)⟩ S X L).out _ _ fun ra s1 α1 x1 X1 v1 => ?_
  refine (BE.var (d := d) (p := p2) hb hd' hc' A env α1 s1 ⟨R.handled, by have := R.depth; (first | lia | omega), by have := R.units; (first | lia | omega)⟩ S X1 (L.ext X x1)).out _ _ fun rb s2 α2 x2 X2 v2 => ?_
  have v1' := v1.mono x2.pre (x2.tups0 X1)
  have L2 := (L.ext X x1).ext X1 x2
  cases v1' with
  | new _ t ht =>
  cases v2 with
  | old _ u h0 hu =>
  have hu' : @LT.lt Nat _ u G.thr := hu
  have h0' : @LT.lt Nat _ 0 u := h0
  have ht' : @LE.le Nat _ G.thr t := ht
  have hne : (t == u) = false := by rw [beq_eq_false_iff_ne]; intro q; rw [q] at ht'; (first | lia | omega)
  have hz : (t == 0 || u == 0) = false := by
    have hthr := K.thr
    have e1 : (t == 0) = false := by rw [beq_eq_false_iff_ne]; intro q; rw [q] at ht'; (first | lia | omega)
    have e2 : (u == 0) = false := by rw [beq_eq_false_iff_ne]; intro q; rw [q] at h0'; (first | lia | omega)
    rw [e1, e2]; rfl
  have xx := x1.trans x2
  have fin : ∀ c : Bool, (y = k ∨ c = false) → wpAny (model G.prog G.w) A (truthy (.bool c)) (fun bb s₁ => if bb = true then Q true s₁ else wpAny (model G.prog G.w) A (PySem.isTrue (.BoolOp .Or [.Compare (.Name j p4) [.Eq] [.Name b p5] p6] p7) env (eval (.BoolOp .Or [.Compare (.Name j p1) [.Is] [.Name b p2] p3, .Compare (.Name j p4) [.Eq] [.Name b p5] p6] p7) env)) Q E s₁) E s2 := by
    intro c hcc
    refine wpAny_truthy_bool ?_
    cases c with
    | true =>
      have hyk := hcc.resolve_right (by decide)
      rw [if_pos rfl]
      exact hQ _ _ _ xx X2 (by simp [hyk])
    | false =>
      rw [if_neg (by decide)]
      exact (second A env α2 s2 R S X2 L2).out _ _ fun r s3 α3 x3 X3 e => hQ _ _ _ (xx.trans x3) X3 e
  show wpAny _ A (do return Value.bool (← isSame (.str y t) (.str k u))) _ _ _
  refine wpAny_bind ?_
  by_cases hyk : y = k
  · refine wpAny_isSame_str hz ?_ fun c => wpAny_pure (fin c (.inl hyk))
    obtain ⟨mc, hn, hm⟩ := K.nb
    exact ⟨mc, hn.at' fun o e => X2.keep _ _ e, hm⟩
  · rw [isSame_str_other y k t u hz hne (beq_eq_false_iff_ne.mpr hyk)]
    exact wpAny_pure (wpAny_pure (fin false (.inr rfl)))
theorem alpha_eq {α α' : List Addr} {s s' : Shared} (X : HRel G α H s) (Y : HRel G α' H s') (h : α <+: α') : α' = α := by
  have := X.len
  have h2 := Y.len
  obtain ⟨t, rfl⟩ := h
  rw [List.length_append] at h2
  have : t = [] := List.length_eq_zero_iff.mp (by (first | lia | omega))
  rw [this, List.append_nil]
theorem callT_raw (K : GOk G) {x : Str} {p pos : Pos} {args : List Expr} {vs : List V} {T : String} (hk : sc.lookup x = some .globalImplicit) (hg : gval G x (.type T)) (ha : BA G d sc args loc H vs H') {A : Around} {env : Env} {α : List Addr} {s : Shared} (R : Room d A) (S : Kinds sc env) (X : HRel G α H s) (L : LRel G env α loc s.heap)
    {Q : Value → Shared → Prop} {E : Value → Shared → Prop} (hc : ∀ rs s2 α2, Ext [] α α2 s s2 → HRel G α2 H' s2 → VRs G α2 s2.heap vs rs → wpAny (model G.prog G.w) A (call (.type T) rs) Q E s2)
    (hd : (x == ("__debug__" : Str)) = false := by decide) (hs : ArgsOk args pos := by intro _; exact ⟨_, _, rfl, rfl⟩) : wpAny (model G.prog G.w) A (eval (.Call (.Name x p) args [] pos) env) Q E s := by
  have key : wpAny (model G.prog G.w) A (callWith pos (.type T) [] (backTo pos (starEach args env)) []) Q E s := by
    obtain ⟨t, ts, h1, h2⟩ := hs env
    have ha' := ha A env α s pos R S X L
    have ha' := ha'.out
    rw [h1] at ha' ⊢
    refine PySem.callWith_type (by rw [List.any_cons, h2]; rfl) (evalArgs_plain (ha' _ _ fun rs s2 α2 x2 X2 v2 => ?_))
    exact hc rs s2 α2 x2 X2 v2
  refine wpAny_Call_NameR (Name_function_global L.kind (S.glob x hk) ?_ hd)
  rcases hg with hg | ⟨hg, hb⟩
  · exact loadGlobal_global (L.glob ▸ K.ns.keeps X.keep) hg key
  · exact loadGlobal_builtin (L.glob ▸ K.ns.keeps X.keep) hg (L.bins ▸ K.nsb.keeps X.keep) hb key
noncomputable def ixFor : Stmt := match (drOf 6).body with
  | s :: _ => s
  | _ => .Pass default
noncomputable def ixElse : List Stmt := match ixFor with
  | .For _ _ _ e _ => e
  | _ => []
noncomputable def ixL (ax : Addr) (k : Str) : Loc := [("a", .raw (.ref ax)), ("b", .old k)]
theorem idx_for (K : LK G) {ys : List Str} {k : Str} {ax : Addr} {items : List Value} (hl : G.h₀.PlainList ax items.toArray) (hv : VRs G [] G.h₀ (ys.map .new) items) {A : Around} {env : Env} {α : List Addr} {s : Shared} (R : Room (d + 4) A) (S : Kinds (drOf 6).scope.names env) (X : HRel G α H s) (L : LRel G env α (ixL ax k) s.heap)
    {Q : Flow → Shared → Prop} {E : Value → Shared → Prop}
    (hit : ∀ (p : Nat) (s' : Shared) (t : Tok), ys[p]? = some k → (∀ j < p, ys[j]? ≠ some k) → Ext (fpOf env) α α s s' → HRel G α H s' → LRel G env α (ixL ax k) s'.heap → Q (.ret (.int p t)) s')
    (miss : k ∉ ys → ∀ s', Ext (fpOf env) α α s s' → HRel G α H s' → LRel G env α (ixL ax k) s'.heap →
      wpAny (model G.prog G.w) A (execs ixElse env) Q (notedBy (model G.prog G.w) A env fun e s' => cameBackBy (model G.prog G.w) A env E e s') s') :
    wpAny (model G.prog G.w) A (exec ixFor env) Q E s := by
  refine wpAny_For ?_
  refine callT_raw (d := d + 4) K.toGOk rfl (K.bi "enumerate" (.type "enumerate") (by decide +kernel)) (BA.cons (BE.var rfl rfl rfl) BA.nil) R S X L (vs := [.raw (.ref ax)]) fun rs s1 α1 x1 X1 v1 => ?_
  obtain rfl := alpha_eq X X1 x1.pre
  obtain ⟨r, rfl, hr⟩ := v1.one
  cases hr
  have plain : ∀ {α' : List Addr} {s' : Shared}, HRel G α' H s' → s'.heap.PlainList ax items.toArray := fun X' => plain_keeps hl X'.keep
  have hp1 := plain X1
  refine call_enumerate_list hp1.isList fun h2 he hit2 hsz2 hk2 => ?_
  refine wpAny_pyIter_enum he ?_
  have ne : s1.heap.objs.size + 1 ≠ s1.heap.objs.size := by (first | lia | omega)
  have fr1 : ∀ b, s1.heap.objs.size ≤ b → s1.heap.get? b = none := fun b hb => get_none_of_ge hb
  have fr : ∀ b, s1.heap.objs.size ≤ b → s.heap.get? b = none := fun b hb => fresh_of_alive x1 (fr1 b hb)
  generalize hE : s1.heap.objs.size + 1 = e at *
  generalize hI : s1.heap.objs.size = it at *
  have fe : s.heap.get? e = none := fr e (by (first | lia | omega))
  have fi : s.heap.get? it = none := fr it (by (first | lia | omega))
  have PP : ∀ b, (b = e ∨ b = it) → s.heap.get? b = none := fun b hb => by rcases hb with rfl | rfl <;> assumption
  have Pfp : ∀ b, (b = e ∨ b = it) → b ∉ fpOf env := fun b hb h => by obtain ⟨o, q⟩ := L.livefp h; rw [PP b hb] at q; cases q
  have Pα : ∀ b, (b = e ∨ b = it) → b ∉ α1 := fun b hb h => by obtain ⟨l, n, q⟩ := X.isList h; rw [PP b hb] at q; cases q
  have P0 : ∀ b, (b = e ∨ b = it) → G.h₀.get? b = none := fun b hb => size_le X (PP b hb)
  refine codeAny_forLoop_any (fun n s' => ∃ (i : Nat) (old : Value), i ≤ ys.length ∧ n = ys.length - i ∧ Ext (fpOf env) α1 α1 s s' ∧ HRel G α1 H s' ∧ LRel G env α1 (ixL ax k) s'.heap ∧ IsEnum s'.heap e it i old ∧ s'.heap.IsListIter it ax i ∧ ∀ j < i, ys[j]? ≠ some k)
    (fun n s' hn => ?_) ys.length ⟨0, .none, Nat.zero_le _, rfl, (x1.trans (Ext.keeps hk2)).mono (by simp), X1.keeps hk2, (L.ext X x1).ext X1 (Ext.keeps hk2), he, hit2, fun j hj => absurd hj (Nat.not_lt_zero j)⟩
  obtain ⟨i, old, hile, rfl, x', X', L', he', hit', hno⟩ := hn
  have hp := plain X'
  have hlen : items.length = ys.length := by rw [hv.length, List.length_map]
  by_cases hi : i < ys.length
  · obtain ⟨x, hx, hvx0⟩ := hv.get (i := i) (v := .new ys[i]) (by rw [List.getElem?_map, List.getElem?_eq_getElem hi]; rfl)
    have hvx : VR G α1 s'.heap (.new ys[i]) x := hvx0.mono (List.nil_prefix) fun b o e _ => X'.keep b o e
    refine wpAny_pyNext_enum_item he' hit' hp.isList (by simpa using hx) ne fun h3 ho3 hit3 htup hsz3 hk3 => ?_
    refine wpAny_letOwnedTupleGo_enum ho3 fun h4 he4 hsb => ?_
    have e_lt : e < s'.heap.objs.size := Heap.lt_size he'
    have O : OwnP (fun b => b = e ∨ b = it) s' { s' with heap := h4, toks := s'.toks + 1 } := ⟨⟨_, _, rfl⟩, fun b o hb q => hsb.extBut b o (fun z => hb (.inl z)) (hk3 b o (fun z => hb (.inl z)) (fun z => hb (.inr z)) q), fun b o hb q => by
        rcases hb with rfl | rfl
        · rw [he'] at q; cases q; rfl
        · obtain ⟨o', e', c, d'⟩ := hit'; rw [q] at e'; cases e'; unfold frozen; rw [d']; simp [c], Nat.le_succ _⟩
    have X4 := O.hrel X' Pα P0
    have L4 := O.lrel L' Pfp
    have x4 := O.ext x' PP
    have htup4 : h4.get? s'.heap.objs.size = some { cls := .type "tuple", data := .seq #[.int i s'.toks, x] } := hsb.extBut s'.heap.objs.size _ (Nat.ne_of_gt e_lt) htup
    have hit4 : h4.IsListIter it ax (i + 1) := hit3.extBut hsb.extBut ne.symm
    have vt : VR G α1 h4 (.tup [.int (i : Nat), .new ys[i]]) (.ref s'.heap.objs.size) := .tup (items := [.int i s'.toks, x]) ⟨_, htup4⟩ (.cons (.int _ _) (.cons (hvx.mono (List.prefix_refl _) O.tups) .nil))
    refine (BB.tuple (d := d + 4) (sc := (drOf 6).scope.names) (loc := ixL ax k) (BBs.name (.inl rfl) (BBs.name (.inl rfl) BBs.nil)) rfl (by intro _; rfl) A env α1 _ _ R S X4 L4 vt).out _ _ fun _ s5 α5 x5 X5 L5 _ => ?_
    obtain rfl := alpha_eq X4 X5 x5.pre
    have x45 := x4.trans x5
    have he5 : IsEnum s5.heap e it (i + 1 : Nat) x := x5.keep _ _ he4 (Pα e (.inl rfl)) (Pfp e (.inl rfl))
    have hit5 : s5.heap.IsListIter it ax (i + 1) := hit4.at fun o q => x5.keep _ o q (Pα it (.inr rfl)) (Pfp it (.inr rfl))
    by_cases hyk : ys[i] = k
    · refine (BSs.ret (BS.iteT (BT.isOrEq (d := d + 3) (y := ys[i]) (k := k) K.toGOk rfl rfl rfl rfl rfl rfl) (by simpa using hyk) (BSs.ret (BS.ret (BE.var rfl rfl rfl)))) A env α5 s5 R S X5 L5).out _ _ fun r s6 α6 x6 X6 L6 fr6 => ?_
      obtain rfl := alpha_eq X5 X6 x6.pre
      cases fr6 with
      | ret vr =>
      cases vr
      exact hit i s6 _ (by rw [List.getElem?_eq_getElem hi, hyk]) hno (x45.trans x6) X6 (L6.sub (subL.get ⟨rfl, rfl, trivial⟩))
    · refine (BSs.cons (BS.iteF (BT.isOrEq (d := d + 3) (y := ys[i]) (k := k) K.toGOk rfl rfl rfl rfl rfl rfl) (by simpa using hyk) BSs.nil) BSs.nil A env α5 s5 R S X5 L5).out _ _ fun r s6 α6 x6 X6 L6 fr6 => ?_
      obtain rfl := alpha_eq X5 X6 x6.pre
      cases fr6
      refine ⟨ys.length - (i + 1), by (first | lia | omega), i + 1, x, by (first | lia | omega), rfl, x45.trans x6, X6, L6.sub (subL.get ⟨rfl, rfl, trivial⟩), x6.keep _ _ he5 (Pα e (.inl rfl)) (Pfp e (.inl rfl)), hit5.at fun o q => x6.keep _ o q (Pα it (.inr rfl)) (Pfp it (.inr rfl)), fun j hj => ?_⟩
      by_cases hji : j < i
      · exact hno j hji
      · have : j = i := by (first | lia | omega)
        subst this
        rw [List.getElem?_eq_getElem hi]
        exact fun q => hyk (Option.some.inj q)
  · refine wpAny_pyNext_enum_end R.handled he' hit' hp.isList (by simp; (first | lia | omega)) fun h3 hx3 => ?_
    have O : OwnP (fun b => b = e ∨ b = it) s' { s' with heap := h3 } := ⟨⟨_, _, rfl⟩, fun b o hb q => hx3 b o (fun z => hb (.inr z)) q, fun b o hb q => by
        rcases hb with rfl | rfl
        · rw [he'] at q; cases q; rfl
        · obtain ⟨o', e', c, d'⟩ := hit'; rw [q] at e'; cases e'; unfold frozen; rw [d']; simp [c], Nat.le_refl _⟩
    refine miss (fun hm => ?_) _ (O.ext x' PP) (O.hrel X' Pα P0) (O.lrel L' Pfp)
    obtain ⟨j, hj⟩ := List.getElem?_of_mem hm
    exact hno j (by have := (List.getElem?_eq_some_iff.mp hj).1; (first | lia | omega)) hj
end
end Mine
end
section
open PySem PySem.Calls PyProof.Rows
set_option Elab.async false
set_option maxRecDepth 100000
namespace Mine
section
variable {G : GL} {d : Nat} {sc : List (Str × NameKind)} {loc loc' loc'' : Loc} {H H' H'' X : Lists}
/-- a def's call, its body by hand -/
theorem call_raw (K : GOk G) {dr : DefRec} (hd : dr ∈ G.defs) {args : List V} {names : List Str}
    (hbind : ∀ pm cd doc (rs : List Value), rs.length = args.length → bindArgs (docDef dr.name dr.params dr.body dr.scope pm cd doc) ⟨rs, []⟩ = pure (names.zip rs))
    (hk : ∀ x ∈ names, dr.scope.names.lookup x = some .local ∨ dr.scope.names.lookup x = some .cell)
    (hnd : nodupB (dr.scope.names.map (·.1)) = true) (hkind : dr.scope.kind = .function)
    (hco : dr.scope.isCoroutine = false) (hgen : dr.scope.isGenerator = false) {a : Addr} (hma : G.mg dr.name = some (.ref a))
    {A : Around} {α : List Addr} {s : Shared} {rs : List Value} (R : Room (d + 1) A) (X : HRel G α H s) (hv : VRs G α s.heap args rs) {Q : Value → Shared → Prop} {E : Value → Shared → Prop}
    (h : ∀ env s1, Room d (A.deeper env) → Kinds dr.scope.names env → HRel G α H s1 → LRel G env α (locOf (names.zip args) []) s1.heap → Ext [] α α s s1 → (∀ b ∈ fpOf env, s.heap.get? b = none) → env.frame = some env.locals →
      wpAny (model G.prog G.w) (A.deeper env) (execs dr.body env) (fun f s' => Q (match f with | .ret v => v | _ => .none) s')
        (fun e s' => wpAny (model G.prog G.w) (A.deeper env) (leaving env e) (fun _ s'' => E e s'') (fun e' s'' => E e' s'') s') s1) :
    wpAny (model G.prog G.w) A (call (.ref a) rs) Q E s := by
  obtain ⟨a', o, pm, cd, doc, e1, e2, e3, e4⟩ := K.fns dr hd
  rw [hma] at e1; cases e1
  have hnd' := nodupB_is hnd
  refine wpAny_call ?_
  have cellOk : ∀ x, dr.scope.names.lookup x = some .cell → ∃ c, (cellsFrom (s.heap.objs.size + 1) dr.scope.names []).lookup x = some c := fun x hx => by
    obtain ⟨c, hc⟩ := cellsFrom_has dr.scope.names (s.heap.objs.size + 1) [] (mem_of_lookup hx)
    exact ⟨c, lookup_of_mem (cellsFrom_nodup _ _ _ hnd' List.nodup_nil (fun x h => nomatch h)) hc⟩
  refine call_cells (body := dr.body) (binds := names.zip rs) (by have := R.depth; (first | lia | omega)) (X.keep a o e2) e3 (K.nolimit.keeps X.keep) (Heap.CodeRec.keeps e4 X.keep) rfl (hbind pm cd doc rs hv.length) rfl
    (fun x hx => ?_) (fun s₁ ht I => ?_) hco hgen hkind
  · have hx' := hk x.1 (List.of_mem_zip hx).1
    exact hx'.imp id fun h => ⟨h, by obtain ⟨c, hc⟩ := cellOk x.1 h; rw [show (docDef dr.name dr.params dr.body dr.scope pm cd doc).scope = dr.scope from rfl, hc]; rfl⟩
  · have ik := I.toInCall.keep
    have sm : ∃ h t, s₁ = { s with heap := h, toks := t } := I.toInCall.same
    have X1 : HRel G α H s₁ := ⟨Nat.le_trans X.pos ht, fun b o e => ik b o (X.keep b o e), X.len, X.nd, X.own, fun i b l e1 e2 => by
        obtain ⟨items, ⟨n, e⟩, hv⟩ := X.lists i b l e1 e2
        exact ⟨items, ⟨n, ik _ _ e⟩, hv.mono (List.prefix_refl _) fun b o e _ => ik b o e⟩⟩
    have x1 : Ext [] α α s s₁ := by
      obtain ⟨h, t, rfl⟩ := sm
      exact Ext.keeps ik
    have tk := x1.tups0 X
    have hv1 := hv.mono (List.prefix_refl α) tk
    have hfresh : ∀ c, s.heap.objs.size ≤ c → s.heap.get? c = none := fun c h => get_none_of_ge h
    have hcells : ∀ p ∈ (callEnvC (docDef dr.name dr.params dr.body dr.scope pm cd doc) s.heap.objs.size a).cells, s.heap.objs.size < p.2 := fun p hp => I.above p.1 p.2 hp
    have L1 : LRel G (callEnvC (docDef dr.name dr.params dr.body dr.scope pm cd doc) s.heap.objs.size a) α (locOf (names.zip args) []) s₁.heap := by
      have key := locOf_rel (kind := (callEnvC (docDef dr.name dr.params dr.body dr.scope pm cd doc) s.heap.objs.size a).kindOf) hv1 names [] (fun _ => none) (fun _ => none) hk (fun x v h => by cases h)
      refine ⟨hkind, rfl, rfl, ⟨_, I.toInCall.ns, fun x v h1 h2 => (key x v h1).2.1 h2⟩, fun x v h => (key x v h).1.imp id .inl, fun x v h1 h2 => ?_, fun y c hp => ?_, fun y y' c h1 h2 => name_of_addr I.apart (mem_of_lookup h1) (mem_of_lookup h2), ?_⟩
      · obtain ⟨h3, _, h4⟩ := key x v h1
        obtain ⟨r, e5, e6⟩ := h4 h2
        rcases h3 with h3 | h3
        · exact absurd h3 h2
        · obtain ⟨c, hc⟩ := cellOk x h3
          have := I.cell x c hc
          rw [e5] at this
          exact ⟨c, r, hc, this, e6⟩
      · exact ⟨⟨_, I.cell y c hp⟩, size_le X (hfresh _ (Nat.le_of_lt (hcells (y, c) (mem_of_lookup hp))))⟩
      · exact size_le X (hfresh _ (Nat.le_refl _))
    have R1 : Room d (A.deeper (callEnvC (docDef dr.name dr.params dr.body dr.scope pm cd doc) s.heap.objs.size a)) := by
      refine ⟨R.handled, ?_, ?_⟩
      · have := R.depth; show A.depth + 1 + d < _; (first | lia | omega)
      · have := R.units; show A.units + 3 + 128 * d < _; (first | lia | omega)
    have S1 : Kinds dr.scope.names (callEnvC (docDef dr.name dr.params dr.body dr.scope pm cd doc) s.heap.objs.size a) := ⟨fun x h => h, fun x h => h, fun x h => ⟨h, cellOk x h⟩, fun x h => .inl h⟩
    refine h _ s₁ R1 S1 X1 L1 x1 (fun b hb => ?_) rfl
    rcases mem_fpOf.mp hb with hb | ⟨y, hb⟩
    · rw [hb]; exact hfresh _ (Nat.le_refl _)
    · exact hfresh _ (Nat.le_of_lt (hcells (y, b) (mem_of_lookup hb)))

/-- the same knowledge, of a later heap -/
noncomputable def GL.at (G : GL) (h : Heap) : GL := { G with h₀ := h }
theorem LK.at (K : LK G) {α : List Addr} {s : Shared} (X : HRel G α H s) : LK (G.at s.heap) where
  thr := K.thr
  nb := by obtain ⟨mc, hn, hm⟩ := K.nb; exact ⟨mc, hn.at' fun o e => X.keep _ _ e, hm⟩
  ns := K.ns.keeps X.keep
  nsb := K.nsb.keeps X.keep
  nolimit := K.nolimit.keeps X.keep
  fns := fun d hd => by obtain ⟨a, o, pm, cd, doc, e1, e2, e3, e4⟩ := K.fns d hd; exact ⟨a, o, pm, cd, doc, e1, X.keep _ _ e2, e3, Heap.CodeRec.keeps e4 X.keep⟩
  b3 := K.b3.keep X.keep
  b1 := by obtain ⟨n, o, es, ep, t, e, r⟩ := K.b1; exact ⟨n, o, es, ep, t, X.keep _ _ e, r⟩
  scr := by obtain ⟨items, h1, h2⟩ := K.scr; exact ⟨items, plain_keeps h1 X.keep, h2⟩
  defs := K.defs
  bi := K.bi
  move := K.move
  case_ := K.case_
  maxs := K.maxs
  b1n := K.b1n
  b3n := K.b3n
theorem HRel.at {α : List Addr} {s : Shared} (X : HRel G α H s) : HRel (G.at s.heap) [] [] s :=
  ⟨X.pos, fun _ _ e => e, rfl, List.nodup_nil, fun _ h => (nomatch h), fun i a l h => by simp at h⟩
theorem VRs.at {α : List Addr} {h h' : Heap} {l : List V} {rs : List Value} (x : VRs G α h l rs) : VRs (G.at h') α h l rs :=
  VRs.rec (G := G) (motive_1 := fun v r _ => VR (G.at h') α h v r) (motive_2 := fun l rs _ => VRs (G.at h') α h l rs)
    .none .bool .int .str (fun x t h0 ht => .old x t h0 ht) (fun x t ht => .new x t ht) .ty (fun e => .fn e) .scr .b1 .b3 (fun e _ ih => .tup e ih) (fun e => .sl e) (fun e => .ref e) .raw .nil (fun _ _ i1 i2 => .cons i1 i2) x
theorem VR.at {α : List Addr} {h h' : Heap} {v : V} {r : Value} (x : VR G α h v r) : VR (G.at h') α h v r := by
  have := VRs.at (h' := h') (VRs.cons x .nil)
  cases this with
  | cons hv _ => exact hv
theorem back_at {α : List Addr} {s s' : Shared} (X : HRel G α H s) (x : Ext [] [] [] s s') (ht : G.thr ≤ s'.toks) : HRel G α H s' ∧ Ext [] α α s s' := by
  have hk : ∀ b o, s.heap.get? b = some o → s'.heap.get? b = some o := fun b o e => x.keep b o e (by simp) (by simp)
  obtain ⟨h, t, rfl⟩ := x.same
  exact ⟨(X.keeps hk).tok ht, Ext.keeps hk⟩
theorem news_plain : ∀ ys : List Str, plainVs (ys.map .new) = true := plainVs_map fun _ => rfl
theorem f_index (K : LK G) {ys : List Str} {k : Str} {i0 p : Nat} (hl : H[i0]? = some (ys.map .new)) (hk : ys[p]? = some k) (hf : ∀ j < p, ys[j]? ≠ some k) :
    ∀ a, G.mg (drOf 6).name = some (.ref a) → BC G (d + 5) (.ref a) [.ref i0, .old k] H (.int (p : Nat)) H := by
  intro a hma A α s rs R X hv
  refine ⟨fun Q E hQ => ?_⟩
  obtain ⟨r1, r2, rfl, h1, h2⟩ := hv.two
  cases h1 with
  | ref hax =>
  rename_i ax
  obtain ⟨items, hp, hvi⟩ := X.lists i0 ax _ hax hl
  refine call_raw (G := G.at s.heap) (H := []) (α := []) (d := d + 4) (K.at X).toGOk (K.defs 6 (by decide)) (args := [.raw (.ref ax), .old k]) (names := ["a", "b"]) ?_ ?_ ?_ rfl rfl rfl hma R X.at (.cons (.raw _) (.cons (h2.plain rfl).at .nil)) fun env s1 R1 S1 X1 L1 x1 fp1 hframe => ?_
  · intro pm cd doc rs hl
    obtain ⟨x, y, rfl⟩ := len_2 hl
    rfl
  · decide +kernel
  · decide +kernel
  refine wpAny_execs_cons (idx_for (G := G.at s.heap) (K.at X) (ys := ys) hp (hvi.plain (news_plain ys)).at R1 S1 X1 L1 (fun p' s' t h1 h2 x' X' L' => ?_) fun hn => absurd (List.mem_of_getElem? hk) hn)
  have : p' = p := by
    rcases Nat.lt_trichotomy p' p with q | q | q
    · exact absurd h1 (hf p' q)
    · exact q
    · exact absurd hk (h2 p q)
  subst this
  have xx : Ext [] [] [] s s' := ((x1.mono (fp' := fpOf env) (by simp)).trans x').drop fp1
  obtain ⟨Y, y⟩ := back_at X xx X'.pos
  exact hQ _ _ _ y Y (.int _ _)
end
end Mine
end
section
open PySem PySem.Calls PyProof.Rows
set_option Elab.async false
set_option maxRecDepth 100000
namespace Mine
section
variable {M : Model} {A : Around} {E : Value → Shared → Prop} {s : Shared}
/-- a frame notes an exception just made -/
theorem note_made {base h : Heap} {env : Env} {outer : List Env} {L e : Addr} {cls : Value} {args : List Value} {Q : Unit → Shared → Prop}
    (hfr : A.frames = some (env :: outer)) (hf : env.frame = some L) (hkb : base.StaysIn h) (hl : h.FunFrames base (env :: outer)) (hx : Heap.MadeExcOf h s.heap e cls args)
    (hQ : ∀ h' t, Heap.HeldW base (env :: outer) e cls (.ref t) L h' → s.heap.UpToSlots h' → Q () { s with heap := h' }) : wpAny M A (noteFrame (.ref e) env) Q E s := by
  obtain ⟨t, he, htn, ht⟩ := hx.there
  have fresh : ∀ b, h.get? b = none → base.get? b = none := fun b hb => by
    cases hq : base.get? b with
    | none => rfl
    | some o' => have := hkb b o' hq; rw [hb] at this; cases this
  unfold noteFrame
  simp only [hf]
  refine wpAny_bind (wpAny_field he rfl (x := .none) rfl ?_)
  rw [if_neg (by decide)]
  refine wpAny_entryW (a0 := .ref t) hfr (hl.of_keeps fun b o hb _ => ⟨o, hx.keeps b o hb, rfl⟩) hf he (fun b o hb => hx.keeps b o (hkb b o hb)) (fresh e hx.new) rfl (by simp) rfl fun h' hN => ?_
  obtain ⟨k1, k2, k3, k4⟩ := hN
  exact hQ h' t ⟨k1, fresh e hx.new, k2, k3⟩ k4
/-- the flight's mark set once more -/
theorem flight_held {base : Heap} {l : List Env} {e L : Addr} {cls a0 : Value} {Q : Unit → Shared → Prop} (hh : Heap.HeldW base l e cls a0 L s.heap)
    (hQ : ∀ h', Heap.HeldW base l e cls a0 L h' → s.heap.UpToSlots h' → Q () { s with heap := h' }) : wpAny M A (setFlight (.ref e) (some L)) Q E s := by
  obtain ⟨hkb, hen, hl, oe, vs, T, oT, ts, he, hcls, hd, h1, hnT, hTe, hT, hdT, h3⟩ := hh
  have hsz3 : 3 < ts.size := (Array.getElem?_eq_some_iff.mp h3).1
  have other : ∀ b, b ≠ T → (s.heap.update T (Obj.mapFields (·.setIfInBounds 3 ((some L).elim Value.none fun f => rawInt f)))).get? b = s.heap.get? b :=
    fun b hb => Heap.get?_update_other _ _ (Ne.symm hb)
  have noRecord : ∀ b o, s.heap.get? b = some o → (∀ vs, o.data ≠ .fields vs) → b ≠ T := fun b o hb hnf q => by
    rw [q, hT] at hb; injection hb with hb; subst hb; exact hnf ts hdT
  unfold setFlight
  refine wpAny_bind (wpAny_field he hd h1 ?_)
  rw [if_pos (show (Value.ref T != Value.none) = true from by simp)]
  refine wpAny_setField hT hdT hsz3 (hQ _ ⟨fun b o hbo => (other b fun q => by rw [q, hnT] at hbo; cases hbo).trans (hkb b o hbo), hen, hl.of_keeps fun b o hb hnf => ⟨o, (other b (noRecord b o hb hnf)).trans hb, rfl⟩, ?_⟩ fun b o hb hnf => ⟨o.slots, (other b (noRecord b o hb hnf)).trans hb⟩)
  exact ⟨oe, vs, T, _, _, (other e (Ne.symm hTe)).trans he, hcls, hd, h1, hnT, hTe, Heap.get?_update_self _ hT (Obj.isFreed_of_fields (Obj.data_mapFields hdT _)), Obj.data_mapFields hdT _, by simp [hsz3]⟩
theorem back_held {base : Heap} {env : Env} {l : List Env} {e L : Addr} {cls a0 : Value} (hf : env.frame = some L) (hh : Heap.HeldW base l e cls a0 L s.heap)
    (hQ : ∀ h', Heap.HeldW base l e cls a0 L h' → s.heap.UpToSlots h' → E (.ref e) { s with heap := h' }) : cameBackBy M A env E (.ref e) s := by
  unfold cameBackBy
  have hh' := hh
  obtain ⟨_, _, _, oe, vs, T, oT, ts, he, hcls, hd, h1, hnT, hTe, hT, hdT, h3⟩ := hh'
  refine wpAny_bind (wpAny_field he hd h1 ?_)
  rw [if_neg (by simp)]
  rw [hf]
  exact flight_held hh hQ
theorem leave_held {base : Heap} {env : Env} {outer : List Env} {L e : Addr} {cls a0 : Value} {Q : Unit → Shared → Prop} (hf : env.frame = some L)
    (hh : Heap.HeldW base (env :: outer) e cls a0 L s.heap) (hQ : ∀ h', Heap.FlyingW base outer e cls a0 h' → s.heap.UpToSlots h' → Q () { s with heap := h' }) : wpAny M A (leaving env (.ref e)) Q E s := by
  unfold leaving
  refine wpAny_bind (wpAny_noteFrame_againW hf hh.2.2.2 ?_)
  refine wpAny_landsW hh fun h' hfl up => ?_
  obtain ⟨k1, k2, ⟨_, _, k3⟩, k4⟩ := hfl
  exact hQ h' ⟨k1, k2, k3, k4⟩ up
end
section
variable {G : GL} {d : Nat} {sc : List (Str × NameKind)} {loc loc' loc'' : Loc} {H H' H'' X : Lists}
theorem idx_raise (K : LK G) {ys : List Str} {k : Str} {i0 : Nat} (hl : H[i0]? = some (ys.map .new)) (hn : k ∉ ys) {a : Addr} (hma : G.mg (drOf 6).name = some (.ref a)) {A : Around} {α : List Addr} {s : Shared} {rs : List Value} (R : Room (d + 5) A) (X : HRel G α H s) (hv : VRs G α s.heap [.ref i0, .old k] rs)
    {base : Heap} {outer : List Env} (hfr : A.frames = some outer) (hff : s.heap.FunFrames base outer) (hst : base.StaysIn s.heap) {Q : Value → Shared → Prop} {E : Value → Shared → Prop}
    (h : ∀ e a0 s', (∃ h t, s' = { s with heap := h, toks := t }) → G.thr ≤ s'.toks → Heap.FlyingW base outer e (.type "ValueError") a0 s'.heap → s.heap.UpToSlots s'.heap → E (.ref e) s') :
    wpAny (model G.prog G.w) A (call (.ref a) rs) Q E s := by
  obtain ⟨r1, r2, rfl, h1, h2⟩ := hv.two
  cases h1 with
  | ref hax =>
  rename_i ax
  obtain ⟨items, hp, hvi⟩ := X.lists i0 ax _ hax hl
  have K' : LK (G.at s.heap) := K.at X
  refine call_raw (G := G.at s.heap) (H := []) (α := []) (d := d + 4) K'.toGOk (K.defs 6 (by decide)) (args := [.raw (.ref ax), .old k]) (names := ["a", "b"]) ?_ ?_ ?_ rfl rfl rfl hma R X.at (.cons (.raw _) (.cons (h2.plain rfl).at .nil)) fun env s1 R1 S1 X1 L1 x1 fp1 hframe => ?_
  · intro pm cd doc rs hl
    obtain ⟨x, y, rfl⟩ := len_2 hl
    rfl
  · decide +kernel
  · decide +kernel
  refine wpAny_execs_cons (idx_for (G := G.at s.heap) K' (ys := ys) hp (hvi.plain (news_plain ys)).at R1 S1 X1 L1 (fun p' s' t h1 h2 x' X' L' => absurd (List.mem_of_getElem? h1) hn) fun _ s2 x2 X2 L2 => ?_)
  have xx : Ext [] [] [] s s2 := ((x1.mono (fp' := fpOf env) (by simp)).trans x2).drop fp1
  have hk2 : ∀ b o, s.heap.get? b = some o → s2.heap.get? b = some o := fun b o e => xx.keep b o e (by simp) (by simp)
  have hfr' : (A.deeper env).frames = some (env :: outer) := by
    show A.frames.map (env :: ·) = _
    rw [hfr]; rfl
  have hbn : base.get? env.locals = none := by
    cases hq : base.get? env.locals with
    | none => rfl
    | some o => have := hst _ o hq; rw [fp1 _ (mem_fpOf.mpr (.inl rfl))] at this; cases this
  have hff2 : s2.heap.FunFrames base (env :: outer) := by
    obtain ⟨m, ⟨o, es, ep, ho, hd, _⟩, _⟩ := L2.ns
    exact ⟨by rw [L2.kind]; decide, ⟨env.locals, o, hframe, hbn, ho, fun vs q => by rw [hd] at q; cases q⟩, hff.of_keeps fun b o hb _ => ⟨o, hk2 b o hb, rfl⟩⟩
  have hst2 : base.StaysIn s2.heap := fun b o hb => hk2 b o (hst b o hb)
  refine wpAny_execs_cons ?_
  refine Raise_madeB PySem.F.excCall_ValueError PySem.F.excRaise_ValueError R1.handled ?_
  refine gval_use K'.toGOk S1 L2 X2 rfl (K'.bi "ValueError" (.type "ValueError") (by decide +kernel)) ⟨rfl, ?_⟩
  refine spliced_cons (wpAny_Constant_str (k := 0) (pos := default) (spliced_nil ⟨by rw [sizeLine_eq]; simp, fun h3 e hx => ?_⟩))
  have hx' := hx.of
  refine note_made (h := s2.heap) hfr' hframe hst2 hff2 hx' fun h4 t hh4 up4 => ?_
  refine back_held hframe hh4 fun h5 hh5 up5 => ?_
  refine leave_held hframe hh5 fun h6 hf6 up6 => ?_
  refine h e (.ref t) _ ?_ ?_ hf6 ((((Heap.UpToSlots.of_keeps hk2).trans (Heap.UpToSlots.of_keeps hx'.keeps)).trans up4).trans (up5.trans up6))
  · obtain ⟨h', t', rfl⟩ := xx.same
    exact ⟨_, _, rfl⟩
  · exact Nat.le_succ_of_le X2.pos
end
end Mine
end
section
open PySem PySem.Calls PyProof.Rows
set_option Elab.async false
set_option maxRecDepth 100000
namespace Mine
/-- a heap without one thing -/
noncomputable def dropAt (h : Heap) (L : Addr) : Heap := h.update L fun o => { o with data := .freed }
theorem dropAt_self (h : Heap) (L : Addr) : (dropAt h L).get? L = none := by
  cases h with
  | mk objs life =>
    unfold dropAt Heap.update Heap.get?
    simp only [Array.getElem?_modify, if_true]
    cases objs[L]? <;> rfl
theorem dropAt_other (h : Heap) {L b : Addr} (hb : b ≠ L) : (dropAt h L).get? b = h.get? b := Heap.get?_update_other _ _ (Ne.symm hb)
theorem dropAt_some {h : Heap} {L b : Addr} {o : Obj} (e : (dropAt h L).get? b = some o) : b ≠ L ∧ h.get? b = some o := by
  by_cases hb : b = L
  · subst hb; rw [dropAt_self] at e; cases e
  · exact ⟨hb, by rwa [dropAt_other h hb] at e⟩
/-- which lists a value may name -/
noncomputable def boundV (n : Nat) : V → Bool
  | .ref i => decide (i < n)
  | v => plainV v
noncomputable def boundL (n : Nat) (l : Loc) : Bool := l.all fun p => boundV n p.2
section
variable {G : GL} {d : Nat} {sc : List (Str × NameKind)} {loc loc' loc'' : Loc} {H H' H'' X : Lists}
theorem lookup_val {x : Str} {v : V} : ∀ {l : Loc}, l.lookup x = some v → ∃ p ∈ l, p.2 = v
  | (y, u) :: r, h => by
    rw [List.lookup_cons] at h
    cases e : x == y with
    | true => rw [e] at h; cases h; exact ⟨_, List.mem_cons_self, rfl⟩
    | false => rw [e] at h; obtain ⟨p, hp, hv⟩ := lookup_val h; exact ⟨p, List.mem_cons_of_mem _ hp, hv⟩
theorem VR.bound {α α' : List Addr} {h : Heap} {v : V} {r : Value} (x : VR G α' h v r) (hp : α <+: α') (hb : boundV α.length v = true) : VR G α h v r := by
  cases x with
  | ref e =>
    have hi := of_decide_eq_true hb
    obtain ⟨t, rfl⟩ := hp
    rw [List.getElem?_append_left hi] at e
    exact .ref e
  | none => exact .none
  | bool b => exact .bool b
  | int i t => exact .int i t
  | str x t => exact .str x t
  | old x t h0 ht => exact .old x t h0 ht
  | new x t ht => exact .new x t ht
  | ty n => exact .ty n
  | fn e => exact .fn e
  | scr => exact .scr
  | b1 => exact .b1
  | b3 => exact .b3
  | tup e hl => exact VR.plain (.tup e hl) hb
  | sl e => exact .sl e
  | raw r => exact .raw r
theorem BSs.drop {sts : List Stmt} {l2 : Loc} (h : BSs G d sc sts loc H .next l2 (H' ++ X)) (hsub : Sub loc' l2) (hlen : H'.length = H.length) (hb : boundL H'.length loc' = true) (hp : plainH H' = true) : BSs G d sc sts loc H .next loc' H' := by
  intro A env α s R S Y L
  refine ⟨fun Q E hQ => ?_⟩
  refine (h A env α s R S Y L).out Q E fun r s' α' x y l z => ?_
  cases z
  have hla : α.length = H'.length := by rw [Y.len, hlen]
  refine hQ _ s' α x.cut (y.sel hla Y.nd (fun i a l h1 h2 => ⟨i, pre_get x.pre h1, by rw [List.getElem?_append_left (List.getElem?_eq_some_iff.mp h2).1]; exact h2⟩) hp) ?_ .next
  have hv : ∀ x v, loc'.lookup x = some v → boundV α.length v = true := fun x v e => by
    obtain ⟨p, hp, rfl⟩ := lookup_val e
    rw [hla]
    exact List.all_eq_true.mp hb p hp
  refine ⟨l.kind, l.glob, l.bins, ?_, fun y v e => l.var y v (hsub y v e), fun y v e hk => ?_, l.cells, l.apart, l.fresh⟩
  · obtain ⟨m, hn, hm⟩ := l.ns
    refine ⟨m, hn, fun y v e hk => ?_⟩
    obtain ⟨r, h1, h2⟩ := hm y v (hsub y v e) hk
    exact ⟨r, h1, h2.bound x.pre (hv y v e)⟩
  · obtain ⟨c, r, h1, h2, h3⟩ := l.cell y v (hsub y v e) hk
    exact ⟨c, r, h1, h2, h3.bound x.pre (hv y v e)⟩
/-- as things stand now, all tokens so far old -/
noncomputable def GL.atT (G : GL) (s : Shared) : GL := { G with h₀ := s.heap, thr := s.toks }
theorem LK.atT (K : LK G) {α : List Addr} {s : Shared} (X : HRel G α H s) : LK (G.atT s) :=
  let K' := K.at X
  { K' with
    thr := Nat.lt_of_lt_of_le K.thr X.pos
    nb := K'.nb, ns := K'.ns, nsb := K'.nsb, nolimit := K'.nolimit, fns := K'.fns, b3 := K'.b3, b1 := K'.b1, scr := K'.scr, defs := K'.defs, bi := K'.bi, move := K'.move, case_ := K'.case_, maxs := K'.maxs, b1n := K'.b1n, b3n := K'.b3n }
theorem HRel.atT {s : Shared} : HRel (G.atT s) [] [] s :=
  ⟨Nat.le_refl _, fun _ _ e => e, rfl, List.nodup_nil, fun _ h => (nomatch h), fun i a l h => by simp at h⟩
/-- a list that was there at the start -/
theorem It.old {I ax : Addr} {l : List V} {items : List Value} (hl : G.h₀.PlainList ax items.toArray) (hr : VRs G [] G.h₀ l items) {α₀ : List Addr} : It G I l (fun _ => True) α₀ (fun i h => h.IsListIter I ax i) where
  frame := fun i h h' st hk => let ⟨o, e, c, d⟩ := st; ⟨o, hk o e, c, d⟩
  soft := fun i h o st e => by obtain ⟨o', e', c, d⟩ := st; rw [e] at e'; cases e'; unfold frozen; rw [d]; simp [c]
  live := fun i h st => let ⟨o, e, _, _⟩ := st; ⟨o, e⟩
  item := fun A i v s α H Q E hh hv hp X hs st hQ => by
    obtain ⟨r, er, hvr⟩ := hr.get hv
    exact wpAny_pyNext_list_item st (plain_keeps hl X.keep).isList (x := r) (by simpa using er) fun h' hit' hs' => hQ r h' s.toks (hvr.mono List.nil_prefix fun b o e _ => X.keep b o e) hit' fun b o hb e => hs'.extBut b o hb e
  done := fun A s α H Q E hh hp X hs st hQ => by
    exact wpAny_pyNext_list_end hh st (plain_keeps hl X.keep).isList (by simp [hr.length]) fun h' he' => hQ h' s.toks fun b o hb e => he' b o hb e
  go := fun A i s target v Q E st h => let ⟨_, ho, hc, _⟩ := st; go_plain ho hc (by decide) h
  self := fun A i s Q E st h => wpAny_pyIter_listiter st h
theorem BIt.old {e : Expr} {ax : Addr} {l : List V} {items : List Value} (hl : G.h₀.PlainList ax items.toArray) (hv : VRs G [] G.h₀ l items) (h : BE G d sc e loc H (.raw (.ref ax)) H') : BIt G d sc e loc H l (fun _ => True) H' := by
  intro A env α s R S X L
  intro Q E hQ
  refine (h A env α s R S X L).out _ _ fun r s1 α1 x1 X1 v1 => ?_
  cases v1
  have hfr := fresh_size s1.heap
  refine wpAny_pyIter_list (plain_keeps hl X1.keep).isList ?_
  refine hQ _ _ _ α1 (x1.trans (Ext.keeps (push_keep _))) (X1.keeps (push_keep _)) (It.old hl hv) ⟨_, Heap.get?_push_size _ rfl, rfl, rfl⟩ ?_ (fun h => ?_) trivial
  · cases q : s.heap.get? s1.heap.objs.size with
    | none => rfl
    | some o => obtain ⟨o', e'⟩ := x1.alive _ _ q; rw [hfr] at e'; cases e'
  · obtain ⟨it, k, e'⟩ := X1.isList h; rw [hfr] at e'; cases e'
theorem bc_len_old {ax : Addr} {l : List V} {items : List Value} (hl : G.h₀.PlainList ax items.toArray) (hv : VRs G [] G.h₀ l items) (hn : l.length ≤ 1000000) : BC G (d + 1) (.builtin "len") [.raw (.ref ax)] H (.int l.length) H := by
  intro A α s rs R X hv'
  refine ⟨fun Q E hQ => ?_⟩
  obtain ⟨r, rfl, hx⟩ := hv'.one
  cases hx
  refine call_len_list (plain_keeps hl X.keep).isList (by rw [List.size_toArray, hv.length]; (first | lia | omega)) ?_
  rw [List.size_toArray, hv.length]
  exact hQ _ _ _ Ext.tok X.tk.tk (.int _ _)
end
end Mine
end
section
open PySem PySem.Calls PyProof.Rows
set_option Elab.async false
set_option maxRecDepth 100000
namespace Mine
structure StS where
  ys : List Str
  lf : List Nat
  kp : List Nat
noncomputable def stStep (k : Str) (s : StS) : StS :=
  if s.ys.any (· == k) then
    let p := s.ys.findIdx (· == k)
    if p = 0 then ⟨s.ys.eraseIdx 0, s.lf.eraseIdx 0, s.kp ++ [s.lf[0]?.getD 0]⟩
    else ⟨(s.ys.eraseIdx (p - 1)).eraseIdx (p - 1), (s.lf.eraseIdx (p - 1)).eraseIdx (p - 1), s.kp⟩
  else s
noncomputable abbrev skN := (drOf 31).scope.names
noncomputable def skBody : List Stmt := match (drOf 31).body[5]? with
  | some (Stmt.For _ _ b _ _) => b
  | _ => []
section
variable {G : GL} {d : Nat} {sc : List (Str × NameKind)} {loc loc' loc'' : Loc} {H H' H'' X : Lists}
theorem delNat {i : Nat} {l : List V} {k : Nat} (hl : H[i]? = some l) (hk : k < l.length) (hn : l.length ≤ 1000000) : ActU G delItemOf [.ref i, .int (k : Nat)] H (H.set i (l.eraseIdx k)) := by
  refine act_delItem hl (j := k) ?_ (by (first | lia | omega)) (by (first | lia | omega)) hn
  unfold seqIndex?
  have e0 : (if (k : Int) < 0 then (k : Int) + (l.length : Nat) else (k : Int)) = k := if_neg (by (first | lia | omega))
  simp only [e0]
  rw [if_pos (by simp; (first | lia | omega))]
  simp
theorem erase_map {τ σ : Type} (f : τ → σ) : ∀ (l : List τ) (i : Nat), (l.map f).eraseIdx i = (l.eraseIdx i).map f
  | [], i => by simp
  | x :: l, 0 => rfl
  | x :: l, i + 1 => by rw [List.map_cons, List.eraseIdx_cons_succ, List.eraseIdx_cons_succ, List.map_cons, erase_map f l i]
theorem erase_len {τ : Type} {l : List τ} {i : Nat} (h : i < l.length) : (l.eraseIdx i).length = l.length - 1 := by rw [List.length_eraseIdx, if_pos h]
noncomputable def noneFilter (vs : List V) : List V := (vs.filter fun v => !isNone v).map id
/-- none of what delitem gave back stays -/
theorem gone_test {p1 p2 p3 p4 p5 p6 p7 p8 : Pos} {k : Nat} {x y : Str} {scope : Scope} {j : Nat} {vs : List V} {py : Pos} (hj : loc.lookup y = some (.ref j)) (hl : H[j]? = some vs) (hv : ∀ v ∈ vs, v = .none)
    (h1 : (y == ("__debug__" : Str)) = false) (h2 : (y == ("__classdict__" : Str)) = false) (h3 : (x == ("__debug__" : Str)) = false) (h4 : (x == ("__classdict__" : Str)) = false)
    (hx : storable scope.names x) (hnd : nodupB (scope.names.map (·.1)) = true) (hfree : freeOk sc loc scope.names = true) (hkind : scope.kind = .function) :
    BT G (d + 2) sc (.Compare (.ListComp (.Name x p1) [⟨.Name x p2, .Name y py, [.Compare (.Name x p3) [.IsNot] [.Constant .none k p4] p5], 0⟩] scope p6) [.NotEq] [.List [] p7] p8) loc H false (H ++ [[], []]) := by
  have hn : noneFilter vs = [] := by
    unfold noneFilter
    rw [List.filter_eq_nil_iff.mpr fun v hm => by rw [hv v hm]; decide]; rfl
  have hf : CompR G (d + 2) scope.names x (.Name x p1) [.Compare (.Name x p3) [.IsNot] [.Constant .none k p4] p5] (fun H => H[j]? = some vs) vs (locC scope.names loc) H (noneFilter vs) H :=
    CompR.filter id (fun v => !isNone v) hl (fun _ => rfl) (fun v hm => BT.cmp (BE.var (by rw [setL_lookup, if_pos rfl]) h3 h4) BE.none isNot_none2 (by with_unfolding_all rfl)) (fun v hm hb => by rw [hv v hm] at hb; cases hb)
  rw [hn] at hf
  have hc := BE.comp (pos := p6) (px := p2) (BIt.list (BE.var (G := G) (d := d + 2) (sc := sc) (p := py) hj h1 h2) hl) hf (by simp) hx hnd hfree hkind (by intro _ _; rfl)
  have := BT.cmp (p := p8) (op := .NotEq) hc (BE.list (p := p7) BA.nil) (ne_act (.ref (l := []) (by simp) .nil) (.ref (l := []) (by simp) .nil) rfl rfl) (by with_unfolding_all rfl)
  rw [List.append_assoc] at this
  exact BT.cast this (by decide)
end
end Mine
end
section
open PySem PySem.Calls PyProof.Rows
set_option Elab.async false
set_option maxRecDepth 100000
namespace Mine
section
variable {G : GL} {d : Nat} {sc : List (Str × NameKind)} {loc loc' loc'' : Loc} {H H' H'' X : Lists}
noncomputable def skL (page k : Str) : Loc := [("page", .str page), ("shut", .old k), ("pieces", .ref 2), ("left", .ref 3), ("kept", .ref 4)]
noncomputable def skT (page k : Str) (r : Loc) : Loc := ("page", .str page) :: ("shut", .old k) :: ("pieces", .ref 2) :: ("left", .ref 3) :: ("kept", .ref 4) :: r
noncomputable def skH (gv sv : List V) (s : StS) : Lists := [gv, sv, s.ys.map .new, natsV s.lf, natsV s.kp]
theorem findIdx_some {ys : List Str} {k : Str} (h : ys.any (· == k) = true) : ys.findIdx (· == k) < ys.length ∧ ys[ys.findIdx (· == k)]? = some k ∧ ∀ j < ys.findIdx (· == k), ys[j]? ≠ some k := by
  have hlt : ys.findIdx (· == k) < ys.length := List.findIdx_lt_length_of_exists (by simpa using h)
  refine ⟨hlt, ?_, fun j hj q => ?_⟩
  · rw [List.getElem?_eq_getElem hlt]
    have := List.findIdx_getElem (w := hlt)
    simpa using this
  · have hj' : j < ys.length := Nat.lt_trans hj hlt
    have := List.not_of_lt_findIdx hj
    rw [List.getElem?_eq_getElem hj'] at q
    have q' := Option.some.inj q
    simp [q'] at this
theorem struck_turn (K : LK G) {gv sv : List V} {st : StS} {page k : Str} {i : V} (hg : plainVs gv = true) (hs : plainVs sv = true) (hl : st.lf.length = st.ys.length) (hn : st.ys.length ≤ 1000) (hk : st.kp.length ≤ 1000) :
    BSs G (d + 10) skN skBody (skT page k [("turn", i)]) (skH gv sv st) .next (skL page k) (skH gv sv (stStep k st)) := by
  obtain ⟨ys, lf, kp⟩ := st
  simp only at hl hn hk
  have hp' : ∀ s : StS, plainH (skH gv sv s) = true := fun s => by
    unfold plainH skH
    simp only [List.all_cons, List.all_nil, hg, hs, news_plain, Bool.true_and, Bool.and_true]
    rw [show plainVs (natsV s.lf) = true from plainVs_map (fun _ => rfl) _, show plainVs (natsV s.kp) = true from plainVs_map (fun _ => rfl) _]; rfl
  have hlm : (ys.map V.new).length ≤ 1000000 := by rw [List.length_map]; (first | lia | omega)
  have hll : (natsV lf).length = ys.length := by unfold natsV; rw [List.length_map]; exact hl
  have found : BE G (d + 10) skN (match skBody with | .Assign _ v _ :: _ => v | _ => .Constant .none 0 default) (skT page k [("turn", i)]) (skH gv sv ⟨ys, lf, kp⟩) (.bool (ys.any (· == k))) (skH gv sv ⟨ys, lf, kp⟩) :=
    BE.callF K.toGOk (K.defs 4 (by decide)) (K.fn (i := 4) (by decide) rfl rfl rfl) (BA.cons (BE.var rfl rfl rfl) (BA.cons (BE.var rfl rfl rfl) BA.nil)) (f_contains K (in_news2 (i := 2) (ys := ys) rfl))
  cases hany : ys.any (· == k) with
  | false =>
    rw [show stStep k ⟨ys, lf, kp⟩ = ⟨ys, lf, kp⟩ from if_neg (by rw [hany]; decide)]
    rw [hany] at found
    refine BSs.conseq (l2 := skT page k [("turn", i), ("found", .bool false)]) ?_ (fun _ _ h => h) (subL.get ⟨rfl, rfl, rfl, rfl, rfl, trivial⟩)
    exact BSs.cons (BS.assign found (.inl rfl)) (BSs.cons (BS.ifF (BT.and_t (BT.cast (BT.cmp (BE.callT K.toGOk rfl K.type (BA.cons (BE.var rfl rfl rfl) BA.nil) (bc_type rfl) rfl) (K.ty (x := "bool") (T := "bool") (by decide +kernel) rfl rfl) is_ty2) (by decide)) (BT.and_f (BT.val (BE.var rfl rfl rfl) tru_bool))) BSs.nil) BSs.nil)
  | true =>
    rw [hany] at found
    obtain ⟨h1, h2, h3⟩ := findIdx_some hany
    have hst : stStep k ⟨ys, lf, kp⟩ = if ys.findIdx (· == k) = 0 then ⟨ys.eraseIdx 0, lf.eraseIdx 0, kp ++ [lf[0]?.getD 0]⟩ else ⟨(ys.eraseIdx (ys.findIdx (· == k) - 1)).eraseIdx (ys.findIdx (· == k) - 1), (lf.eraseIdx (ys.findIdx (· == k) - 1)).eraseIdx (ys.findIdx (· == k) - 1), kp⟩ := if_pos hany
    rw [hst]
    generalize ys.findIdx (· == k) = p at h1 h2 h3
    have idx : ∀ gg, (gg : Lists) = gg → True := fun _ _ => trivial
    by_cases hp0 : p = 0
    · rw [if_pos hp0]
      subst hp0
      have hf0 : lf[0]? = some (lf[0]?.getD 0) := getD_of (by (first | lia | omega))
      have hf0' : (natsV lf)[0]? = some (.int (lf[0]?.getD 0 : Nat)) := by unfold natsV; rw [List.getElem?_map, hf0]; rfl
      have e1 : (ys.map V.new).eraseIdx 0 = (ys.eraseIdx 0).map .new := erase_map _ _ _
      have e2 : (natsV lf).eraseIdx 0 = natsV (lf.eraseIdx 0) := erase_map _ _ _
      have e3 : natsV kp ++ [.int (lf[0]?.getD 0 : Nat)] = natsV (kp ++ [lf[0]?.getD 0]) := by unfold natsV; simp
      refine BSs.drop (X := [[], [.none, .none], [.none, .none], [], []]) (l2 := skT page k [("turn", i), ("found", .bool true), ("at", .int (0 : Nat)), ("gone", .ref 7)]) ?_ (subL.get ⟨rfl, rfl, rfl, rfl, rfl, trivial⟩) rfl rfl (hp' _)
      unfold skH
      simp only
      rw [← e1, ← e2, ← e3]
      refine BSs.cons (BS.assign found (.inl rfl)) (BSs.cons (BS.ifT (BT.and_t (BT.cast (BT.cmp (BE.callT K.toGOk rfl K.type (BA.cons (BE.var rfl rfl rfl) BA.nil) (bc_type rfl) rfl) (K.ty (x := "bool") (T := "bool") (by decide +kernel) rfl rfl) is_ty2) (by decide)) (BT.and_t (BT.val (BE.var rfl rfl rfl) tru_bool) BT.and_nil)) ?_) BSs.nil)
      refine BSs.cons (BS.assign (BE.callF K.toGOk (K.defs 6 (by decide)) (K.fn (i := 6) (by decide) rfl rfl rfl) (BA.cons (BE.var rfl rfl rfl) (BA.cons (BE.var rfl rfl rfl) BA.nil)) (f_index K (ys := ys) (i0 := 2) (p := 0) rfl h2 h3)) (.inl rfl)) ?_
      refine BSs.cons (BS.assign (BE.list BA.nil) (.inl rfl)) ?_
      refine BSs.cons (BS.iteT (BT.cmp (BE.var rfl rfl rfl) BE.int (eq_nat2 (b := 0))) (by decide) (BSs.cons (BS.exprNone (BE.meth (BE.var rfl rfl rfl) m_append (BA.cons (BE.sub (BE.var rfl rfl rfl) BE.int (item_nat2 (i := 3) (k := 0) rfl (by decide) hf0')) BA.nil) (bc_append (i := 4) rfl (by unfold natsV; simp; (first | lia | omega))))) BSs.nil)) ?_
      refine BSs.cons (BS.assign (BE.bin (BE.var rfl rfl rfl) (BE.list (BA.cons (BE.callF K.toGOk (K.defs 5 (by decide)) (K.fn (i := 5) (by decide) rfl rfl rfl) (BA.cons (BE.var rfl rfl rfl) (BA.cons (BE.var rfl rfl rfl) BA.nil)) (f_delitem K (delNat (i := 2) rfl (by rw [List.length_map]; (first | lia | omega)) hlm))) (BA.cons (BE.callF K.toGOk (K.defs 5 (by decide)) (K.fn (i := 5) (by decide) rfl rfl rfl) (BA.cons (BE.var rfl rfl rfl) (BA.cons (BE.var rfl rfl rfl) BA.nil)) (f_delitem K (delNat (i := 3) rfl (by rw [hll]; (first | lia | omega)) (by rw [hll]; (first | lia | omega))))) BA.nil)) (by simp)) (add_list2 (i := 5) (j := 6) rfl rfl (by simp))) (.inl rfl)) ?_
      exact BSs.cons (BS.ifF (gone_test (j := 7) rfl rfl (by simp) rfl rfl rfl rfl (.inl rfl) (by decide +kernel) rfl rfl) BSs.nil) BSs.nil
    · rw [if_neg hp0]
      have hs1 : V.int ((p : Int) - 1) = .int ((p - 1 : Nat) : Int) := by congr 1; (first | lia | omega)
      have e1 : ((ys.map V.new).eraseIdx (p - 1)).eraseIdx (p - 1) = ((ys.eraseIdx (p - 1)).eraseIdx (p - 1)).map .new := by rw [erase_map, erase_map]
      have e2 : ((natsV lf).eraseIdx (p - 1)).eraseIdx (p - 1) = natsV ((lf.eraseIdx (p - 1)).eraseIdx (p - 1)) := by unfold natsV; rw [erase_map, erase_map]
      have m1 : ((ys.map V.new).eraseIdx (p - 1)).length = ys.length - 1 := by rw [erase_len (by rw [List.length_map]; (first | lia | omega)), List.length_map]
      have m2 : ((natsV lf).eraseIdx (p - 1)).length = ys.length - 1 := by rw [erase_len (by rw [hll]; (first | lia | omega)), hll]
      have q0 : p - 1 < ys.length := by (first | lia | omega)
      have a0 : p - 1 < (ys.map V.new).length := by rw [List.length_map]; exact q0
      have a1 : p - 1 < (natsV lf).length := by rw [hll]; exact q0
      have b1 : (natsV lf).length ≤ 1000000 := by rw [hll]; (first | lia | omega)
      have a2 : p - 1 < ((ys.map V.new).eraseIdx (p - 1)).length := by rw [m1]; (first | lia | omega)
      have b2 : ((ys.map V.new).eraseIdx (p - 1)).length ≤ 1000000 := by rw [m1]; (first | lia | omega)
      have a3 : p - 1 < ((natsV lf).eraseIdx (p - 1)).length := by rw [m2]; (first | lia | omega)
      have b3 : ((natsV lf).eraseIdx (p - 1)).length ≤ 1000000 := by rw [m2]; (first | lia | omega)
      have hat := f_sub (G := G) (d := d + 8) (H := skH gv sv ⟨ys, lf, kp⟩ ++ [[]]) K (u := (p : Int)) (v := 1)
      rw [hs1] at hat
      refine BSs.drop (X := [[], [.none, .none], [.none, .none], [.none, .none, .none, .none], [], []]) (l2 := skT page k [("turn", i), ("found", .bool true), ("at", .int (p - 1 : Nat)), ("gone", .ref 8)]) ?_ (subL.get ⟨rfl, rfl, rfl, rfl, rfl, trivial⟩) rfl rfl (hp' _)
      unfold skH
      simp only
      rw [← e1, ← e2]
      refine BSs.cons (BS.assign found (.inl rfl)) (BSs.cons (BS.ifT (BT.and_t (BT.cast (BT.cmp (BE.callT K.toGOk rfl K.type (BA.cons (BE.var rfl rfl rfl) BA.nil) (bc_type rfl) rfl) (K.ty (x := "bool") (T := "bool") (by decide +kernel) rfl rfl) is_ty2) (by decide)) (BT.and_t (BT.val (BE.var rfl rfl rfl) tru_bool) BT.and_nil)) ?_) BSs.nil)
      refine BSs.cons (BS.assign (BE.callF K.toGOk (K.defs 6 (by decide)) (K.fn (i := 6) (by decide) rfl rfl rfl) (BA.cons (BE.var rfl rfl rfl) (BA.cons (BE.var rfl rfl rfl) BA.nil)) (f_index K (ys := ys) (i0 := 2) (p := p) rfl h2 h3)) (.inl rfl)) ?_
      refine BSs.cons (BS.assign (BE.list BA.nil) (.inl rfl)) ?_
      refine BSs.cons (BS.iteF (BT.cmp (BE.var rfl rfl rfl) BE.int (eq_nat2 (b := 0))) (by simpa using hp0) (BSs.cons (BS.assign (BE.callF K.toGOk (K.defs 2 (by decide)) (K.fn (i := 2) (by decide) rfl rfl rfl) (BA.cons (BE.var rfl rfl rfl) (BA.cons BE.int BA.nil)) hat) (.inl rfl))
        (BSs.cons (BS.assign (BE.list (BA.cons (BE.callF K.toGOk (K.defs 5 (by decide)) (K.fn (i := 5) (by decide) rfl rfl rfl) (BA.cons (BE.var rfl rfl rfl) (BA.cons (BE.var rfl rfl rfl) BA.nil)) (f_delitem K (delNat (i := 2) rfl a0 hlm))) (BA.cons (BE.callF K.toGOk (K.defs 5 (by decide)) (K.fn (i := 5) (by decide) rfl rfl rfl) (BA.cons (BE.var rfl rfl rfl) (BA.cons (BE.var rfl rfl rfl) BA.nil)) (f_delitem K (delNat (i := 3) rfl a1 b1))) BA.nil)) (by simp)) (.inl rfl)) BSs.nil))) ?_
      refine BSs.cons (BS.assign (BE.bin (BE.var rfl rfl rfl) (BE.list (BA.cons (BE.callF K.toGOk (K.defs 5 (by decide)) (K.fn (i := 5) (by decide) rfl rfl rfl) (BA.cons (BE.var rfl rfl rfl) (BA.cons (BE.var rfl rfl rfl) BA.nil)) (f_delitem K (delNat (i := 2) rfl a2 b2))) (BA.cons (BE.callF K.toGOk (K.defs 5 (by decide)) (K.fn (i := 5) (by decide) rfl rfl rfl) (BA.cons (BE.var rfl rfl rfl) (BA.cons (BE.var rfl rfl rfl) BA.nil)) (f_delitem K (delNat (i := 3) rfl a3 b3))) BA.nil)) (by simp)) (add_list2 (i := 6) (j := 7) rfl rfl (by simp))) (.inl rfl)) ?_
      exact BSs.cons (BS.ifF (gone_test (j := 8) rfl rfl (by simp) rfl rfl rfl rfl (.inl rfl) (by decide +kernel) rfl rfl) BSs.nil) BSs.nil
end
end Mine
end
section
open PySem PySem.Calls PyProof.Rows
set_option Elab.async false
set_option maxRecDepth 100000
namespace Mine
noncomputable def skSt (i : Nat) : Stmt := match (drOf 31).body[i]? with
  | some s => s
  | none => .Pass default
section
variable {G : GL} {d : Nat} {sc : List (Str × NameKind)} {loc loc' loc'' : Loc} {H H' H'' X : Lists}
theorem BS.raw {st : Stmt} {rest : List Stmt} {A : Around} {env : Env} {α : List Addr} {s : Shared} {Q : Flow → Shared → Prop} {E : Value → Shared → Prop} (h : BS G d sc st loc H .next loc' H') (R : Room d A) (S : Kinds sc env) (X : HRel G α H s) (L : LRel G env α loc s.heap)
    (k : ∀ s' α', Ext (fpOf env) α α' s s' → HRel G α' H' s' → LRel G env α' loc' s'.heap → wpAny (model G.prog G.w) A (execs rest env) Q E s') : wpAny (model G.prog G.w) A (execs (st :: rest) env) Q E s :=
  wpAny_execs_cons ((h A env α s R S X L).out _ _ fun r s' α' x X' L' e => by cases e; exact k s' α' x X' L')
noncomputable def signsV (l : List Nat) : List V := l.map fun c => .str ⟨#[c]⟩
noncomputable def isGreat (D : List (PyData × PyData)) (c : Nat) : Bool := !decide (mapB3 D c = ⟨#[c]⟩)
noncomputable def skStart (hn : Str) (o c : Nat) (k : Str) (ax : Addr) (r : Loc) : Loc := ("hand", .fn hn) :: ("opens", .str ⟨#[o]⟩) :: ("shuts", .str ⟨#[c]⟩) :: ("shut", .old k) :: ("signs", .raw (.ref ax)) :: r
noncomputable def greatV (D : List (PyData × PyData)) (l : List Nat) : List V := l.map fun c => .bool (isGreat D c)
noncomputable def rowStr (D : List (PyData × PyData)) (o c : Nat) (l : List Nat) : List Str := l.map fun x => if isGreat D x = true then ⟨#[c]⟩ else ⟨#[o]⟩
theorem sk0 (K : LK G) {hn : Str} {o c : Nat} {k : Str} {ax : Addr} {l : List Nat} {items : List Value} (hl : G.h₀.PlainList ax items.toArray) (hv : VRs G [] G.h₀ (signsV l) items) (hn' : l.length ≤ 1000) (hb : ∀ x ∈ l, (b3get G.b3D x).isSome = true ∧ (Txt.lower ⟨#[x]⟩).length ≤ 1000000) :
    BS G (d + 10) skN (skSt 0) (skStart hn o c k ax []) [] .next (skStart hn o c k ax [("great", .ref 0)]) [greatV G.b3D l] := by
  refine BS.assignUsed (loc := skStart hn o c k ax []) (H := []) (H'' := []) (out := greatV G.b3D l) (BIt.old hl hv (BE.var rfl rfl rfl)) (CompR.mapE (fun v => match v with | .str ⟨#[x]⟩ => .bool (isGreat G.b3D x) | _ => .none) trivial ?_ (fun _ => rfl) ?_) ?_ (.inl rfl) rfl ?_ (hfree := by rfl)
  · unfold greatV signsV
    rw [List.map_map]; rfl
  · intro v hv
    unfold signsV at hv
    rw [List.mem_map] at hv
    obtain ⟨x, hx, rfl⟩ := hv
    exact BE.callF K.toGOk (K.defs 1 (by decide)) (K.fn (i := 1) (by decide) rfl rfl rfl) (BA.cons (BE.callF K.toGOk (K.defs 12 (by decide)) (K.fn (i := 12) (by decide) rfl rfl rfl) (BA.cons (BE.var rfl rfl rfl) BA.nil) (f_b3 K (hb x hx).1 (hb x hx).2)) (BA.cons (BE.var rfl rfl rfl) BA.nil)) (f_ne K ne_str2)
  · unfold greatV; rw [List.length_map]; (first | lia | omega)
  · intro env h1 h2
    unfold swapsWith
    show pure (env.blockKind == .function && env.kindOf ("great" : Str) == some .local && _ && _) = pure true
    have hb : env.blockKind = .function := by unfold Env.blockKind; rw [h1]; rfl
    rw [hb, h2]
    rfl
theorem sk1 (K : LK G) {o c : Nat} {k page : Str} {ax : Addr} {l : List Nat} {i : Nat} (hi : i ∈ defIdx) (hn' : l.length ≤ 1000)
    (hpage : ∀ H a, G.mg (drOf i).name = some (.ref a) → BC G (d + 9) (.ref a) [.str (Txt.join "" (rowStr G.b3D o c l))] H (.str page) H) :
    BS G (d + 9) skN (skSt 1) (skStart (drOf i).name o c k ax [("great", .ref 0)]) [greatV G.b3D l] .next (skStart (drOf i).name o c k ax [("great", .ref 0), ("page", .str page)]) [greatV G.b3D l] := by
  have hpl : plainH [greatV G.b3D l] = true := by
    unfold plainH
    simp only [List.all_cons, List.all_nil, Bool.and_true]
    exact plainVs_map (fun _ => rfl) _
  refine BS.assign (loc := skStart (drOf i).name o c k ax [("great", .ref 0)]) (BE.drop (X := [(rowStr G.b3D o c l).map .str]) (BE.callF K.toGOk (K.defs i hi) (BE.var rfl rfl rfl) (BA.cons (BE.meth BE.str m_join (BA.cons
    (BE.comp (out := (rowStr G.b3D o c l).map .str) (BIt.list (BE.var rfl rfl rfl) (j := 0) rfl) (CompR.mapE (fun v => match v with | .bool true => .str ⟨#[c]⟩ | _ => .str ⟨#[o]⟩) rfl ?_ (fun _ => rfl) ?_) ?_ (.inl rfl) (hfree := by rfl)) BA.nil) (bc_join (ys := rowStr G.b3D o c l) rfl (by decide) ?_)) BA.nil) (hpage _)) hpl rfl) (.inl rfl)
  · unfold rowStr greatV
    rw [List.map_map, List.map_map]
    refine List.map_congr_left fun x _ => ?_
    show V.str _ = _
    cases hx : isGreat G.b3D x <;> simp [hx]
  · intro v hv
    unfold greatV at hv
    rw [List.mem_map] at hv
    obtain ⟨x, hx, rfl⟩ := hv
    cases hg : isGreat G.b3D x with
    | true =>
      exact BE.ifT (BT.and_t (BT.cast (BT.cmp (BE.callT K.toGOk rfl K.type (BA.cons (BE.var rfl rfl rfl) BA.nil) (bc_type rfl) rfl) (K.ty (x := "bool") (T := "bool") (by decide +kernel) rfl rfl) is_ty2) (by decide)) (BT.and_t (BT.val (BE.var rfl rfl rfl) tru_bool) BT.and_nil)) (BE.var rfl rfl rfl)
    | false =>
      exact BE.ifF (BT.and_t (BT.cast (BT.cmp (BE.callT K.toGOk rfl K.type (BA.cons (BE.var rfl rfl rfl) BA.nil) (bc_type rfl) rfl) (K.ty (x := "bool") (T := "bool") (by decide +kernel) rfl rfl) is_ty2) (by decide)) (BT.and_f (BT.val (BE.var rfl rfl rfl) tru_bool))) (BE.var rfl rfl rfl)
  · unfold rowStr; rw [List.length_map, List.length_map]; (first | lia | omega)
  · have h1 : ∀ l : List Nat, ((rowStr G.b3D o c l).map (·.length)).sum = l.length := fun l => by
      induction l with
      | nil => rfl
      | cons x r ih =>
        have : rowStr G.b3D o c (x :: r) = (if isGreat G.b3D x = true then ⟨#[c]⟩ else ⟨#[o]⟩) :: rowStr G.b3D o c r := rfl
        rw [this, List.map_cons, List.sum_cons, ih, List.length_cons]
        cases isGreat G.b3D x <;> (simp [Str.length]; (first | lia | omega))
    rw [h1]
    unfold rowStr; rw [List.length_map]; (first | lia | omega)
theorem sk2 {hn : Str} {o c : Nat} {k page : Str} {ax : Addr} {gv : List V} (h1 : (decide (page.length < (⟨#[59]⟩ : Str).length) || decide (Builtin.Str.strKind page < Builtin.Str.strKind ⟨#[59]⟩)) = false)
    (hf : (Builtin.Str.occurrences page ⟨#[59]⟩ 0 page.length (page.length + 1)).isEmpty = false) (hx : page.length ≤ 1000000) (hs : (Txt.split page ⟨#[59]⟩).length ≤ 1000000) :
    BS G (d + 9) skN (skSt 2) (skStart hn o c k ax [("great", .ref 0), ("page", .str page)]) [gv] .next (skStart hn o c k ax [("great", .ref 0), ("page", .str page), ("pieces", .ref 2)]) [gv, (Txt.split page ⟨#[59]⟩).map .new, ((Txt.split page ⟨#[59]⟩).dropLast).map .new] := by
  have e : ((Txt.split page ⟨#[59]⟩).dropLast).map V.new = cutL ((Txt.split page ⟨#[59]⟩).map .new) none (some (-1)) := by rw [cutL_init, List.map_dropLast]
  rw [e]
  exact BS.assign (loc := skStart hn o c k ax [("great", .ref 0), ("page", .str page)]) (BE.sub (BE.meth (BE.var rfl rfl rfl) m_split (BA.cons BE.str BA.nil) (bc_split h1 (by decide) hf hx hs)) (BE.slice (a := .none) (b := .int (-1)) ⟨rfl, rfl⟩ (neg_int2 BE.int)) (slice_list2 (i := 1) rfl (by rw [List.length_map]; exact hs))) (.inl rfl)
theorem rng_nats (n : Nat) : rngL 0 1 n = natsV (List.range n) := by
  unfold rngL natsV
  exact List.map_congr_left fun i _ => by simp
theorem sk3 (K : LK G) {hn : Str} {o c : Nat} {k page : Str} {ax : Addr} {l : List Nat} {items : List Value} {gv sv pv : List V} (hl : G.h₀.PlainList ax items.toArray) (hv : VRs G [] G.h₀ (signsV l) items) (hn' : l.length ≤ 1000) :
    BS G (d + 9) skN (skSt 3) (skStart hn o c k ax [("great", .ref 0), ("page", .str page), ("pieces", .ref 2)]) [gv, sv, pv] .next (skStart hn o c k ax [("great", .ref 0), ("page", .str page), ("pieces", .ref 2), ("left", .ref 3)]) [gv, sv, pv, natsV (List.range l.length)] := by
  rw [← rng_nats]
  have hlen : BC G (d + 9) (.builtin "len") [.raw (.ref ax)] [gv, sv, pv] (.int (l.length : Nat)) [gv, sv, pv] := by
    have := bc_len_old (G := G) (d := d + 8) (H := [gv, sv, pv]) hl hv (by unfold signsV; rw [List.length_map]; (first | lia | omega))
    unfold signsV at this; rw [List.length_map] at this; exact this
  exact BS.assign (loc := skStart hn o c k ax [("great", .ref 0), ("page", .str page), ("pieces", .ref 2)]) (BE.listRange (b := (l.length : Nat)) K.toGOk (BRng.one K.toGOk rfl K.range (BA.cons (BE.callB K.toGOk rfl K.len (BA.cons (BE.var rfl rfl rfl) BA.nil) hlen rfl) BA.nil)) rfl K.list (rng_small (by (first | lia | omega))) rng_size (by (first | lia | omega))) (.inl rfl)
theorem sk4 {hn : Str} {o c : Nat} {k page : Str} {ax : Addr} {gv sv pv lv : List V} :
    BS G (d + 9) skN (skSt 4) (skStart hn o c k ax [("great", .ref 0), ("page", .str page), ("pieces", .ref 2), ("left", .ref 3)]) [gv, sv, pv, lv] .next (skStart hn o c k ax [("great", .ref 0), ("page", .str page), ("pieces", .ref 2), ("left", .ref 3), ("kept", .ref 4)]) [gv, sv, pv, lv, []] :=
  BS.assign (loc := skStart hn o c k ax [("great", .ref 0), ("page", .str page), ("pieces", .ref 2), ("left", .ref 3)]) (BE.list BA.nil) (.inl rfl)
noncomputable def stIter (k : Str) (s : StS) : Nat → StS
  | 0 => s
  | n + 1 => stStep k (stIter k s n)
theorem stStep_len (k : Str) {s : StS} (h : s.lf.length = s.ys.length) : (stStep k s).lf.length = (stStep k s).ys.length ∧ (stStep k s).ys.length ≤ s.ys.length ∧ (stStep k s).kp.length ≤ s.kp.length + 1 := by
  unfold stStep
  split
  · rename_i hany
    have hlt := (findIdx_some hany).1
    simp only
    split
    · simp only [List.length_eraseIdx, List.length_append, List.length_singleton]
      rw [h]
      refine ⟨rfl, ?_, Nat.le_refl _⟩
      split <;> (first | lia | omega)
    · simp only [List.length_eraseIdx]
      rw [h]
      refine ⟨rfl, ?_, by (first | lia | omega)⟩
      split <;> (try split) <;> (first | lia | omega)
  · exact ⟨h, Nat.le_refl _, by (first | lia | omega)⟩
theorem stIter_len (k : Str) {s : StS} (h : s.lf.length = s.ys.length) : ∀ n, (stIter k s n).lf.length = (stIter k s n).ys.length ∧ (stIter k s n).ys.length ≤ s.ys.length ∧ (stIter k s n).kp.length ≤ s.kp.length + n
  | 0 => ⟨h, Nat.le_refl _, Nat.le_refl _⟩
  | n + 1 => by
    obtain ⟨h1, h2, h3⟩ := stIter_len k h n
    obtain ⟨a, b, c⟩ := stStep_len k h1
    exact ⟨a, Nat.le_trans b h2, by show (stStep k _).kp.length ≤ _; (first | lia | omega)⟩
theorem sk5 (K : LK G) {hn : Str} {o c : Nat} {k page : Str} {ax : Addr} {l : List Nat} {items : List Value} {gv sv : List V} {st : StS} (hg : plainVs gv = true) (hs : plainVs sv = true) (hl : G.h₀.PlainList ax items.toArray) (hv : VRs G [] G.h₀ (signsV l) items) (hn' : l.length ≤ 500)
    (h1 : st.lf.length = st.ys.length) (h2 : st.ys.length ≤ 1000) (h3 : st.kp = []) :
    BS G (d + 10) skN (skSt 5) (skStart hn o c k ax [("great", .ref 0), ("page", .str page), ("pieces", .ref 2), ("left", .ref 3), ("kept", .ref 4)]) (skH gv sv st) .next (skL page k) (skH gv sv (stIter k st l.length)) := by
  have hlen : BC G (d + 10) (.builtin "len") [.raw (.ref ax)] (skH gv sv st) (.int (l.length : Nat)) (skH gv sv st) := by
    have := bc_len_old (G := G) (d := d + 9) (H := skH gv sv st) hl hv (by unfold signsV; rw [List.length_map]; (first | lia | omega))
    unfold signsV at this; rw [List.length_map] at this; exact this
  have inv := fun n => stIter_len k h1 n
  have key := BS.forGo (p := match skSt 5 with | .For _ _ _ _ p => p | _ => default) (target := match skSt 5 with | .For t _ _ _ _ => t | _ => .Constant .none 0 default) (iter := match skSt 5 with | .For _ t _ _ _ => t | _ => .Constant .none 0 default) (body := skBody) (G := G) (d := d + 10) (sc := skN) (src := fun _ => True) (vs := rngL 0 1 l.length) (loc := skStart hn o c k ax [("great", .ref 0), ("page", .str page), ("pieces", .ref 2), ("left", .ref 3), ("kept", .ref 4)])
    (fun i => match i with | 0 => skStart hn o c k ax [("great", .ref 0), ("page", .str page), ("pieces", .ref 2), ("left", .ref 3), ("kept", .ref 4)] | _ + 1 => skL page k) (fun i => skH gv sv (stIter k st i))
    ⟨rfl, rfl, rfl, rfl, rfl, rfl, rfl, rfl, rfl, rfl, trivial⟩ rfl (BIt.range (b := (l.length : Nat)) (BRng.one K.toGOk rfl K.range (BA.cons (BE.callB K.toGOk rfl K.len (BA.cons (BE.var rfl rfl rfl) BA.nil) hlen rfl) BA.nil)) (rng_small (by (first | lia | omega))) rng_size) (fun _ => trivial) ?_
  · rw [rngL_len] at key
    refine BS.conseq key (fun _ _ h => h) ?_
    cases l.length with
    | zero => exact subL.get ⟨rfl, rfl, rfl, rfl, rfl, trivial⟩
    | succ n => exact fun _ _ h => h
  · intro i v hvi
    obtain ⟨hi, rfl⟩ := rngN_get hvi
    obtain ⟨i1, i2, i3⟩ := inv i
    rw [h3] at i3
    refine ⟨_, _, skL page k, BB.name (.inl rfl), ?_, fun _ _ h => h⟩
    refine BSs.conseq (struck_turn K (i := .int (i : Nat)) hg hs i1 (Nat.le_trans i2 h2) (by simp at i3; (first | lia | omega))) ?_ (fun _ _ h => h)
    cases i with
    | zero => exact subL.get ⟨rfl, rfl, rfl, rfl, rfl, rfl, trivial⟩
    | succ n => exact subL.get ⟨rfl, rfl, rfl, rfl, rfl, rfl, trivial⟩
end
end Mine
end
section
open PySem PySem.Calls PyProof.Rows
set_option Elab.async false
set_option maxRecDepth 100000
namespace Mine
section
variable {G : GL} {d : Nat} {sc : List (Str × NameKind)} {loc loc' loc'' : Loc} {H H' H'' X : Lists}
theorem name_raw {α : List Addr} {env : Env} {s : Shared} {M : Model} {A : Around} {Q : Value → Shared → Prop} {E : Value → Shared → Prop} {x : Str} {p : Pos} {v : V} (L : LRel G env α loc s.heap) (hl : loc.lookup x = some v)
    (hd : (x == ("__debug__" : Str)) = false) (hc : (x == ("__classdict__" : Str)) = false) (h : ∀ r, VR G α s.heap v r → Q r s) : wpAny M A (eval (.Name x p) env) Q E s := by
  refine wpAny_Name ?_ hd
  by_cases hk : env.kindOf x = some .local
  · obtain ⟨m, hn, hm⟩ := L.ns
    obtain ⟨r, e, hr⟩ := hm x v hl hk
    exact wpAny_loadName_local L.kind hk hn e (h _ hr)
  · obtain ⟨c, r, hcl, hcell, hr⟩ := L.cell x v hl hk
    rcases L.var x v hl with h1 | h1 | h1
    · exact absurd h1 hk
    · exact wpAny_loadName_cell L.kind h1 hcl hcell (h _ hr)
    · exact wpAny_loadName_free L.kind h1 hcl hcell (h _ hr) hc
theorem callF_raw (K : GOk G) {x : Str} {p pos : Pos} {args : List Expr} {dr : DefRec} (hd : dr ∈ G.defs) (hk : sc.lookup x = some .globalImplicit) (hx : (x == ("__debug__" : Str)) = false) (hn : dr.name = x) {A : Around} {env : Env} {α : List Addr} {s : Shared} (S : Kinds sc env) (X : HRel G α H s) (L : LRel G env α loc s.heap)
    {Q : Value → Shared → Prop} {E : Value → Shared → Prop} {P : List Value → Prop} (ha : ∀ Q' : List Value → Shared → Prop, (∀ rs, P rs → Q' rs s) → wpAny (model G.prog G.w) A (spliced (backTo pos (starEach args env))) Q' E s)
    (hc : ∀ a rs, G.mg dr.name = some (.ref a) → P rs → wpAny (model G.prog G.w) A (call (.ref a) rs) Q E s) (hs : ArgsOk args pos := by intro _; exact ⟨_, _, rfl, rfl⟩) :
    wpAny (model G.prog G.w) A (eval (.Call (.Name x p) args [] pos) env) Q E s := by
  subst hn
  obtain ⟨a, o, pm, cd, doc, e1, e2, e3, e4⟩ := K.fns dr hd
  refine wpAny_Call_NameR (gval_use K S L X hk (.inl e1) ?_ hx)
  obtain ⟨t, ts, h1, h2⟩ := hs env
  rw [h1] at ha ⊢
  exact callWith_function (o := o) (fd := docDef dr.name dr.params dr.body dr.scope pm cd doc) (evalArgs_plain (ha _ fun rs hp => ⟨⟨X.keep _ _ e2, e3⟩, hc a rs e1 hp⟩))
theorem exc_sub : isSubtype (.type "ValueError") (.type "BaseException") = pure true := by rw [isSubtype_type]; kernel_rfl
theorem exc_self : isSubtype (.type "ValueError") (.type "ValueError") = pure true := by rw [isSubtype_type]; kernel_rfl
theorem exc_meta : isSubtype (.type ((Manifest.find? "ValueError").elim "type" fun x => x.metatype)) (.type "tuple") = pure false := by rw [isSubtype_type]; kernel_rfl
theorem lookup_all {P : Str → V → Prop} {x : Str} {v : V} : ∀ {l : Loc}, (∀ p ∈ l, P p.1 p.2) → l.lookup x = some v → P x v
  | (y, u) :: r, h, e => by
    rw [List.lookup_cons] at e
    cases hb : x == y with
    | true => rw [hb] at e; cases e; rw [beq_iff_eq.mp hb]; exact h _ List.mem_cons_self
    | false => rw [hb] at e; exact lookup_all (fun p hp => h p (List.mem_cons_of_mem _ hp)) e
theorem slots_cell {h h' : Heap} (k : h.UpToSlots h') {c : Addr} {v : Option Value} (x : h.IsCell c v) : h'.IsCell c v := by
  obtain ⟨o, e, d⟩ := x
  obtain ⟨sl, e'⟩ := k c o e fun vs q => by rw [d] at q; cases q
  exact ⟨_, e', d⟩
theorem sk_end {α0 : List Addr} {s0 : Shared} (K0 : LK G) (X0 : HRel G α0 H s0) {env lawEnv : Env} {lawL : Addr} {mL : Str → Option Value} (hLn : s0.heap.Ns lawL mL) (hL0 : G.h₀.get? lawL = none) (hLf : lawEnv.frame = some lawL) (hLk : lawEnv.scope.kind ≠ .module)
    {A : Around} (hA : A.frames = some [env, lawEnv]) (hf : env.frame = some env.locals) {α : List Addr} {s : Shared} {gv sv : List V} {st : StS} {page k : Str} (R : Room (d + 10) A) (S : Kinds skN env) (X1 : HRel (G.atT s0) α (skH gv sv st) s) (L : LRel (G.atT s0) env α (skL page k) s.heap) (hk : k ∉ st.ys)
    {Q : Flow → Shared → Prop} {E : Value → Shared → Prop}
    (hQ : ∀ t s' tp a3 a4, α[3]? = some a3 → α[4]? = some a4 → (∃ h tk, s' = { s with heap := h, toks := tk }) → G.thr ≤ s'.toks → TP s'.heap t #[.str page tp, .ref a4, .ref a3] → s.heap.get? t = none →
      (∀ b o, s.heap.get? b = some o → b ≠ env.locals → b ≠ lawL → s'.heap.get? b = some o) → (∀ o, s.heap.get? lawL = some o → ∃ sl, s'.heap.get? lawL = some { o with slots := sl }) → Q (.ret (.ref t)) s') :
    wpAny (model G.prog G.w) A (execs [skSt 6, skSt 7] env) Q E s := by
  have K1 : LK (G.atT s0) := K0.atT X0
  have Ln := L.ns
  obtain ⟨m, hmn, hmm⟩ := Ln
  have hmn' := hmn
  obtain ⟨oE, esE, epE, hoE, hdE, _⟩ := hmn
  obtain ⟨oL, esL, epL, hoL0, hdL, _⟩ := hLn
  have hoL : s.heap.get? lawL = some oL := X1.keep _ _ hoL0
  have eNL : env.locals ≠ lawL := fun q => by have := L.fresh; rw [q] at this; rw [show (G.atT s0).h₀ = s0.heap from rfl, hoL0] at this; cases this
  refine wpAny_execs_cons ?_
  refine wpAny_Try_except ?_
  refine wpAny_execs_cons ?_
  obtain ⟨a2, ha2⟩ : ∃ a2, α[2]? = some a2 := ⟨_, List.getElem?_eq_getElem (by rw [X1.len]; show _ < 5; (first | lia | omega))⟩
  obtain ⟨a3, ha3⟩ : ∃ a3, α[3]? = some a3 := ⟨_, List.getElem?_eq_getElem (by rw [X1.len]; show _ < 5; (first | lia | omega))⟩
  obtain ⟨a4, ha4⟩ : ∃ a4, α[4]? = some a4 := ⟨_, List.getElem?_eq_getElem (by rw [X1.len]; show _ < 5; (first | lia | omega))⟩
  have hkp : s0.heap.get? env.locals = none := L.fresh
  let loc4 : Loc := [("page", .str page), ("kept", .raw (.ref a4)), ("left", .raw (.ref a3))]
  have Lat : ∀ h' : Heap, s.heap.UpToSlots h' → LRel G env [] loc4 h' := fun h' up => by
    have k1 : env.kindOf "page" = some .local := S.loc "page" rfl
    have k2 : env.kindOf "kept" = some .local := S.loc "kept" rfl
    have k3 : env.kindOf "left" = some .local := S.loc "left" rfl
    have key : ∀ p ∈ loc4, env.kindOf p.1 = some .local ∧ ∃ r, m p.1 = some r ∧ VR G [] h' p.2 r := by
      intro p hp
      simp only [loc4, List.mem_cons, List.not_mem_nil, or_false] at hp
      rcases hp with rfl | rfl | rfl
      · obtain ⟨r, e, v⟩ := hmm "page" _ rfl k1
        cases v
        exact ⟨k1, _, e, .str _ _⟩
      · obtain ⟨r, e, v⟩ := hmm "kept" (.ref 4) rfl k2
        cases v with
        | ref q => rw [ha4] at q; cases q; exact ⟨k2, _, e, .raw _⟩
      · obtain ⟨r, e, v⟩ := hmm "left" (.ref 3) rfl k3
        cases v with
        | ref q => rw [ha3] at q; cases q; exact ⟨k3, _, e, .raw _⟩
    have kl : ∀ {x : Str} {v : V}, loc4.lookup x = some v → env.kindOf x = some .local := fun h => (lookup_all (P := fun x v => env.kindOf x = some .local ∧ ∃ r, m x = some r ∧ VR G [] h' v r) key h).1
    refine ⟨L.kind, L.glob, L.bins, ⟨m, up.ns hmn', fun x v h _ => (lookup_all (P := fun x v => env.kindOf x = some .local ∧ ∃ r, m x = some r ∧ VR G [] h' v r) key h).2⟩, fun x v h => .inl (kl h), fun x v h hn => absurd (kl h) hn, fun y c h => ?_, L.apart, size_le X0 hkp⟩
    obtain ⟨⟨v, hc⟩, hc0⟩ := L.cells y c h
    exact ⟨⟨v, slots_cell up hc⟩, size_le X0 hc0⟩
  have Xat : ∀ h' tk, (dropAt (dropAt s.heap env.locals) lawL).StaysIn h' → G.thr ≤ tk → HRel G [] [] { s with heap := h', toks := tk } := fun h' tk hst ht => by
    refine ⟨ht, fun b o hb => ?_, rfl, List.nodup_nil, fun _ h => (nomatch h), fun i a l h => by simp at h⟩
    have hb0 := X0.keep b o hb
    have n1 : b ≠ env.locals := fun q => by rw [q, hkp] at hb0; cases hb0
    have n2 : b ≠ lawL := fun q => by rw [q, hL0] at hb; cases hb
    exact hst b o (by rw [dropAt_other _ n2, dropAt_other _ n1]; exact X1.keep b o hb0)
  have hfin : ∀ {e : Addr} {a0 : Value} {s1 : Shared} {Q₁ : Flow → Shared → Prop}, (∀ t s', Q (.ret (.ref t)) s' → Q₁ (.ret (.ref t)) s') → (∃ h t, s1 = { s with heap := h, toks := t }) → G.thr ≤ s1.toks → Heap.FlyingW (dropAt (dropAt s.heap env.locals) lawL) [env, lawEnv] e (.type "ValueError") a0 s1.heap → s.heap.UpToSlots s1.heap →
      wpAny (model G.prog G.w) A (noteFrame (.ref e) env) (fun _ s₂ => wpAny (model G.prog G.w) A (setFlight (.ref e) none) (fun _ s₃ => wpAny (model G.prog G.w) A (handleBy (.ref e) env (match skSt 6 with | .Try _ h _ _ _ => h | _ => [])) Q₁ E s₃) E s₂) E s1 := by
    intro e a0 s1 Q₁ hq hsame htk fly up
    obtain ⟨h1, tk1, rfl⟩ := hsame
    refine wpAny_looks_onW hA hf fly fun h2 held up2 => ?_
    refine wpAny_landsW held fun h3 fly3 up3 => ?_
    have X3 := Xat h3 tk1 fly3.1 htk
    have u3 : s.heap.UpToSlots h3 := (up.trans up2).trans up3
    refine wpAny_handleBy_builtin (X := "ValueError") (T := "ValueError") (b := true) exc_sub exc_meta exc_self ?_
    refine gval_use K0.toGOk S (Lat h3 u3) X3 rfl (K0.bi "ValueError" (.type "ValueError") (by decide +kernel)) ⟨rfl, fly3.there, ?_⟩
    rw [if_pos rfl]
    refine lands_againW fly3 fun h4 fly4 up4 => ?_
    have u4 : s.heap.UpToSlots h4 := u3.trans up4
    have L4 := Lat h4 u4
    refine wpAny_execs_cons ?_
    refine wpAny_Return_some ?_
    refine wpAny_Tuple ?_
    refine wpAny_items_cons (name_raw L4 (x := "page") rfl rfl rfl fun r1 v1 => ?_)
    cases v1
    refine wpAny_items_cons (name_raw L4 (x := "kept") rfl rfl rfl fun r2 v2 => ?_)
    cases v2
    refine wpAny_items_cons (name_raw L4 (x := "left") rfl rfl rfl fun r3 v3 => ?_)
    cases v3
    refine wpAny_items_nil ⟨by rw [sizeLine_eq]; simp, ?_⟩
    have lives : ∀ b o, s.heap.get? b = some o → ∃ o', h4.get? b = some o' := fun b o hb => by
      by_cases n1 : b = env.locals
      · subst n1
        rw [hoE] at hb; cases hb
        obtain ⟨sl, q⟩ := u4 _ _ hoE fun vs q => by rw [hdE] at q; cases q
        exact ⟨_, q⟩
      · by_cases n2 : b = lawL
        · subst n2
          obtain ⟨sl, q⟩ := u4 _ _ hoL fun vs q => by rw [hdL] at q; cases q
          exact ⟨_, q⟩
        · exact ⟨o, fly4.1 b o (by rw [dropAt_other _ n2, dropAt_other _ n1]; exact hb)⟩
    refine hq _ _ (hQ _ _ _ a3 a4 ha3 ha4 ⟨_, _, rfl⟩ htk ⟨0, Heap.get?_push_size _ rfl⟩ ?_ (fun b o hb n1 n2 => ?_) fun o hb => ?_)
    · cases q : s.heap.get? h4.objs.size with
      | none => rfl
      | some o => obtain ⟨o', e'⟩ := lives _ _ q; rw [fresh_size] at e'; cases e'
    · exact Heap.get?_push_of_some _ (fly4.1 b o (by rw [dropAt_other _ n2, dropAt_other _ n1]; exact hb))
    · rw [hoL] at hb; cases hb
      obtain ⟨sl, q⟩ := u4 _ _ hoL fun vs q => by rw [hdL] at q; cases q
      exact ⟨sl, Heap.get?_push_of_some _ q⟩
  refine wpAny_Expr ?_ (by unfold interactive; rw [L.kind]; rfl) rfl
  refine callF_raw (G := G.atT s0) (P := fun rs => VRs (G.atT s0) α s.heap [.ref 2, .old k] rs) K1.toGOk (K1.defs 6 (by decide)) rfl rfl rfl S X1 L (fun Q' hq => ?_) fun a rs hma hv => ?_
  · refine wpAny_items_cons (name_raw L (x := "pieces") rfl rfl rfl fun r1 v1 => ?_)
    refine wpAny_items_cons (name_raw L (x := "shut") rfl rfl rfl fun r2 v2 => ?_)
    exact wpAny_items_nil (hq _ (.cons v1 (.cons v2 .nil)))
  · have hb1 : (dropAt (dropAt s.heap env.locals) lawL).get? env.locals = none := by rw [dropAt_other _ eNL, dropAt_self]
    refine idx_raise (G := G.atT s0) (d := d + 5) K1 (ys := st.ys) (i0 := 2) rfl hk hma R X1 hv (base := dropAt (dropAt s.heap env.locals) lawL) (outer := [env, lawEnv]) hA ⟨by rw [L.kind]; decide, ⟨env.locals, oE, hf, hb1, hoE, fun vs q => by rw [hdE] at q; cases q⟩, hLk, ⟨lawL, oL, hLf, dropAt_self _ _, hoL, fun vs q => by rw [hdL] at q; cases q⟩, trivial⟩ (fun b o hb => ?_) fun e a0 s1 hsame htk fly up => ?_
    · exact (dropAt_some (dropAt_some hb).2).2
    · exact hfin (fun t s' h => h) hsame (Nat.le_trans X0.pos htk) fly up
end
end Mine
end
section
open PySem PySem.Calls PyProof.Rows
set_option Elab.async false
set_option maxRecDepth 100000
namespace Mine
section
variable {G : GL} {d : Nat} {sc : List (Str × NameKind)} {loc loc' loc'' : Loc} {H H' H'' X : Lists}
noncomputable def st0 (page : Str) (l : List Nat) : StS := ⟨(Txt.split page ⟨#[59]⟩).dropLast, List.range l.length, []⟩
theorem signs_at {G' : GL} {α α' : List Addr} {h h' : Heap} : ∀ {l : List Nat} {items : List Value}, VRs G α h (signsV l) items → VRs G' α' h' (signsV l) items
  | [], _, x => by cases x; exact .nil
  | c :: l, _, x => by
    cases x with
    | cons a b => cases a; exact .cons (.str _ _) (signs_at b)
theorem nats_at {G' : GL} {α α' : List Addr} {h h' : Heap} : ∀ {l : List Nat} {items : List Value}, VRs G α h (natsV l) items → VRs G' α' h' (natsV l) items
  | [], _, x => by cases x; exact .nil
  | c :: l, _, x => by
    cases x with
    | cons a b => cases a; exact .cons (.int _ _) (nats_at b)
theorem struck_call (K0 : LK G) {o c : Nat} {k page : Str} {l : List Nat} {i : Nat} (hi : i ∈ defIdx) (hn : l.length ≤ 500) (hb : ∀ x ∈ l, (b3get G.b3D x).isSome = true ∧ (Txt.lower ⟨#[x]⟩).length ≤ 1000000)
    (hpage : ∀ (G' : GL) (_ : LK G') (H : Lists) (a : Addr), G'.mg (drOf i).name = some (.ref a) → BC G' (d + 9) (.ref a) [.str (Txt.join "" (rowStr G.b3D o c l))] H (.str page) H)
    (h1 : (decide (page.length < (⟨#[59]⟩ : Str).length) || decide (Builtin.Str.strKind page < Builtin.Str.strKind ⟨#[59]⟩)) = false) (hf : (Builtin.Str.occurrences page ⟨#[59]⟩ 0 page.length (page.length + 1)).isEmpty = false) (hx : page.length ≤ 1000000)
    (hs : (Txt.split page ⟨#[59]⟩).dropLast.length = l.length) (hs' : (Txt.split page ⟨#[59]⟩).length ≤ 1000) (hdone : k ∉ (stIter k (st0 page l) l.length).ys)
    {A : Around} {α0 : List Addr} {H0 : Lists} {s0 : Shared} (X0 : HRel G α0 H0 s0) (R : Room (d + 11) A) {lawEnv : Env} {lawL : Addr} {mL : Str → Option Value} (hLn : s0.heap.Ns lawL mL) (hL0 : G.h₀.get? lawL = none) (hLf : lawEnv.frame = some lawL) (hLk : lawEnv.scope.kind ≠ .module) (hA : A.frames = some [lawEnv])
    {j : Nat} {ax : Addr} {r0 : Value} {t1 t2 t3 : Tok} (hr0 : VR G α0 s0.heap (.fn (drOf i).name) r0) (ht3 : 0 < t3) (ht3' : t3 < s0.toks) (hax : α0[j]? = some ax) (hsig : H0[j]? = some (signsV l)) {a : Addr} (hma : G.mg (drOf 31).name = some (.ref a)) {Q : Value → Shared → Prop} {E : Value → Shared → Prop}
    (hQ : ∀ t s' ka la, (∃ h tk, s' = { s0 with heap := h, toks := tk }) → HRel G (α0 ++ [ka, la]) (H0 ++ [natsV (stIter k (st0 page l) l.length).kp, natsV (stIter k (st0 page l) l.length).lf]) s' →
      VR G (α0 ++ [ka, la]) s'.heap (.tup [.str page, .ref H0.length, .ref (H0.length + 1)]) (.ref t) → (∀ b o, s0.heap.get? b = some o → b ≠ lawL → s'.heap.get? b = some o) → (∀ o, s0.heap.get? lawL = some o → ∃ sl, s'.heap.get? lawL = some { o with slots := sl }) →
      s0.heap.get? ka = none → s0.heap.get? la = none → Q (.ref t) s') :
    wpAny (model G.prog G.w) A (call (.ref a) [r0, .str ⟨#[o]⟩ t1, .str ⟨#[c]⟩ t2, .str k t3, .ref ax]) Q E s0 := by
  have K1 : LK (G.atT s0) := K0.atT X0
  obtain ⟨items, hp, hvi⟩ := X0.lists j ax _ hax hsig
  have hvi' : VRs (G.atT s0) [] s0.heap (signsV l) items := signs_at hvi
  refine call_raw (G := G.atT s0) (H := []) (α := []) (d := d + 10) K1.toGOk (K1.defs 31 (by decide)) (args := [.fn (drOf i).name, .str ⟨#[o]⟩, .str ⟨#[c]⟩, .old k, .raw (.ref ax)]) (names := ["hand", "opens", "shuts", "shut", "signs"]) ?_ ?_ ?_ rfl rfl rfl hma R HRel.atT ?_ fun env s1 R1 S1 X1 L1 x1 fp1 hframe => ?_
  · intro pm cd doc rs hl
    obtain ⟨x, y, z, u, v, rfl⟩ := len_5 hl
    rfl
  · decide +kernel
  · decide +kernel
  · cases hr0 with
    | fn e => exact .cons (.fn e) (.cons (.str _ _) (.cons (.str _ _) (.cons (.old _ _ ht3 ht3') (.cons (.raw _) .nil))))
  have R9 : Room (d + 9) (A.deeper env) := R1.le (by (first | lia | omega))
  refine BS.raw (sk0 (G := G.atT s0) (hn := (drOf i).name) (o := o) (c := c) (k := k) K1 hp hvi' (by (first | lia | omega)) hb) R1 S1 X1 L1 fun s2 α2 x2 X2 L2 => ?_
  refine BS.raw (sk1 (G := G.atT s0) (o := o) (c := c) (k := k) (ax := ax) K1 hi (by (first | lia | omega)) (hpage _ K1)) R9 S1 X2 L2 fun s3 α3 x3 X3 L3 => ?_
  refine BS.raw (sk2 (G := G.atT s0) h1 hf hx (by (first | lia | omega))) R9 S1 X3 L3 fun s4 α4 x4 X4 L4 => ?_
  refine BS.raw (sk3 (G := G.atT s0) K1 hp hvi' (by (first | lia | omega))) R9 S1 X4 L4 fun s5 α5 x5 X5 L5 => ?_
  refine BS.raw (sk4 (G := G.atT s0)) R9 S1 X5 L5 fun s6 α6 x6 X6 L6 => ?_
  refine BS.raw (sk5 (G := G.atT s0) (k := k) (st := st0 page l) K1 (plainVs_map (fun _ => rfl) _) (news_plain _) hp hvi' hn (by unfold st0; simp only [List.length_range]; exact hs.symm) (by unfold st0; simp only; (first | lia | omega)) rfl) R1 S1 X6 L6 fun s7 α7 x7 X7 L7 => ?_
  have hfr' : (A.deeper env).frames = some [env, lawEnv] := by
    show A.frames.map (env :: ·) = _
    rw [hA]; rfl
  refine sk_end K0 X0 hLn hL0 hLf hLk hfr' hframe R1 S1 X7 L7 hdone fun t s' tp a3 a4 ha3 ha4 hsame htk htp ht0 hkeep hlaw => ?_
  have xx : Ext [] [] α7 s0 s7 := ((x1.mono (fp' := fpOf env) (by simp)).trans (((((x2.trans x3).trans x4).trans x5).trans x6).trans x7)).drop fp1
  have keep0 : ∀ b o, s0.heap.get? b = some o → s7.heap.get? b = some o := fun b o e => xx.keep b o e (by simp) (by simp)
  have nfp : ∀ b o, s0.heap.get? b = some o → b ≠ env.locals := fun b o e q => by
    have := fp1 env.locals (mem_fpOf.mpr (.inl rfl)); rw [← q, e] at this; cases this
  have keep1 : ∀ b o, s0.heap.get? b = some o → b ≠ lawL → s'.heap.get? b = some o := fun b o e n => hkeep b o (keep0 b o e) (nfp b o e) n
  obtain ⟨oL, esL, epL, hoL, hdL, hrL⟩ := id hLn
  have al : ∀ (n : Nat) (a : Addr), α7[n]? = some a → s0.heap.get? a = none ∧ a ≠ env.locals ∧ a ≠ lawL := fun n a e => by
    have h0 := X7.own a (List.mem_of_getElem? e)
    refine ⟨h0, fun q => L7.notIn X7 env.locals (mem_fpOf.mpr (.inl rfl)) (q ▸ List.mem_of_getElem? e), fun q => ?_⟩
    rw [q, show (G.atT s0).h₀ = s0.heap from rfl, hoL] at h0; cases h0
  obtain ⟨f3, n3, m3⟩ := al 3 a3 ha3
  obtain ⟨f4, n4, m4⟩ := al 4 a4 ha4
  have nota : ∀ b, s0.heap.get? b = none → b ∉ α0 := fun b hb hm => by
    obtain ⟨it, n, e⟩ := X0.isList hm
    rw [hb] at e; cases e
  have ne34 : a3 ≠ a4 := fun q => by subst q; exact absurd (nodup_inj X7.nd ha3 ha4) (by decide)
  have tk : TupKeep s0.heap s'.heap := fun b o e f => keep1 b o e fun q => by subst q; rw [ns_not_frozen hLn e] at f; cases f
  have hplain : ∀ (n : Nat) (a : Addr) (w : List Nat), α7[n]? = some a → (skH (greatV (G.atT s0).b3D l) ((Txt.split page ⟨#[59]⟩).map .new) (stIter k (st0 page l) l.length))[n]? = some (natsV w) → ∃ items : List Value, s'.heap.PlainList a items.toArray ∧ VRs G (α0 ++ [a4, a3]) s'.heap (natsV w) items := fun n a w e1 e2 => by
    obtain ⟨it, ⟨n', e⟩, hv⟩ := X7.lists n a _ e1 e2
    obtain ⟨_, g1, g2⟩ := al n a e1
    exact ⟨it, ⟨n', hkeep a _ e g1 g2⟩, nats_at hv⟩
  have hnd : (α0 ++ [a4, a3]).Nodup := by
    have e : α0 ++ [a4, a3] = (α0 ++ [a4]) ++ [a3] := by simp
    rw [e]
    refine nodup_concat (nodup_concat X0.nd (nota a4 f4)) fun h => ?_
    rcases List.mem_append.mp h with h | h
    · exact nota a3 f3 h
    · exact ne34 (List.mem_singleton.mp h)
  have hlen : α0.length = H0.length := X0.len
  refine hQ t s' a4 a3 ?_ ⟨htk, fun b o e => keep1 b o (X0.keep b o e) fun q => (by rw [q, hL0] at e; cases e), by simp [hlen], hnd, fun b hb => ?_, fun n a w e1 e2 => ?_⟩ (.tup htp (.cons (.str _ _) (.cons (.ref (by rw [List.getElem?_append_right (by (first | lia | omega)), hlen]; simp)) (.cons (.ref (by rw [List.getElem?_append_right (by (first | lia | omega)), hlen]; simp)) .nil)))) keep1 (fun o e => hlaw o (keep0 _ _ e)) f4 f3
  · obtain ⟨h, tk', rfl⟩ := hsame
    obtain ⟨h7, t7, e7⟩ := xx.same
    rw [e7]
    exact ⟨_, _, rfl⟩
  · rcases List.mem_append.mp hb with hb | hb
    · exact X0.own b hb
    · simp only [List.mem_cons, List.not_mem_nil, or_false] at hb
      rcases hb with rfl | rfl
      · exact size_le X0 f4
      · exact size_le X0 f3
  · by_cases hn0 : n < α0.length
    · rw [List.getElem?_append_left hn0] at e1
      rw [List.getElem?_append_left (by (first | lia | omega))] at e2
      obtain ⟨it, hpl, hv⟩ := X0.lists n a w e1 e2
      have hpl' := hpl
      obtain ⟨n', e⟩ := hpl'
      exact ⟨it, ⟨n', keep1 a _ e fun q => ns_not_list hLn (q ▸ hpl)⟩, hv.mono (List.prefix_append _ _) tk⟩
    · rw [List.getElem?_append_right (by (first | lia | omega))] at e1 e2
      rw [hlen] at e1
      have hc : n - H0.length = 0 ∨ n - H0.length = 1 := by
        have := (List.getElem?_eq_some_iff.mp e2).1
        simp at this; (first | lia | omega)
      rcases hc with hc | hc
      · rw [hc] at e1 e2
        simp at e1 e2
        subst e1 e2
        exact hplain 4 _ _ ha4 rfl
      · rw [hc] at e1 e2
        simp at e1 e2
        subst e1 e2
        exact hplain 3 _ _ ha3 rfl
end
end Mine
end
section
open PySem PySem.Calls PyProof.Rows
set_option Elab.async false
set_option maxRecDepth 100000
namespace Mine
noncomputable abbrev lwN := (drOf 33).scope.names
noncomputable def lwSt (i : Nat) : Stmt := match (drOf 33).body[i]? with
  | some s => s
  | none => .Pass default
/-- the law's own run from here on answers True -/
structure LawRun (G : GL) (d : Nat) (sts : List Stmt) (loc : Loc) (H : Lists) : Prop where
  run : ∀ (A : Around) (env : Env) (α : List Addr) (s : Shared), Room d A → Kinds lwN env → HRel G α H s → LRel G env α loc s.heap → A.frames = some [env] → env.frame = some env.locals → ∀ (Q : Flow → Shared → Prop) (E : Value → Shared → Prop),
    (∀ s', (∃ h t, s' = { s with heap := h, toks := t }) → (∀ b o, G.h₀.get? b = some o → s'.heap.get? b = some o) → Q (.ret (.bool true)) s') → wpAny (model G.prog G.w) A (execs sts env) Q E s
section
variable {G : GL} {d : Nat} {sc : List (Str × NameKind)} {loc loc' loc'' : Loc} {H H' H'' X : Lists}
theorem LawRun.step {st : Stmt} {rest : List Stmt} (h : BS G d lwN st loc H .next loc' H') (k : LawRun G d rest loc' H') : LawRun G d (st :: rest) loc H where
  run A env α s R S X L hA hf Q E hQ := by
    refine BS.raw h R S X L fun s' α' x X' L' => ?_
    refine k.run A env α' s' R S X' L' hA hf Q E fun s'' hs hk => hQ s'' ?_ hk
    obtain ⟨h1, t1, rfl⟩ := x.same
    obtain ⟨h2, t2, rfl⟩ := hs
    exact ⟨_, _, rfl⟩
theorem LawRun.sub {sts : List Stmt} (hs : Sub loc' loc) (k : LawRun G d sts loc' H) : LawRun G d sts loc H where
  run A env α s R S X L hA hf Q E hQ := k.run A env α s R S X (L.sub hs) hA hf Q E hQ
theorem LawRun.ret {st : Stmt} {rest : List Stmt} (h : BS G d lwN st loc H (.ret (.bool true)) loc' H') : LawRun G d (st :: rest) loc H where
  run A env α s R S X L hA hf Q E hQ := by
    refine wpAny_execs_cons ((h A env α s R S X L).out _ _ fun r s' α' x X' L' e => ?_)
    cases e with
    | ret e => cases e; exact hQ s' x.same X'.keep
theorem slice_fresh {x : Str} (hn : x.length ≤ 1000000) (hlt : (cutS x none (some (-1))).length < x.length) {A : Around} {α : List Addr} {s : Shared} {ra rb : Value} (X : HRel G α H s) (va : VR G α s.heap (.str x) ra) (vb : VR G α s.heap (.sl none (some (-1))) rb) {Q : Value → Shared → Prop} {E : Value → Shared → Prop}
    (hQ : Q (.str (cutS x none (some (-1))) s.toks) { s with toks := s.toks + 1 }) : wpAny (model G.prog G.w) A (getItem ra rb) Q E s := by
  cases va
  rename_i t
  cases vb with
  | @sl _ _ sa es =>
    obtain ⟨vl, vu, o, e1, e2, e3, pl, pu⟩ := es
    cases pl
    cases pu with
    | int _ u =>
    refine wpAny_getItem_str_slice (l := none) (u := some (-1, u)) (st := none) ⟨o, e1, e2, e3⟩ rfl ?_
    unfold sliceMade slicePicked
    simp only [Option.map_none, Option.getD_none, Option.map_some]
    have hx : x.length ≤ sizeLine := by rw [sizeLine_eq]; (first | lia | omega)
    split
    · rename_i hc
      have hc' : (Builtin.Str.strSliceIndices none (some (-1)) 1 x.length).length = x.length := by simpa using hc
      rw [← str_whole hc'] at hlt
      exact absurd hlt (Nat.lt_irrefl _)
    · rw [str_cut]
      exact ⟨Nat.le_trans (cutS_len x none (some (-1))) hx, hQ⟩
end
end Mine
end
section
open PySem PySem.Calls PyProof.Rows
set_option Elab.async false
set_option maxRecDepth 100000
namespace Mine
section
variable {G : GL} {d : Nat} {sc : List (Str × NameKind)} {loc loc' loc'' : Loc} {H H' H'' X H1 : Lists}
/-- what is known of the row of brackets -/
structure SkOk (G : GL) (d : Nat) (i o c : Nat) (k page : Str) (l : List Nat) : Prop where
  hi : i ∈ defIdx
  hn : l.length ≤ 500
  hb : ∀ x ∈ l, (b3get G.b3D x).isSome = true ∧ (Txt.lower ⟨#[x]⟩).length ≤ 1000000
  hpage : ∀ (G' : GL) (_ : LK G') (H : Lists) (a : Addr), G'.mg (drOf i).name = some (.ref a) → BC G' (d + 9) (.ref a) [.str (Txt.join "" (rowStr G.b3D o c l))] H (.str page) H
  h1 : (decide (page.length < (⟨#[59]⟩ : Str).length) || decide (Builtin.Str.strKind page < Builtin.Str.strKind ⟨#[59]⟩)) = false
  hf : (Builtin.Str.occurrences page ⟨#[59]⟩ 0 page.length (page.length + 1)).isEmpty = false
  hx : page.length ≤ 1000000
  hs : (Txt.split page ⟨#[59]⟩).dropLast.length = l.length
  hs' : (Txt.split page ⟨#[59]⟩).length ≤ 1000
  hdone : k ∉ (stIter k (st0 page l) l.length).ys
theorem LRel.slots {env : Env} {α α' : List Addr} {s s' : Shared} (L : LRel G env α loc s.heap) (hp : α <+: α') (hk : ∀ b o, s.heap.get? b = some o → b ≠ env.locals → s'.heap.get? b = some o) (hl : ∀ o, s.heap.get? env.locals = some o → ∃ sl, s'.heap.get? env.locals = some { o with slots := sl }) : LRel G env α' loc s'.heap := by
  obtain ⟨m, hn, hm⟩ := L.ns
  have hn0 := hn
  have tk : TupKeep s.heap s'.heap := fun b o e f => hk b o e fun q => by subst q; rw [ns_not_frozen hn0 e] at f; cases f
  obtain ⟨o, es, ep, ho, hd, r⟩ := hn
  refine ⟨L.kind, L.glob, L.bins, ⟨m, ?_, fun x v h1 h2 => ?_⟩, L.var, fun y v h1 h2 => ?_, fun y c h => ?_, L.apart, L.fresh⟩
  · obtain ⟨sl, e⟩ := hl o ho
    exact ⟨_, es, ep, e, hd, r⟩
  · obtain ⟨r, e, hv⟩ := hm x v h1 h2
    exact ⟨r, e, hv.mono hp tk⟩
  · obtain ⟨c, r, e1, e2, e3⟩ := L.cell y v h1 h2
    have hne : c ≠ env.locals := fun q => ns_not_cell hn0 (q ▸ e2)
    obtain ⟨oc, e4, e5⟩ := e2
    exact ⟨c, r, e1, ⟨oc, hk _ _ e4 hne, e5⟩, e3.mono hp tk⟩
  · obtain ⟨⟨v, e2⟩, e3⟩ := L.cells y c h
    have hne : c ≠ env.locals := fun q => ns_not_cell hn0 (q ▸ e2)
    obtain ⟨oc, e4, e5⟩ := e2
    exact ⟨⟨v, ⟨oc, hk _ _ e4 hne, e5⟩⟩, e3⟩
theorem callF_raw2 (K : GOk G) {x : Str} {p pos : Pos} {args : List Expr} {dr : DefRec} (hd : dr ∈ G.defs) (hk : sc.lookup x = some .globalImplicit) (hx : (x == ("__debug__" : Str)) = false) (hn : dr.name = x) {A : Around} {env : Env} {α : List Addr} {s : Shared} (S : Kinds sc env) (X : HRel G α H s) (L : LRel G env α loc s.heap)
    {Q : Value → Shared → Prop} {E : Value → Shared → Prop} {P : List Value → List Addr → Shared → Prop} (ha : ∀ Q' : List Value → Shared → Prop, (∀ rs s2 α2, Ext [] α α2 s s2 → HRel G α2 H' s2 → P rs α2 s2 → Q' rs s2) → wpAny (model G.prog G.w) A (spliced (backTo pos (starEach args env))) Q' E s)
    (hc : ∀ a rs s2 α2, G.mg dr.name = some (.ref a) → Ext [] α α2 s s2 → HRel G α2 H' s2 → P rs α2 s2 → wpAny (model G.prog G.w) A (call (.ref a) rs) Q E s2) (hs : ArgsOk args pos) :
    wpAny (model G.prog G.w) A (eval (.Call (.Name x p) args [] pos) env) Q E s := by
  subst hn
  obtain ⟨a, o, pm, cd, doc, e1, e2, e3, e4⟩ := K.fns dr hd
  refine wpAny_Call_NameR (gval_use K S L X hk (.inl e1) ?_ hx)
  obtain ⟨t, ts, h1, h2⟩ := hs env
  rw [h1] at ha ⊢
  exact callWith_function (o := o) (fd := docDef dr.name dr.params dr.body dr.scope pm cd doc) (evalArgs_plain (ha _ fun rs s2 α2 x2 X2 hp => ⟨⟨X2.keep _ _ e2, e3⟩, hc a rs s2 α2 e1 x2 X2 hp⟩))
theorem LawRun.struck (K : LK G) {i o c : Nat} {page nm0 nm1 : Str} {l : List Nat} {j jn : Nat} {e5 : Expr} {rest : List Stmt} {p1 p2 p3 p4 p5 p6 p7 p8 p9 p10 p11 p12 p13 p14 p15 p16 p17 : Pos} {k1 k2 k3 : Nat} (hlt : (cutS nm1 none (some (-1))).length < nm1.length) (hnm : nm1.length ≤ 1000000)
    (ok : SkOk G d i o c (cutS nm1 none (some (-1))) page l) (g1 : loc.lookup ("hand" : Str) = some (.fn (drOf i).name)) (g2 : loc.lookup ("opens" : Str) = some (.str ⟨#[o]⟩)) (g3 : loc.lookup ("shuts" : Str) = some (.str ⟨#[c]⟩)) (g4 : loc.lookup ("names" : Str) = some (.ref jn)) (g5 : H[jn]? = some [.str nm0, .str nm1])
    (h5 : BE G (d + 11) lwN e5 loc H (.ref j) H1) (he5 : ∀ env, starEach [e5] env = [(false, eval e5 env)]) (hsig : H1[j]? = some (signsV l))
    (k : LawRun G (d + 11) rest (setL (setL (setL loc "page" (.str page)) "kept" (.ref H1.length)) "left" (.ref (H1.length + 1)))
      (H1 ++ [natsV (stIter (cutS nm1 none (some (-1))) (st0 page l) l.length).kp, natsV (stIter (cutS nm1 none (some (-1))) (st0 page l) l.length).lf])) :
    LawRun G (d + 11) (.Assign [.Tuple [.Name "page" p1, .Name "kept" p2, .Name "left" p3] k1 p4] (.Call (.Name "_law_struck" p5) [.Name "hand" p6, .Name "opens" p7, .Name "shuts" p8, .Subscript (.Subscript (.Name "names" p9) (.Constant (.int 1) k2 p10) p11) (.Slice Option.none (some (.UnaryOp .USub (.Constant (.int 1) k3 p12) p13)) Option.none p14) p15, e5] [] p16) p17 :: rest) loc H where
  run A env α s R S X L hA hf Q E hQ := by
    refine wpAny_execs_cons ?_
    refine wpAny_Assign_stores ?_ rfl ?_
    rotate_left
    · unfold swappedStores; rfl
    refine callF_raw2 (H' := H1) (P := fun rs α2 s2 => ∃ r0 t1 t2 t3 ax, rs = [r0, .str ⟨#[o]⟩ t1, .str ⟨#[c]⟩ t2, .str (cutS nm1 none (some (-1))) t3, .ref ax] ∧ VR G α2 s2.heap (.fn (drOf i).name) r0 ∧ 0 < t3 ∧ t3 < s2.toks ∧ α2[j]? = some ax) K.toGOk (K.defs 31 (by decide)) rfl rfl rfl S X L (fun Q' hq => ?_) (fun a rs s2 α2 hma x2 X2 hP => ?_) ?_
    · refine wpAny_items_cons (name_raw L g1 rfl rfl fun r0 v0 => ?_)
      refine wpAny_items_cons (name_raw L g2 rfl rfl fun r1 v1 => ?_)
      refine wpAny_items_cons (name_raw L g3 rfl rfl fun r2 v2 => ?_)
      cases v1; cases v2
      rename_i t1 t2
      refine wpAny_items_cons (Subscript_ ?_)
      refine (BE.sub (d := d + 10) (BE.var (sc := lwN) g4 rfl rfl) BE.int (item_nat2 (k := 1) g5 (by decide) rfl) rfl A env α s R S X L).out _ _ fun ra s1 α1 x1 X1 w1 => ?_
      have L1 := L.ext X x1
      refine (BE.slice (d := d + 11) (sc := lwN) (lower := Option.none) (upper := some (.UnaryOp .USub (.Constant (.int 1) k3 p12) p13)) (p := p14) (a := .none) (b := .int (-1)) ⟨rfl, rfl⟩ (neg_int2 BE.int) rfl rfl A env α1 s1 R S X1 L1).out _ _ fun rb s2 α2 x2 X2 w2 => ?_
      have w1' := w1.mono x2.pre (x2.tups0 X1)
      have L2 := L1.ext X1 x2
      obtain ⟨ops, hs⟩ := subscripted_ops (.Slice Option.none (some (.UnaryOp .USub (.Constant (.int 1) k3 p12) p13)) Option.none p14) ra rb
      refine tail_any (T := "str") (vT_is X2 rfl w1') F.slot_str_getitem.lookup (slice_fresh hnm hlt X2 w1' w2 ?_) hs
      have X3 := X2.tk
      have x3 : Ext [] α2 α2 s2 { s2 with toks := s2.toks + 1 } := Ext.tok
      have L3 := L2.ext X2 x3
      have he := he5 env
      refine wpAny_items_cons (wpAny_toks ((h5 A env α2 _ R S X3 L3).out _ _ fun r5 s4 α4 x4 X4 v5 ht4 => ?_)) ?_
      · cases v5 with
        | ref hax =>
        refine wpAny_items_nil (hq _ s4 α4 (((x1.trans x2).trans x3).trans x4) X4 ⟨r0, t1, t2, s2.toks, _, rfl, ?_, Nat.lt_of_lt_of_le K.thr X2.pos, ht4, hax⟩)
        cases v0 with
        | fn e => exact .fn e
      · exact he
    · obtain ⟨r0, t1, t2, t3, ax, rfl, hv0, ht0, ht3, hax⟩ := hP
      have L2 := L.ext X x2
      obtain ⟨mL, hmL, hmv⟩ := L2.ns
      refine struck_call K ok.hi ok.hn ok.hb ok.hpage ok.h1 ok.hf ok.hx ok.hs ok.hs' ok.hdone X2 R hmL L2.fresh hf (by rw [L2.kind]; decide) hA hv0 ht0 ht3 hax hsig hma fun t s' ka la hsame X' vt keep1 slots1 fka fla => ?_
      have L' := L2.slots (List.prefix_append α2 [ka, la]) keep1 slots1
      show wpAny _ A (PySem.assign (.Tuple [.Name "page" p1, .Name "kept" p2, .Name "left" p3] k1 p4) env (.ref t)) _ _ _
      refine (BB.tuple (d := d + 11) (sc := lwN) (BBs.name (.inl rfl) (BBs.name (.inl rfl) (BBs.name (.inl rfl) BBs.nil))) rfl (by intro _; rfl) A env _ s' _ R S X' L' vt).out _ _ fun _ s5 α5 x5 X5 L5 _ => ?_
      refine k.run A env α5 s5 R S X5 L5 hA hf Q E fun s'' hs'' hk'' => hQ s'' ?_ hk''
      obtain ⟨h1, t1', e1⟩ := x2.same
      obtain ⟨h2, t2', e2⟩ := hsame
      obtain ⟨h3, t3', e3⟩ := x5.same
      obtain ⟨h4, t4', e4⟩ := hs''
      rw [e4, e3, e2, e1]
      exact ⟨_, _, rfl⟩
    · intro env'
      refine ⟨_, _, rfl, ?_⟩
      have he := he5 env'
      have h2 : starEach [.Name "opens" p7, .Name "shuts" p8, (.Subscript (.Subscript (.Name "names" p9) (.Constant (.int 1) k2 p10) p11) (.Slice Option.none (some (.UnaryOp .USub (.Constant (.int 1) k3 p12) p13)) Option.none p14) p15), e5] env' = (false, eval (.Name "opens" p7) env') :: (false, eval (.Name "shuts" p8) env') :: (false, eval (.Subscript (.Subscript (.Name "names" p9) (.Constant (.int 1) k2 p10) p11) (.Slice Option.none (some (.UnaryOp .USub (.Constant (.int 1) k3 p12) p13)) Option.none p14) p15) env') :: starEach [e5] env' := rfl
      rw [h2, he]
      rfl
end
end Mine
end
section
open PySem PySem.Calls PyProof.Rows
set_option Elab.async false
set_option maxRecDepth 100000
namespace Mine
noncomputable def wr : Nat → List Nat
  | 0 => [38, 60, 62]
  | 1 => [38, 60, 62, 34, 13, 10, 9]
  | 2 => [38, 62, 34]
  | 3 => [38, 60, 62, 13]
  | _ => [38, 60, 34, 13, 10, 9]
noncomputable def wayOf (c0 : Nat) : Nat := c0 / 4 % 5
noncomputable def fiOf (c0 : Nat) : Nat := c0 / 20 % (wr (wayOf c0)).length
noncomputable def opn (c0 : Nat) : Nat := (wr (wayOf c0))[fiOf c0]?.getD 0
noncomputable def shi (c0 : Nat) : Nat := (fiOf c0 + 1 + c0 / 140 % ((wr (wayOf c0)).length - 1)) % (wr (wayOf c0)).length
noncomputable def shn (c0 : Nat) : Nat := (wr (wayOf c0))[shi c0]?.getD 0
noncomputable def nmOf (w c : Nat) : Str := refOf w ⟨#[c]⟩
theorem way_lt (c0 : Nat) : wayOf c0 < 5 := Nat.mod_lt _ (by decide)
theorem wr_len (w : Nat) : 3 ≤ (wr w).length ∧ (wr w).length ≤ 7 := by
  match w with
  | 0 | 1 | 2 | 3 => decide
  | n + 4 => show 3 ≤ 6 ∧ 6 ≤ 7; decide
theorem fi_lt (c0 : Nat) : fiOf c0 < (wr (wayOf c0)).length := Nat.mod_lt _ (by have := wr_len (wayOf c0); (first | lia | omega))
theorem shi_lt (c0 : Nat) : shi c0 < (wr (wayOf c0)).length := Nat.mod_lt _ (by have := wr_len (wayOf c0); (first | lia | omega))
theorem ref_ok : ∀ w < 5, ∀ c ∈ wr w, PySem.Spec.lookup (.str ⟨#[c]⟩) (lateOf w) = some (.str (nmOf w c)) ∨ (PySem.Spec.lookup (.str ⟨#[c]⟩) (lateOf w) = none ∧ PySem.Spec.lookup (.str ⟨#[c]⟩) mainD = some (.str (nmOf w c))) := by
  intro w hw c hc
  match w, hw with
  | 0, _ => simp only [wr, List.mem_cons, List.not_mem_nil, or_false] at hc; rcases hc with rfl | rfl | rfl <;> exact .inr ⟨rfl, rfl⟩
  | 1, _ => simp only [wr, List.mem_cons, List.not_mem_nil, or_false] at hc; rcases hc with rfl | rfl | rfl | rfl | rfl | rfl | rfl <;> first | exact .inr ⟨rfl, rfl⟩ | exact .inl rfl
  | 2, _ => simp only [wr, List.mem_cons, List.not_mem_nil, or_false] at hc; rcases hc with rfl | rfl | rfl <;> exact .inr ⟨rfl, rfl⟩
  | 3, _ => simp only [wr, List.mem_cons, List.not_mem_nil, or_false] at hc; rcases hc with rfl | rfl | rfl | rfl <;> first | exact .inr ⟨rfl, rfl⟩ | exact .inl rfl
  | 4, _ => simp only [wr, List.mem_cons, List.not_mem_nil, or_false] at hc; rcases hc with rfl | rfl | rfl | rfl | rfl | rfl <;> first | exact .inr ⟨rfl, rfl⟩ | exact .inl rfl
theorem opn_mem (c0 : Nat) : opn c0 ∈ wr (wayOf c0) := by
  unfold opn
  rw [List.getElem?_eq_getElem (fi_lt c0)]
  exact List.getElem_mem _
theorem shn_mem (c0 : Nat) : shn c0 ∈ wr (wayOf c0) := by
  unfold shn
  rw [List.getElem?_eq_getElem (shi_lt c0)]
  exact List.getElem_mem _
noncomputable def handL : List V := [.fn (drOf 21).name, .fn (drOf 22).name, .fn (drOf 23).name, .fn (drOf 24).name, .fn (drOf 25).name]
theorem handL_get {w : Nat} (h : w < 5) : handL[w]? = some (.fn (drOf (21 + w)).name) := by
  match w, h with
  | 0, _ => rfl
  | 1, _ => rfl
  | 2, _ => rfl
  | 3, _ => rfl
  | 4, _ => rfl
noncomputable def wrL : List V := [.str "&<>", .str "&<>\"\r\n\t", .str "&>\"", .str "&<>\r", .str "&<\"\r\n\t"]
theorem wrL_get {w : Nat} (h : w < 5) : wrL[w]? = some (sv (wr w)) := by
  match w, h with
  | 0, _ => rfl
  | 1, _ => rfl
  | 2, _ => rfl
  | 3, _ => rfl
  | 4, _ => rfl
/-- the six numbers -/
structure C6 where
  c0 : Nat
  c1 : Nat
  c2 : Nat
  c3 : Nat
  c4 : Nat
  c5 : Nat
noncomputable def C6.v (c : C6) : List V := [.int (c.c0 : Nat), .int (c.c1 : Nat), .int (c.c2 : Nat), .int (c.c3 : Nat), .int (c.c4 : Nat), .int (c.c5 : Nat)]
noncomputable def c6 (script : List Int) : C6 := ⟨cellAt script 0, cellAt script 1, cellAt script 2, cellAt script 3, cellAt script 4, cellAt script 5⟩
noncomputable def namesV (c : C6) : List V := [.str (nmOf (wayOf c.c0) (opn c.c0)), .str (nmOf (wayOf c.c0) (shn c.c0))]
noncomputable def loc1 (c : C6) : Loc := [("cells", .ref 0), ("way", .int (wayOf c.c0 : Nat)), ("hand", .fn (drOf (21 + wayOf c.c0)).name), ("written", sv (wr (wayOf c.c0))), ("opens", .str ⟨#[opn c.c0]⟩), ("shuts", .str ⟨#[shn c.c0]⟩), ("names", .ref 1), ("seven", .str "&<>\"\r\n\t")]
section
variable {G : GL} {d : Nat} {sc : List (Str × NameKind)} {loc loc' loc'' : Loc} {H H' H'' X H1 : Lists}
theorem law1 (K : LK G) (hs : G.script.length ≤ 1000000) (k : LawRun G (d + 11) ((drOf 33).body.drop 9) (loc1 (c6 G.script)) [(c6 G.script).v, namesV (c6 G.script)]) : LawRun G (d + 11) (drOf 33).body [("script", .scr)] [] := by
  have hcells : (cellsOf G.script).map (fun c => V.int (c : Nat)) = (c6 G.script).v := rfl
  have fc := f_cells (d := d + 7) K hs
  rw [hcells] at fc
  generalize c6 G.script = c at *
  have hw := way_lt c.c0
  have hwl := wr_len (wayOf c.c0)
  have pl : plainH [c.v] = true := rfl
  refine LawRun.step (loc' := [("script", .scr), ("cells", .ref 0)]) (BS.assign (BE.callF K.toGOk (K.defs 27 (by decide)) (K.fn (i := 27) (by decide) rfl rfl rfl) (BA.cons (BE.var rfl rfl rfl) BA.nil) fc) (.inl rfl)) ?_
  refine LawRun.step (loc' := [("script", .scr), ("cells", .ref 0), ("way", .int (wayOf c.c0 : Nat))]) (BS.assign (BE.bin (BE.bin (BE.sub (BE.var rfl rfl rfl) BE.int (item_nat2 (k := 0) rfl (by decide) rfl)) BE.int (div_nat2 (b := 4) (by decide) (by decide))) BE.int (mod_nat2 (b := 5) (by decide))) (.inr rfl)) ?_
  refine LawRun.step (loc' := [("script", .scr), ("cells", .ref 0), ("way", .int (wayOf c.c0 : Nat)), ("hand", .fn (drOf (21 + wayOf c.c0)).name)]) (BS.assign (BE.drop (X := [handL]) (BE.sub (BE.list (BA.cons (K.fn (i := 21) (by decide) rfl rfl rfl) (BA.cons (K.fn (i := 22) (by decide) rfl rfl rfl) (BA.cons (K.fn (i := 23) (by decide) rfl rfl rfl) (BA.cons (K.fn (i := 24) (by decide) rfl rfl rfl) (BA.cons (K.fn (i := 25) (by decide) rfl rfl rfl) BA.nil))))) (by simp))
    (BE.var rfl rfl rfl) (item_nat2 (i := 1) rfl (by (first | lia | omega)) (handL_get hw))) pl rfl) (.inl rfl)) ?_
  refine LawRun.step (loc' := [("script", .scr), ("cells", .ref 0), ("way", .int (wayOf c.c0 : Nat)), ("hand", .fn (drOf (21 + wayOf c.c0)).name), ("written", sv (wr (wayOf c.c0)))]) (BS.assign (BE.drop (X := [wrL]) (BE.sub (BE.list (BA.cons BE.str (BA.cons BE.str (BA.cons BE.str (BA.cons BE.str (BA.cons BE.str BA.nil))))) (by simp))
    (BE.var rfl rfl rfl) (item_nat2 (i := 1) (l := wrL) rfl (by (first | lia | omega)) (wrL_get hw))) pl rfl) (.inr rfl)) ?_
  refine LawRun.step (loc' := [("script", .scr), ("cells", .ref 0), ("way", .int (wayOf c.c0 : Nat)), ("hand", .fn (drOf (21 + wayOf c.c0)).name), ("written", sv (wr (wayOf c.c0))), ("first", .int (fiOf c.c0 : Nat))]) (BS.assign (BE.bin (BE.bin (BE.sub (BE.var rfl rfl rfl) BE.int (item_nat2 (k := 0) rfl (by decide) rfl)) BE.int (div_nat2 (b := 20) (by decide) (by decide))) (len_sv K rfl (by (first | lia | omega))) (mod_nat2 (by (first | lia | omega)))) (.inl rfl)) ?_
  have hfi := fi_lt c.c0
  have hshi := shi_lt c.c0
  have ho : (wr (wayOf c.c0))[fiOf c.c0]? = some (opn c.c0) := getD_of hfi
  have hsn : (wr (wayOf c.c0))[shi c.c0]? = some (shn c.c0) := getD_of hshi
  refine LawRun.step (loc' := [("script", .scr), ("cells", .ref 0), ("way", .int (wayOf c.c0 : Nat)), ("hand", .fn (drOf (21 + wayOf c.c0)).name), ("written", sv (wr (wayOf c.c0))), ("first", .int (fiOf c.c0 : Nat)), ("opens", .str ⟨#[opn c.c0]⟩)]) (BS.assign (BE.sub (BE.var rfl rfl rfl) (BE.var rfl rfl rfl) (item_sv ho (by (first | lia | omega)))) (.inl rfl)) ?_
  refine LawRun.step (loc' := [("script", .scr), ("cells", .ref 0), ("way", .int (wayOf c.c0 : Nat)), ("hand", .fn (drOf (21 + wayOf c.c0)).name), ("written", sv (wr (wayOf c.c0))), ("first", .int (fiOf c.c0 : Nat)), ("opens", .str ⟨#[opn c.c0]⟩), ("shuts", .str ⟨#[shn c.c0]⟩)])
    (BS.assign (BE.sub (BE.var rfl rfl rfl) (BE.bin (BE.bin (BE.bin (BE.var rfl rfl rfl) BE.int (add_nat2 (b := 1))) (BE.bin (BE.bin (BE.sub (BE.var rfl rfl rfl) BE.int (item_nat2 (k := 0) rfl (by decide) rfl)) BE.int (div_nat2 (b := 140) (by decide) (by decide)))
      (BE.bin (len_sv K rfl (by (first | lia | omega))) BE.int (subN2_nat (b := 1) (by (first | lia | omega)))) (mod_nat2 (by (first | lia | omega)))) add_nat2) (len_sv K rfl (by (first | lia | omega))) (mod_nat2 (by (first | lia | omega)))) (item_sv hsn (by (first | lia | omega)))) (.inl rfl)) ?_
  refine LawRun.step (H' := [c.v, namesV c]) (loc' := [("script", .scr), ("cells", .ref 0), ("way", .int (wayOf c.c0 : Nat)), ("hand", .fn (drOf (21 + wayOf c.c0)).name), ("written", sv (wr (wayOf c.c0))), ("first", .int (fiOf c.c0 : Nat)), ("opens", .str ⟨#[opn c.c0]⟩), ("shuts", .str ⟨#[shn c.c0]⟩), ("names", .ref 1)])
    (BS.assign (BE.list (BA.cons (BE.callF K.toGOk (K.defs 28 (by decide)) (K.fn (i := 28) (by decide) rfl rfl rfl) (BA.cons (BE.var rfl rfl rfl) (BA.cons (BE.var rfl rfl rfl) BA.nil)) (f_ref K (ref_ok _ hw _ (opn_mem _))))
      (BA.cons (BE.callF K.toGOk (K.defs 28 (by decide)) (K.fn (i := 28) (by decide) rfl rfl rfl) (BA.cons (BE.var rfl rfl rfl) (BA.cons (BE.var rfl rfl rfl) BA.nil)) (f_ref K (ref_ok _ hw _ (shn_mem _)))) BA.nil)) (by simp)) (.inr rfl)) ?_
  refine LawRun.step (loc' := [("script", .scr), ("cells", .ref 0), ("way", .int (wayOf c.c0 : Nat)), ("hand", .fn (drOf (21 + wayOf c.c0)).name), ("written", sv (wr (wayOf c.c0))), ("first", .int (fiOf c.c0 : Nat)), ("opens", .str ⟨#[opn c.c0]⟩), ("shuts", .str ⟨#[shn c.c0]⟩), ("names", .ref 1), ("seven", .str "&<>\"\r\n\t")]) (BS.assign BE.str (.inl rfl)) ?_
  exact LawRun.sub (loc' := loc1 c) (subL.get (l0 := loc1 c) ⟨rfl, rfl, rfl, rfl, rfl, rfl, rfl, rfl, trivial⟩) k
end
end Mine
end
section
open PySem PySem.Calls PyProof.Rows
set_option Elab.async false
set_option maxRecDepth 100000
namespace Mine
section
variable {G : GL} {d : Nat} {sc : List (Str × NameKind)} {loc loc' loc'' : Loc} {H H' H'' X H1 : Lists}
theorem shaped_map {τ : Type} (g : τ → PyData) : ∀ l : List τ, (∀ x ∈ l, (g x).canLay0 = true ∧ (g x).depth = 0) → PyData.canLayAll0 (l.map g) = true ∧ PyData.depthAll (l.map g) = 0
  | [], _ => by simp [PyData.canLayAll0, PyData.depthAll]
  | x :: l, h => by
    obtain ⟨a, b⟩ := h x List.mem_cons_self
    obtain ⟨c, e⟩ := shaped_map g l fun y hy => h y (List.mem_cons_of_mem _ hy)
    rw [List.map_cons]
    unfold PyData.canLayAll0 PyData.depthAll
    rw [a, b, c, e]
    exact ⟨rfl, rfl⟩
theorem shaped_list {τ : Type} (g : τ → PyData) (l : List τ) (h : ∀ x ∈ l, (g x).canLay0 = true ∧ (g x).depth = 0) : SeqAt.shaped (.list (l.map g)) = true := by
  obtain ⟨a, b⟩ := shaped_map g l h
  unfold SeqAt.shaped PyData.canLay0 PyData.depth
  rw [a, b]
  rfl
theorem pyofs_map {τ : Type} (f : τ → V) (g : τ → PyData) : ∀ l : List τ, (∀ x ∈ l, PyOf H (f x) (g x)) → PyOfs H (l.map f) (l.map g)
  | [], _ => .nil
  | x :: l, h => .cons (h x List.mem_cons_self) (pyofs_map f g l fun y hy => h y (List.mem_cons_of_mem _ hy))
theorem ne_same {a b : V} {x : PyData} (ha : PyOf H a x) (hb : PyOf H b x) (hs : SeqAt.shaped x = true) : Act2 G (compareOp .NotEq) a b H (.bool false) H := by
  have := ne_act (G := G) ha hb hs hs
  rw [SeqAt.eqv_refl x (SeqAt.canLay_of_shaped hs)] at this
  exact this
theorem eq_same {a b : V} {x : PyData} (ha : PyOf H a x) (hb : PyOf H b x) (hs : SeqAt.shaped x = true) : Act2 G (compareOp .Eq) a b H (.bool true) H := by
  have := eq_act (G := G) ha hb hs hs
  rw [SeqAt.eqv_refl x (SeqAt.canLay_of_shaped hs)] at this
  exact this
/-- lists of bools alike -/
theorem ne_bools {i j : Nat} {l : List Bool} (hi : H[i]? = some (l.map .bool)) (hj : H[j]? = some (l.map .bool)) : Act2 G (compareOp .NotEq) (.ref i) (.ref j) H (.bool false) H :=
  ne_same (.ref hi (pyofs_map V.bool PyData.bool l fun _ _ => .bool _)) (.ref hj (pyofs_map V.bool PyData.bool l fun _ _ => .bool _)) (shaped_list _ l fun _ _ => ⟨by unfold PyData.canLay0; rfl, by unfold PyData.depth; rfl⟩)
theorem ne_ints {i j : Nat} {l : List Nat} (hi : H[i]? = some (natsV l)) (hj : H[j]? = some (natsV l)) : Act2 G (compareOp .NotEq) (.ref i) (.ref j) H (.bool false) H :=
  ne_same (.ref hi (pyofs_map (fun n : Nat => V.int n) (fun n : Nat => PyData.int n) l fun _ _ => .int _)) (.ref hj (pyofs_map (fun n : Nat => V.int n) (fun n : Nat => PyData.int n) l fun _ _ => .int _)) (shaped_list _ l fun _ _ => ⟨by unfold PyData.canLay0; rfl, by unfold PyData.depth; rfl⟩)
theorem ne_strs {i j : Nat} {l : List Str} (hok : ∀ x ∈ l, (PyData.str x).canLay0 = true) (hi : H[i]? = some (l.map .str)) (hj : H[j]? = some (l.map .str)) : Act2 G (compareOp .NotEq) (.ref i) (.ref j) H (.bool false) H :=
  ne_same (.ref hi (pyofs_map V.str PyData.str l fun _ _ => .str _)) (.ref hj (pyofs_map V.str PyData.str l fun _ _ => .str _)) (shaped_list _ l fun x hx => ⟨hok x hx, by unfold PyData.depth; rfl⟩)
/-- a comprehension that a name takes which is no fast local -/
theorem BS.assignK {x : Str} {p p' : Pos} {value : Expr} {v : V} (h : BE G d sc value loc H v H') (hx : storable sc x)
    (hs : ∀ env, env.scope.kind = .function → Kinds sc env → swapsWith value (some (.Name x p')) p.line env = pure false) : BS G d sc (.Assign [.Name x p'] value p) loc H .next (setL loc x v) H' := by
  intro A env α s R S X L
  refine ⟨fun Q E hQ => ?_⟩
  refine wpAny_Assign_Name ((h A env α s R S X L).out _ _ fun r s1 α1 x1 X1 v1 => ?_) (hs env L.kind S)
  exact store_name X1 (L.ext X x1) v1 (S.store hx) fun s2 a ha x2 X2 L2 _ => hQ _ _ _ ((x1.mono (by simp)).trans (x2.mono (store_fp ha))) X2 L2 .next
theorem BT.or_tf {a b : Expr} {p : Pos} (h1 : BT G d sc a loc H false H') (h2 : BT G d sc b loc H' false H'') : BT G d sc (.BoolOp .Or [a, b] p) loc H false H'' := BT.or_f h1 (BT.or_f h2 BT.or_nil)
theorem sw_cell {elt iter : Expr} {x y : Str} {px py pos : Pos} {ifs : List Expr} {scope : Scope} {n : Nat} {env : Env} (h : env.kindOf y = some .cell) : swapsWith (.ListComp elt [⟨.Name x px, iter, ifs, 0⟩] scope pos) (some (.Name y py)) n env = pure false := by
  unfold swapsWith
  show pure (env.blockKind == .function && env.kindOf y == some .local && _ && _) = pure false
  rw [h]
  have : ((some NameKind.cell == some NameKind.local) : Bool) = false := by decide
  rw [this]
  simp
end
end Mine
end
section
open PySem PySem.Calls PyProof.Rows
set_option Elab.async false
set_option maxRecDepth 100000
namespace Mine
noncomputable def sevenN : List Nat := [38, 60, 62, 34, 13, 10, 9]
noncomputable def sevenOut (w : Nat) : List Str := sevenN.map fun x => if x ∈ wr w then nmOf w x else ⟨#[x]⟩
theorem seven_eq : ∀ w, w < 5 → escTo (escPairs w) (⟨sevenN.toArray⟩ : Str) = Txt.join "" (sevenOut w) := by
  intro w hw
  match w, hw with
  | 0, _ => decide +kernel
  | 1, _ => decide +kernel
  | 2, _ => decide +kernel
  | 3, _ => decide +kernel
  | 4, _ => decide +kernel
theorem rep_map (x z : Str) (c : Nat) : (Txt.replace x ⟨#[c]⟩ z).cps.toList = x.cps.toList.flatMap fun k => if k = c then z.cps.toList else [k] := by
  rw [StrLaws.replace_one]
  have h1 := StrLaws.join_split x ⟨#[c]⟩
  have h2 := StrLaws.split_free x c
  generalize Txt.split x ⟨#[c]⟩ = ps at h1 h2 ⊢
  have free : ∀ l : List Nat, c ∉ l → (l.flatMap fun k => if k = c then z.cps.toList else [k]) = l := fun l h => by
    induction l with
    | nil => rfl
    | cons a r ih =>
      have hne : ¬ a = c := fun q => h (by rw [q]; exact List.mem_cons_self)
      rw [List.flatMap_cons, if_neg hne, ih fun q => h (List.mem_cons_of_mem _ q)]; rfl
  rw [← h1]
  clear h1
  induction ps with
  | nil => rfl
  | cons p r ih =>
    have hp := h2 p List.mem_cons_self
    have ih' := ih fun q hq => h2 q (List.mem_cons_of_mem _ hq)
    cases r with
    | nil => exact (free _ hp).symm
    | cons q r' =>
      show (p ++ z ++ Str.join z (q :: r')).cps.toList = ((p ++ ⟨#[c]⟩ ++ Str.join ⟨#[c]⟩ (q :: r')).cps.toList).flatMap _
      simp only [Str.cps_append, Array.toList_append, List.flatMap_append]
      rw [free _ hp, ih']
      simp
noncomputable def escL (ps : List (Nat × Str)) (l : List Nat) : List Nat := ps.foldl (fun t p => t.flatMap fun k => if k = p.1 then p.2.cps.toList else [k]) l
theorem escTo_list : ∀ (ps : List (Nat × Str)) (x : Str), (escTo ps x).cps.toList = escL ps x.cps.toList
  | [], _ => rfl
  | p :: ps, x => by
    show (escTo ps (Txt.replace x ⟨#[p.1]⟩ p.2)).cps.toList = escL ps (x.cps.toList.flatMap _)
    rw [escTo_list ps, rep_map]
theorem escL_append : ∀ (ps : List (Nat × Str)) (a b : List Nat), escL ps (a ++ b) = escL ps a ++ escL ps b
  | [], _, _ => rfl
  | p :: ps, a, b => by
    show escL ps ((a ++ b).flatMap _) = _
    rw [List.flatMap_append, escL_append ps]; rfl
theorem escL_nil : ∀ ps : List (Nat × Str), escL ps [] = []
  | [] => rfl
  | p :: ps => escL_nil ps
theorem escL_len {ps : List (Nat × Str)} {l : List Nat} (h : ∀ c ∈ l, (escL ps [c]).length ≤ 6) : (escL ps l).length ≤ 6 * l.length := by
  induction l with
  | nil =>
    rw [escL_nil ps]; simp
  | cons c r ih =>
    rw [show c :: r = [c] ++ r from rfl, escL_append, List.length_append]
    have := ih fun x hx => h x (List.mem_cons_of_mem _ hx)
    have := h c List.mem_cons_self
    simp only [List.length_append, List.length_singleton]
    (first | lia | omega)
theorem escL_one : ∀ w, w < 5 → ∀ k, k ≤ 7 → ∀ c ∈ sevenN, (escL ((escPairs w).take k) [c]).length ≤ 6 := by decide +kernel
theorem esc_short {w : Nat} (hw : w < 5) {x : Str} (hx : ∀ c ∈ x.cps.toList, c ∈ sevenN) (hl : x.length ≤ 100000) (k : Nat) : (escTo ((escPairs w).take k) x).length ≤ 1000000 := by
  have hk : (escPairs w).take k = (escPairs w).take (min k 7) := by
    have h7 : (escPairs w).length ≤ 7 := by
      match w, hw with
      | 0, _ => decide
      | 1, _ => decide
      | 2, _ => decide
      | 3, _ => decide
      | 4, _ => decide
    by_cases h : k ≤ 7
    · rw [Nat.min_eq_left h]
    · rw [Nat.min_eq_right (by (first | lia | omega)), List.take_of_length_le (by (first | lia | omega)), List.take_of_length_le h7]
  rw [hk]
  have h1 : (escTo ((escPairs w).take (min k 7)) x).length = (escL ((escPairs w).take (min k 7)) x.cps.toList).length := by
    rw [← escTo_list]; simp [Str.length]
  rw [h1]
  have := escL_len (ps := (escPairs w).take (min k 7)) (l := x.cps.toList) fun c hc => escL_one w hw _ (Nat.min_le_right _ _) c (hx c hc)
  have h2 : x.cps.toList.length = x.length := by simp [Str.length]
  (first | lia | omega)
section
variable {G : GL} {d : Nat} {sc : List (Str × NameKind)} {loc loc' loc'' : Loc} {H H' H'' X H1 : Lists}
theorem hand_call (K : LK G) {w : Nat} (hw : w < 5) {x : Str} (hx : ∀ c ∈ x.cps.toList, c ∈ sevenN) (hl : x.length ≤ 100000) : ∀ a, G.mg (drOf (21 + w)).name = some (.ref a) → BC G (d + 3) (.ref a) [.str x] H (.str (escTo (escPairs w) x)) H := by
  have hs := esc_short hw hx hl
  match w, hw with
  | 0, _ => exact f_esc0 K hs
  | 1, _ => exact f_esc1 K hs
  | 2, _ => exact f_esc2 K hs
  | 3, _ => exact f_esc3 K hs
  | 4, _ => exact f_esc4 K hs
end
end Mine
end
section
open PySem PySem.Calls PyProof.Rows
set_option Elab.async false
set_option maxRecDepth 100000
namespace Mine
section
variable {G : GL} {d : Nat} {sc : List (Str × NameKind)} {loc loc' loc'' : Loc} {H H' H'' X H1 : Lists}
theorem hand_idx {w : Nat} (hw : w < 5) : 21 + w ∈ defIdx := by
  match w, hw with
  | 0, _ => decide
  | 1, _ => decide
  | 2, _ => decide
  | 3, _ => decide
  | 4, _ => decide
theorem names_plain (c : C6) : plainH [c.v, namesV c] = true := rfl
theorem str_map_join {τ : Type} (f : τ → Str) (n : Nat) : ∀ l : List τ, (∀ x ∈ l, (f x).length ≤ n) → ((l.map f).map (·.length)).sum ≤ n * l.length
  | [], _ => by simp
  | x :: l, h => by
    have := str_map_join f n l fun y hy => h y (List.mem_cons_of_mem _ hy)
    have h1 := h x List.mem_cons_self
    simp only [List.map_cons, List.sum_cons, List.length_cons, Nat.mul_add, Nat.mul_one]
    (first | lia | omega)
theorem seven_out_len : ∀ w, w < 5 → ((sevenOut w).map (·.length)).sum + (sevenOut w).length ≤ 1000000 := by
  intro w hw
  match w, hw with
  | 0, _ => decide +kernel
  | 1, _ => decide +kernel
  | 2, _ => decide +kernel
  | 3, _ => decide +kernel
  | 4, _ => decide +kernel
theorem law9 (K : LK G) (c : C6) : BS G (d + 11) lwN (lwSt 9) (loc1 c) [c.v, namesV c] .next (loc1 c) [c.v, namesV c] := by
  have hw := way_lt c.c0
  generalize hww : wayOf c.c0 = w at hw
  have hl : loc1 c = ([("cells", .ref 0), ("way", .int (w : Nat)), ("hand", .fn (drOf (21 + w)).name), ("written", sv (wr w)), ("opens", .str ⟨#[opn c.c0]⟩), ("shuts", .str ⟨#[shn c.c0]⟩), ("names", .ref 1), ("seven", .str ⟨sevenN.toArray⟩)] : Loc) := by
    unfold loc1; rw [hww]; rfl
  rw [hl]
  have hcall := hand_call (d := d + 8) (H := [c.v, namesV c]) (x := ⟨sevenN.toArray⟩) K hw (fun x hx => by simpa using hx) (by decide)
  rw [seven_eq w hw] at hcall
  refine BS.ifF ?_ BSs.nil
  refine BT.cast (BT.cmp (BE.callF K.toGOk (K.defs _ (hand_idx hw)) (BE.var rfl rfl rfl) (BA.cons (BE.var rfl rfl rfl) BA.nil) hcall) (BE.drop (X := [(sevenOut w).map .str]) (BE.meth BE.str m_join (BA.cons
    (BE.comp (out := (sevenOut w).map .str) (BIt.str (x := ⟨sevenN.toArray⟩) (BE.var rfl rfl rfl)) (CompR.mapE (fun v => match v with | .str ⟨#[x]⟩ => .str (if x ∈ wr w then nmOf w x else ⟨#[x]⟩) | _ => .none) trivial ?_ (fun _ => rfl) ?_) ?_ (.inl rfl) (hfree := by rfl)) BA.nil) (bc_join (i := 2) (ys := sevenOut w) rfl (by decide) (seven_out_len w hw))) (names_plain c) rfl) ne_str2) (by simp)
  · unfold sevenOut chL
    rw [List.map_map, List.map_map]; rfl
  · intro v hv
    unfold chL at hv
    rw [List.mem_map] at hv
    obtain ⟨x, hx, rfl⟩ := hv
    by_cases hm : x ∈ wr w
    · refine BE.ifT (BT.cast (BT.cmp (BE.var rfl rfl rfl) (BE.var (v := .str ⟨(wr w).toArray⟩) rfl rfl rfl) in_str2) (by rw [StrLaws.found_one]; simpa using hm)) ?_
      show BE G (d + 11) _ _ _ _ (.str (if x ∈ wr w then nmOf w x else ⟨#[x]⟩)) _
      rw [if_pos hm]
      exact BE.callF K.toGOk (K.defs 28 (by decide)) (K.fn (i := 28) (by decide) rfl rfl rfl) (BA.cons (BE.var rfl rfl rfl) (BA.cons (BE.var rfl rfl rfl) BA.nil)) (f_ref K (ref_ok _ hw _ hm))
    · refine BE.ifF (BT.cast (BT.cmp (BE.var rfl rfl rfl) (BE.var (v := .str ⟨(wr w).toArray⟩) rfl rfl rfl) in_str2) (by rw [StrLaws.found_one]; simpa using hm)) ?_
      show BE G (d + 11) _ _ _ _ (.str (if x ∈ wr w then nmOf w x else ⟨#[x]⟩)) _
      rw [if_neg hm]
      exact BE.var rfl rfl rfl
  · unfold sevenOut; rw [List.length_map, List.length_map]; decide
end
end Mine
end
section
open PySem PySem.Calls PyProof.Rows
set_option Elab.async false
set_option maxRecDepth 100000
namespace Mine
noncomputable def C6.size (c : C6) : Nat := 5 + c.c0 % 4
noncomputable def C6.mask (c : C6) : Nat := c.c2 % 2 ^ c.size
noncomputable def C6.lt (c : C6) (k : Nat) : Letter := letterOf c.c1 c.c3 k
noncomputable def C6.letV (c : C6) : List V := (lettersOf c.c0 c.c1 c.c3).map Letter.v
noncomputable def elevenN : List Nat := [173, 847, 6150, 6155, 6156, 6157, 8203, 8204, 8205, 8288, 65279]
noncomputable def hiddenN : List Nat := elevenN ++ (List.range 16).map (65024 + ·)
noncomputable def loc2 (c : C6) : Loc := [("cells", .ref 0), ("hand", .fn (drOf (21 + wayOf c.c0)).name), ("opens", .str ⟨#[opn c.c0]⟩), ("shuts", .str ⟨#[shn c.c0]⟩), ("names", .ref 1), ("letters", .ref 2), ("size", .int (c.size : Nat)), ("mask", .int (c.mask : Nat)), ("hidden", .ref 5), ("typed", .ref 6), ("due_marks", .ref 7)]
noncomputable def H5 (c : C6) : Lists := [c.v, namesV c, c.letV, natsV elevenN, rngL 65024 1 16, natsV hiddenN]
theorem let_len (c : C6) : (lettersOf c.c0 c.c1 c.c3).length = c.size := by unfold lettersOf; rw [List.length_map, List.length_range]; rfl
theorem size_le' (c : C6) : 5 ≤ c.size ∧ c.size ≤ 8 := by unfold C6.size; (first | lia | omega)
section
variable {G : GL} {d : Nat} {sc : List (Str × NameKind)} {loc loc' loc'' : Loc} {H H' H'' X H1 : Lists}
theorem law2 (K : LK G) (c : C6) (k : LawRun G (d + 11) ((drOf 33).body.drop 15) (loc2 c) (H5 c ++ [[], []])) : LawRun G (d + 11) ((drOf 33).body.drop 9) (loc1 c) [c.v, namesV c] := by
  refine LawRun.step (law9 K c) ?_
  refine LawRun.step (H' := [c.v, namesV c, c.letV]) (BS.assign (BE.callF K.toGOk (K.defs 29 (by decide)) (K.fn (i := 29) (by decide) rfl rfl rfl) (BA.cons (BE.var rfl rfl rfl) BA.nil) (f_letters K (names_plain c) (i := 0) rfl)) (.inr rfl)) ?_
  have hlen : BC G (d + 11) (.builtin "len") [.ref 2] [c.v, namesV c, c.letV] (.int (c.size : Nat)) [c.v, namesV c, c.letV] := by
    have hz := size_le' c
    have h := bc_len_list (G := G) (d := d + 10) (H := [c.v, namesV c, c.letV]) (i := 2) (l := c.letV) rfl (by unfold C6.letV; rw [List.length_map, let_len]; (first | lia | omega))
    unfold C6.letV at h ⊢
    rw [List.length_map, let_len] at h
    exact h
  refine LawRun.step (BS.assign (BE.callB K.toGOk rfl K.len (BA.cons (BE.var rfl rfl rfl) BA.nil) hlen rfl) (.inr rfl)) ?_
  refine LawRun.step (BS.assign (v := .int (c.mask : Nat)) (BE.bin (BE.sub (BE.var rfl rfl rfl) BE.int (item_nat2 (i := 0) (k := 2) rfl (by decide) rfl)) (BE.bin BE.int (BE.var rfl rfl rfl) (pow_nat2 (by have := size_le' c; (first | lia | omega)))) (mod_nat2 (by simp))) (.inr rfl)) ?_
  refine LawRun.step (H' := H5 c) (BS.assign (v := .ref 5) ?_ (.inl rfl)) ?_
  · have e : H5 c = [c.v, namesV c, c.letV, natsV elevenN, rngL 65024 1 16] ++ [natsV elevenN ++ rngL 65024 1 16] := rfl
    rw [e]
    refine BE.bin (H' := [c.v, namesV c, c.letV, natsV elevenN]) (H'' := [c.v, namesV c, c.letV, natsV elevenN, rngL 65024 1 16]) (a := .ref 3) (b := .ref 4) ?_ ?_ (add_list2 (i := 3) (j := 4) rfl rfl (by decide))
    · refine BE.list (vs := natsV elevenN) (BA.ints (ns := [173, 847, 6150, 6155, 6156, 6157, 8203, 8204, 8205, 8288, 65279]) ?_ ?_) (by decide)
      · rfl
      · rfl
    · exact BE.listRange (a := 65024) (b := 65040) (c := 1) (n := 16) K.toGOk (BRng.two K.toGOk rfl K.range (BA.cons BE.int (BA.cons BE.int BA.nil))) rfl K.list (by decide) (by decide) (by decide)
  refine LawRun.step (BS.assignTuple (v := .tup [.ref 6, .ref 7]) (BE.tuple (BA.cons (BE.list BA.nil) (BA.cons (BE.list BA.nil) BA.nil)) (by simp)) (BB.tuple (BBs.name (.inr rfl) (BBs.name (.inl rfl) BBs.nil)) rfl (by intro _; rfl)) (by intro _; rfl) ?_) ?_
  · intro env h S
    have hb : env.blockKind = .function := by unfold Env.blockKind; rw [h]; rfl
    have h2 := (S.cell "typed" rfl).1
    have h3 := S.loc "due_marks" rfl
    have n1 : ((some NameKind.cell == some NameKind.local) : Bool) = false := by decide
    unfold swappedStores
    simp only [hb, List.filterMap, h2, h3, n1]
    rfl
  exact LawRun.sub (loc' := loc2 c) (subL.get (l0 := loc2 c) ⟨rfl, rfl, rfl, rfl, rfl, rfl, rfl, rfl, rfl, rfl, rfl, trivial⟩) k
end
end Mine
end
section
open PySem PySem.Calls PyProof.Rows
set_option Elab.async false
set_option maxRecDepth 100000
namespace Mine
noncomputable def hidB (c : C6) (k : Nat) : Bool := decide (c.c4 / 2 ^ k % 2 = 1)
noncomputable def hidS (c : C6) (k : Nat) : Nat := hiddenN[(c.c4 / 256 + k) % 27]?.getD 0
noncomputable def sgOf (c : C6) (m k : Nat) : Nat := if m / 2 ^ k % 2 = 0 then (c.lt k).small else (c.lt k).great
noncomputable def typ1 (c : C6) (k : Nat) : List Nat := (if hidB c k = true then [hidS c k] else []) ++ [sgOf c c.mask k]
noncomputable def due1 (c : C6) (k : Nat) : List Bool := (if hidB c k = true then [true] else []) ++ [false]
noncomputable def typedN (c : C6) (n : Nat) : List Nat := (List.range n).flatMap (typ1 c)
noncomputable def dueB (c : C6) (n : Nat) : List Bool := (List.range n).flatMap (due1 c)
theorem typed_len (c : C6) : ∀ n, (typedN c n).length ≤ 2 * n ∧ (dueB c n).length = (typedN c n).length
  | 0 => ⟨Nat.le_refl _, rfl⟩
  | n + 1 => by
    obtain ⟨h1, h2⟩ := typed_len c n
    unfold typedN dueB at *
    rw [List.range_succ, List.flatMap_append, List.flatMap_append, List.length_append, List.length_append]
    simp only [List.flatMap_cons, List.flatMap_nil, List.append_nil]
    have h3 : (typ1 c n).length ≤ 2 ∧ (due1 c n).length = (typ1 c n).length := by
      unfold typ1 due1
      cases hidB c n <;> simp
    (first | lia | omega)
theorem letV_get (c : C6) {k : Nat} (h : k < c.size) : c.letV[k]? = some (c.lt k).v := by
  unfold C6.letV lettersOf
  rw [List.getElem?_map, List.getElem?_map, List.getElem?_range (by exact h)]; rfl
theorem letter_item (l : Letter) (b : Nat) (hb : b < 2) : ([.str ⟨#[l.small]⟩, .str ⟨#[l.great]⟩, .int (l.price : Nat)] : List V)[b]? = some (.str ⟨#[if b = 0 then l.small else l.great]⟩) := by
  match b, hb with
  | 0, _ => rfl
  | 1, _ => rfl
theorem hid_le (i : Nat) : hiddenN[i]?.getD 0 ≤ 70000 := by
  by_cases h : i < hiddenN.length
  · have : ∀ x ∈ hiddenN, x ≤ 70000 := by decide
    rw [List.getElem?_eq_getElem h]; exact this _ (List.getElem_mem h)
  · rw [List.getElem?_eq_none (by (first | lia | omega))]; decide
section
variable {G : GL} {d : Nat} {sc : List (Str × NameKind)} {loc loc' loc'' : Loc} {H H' H'' X H1 : Lists}
noncomputable def H15 (c : C6) (n : Nat) : Lists := H5 c ++ [signsV (typedN c n), (dueB c n).map .bool]
theorem law15 (K : LK G) (c : C6) : BS G (d + 11) lwN (lwSt 15) (loc2 c) (H15 c 0) .next (loc2 c) (H15 c c.size) := by
  have hz := size_le' c
  have key := BS.forGo (p := match lwSt 15 with | .For _ _ _ _ p => p | _ => default) (target := match lwSt 15 with | .For t _ _ _ _ => t | _ => .Constant .none 0 default) (iter := match lwSt 15 with | .For _ t _ _ _ => t | _ => .Constant .none 0 default) (body := match lwSt 15 with | .For _ _ b _ _ => b | _ => [])
    (G := G) (d := d + 11) (sc := lwN) (src := fun _ => True) (vs := rngL 0 1 c.size) (loc := loc2 c) (fun _ => loc2 c) (fun i => H15 c i) ⟨rfl, rfl, rfl, rfl, rfl, rfl, rfl, rfl, rfl, rfl, rfl, trivial⟩ rfl (BIt.range (b := (c.size : Nat)) (BRng.one K.toGOk rfl K.range (BA.cons (BE.var rfl rfl rfl) BA.nil)) (rng_small (by (first | lia | omega))) rng_size) (fun _ => trivial) ?_
  · rw [rngL_len] at key
    exact key
  · intro k v hv
    obtain ⟨hk, rfl⟩ := rngN_get hv
    have hnz : 2 ^ k ≠ 0 := by simp
    have hsm : 2 ^ k < 1073741824 := Nat.lt_of_lt_of_le (Nat.pow_lt_pow_right (by decide) (show k < 10 by (first | lia | omega))) (by decide)
    obtain ⟨tl1, tl2⟩ := typed_len c k
    have hlet := letV_get c hk
    have hb2 : c.mask / 2 ^ k % 2 < 2 := Nat.mod_lt _ (by decide)
    have hitem := letter_item (c.lt k) (c.mask / 2 ^ k % 2) hb2
    have hH : H15 c (k + 1) = H5 c ++ [signsV (typedN c k) ++ signsV (typ1 c k), (dueB c k).map .bool ++ (due1 c k).map .bool] := by
      unfold H15 typedN dueB signsV
      rw [List.range_succ, List.flatMap_append, List.flatMap_append, List.map_append, List.map_append]
      simp only [List.flatMap_cons, List.flatMap_nil, List.append_nil]
    rw [hH]
    have e1 : (signsV (typedN c k)).length ≤ 1000 := by unfold signsV; rw [List.length_map]; (first | lia | omega)
    have e2 : ((dueB c k).map V.bool).length ≤ 1000 := by rw [List.length_map]; (first | lia | omega)
    refine ⟨_, _, ("cells", .ref 0) :: ("hand", .fn (drOf (21 + wayOf c.c0)).name) :: ("opens", .str ⟨#[opn c.c0]⟩) :: ("shuts", .str ⟨#[shn c.c0]⟩) :: ("names", .ref 1) :: ("letters", .ref 2) :: ("size", .int (c.size : Nat)) :: ("mask", .int (c.mask : Nat)) :: ("hidden", .ref 5) :: ("typed", .ref 6) :: ("due_marks", .ref 7) :: [("k", .int (k : Nat))], BB.name (.inl rfl), ?_, subL.get (l0 := loc2 c) ⟨rfl, rfl, rfl, rfl, rfl, rfl, rfl, rfl, rfl, rfl, rfl, trivial⟩⟩
    by_cases hh : c.c4 / 2 ^ k % 2 = 1
    · have et : signsV (typ1 c k) = [.str ⟨#[hidS c k]⟩] ++ [.str ⟨#[sgOf c c.mask k]⟩] := by unfold typ1 hidB; rw [if_pos (by simpa using hh)]; rfl
      have ed : (due1 c k).map V.bool = [.bool true] ++ [.bool false] := by unfold due1 hidB; rw [if_pos (by simpa using hh)]; rfl
      have hhid : (natsV hiddenN)[(c.c4 / 256 + k) % 27]? = some (.int (hidS c k : Nat)) := by
        unfold natsV
        rw [List.getElem?_map, getD_of (show (c.c4 / 256 + k) % 27 < hiddenN.length from Nat.mod_lt _ (by decide))]; rfl
      rw [et, ed, ← List.append_assoc, ← List.append_assoc]
      refine BSs.cons (BS.iteT (BT.cmp (BE.bin (BE.bin (BE.sub (BE.var rfl rfl rfl) BE.int (item_nat2 (i := 0) (k := 4) rfl (by decide) rfl)) (BE.bin BE.int (BE.var rfl rfl rfl) (pow_nat2 (by (first | lia | omega)))) (div_nat2 hnz hsm)) BE.int (mod_nat2 (b := 2) (by decide))) BE.int (eq_nat2 (b := 1))) (by simpa using hh) (BSs.cons (BS.exprNone (BE.meth (BE.var rfl rfl rfl) m_append (BA.cons (BE.callB K.toGOk rfl K.chr (BA.cons (BE.sub (BE.var rfl rfl rfl) (BE.bin (BE.bin (BE.bin (BE.sub (BE.var rfl rfl rfl) BE.int (item_nat2 (i := 0) (k := 4) rfl (by decide) rfl)) BE.int (div_nat2 (b := 256) (by decide) (by decide))) (BE.var rfl rfl rfl) add_nat2) BE.int (mod_nat2 (b := 27) (by decide)))
        (item_nat2 (i := 5) rfl (by (first | lia | omega)) hhid)) BA.nil) (bc_chr_nat (by have := hid_le ((c.c4 / 256 + k) % 27); unfold hidS; (first | lia | omega))) rfl) BA.nil) (bc_append (i := 6) rfl (by (first | lia | omega)))))
        (BSs.cons (BS.exprNone (BE.meth (BE.var rfl rfl rfl) m_append (BA.cons BE.bool BA.nil) (bc_append (i := 7) rfl (by (first | lia | omega))))) BSs.nil))) ?_
      refine BSs.cons (BS.exprNone (BE.meth (BE.var rfl rfl rfl) m_append (BA.cons (BE.sub (BE.sub (BE.var rfl rfl rfl) (BE.var rfl rfl rfl) (item_nat2 (i := 2) rfl (by (first | lia | omega)) hlet)) (BE.bin (BE.bin (BE.var rfl rfl rfl) (BE.bin BE.int (BE.var rfl rfl rfl) (pow_nat2 (by (first | lia | omega)))) (div_nat2 hnz hsm)) BE.int (mod_nat2 (b := 2) (by decide))) (itemT_nat2 (by (first | lia | omega)) hitem)) BA.nil) (bc_append (i := 6) rfl (by rw [List.length_append]; simp; (first | lia | omega))))) ?_
      exact BSs.cons (BS.exprNone (BE.meth (BE.var rfl rfl rfl) m_append (BA.cons BE.bool BA.nil) (bc_append (i := 7) rfl (by rw [List.length_append]; simp; simp at e2; (first | lia | omega))))) BSs.nil
    · have et : signsV (typ1 c k) = [.str ⟨#[sgOf c c.mask k]⟩] := by unfold typ1 hidB; rw [if_neg (by simpa using hh)]; rfl
      have ed : (due1 c k).map V.bool = [.bool false] := by unfold due1 hidB; rw [if_neg (by simpa using hh)]; rfl
      rw [et, ed]
      refine BSs.cons (BS.iteF (BT.cmp (BE.bin (BE.bin (BE.sub (BE.var rfl rfl rfl) BE.int (item_nat2 (i := 0) (k := 4) rfl (by decide) rfl)) (BE.bin BE.int (BE.var rfl rfl rfl) (pow_nat2 (by (first | lia | omega)))) (div_nat2 hnz hsm)) BE.int (mod_nat2 (b := 2) (by decide))) BE.int (eq_nat2 (b := 1))) (by simpa using hh) BSs.nil) ?_
      refine BSs.cons (BS.exprNone (BE.meth (BE.var rfl rfl rfl) m_append (BA.cons (BE.sub (BE.sub (BE.var rfl rfl rfl) (BE.var rfl rfl rfl) (item_nat2 (i := 2) rfl (by (first | lia | omega)) hlet)) (BE.bin (BE.bin (BE.var rfl rfl rfl) (BE.bin BE.int (BE.var rfl rfl rfl) (pow_nat2 (by (first | lia | omega)))) (div_nat2 hnz hsm)) BE.int (mod_nat2 (b := 2) (by decide))) (itemT_nat2 (by (first | lia | omega)) hitem)) BA.nil) (bc_append (i := 6) rfl (by (first | lia | omega))))) ?_
      exact BSs.cons (BS.exprNone (BE.meth (BE.var rfl rfl rfl) m_append (BA.cons BE.bool BA.nil) (bc_append (i := 7) rfl (by (first | lia | omega))))) BSs.nil
end
end Mine
end
section
open PySem PySem.Calls PyProof.Rows
set_option Elab.async false
set_option maxRecDepth 100000
namespace Mine
noncomputable def sigs (c : C6) (m : Nat) : List Nat := (List.range c.size).map (sgOf c m)
noncomputable def smalls (c : C6) : List Nat := (List.range c.size).map fun k => (c.lt k).small
/-- what the tables answer for the signs at hand -/
structure LF (G : GL) (c : C6) : Prop where
  hid : ∀ x ∈ hiddenN, G.b1S (x : Nat) = true
  small : ∀ k < c.size, G.b1S ((c.lt k).small : Nat) = false
  great : ∀ k < c.size, G.b1S ((c.lt k).great : Nat) = false
  b3s : ∀ k < c.size, mapB3 G.b3D (c.lt k).small = ⟨#[(c.lt k).small]⟩ ∧ (b3get G.b3D (c.lt k).small).isSome = true
  b3g : ∀ k < c.size, mapB3 G.b3D (c.lt k).great = ⟨#[(c.lt k).small]⟩ ∧ (b3get G.b3D (c.lt k).great).isSome = true
  low : ∀ k < c.size, (Txt.lower ⟨#[(c.lt k).small]⟩).length ≤ 1000000 ∧ (Txt.lower ⟨#[(c.lt k).great]⟩).length ≤ 1000000
  lowh : ∀ x ∈ hiddenN, (Txt.lower ⟨#[x]⟩).length ≤ 1000000
theorem hidS_mem (c : C6) (k : Nat) : hidS c k ∈ hiddenN := by
  unfold hidS
  have h : (c.c4 / 256 + k) % 27 < hiddenN.length := Nat.mod_lt _ (by decide)
  rw [List.getElem?_eq_getElem h]
  exact List.getElem_mem h
section
variable {G : GL} {d : Nat} {sc : List (Str × NameKind)} {loc loc' loc'' : Loc} {H H' H'' X H1 : Lists}
theorem LF.sg {c : C6} (F : LF G c) {m k : Nat} (hk : k < c.size) : G.b1S (sgOf c m k : Nat) = false ∧ mapB3 G.b3D (sgOf c m k) = ⟨#[(c.lt k).small]⟩ ∧ (b3get G.b3D (sgOf c m k)).isSome = true ∧ (Txt.lower ⟨#[sgOf c m k]⟩).length ≤ 1000000 := by
  unfold sgOf
  split
  · exact ⟨F.small k hk, (F.b3s k hk).1, (F.b3s k hk).2, (F.low k hk).1⟩
  · exact ⟨F.great k hk, (F.b3g k hk).1, (F.b3g k hk).2, (F.low k hk).2⟩
theorem marks_eq {c : C6} (F : LF G c) : ∀ n, n ≤ c.size → (typedN c n).map (fun x : Nat => G.b1S (x : Nat)) = dueB c n
  | 0, _ => rfl
  | n + 1, h => by
    have ih := marks_eq F n (by (first | lia | omega))
    unfold typedN dueB at *
    rw [List.range_succ, List.flatMap_append, List.flatMap_append, List.map_append, ih]
    simp only [List.flatMap_cons, List.flatMap_nil, List.append_nil]
    congr 1
    unfold typ1 due1
    have h1 := (F.sg (m := c.mask) (show n < c.size by (first | lia | omega))).1
    have h2 := F.hid _ (hidS_mem c n)
    cases hidB c n <;> simp [h1, h2]
theorem sel_zip (T : List Nat) (D : List Bool) (h : D.length = T.length) : ((List.range T.length).filter fun k => !(D[k]?.getD false)).map (fun k => T[k]?.getD 0) = ((T.zip D).filter fun p => !p.2).map (·.1) := by
  have e : T.zip D = (List.range T.length).map fun k => (T[k]?.getD 0, D[k]?.getD false) := by
    apply List.ext_getElem
    · simp [h]
    · intro i h1 h2
      simp at h1 h2
      simp [List.getElem?_eq_getElem h2, List.getElem?_eq_getElem (h ▸ h2)]
  rw [e, List.filter_map, List.map_map]; rfl
theorem sel_typed (c : C6) : ∀ n, (((typedN c n).zip (dueB c n)).filter fun p => !p.2).map (·.1) = (List.range n).map (sgOf c c.mask)
  | 0 => rfl
  | n + 1 => by
    have ih := sel_typed c n
    have hl := (typed_len c n).2
    unfold typedN dueB at *
    rw [List.range_succ, List.flatMap_append, List.flatMap_append, List.zip_append hl.symm, List.filter_append, List.map_append, List.map_append, ih]
    simp only [List.flatMap_cons, List.flatMap_nil, List.append_nil]
    congr 1
    unfold typ1 due1
    cases hidB c n <;> rfl
theorem str_ext {a b : Str} (h : a.cps.toList = b.cps.toList) : a = b := by
  cases a; cases b
  simp only at h
  congr 1
  exact Array.ext' h
theorem join_signs : ∀ l : List Nat, Txt.join "" (l.map fun c => (⟨#[c]⟩ : Str)) = ⟨l.toArray⟩ := by
  intro l
  show Builtin.Str.glued "" _ = _
  rw [StrLaws.glued_eq_join]
  induction l with
  | nil => rfl
  | cons c r ih =>
    cases r with
    | nil => rfl
    | cons b r' =>
      show (⟨#[c]⟩ : Str) ++ "" ++ Str.join "" (((b :: r').map fun c => (⟨#[c]⟩ : Str))) = _
      rw [ih]
      apply str_ext
      rw [Str.cps_append, Str.cps_append, Array.toList_append, Array.toList_append]
      rfl
noncomputable def loc3 (c : C6) : Loc := [("cells", .ref 0), ("hand", .fn (drOf (21 + wayOf c.c0)).name), ("opens", .str ⟨#[opn c.c0]⟩), ("shuts", .str ⟨#[shn c.c0]⟩), ("names", .ref 1), ("letters", .ref 2), ("size", .int (c.size : Nat)), ("mask", .int (c.mask : Nat)), ("typed", .ref 6), ("signs", .ref 9), ("word", sv (sigs c c.mask)), ("ready", sv (smalls c))]
noncomputable def H22 (c : C6) : Lists := H15 c c.size ++ [(dueB c c.size).dropLast.map .bool, signsV (sigs c c.mask)]
theorem ne_empties : Act2 G (compareOp .NotEq) (.ref H.length) (.ref (H ++ [([] : List V)]).length) (H ++ [[]] ++ [[]]) (.bool false) (H ++ [[]] ++ [[]]) := ne_same (.ref (l := []) (by simp) .nil) (.ref (l := []) (by simp) .nil) rfl
theorem BT.drop2 {e : Expr} {b : Bool} {x y : List V} (h : BT G d sc e loc H b (H ++ [x] ++ [y])) (hp : plainH H = true) : BT G d sc e loc H b H := by
  rw [List.append_assoc] at h; exact h.drop hp
theorem H15_plain (c : C6) (n : Nat) : plainH (H15 c n) = true := by
  unfold H15
  refine plainH_app ?_ ?_
  · unfold H5 plainH
    simp only [List.all_cons, List.all_nil, Bool.and_true, Bool.and_eq_true]
    exact ⟨rfl, rfl, plainVs_map (fun _ => rfl) _, rfl, rfl, rfl⟩
  · unfold plainH
    simp only [List.all_cons, List.all_nil, Bool.and_true, Bool.and_eq_true]
    exact ⟨plainVs_map (fun _ => rfl) _, plainVs_map (fun _ => rfl) _⟩
theorem bools_plain (l : List Bool) : plainH [l.map V.bool] = true := by
  unfold plainH
  simp only [List.all_cons, List.all_nil, Bool.and_true]
  exact plainVs_map (fun _ => rfl) _
theorem len_list (K : LK G) {p1 p2 pos : Pos} {x : Str} {i n : Nat} {l : List V} (hx : loc.lookup x = some (.ref i)) (hl : H[i]? = some l) (hn : l.length = n) (hb : n ≤ 1000000) (hk : sc.lookup ("len" : Str) = some .globalImplicit := by rfl)
    (hd : (x == ("__debug__" : Str)) = false := by decide) (hc : (x == ("__classdict__" : Str)) = false := by decide) : BE G (d + 2) sc (.Call (.Name "len" p1) [.Name x p2] [] pos) loc H (.int (n : Nat)) H := by
  subst hn
  exact BE.callB K.toGOk hk K.len (BA.cons (BE.var hx hd hc) BA.nil) (bc_len_list hl hb) rfl
theorem law16 (K : LK G) (c : C6) (F : LF G c) (k : LawRun G (d + 11) ((drOf 33).body.drop 18) (loc2 c ++ ([("marks", .ref 8)] : Loc)) (H15 c c.size ++ [(dueB c c.size).map .bool])) : LawRun G (d + 11) ((drOf 33).body.drop 16) (loc2 c) (H15 c c.size) := by
  have hz := size_le' c
  obtain ⟨tl1, tl2⟩ := typed_len c c.size
  have hm := marks_eq F c.size (Nat.le_refl _)
  refine LawRun.step (H' := H15 c c.size ++ [(dueB c c.size).map .bool]) (loc' := loc2 c ++ ([("marks", .ref 8)] : Loc)) (BS.assignK (BE.comp (out := (dueB c c.size).map .bool) (BIt.list (BE.var rfl rfl rfl) (j := 6) (l := signsV (typedN c c.size)) rfl) (CompR.mapE (fun v => match v with | .str ⟨#[x]⟩ => .bool (G.b1S (x : Nat)) | _ => .none) rfl ?_ (fun _ => rfl) ?_) ?_ (.inl rfl) (hfree := by rfl)) (.inr rfl) (fun env _ S => sw_cell (S.cell "marks" rfl).1)) ?_
  · rw [← hm]; unfold signsV; rw [List.map_map, List.map_map]; rfl
  · intro v hv
    unfold signsV at hv
    rw [List.mem_map] at hv
    obtain ⟨x, hx, rfl⟩ := hv
    exact BE.callF K.toGOk (K.defs 10 (by decide)) (K.fn (i := 10) (by decide) rfl rfl rfl) (BA.cons (BE.var rfl rfl rfl) BA.nil) (f_b1 K)
  · rw [List.length_map]; (first | lia | omega)
  refine LawRun.step (BS.ifF (BT.drop2 (BT.or_tf (BT.cmp (BE.var rfl rfl rfl) (BE.var rfl rfl rfl) (ne_bools (i := 8) (j := 7) (l := dueB c c.size) rfl rfl)) (BT.cmp (BE.comp (out := []) (BIt.list (BE.var rfl rfl rfl) (j := 8) (l := (dueB c c.size).map .bool) rfl) ?_ (by simp) (.inl rfl) (hfree := by rfl)) (BE.list BA.nil) ne_empties)) (plainH_app (H15_plain c _) (bools_plain _))) BSs.nil) k
  have hf : (((dueB c c.size).map V.bool).filter (fun _ => false)).map id = [] := by simp
  rw [← hf]
  refine CompR.filter id (fun _ => false) ?_ (fun _ => rfl) (fun v hv => ?_) (fun v hv hb => nomatch hb)
  · rfl
  rw [List.mem_map] at hv
  obtain ⟨x, hx, rfl⟩ := hv
  exact BT.cast (BT.cmp (BE.callT K.toGOk rfl K.type (BA.cons (BE.var rfl rfl rfl) BA.nil) (bc_type rfl) rfl) (K.ty (x := "bool") (T := "bool") (by decide +kernel) rfl rfl) isNot_ty2) (by decide)
end
end Mine
end
section
open PySem PySem.Calls PyProof.Rows
set_option Elab.async false
set_option maxRecDepth 100000
namespace Mine
section
variable {G : GL} {d : Nat} {sc : List (Str × NameKind)} {loc loc' loc'' : Loc} {H H' H'' X H1 : Lists}
theorem erase_last {τ : Type} : ∀ l : List τ, l.eraseIdx (l.length - 1) = l.dropLast
  | [] => rfl
  | [x] => rfl
  | x :: y :: l => by
    have := erase_last (y :: l)
    simp only [List.length_cons, Nat.add_sub_cancel] at this ⊢
    rw [List.eraseIdx_cons_succ, this]; rfl
theorem signs_plain (l : List Nat) : plainVs (signsV l) = true := plainVs_map (fun _ => rfl) _
theorem BT.dropM {e : Expr} {b : Bool} (h : BT G d sc e loc H b (H' ++ X)) (hl : H'.length = H.length) (hp : plainH H' = true) : BT G d sc e loc H b H' := by
  intro A env α s R S Y L
  refine ⟨fun Q E hQ => ?_⟩
  exact (h A env α s R S Y L).out Q E fun r s' α' x y z => hQ r s' α x.cut (y.sel (by rw [Y.len, hl]) Y.nd (fun i a l h1 h2 => ⟨i, pre_get x.pre h1, by rw [List.getElem?_append_left (List.getElem?_eq_some_iff.mp h2).1]; exact h2⟩) hp) z
theorem signs_strs (l : List Nat) : signsV l = (l.map fun c => (⟨#[c]⟩ : Str)).map .str := by unfold signsV; rw [List.map_map]; rfl
theorem signs_sum : ∀ l : List Nat, (((l.map fun c => (⟨#[c]⟩ : Str))).map (·.length)).sum = l.length
  | [] => rfl
  | c :: l => by
    have := signs_sum l
    simp only [List.map_cons, List.sum_cons, this, List.length_cons]
    show 1 + l.length = _
    (first | lia | omega)
/-- a row of signs joined -/
theorem join_row {i : Nat} {l : List Nat} (hl : H[i]? = some (signsV l)) (hn : l.length ≤ 1000) : BC G (d + 1) (.builtin "str.join") [.str "", .ref i] H (sv l) H := by
  have := bc_join (G := G) (d := d) (H := H) (sep := "") (i := i) (ys := l.map fun c => (⟨#[c]⟩ : Str)) (by rw [hl, signs_strs]) (by decide) (by rw [signs_sum, List.length_map]; (first | lia | omega))
  rw [join_signs] at this
  exact this
theorem law18 (K : LK G) (c : C6) (F : LF G c) (k : LawRun G (d + 11) ((drOf 33).body.drop 23) (loc3 c) (H22 c)) : LawRun G (d + 11) ((drOf 33).body.drop 18) (loc2 c ++ ([("marks", .ref 8)] : Loc)) (H15 c c.size ++ [(dueB c c.size).map .bool]) := by
  have hz := size_le' c
  obtain ⟨tl1, tl2⟩ := typed_len c c.size
  have hsel : ((rngL 0 1 (typedN c c.size).length).filter fun v => match v with | .int i => !((dueB c c.size)[i.toNat]?.getD false) | _ => false).map (fun v => match v with | .int i => V.str ⟨#[(typedN c c.size)[i.toNat]?.getD 0]⟩ | _ => .none) = signsV (sigs c c.mask) := by
    rw [rng_nats]
    unfold natsV
    rw [List.filter_map, List.map_map]
    have h1 := sel_zip (typedN c c.size) (dueB c c.size) tl2
    rw [sel_typed] at h1
    unfold signsV sigs
    rw [← h1, List.map_map]
    rfl
  have spl := plainH_app (H15_plain c c.size) (bools_plain (dueB c c.size))
  have lt : (signsV (typedN c c.size)).length = (typedN c c.size).length := by unfold signsV; rw [List.length_map]
  refine LawRun.step (H' := H15 c c.size ++ [(dueB c c.size).map .bool, signsV (sigs c c.mask)]) (loc' := loc2 c ++ ([("marks", .ref 8), ("signs", .ref 9)] : Loc)) (BS.assignK (BE.comp (out := signsV (sigs c c.mask)) (H'' := H15 c c.size ++ [(dueB c c.size).map .bool]) (BIt.range (b := ((typedN c c.size).length : Nat)) (BRng.one K.toGOk rfl K.range (BA.cons (len_list K (i := 6) rfl rfl lt (by (first | lia | omega))) BA.nil)) (rng_small (by (first | lia | omega))) rng_size) ?_ ?_ (.inl rfl) (hfree := by rfl)) (.inr rfl) (fun env _ S => sw_cell (S.cell "signs" rfl).1)) ?_
  · rw [← hsel]
    refine CompR.filter (fun v => match v with | .int i => V.str ⟨#[(typedN c c.size)[i.toNat]?.getD 0]⟩ | _ => .none) (fun v => match v with | .int i => !((dueB c c.size)[i.toNat]?.getD false) | _ => false) ?_ (fun _ => rfl) (fun v hv => ?_) (fun v hv hb => ?_)
    · trivial
    · obtain ⟨i, hi, rfl⟩ := rngL_mem hv
      have hi' : i < (dueB c c.size).length := by (first | lia | omega)
      have hg : ((dueB c c.size).map V.bool)[i]? = some (.bool ((dueB c c.size)[i]?.getD false)) := by
        rw [List.getElem?_map, List.getElem?_eq_getElem hi']; rfl
      simp only [Int.zero_add, Int.mul_one, Int.toNat_natCast]
      exact BT.not (BT.val (BE.sub (BE.var rfl rfl rfl) (BE.var rfl rfl rfl) (item_nat2 (i := 8) rfl (by (first | lia | omega)) hg)) tru_bool)
    · obtain ⟨i, hi, rfl⟩ := rngL_mem hv
      have hg : (signsV (typedN c c.size))[i]? = some (.str ⟨#[(typedN c c.size)[i]?.getD 0]⟩) := by
        unfold signsV
        rw [List.getElem?_map, getD_of hi]; rfl
      simp only [Int.zero_add, Int.mul_one, Int.toNat_natCast]
      exact BE.sub (BE.var rfl rfl rfl) (BE.var rfl rfl rfl) (item_nat2 (i := 6) rfl (by (first | lia | omega)) hg)
  · unfold signsV sigs; rw [List.length_map, List.length_map, List.length_range]; (first | lia | omega)
  have hdl : ((dueB c c.size).map V.bool).eraseIdx ((typedN c c.size).length - 1) = (dueB c c.size).dropLast.map .bool := by
    rw [← tl2, ← List.length_map (f := V.bool), erase_last, List.map_dropLast]
  have hpos : 0 < (typedN c c.size).length := by
    have : (typedN c c.size) ≠ [] := by
      unfold typedN
      obtain ⟨n, hn⟩ : ∃ n, c.size = n + 1 := ⟨c.size - 1, by (first | lia | omega)⟩
      rw [hn, List.range_succ, List.flatMap_append]
      simp [typ1]
    exact List.length_pos_iff.mpr this
  have hdel : ActU G delItemOf [.ref 8, .int ((typedN c c.size).length - 1 : Nat)] (H15 c c.size ++ [(dueB c c.size).map .bool, signsV (sigs c c.mask)]) (H22 c) := by
    have := delNat (G := G) (H := H15 c c.size ++ [(dueB c c.size).map .bool, signsV (sigs c c.mask)]) (i := 8) (l := (dueB c c.size).map .bool) (k := (typedN c c.size).length - 1) rfl (by rw [List.length_map]; (first | lia | omega)) (by rw [List.length_map]; (first | lia | omega))
    rw [hdl] at this
    exact this
  have h22 : plainH (H22 c) = true := by
    refine plainH_app (H15_plain c c.size) ?_
    unfold plainH
    simp only [List.all_cons, List.all_nil, Bool.and_true, Bool.and_eq_true]
    exact ⟨plainVs_map (fun _ => rfl) _, signs_plain _⟩
  refine LawRun.step (H' := H22 c) (BS.ifF (BT.dropM (H' := H22 c) (X := [(dueB c c.size).dropLast.map .bool]) (BT.or_tf (BT.cmp (BE.callF K.toGOk (K.defs 5 (by decide)) (K.fn (i := 5) (by decide) rfl rfl rfl) (BA.cons (BE.var rfl rfl rfl) (BA.cons (BE.bin (len_list K (i := 6) rfl rfl lt (by (first | lia | omega))) BE.int (subN2_nat (b := 1) hpos)) BA.nil)) (f_delitem K hdel)) BE.none isNot_none2)
    (BT.cmp (BE.var rfl rfl rfl) ?_ (ne_bools (i := 8) (j := 10) (l := (dueB c c.size).dropLast) rfl rfl))) rfl h22) BSs.nil) ?_
  · have e : H22 c ++ [(dueB c c.size).dropLast.map .bool] = H22 c ++ [cutL ((dueB c c.size).map V.bool) none (some (-1))] := by rw [cutL_init, List.map_dropLast]
    rw [e]
    exact BE.sub (BE.var rfl rfl rfl) (BE.slice (a := .none) (b := .int (-1)) ⟨rfl, rfl⟩ (neg_int2 BE.int)) (slice_list2 (i := 7) rfl (by rw [List.length_map]; (first | lia | omega)))
  have lsig : (sigs c c.mask).length ≤ 1000 := by unfold sigs; rw [List.length_map, List.length_range]; (first | lia | omega)
  have lsm : (smalls c).length ≤ 1000 := by unfold smalls; rw [List.length_map, List.length_range]; (first | lia | omega)
  refine LawRun.step (BS.assign (BE.meth BE.str m_join (BA.cons (BE.var rfl rfl rfl) BA.nil) (join_row (i := 9) (l := sigs c c.mask) rfl lsig)) (.inl rfl)) ?_
  refine LawRun.step (BS.assign (BE.drop (X := [signsV (smalls c)]) (BE.meth BE.str m_join (BA.cons (BE.comp (out := signsV (smalls c)) (BIt.list (BE.var rfl rfl rfl) (j := 9) (l := signsV (sigs c c.mask)) rfl) (CompR.mapE (fun v => match v with | .str ⟨#[x]⟩ => .str (mapB3 G.b3D x) | _ => .none) rfl ?_ (fun _ => rfl) ?_) ?_ (.inl rfl) (hfree := by rfl)) BA.nil) (join_row (i := 10) (l := smalls c) rfl lsm)) h22 rfl) (.inl rfl)) ?_
  · unfold signsV sigs smalls
    rw [List.map_map, List.map_map, List.map_map]
    refine List.map_congr_left fun k hk => ?_
    show V.str _ = V.str (mapB3 G.b3D (sgOf c c.mask k))
    rw [(F.sg (List.mem_range.mp hk)).2.1]
  · intro v hv
    unfold signsV sigs at hv
    rw [List.map_map, List.mem_map] at hv
    obtain ⟨x, hx, rfl⟩ := hv
    obtain ⟨_, _, g1, g2⟩ := F.sg (m := c.mask) (List.mem_range.mp hx)
    exact BE.callF K.toGOk (K.defs 12 (by decide)) (K.fn (i := 12) (by decide) rfl rfl rfl) (BA.cons (BE.var rfl rfl rfl) BA.nil) (f_b3 K g1 g2)
  · unfold signsV; rw [List.length_map]; (first | lia | omega)
  refine LawRun.step (BS.ifF (BT.cast (BT.cmp (BE.var rfl rfl rfl) (BE.drop (X := [signsV (smalls c)]) (BE.meth BE.str m_join (BA.cons (BE.comp (out := signsV (smalls c)) (BIt.list (BE.var rfl rfl rfl) (j := 2) (l := c.letV) rfl) (CompR.mapE (fun v => match v with | .tup [a, _, _] => a | _ => .none) rfl ?_ (fun _ => rfl) ?_) ?_ (.inl rfl) (hfree := by rfl)) BA.nil) (join_row (i := 10) (l := smalls c) rfl lsm)) h22 rfl) ne_str2) (by simp)) BSs.nil) ?_
  · unfold signsV smalls C6.letV lettersOf
    rw [List.map_map, List.map_map, List.map_map]; rfl
  · intro v hv
    unfold C6.letV at hv
    rw [List.mem_map] at hv
    obtain ⟨x, hx, rfl⟩ := hv
    exact BE.sub (BE.var rfl rfl rfl) BE.int (itemT_nat2 (k := 0) (by decide) rfl)
  · unfold signsV; rw [List.length_map]; (first | lia | omega)
  exact LawRun.sub (loc' := loc3 c) (subL.get (l0 := loc3 c) ⟨rfl, rfl, rfl, rfl, rfl, rfl, rfl, rfl, rfl, rfl, rfl, rfl, trivial⟩) k
end
end Mine
end
section
open PySem PySem.Calls PyProof.Rows
set_option Elab.async false
set_option maxRecDepth 100000
namespace Mine
noncomputable def bitPos (c : C6) (m : Nat) : List Nat := (List.range c.size).filter fun k => decide (m / 2 ^ k % 2 = 1)
noncomputable def priceM (c : C6) (m : Nat) : Nat := ((bitPos c m).map fun k => (c.lt k).price).sum
noncomputable def price2 (c : C6) : Nat := priceM c c.mask + 2 * ((typedN c c.size).length - c.size)
noncomputable def textN (c : C6) : List Nat := (sigs c c.mask).take 3
noncomputable def turnN (c : C6) : List Nat := ((sigs c c.mask).drop 1).take 2 ++ (sigs c c.mask).take 1
structure LL (c : C6) : Prop where
  lev1 : levF (sigs c c.mask) (smalls c) (priceM c c.mask) = priceM c c.mask
  lev2 : levF (typedN c c.size) (smalls c) (price2 c) = price2 c
  tt4 : levF (textN c) (turnN c) 4 = 4
  tt1 : levF (textN c) (turnN c) 1 = 2
  ut4 : levF (turnN c) (textN c) 4 = 4
  ut1 : levF (turnN c) (textN c) 1 = 2
section
variable {G : GL} {d : Nat} {sc : List (Str × NameKind)} {loc loc' loc'' : Loc} {H H' H'' X H1 : Lists}
theorem LK.sum (K : LK G) : gval G "sum" (.builtin "sum") := K.bi _ _ (by decide +kernel)
theorem cast_sum : ∀ l : List Nat, (l.map fun n : Nat => (n : Int)).sum = (l.sum : Nat)
  | [] => rfl
  | x :: l => by
    have := cast_sum l
    simp only [List.map_cons, List.sum_cons, this]
    (first | lia | omega)
theorem sum_row {i : Nat} {l : List Nat} (hl : H[i]? = some (natsV l)) : BC G (d + 1) (.builtin "sum") [.ref i] H (.int (l.sum : Nat)) H := by
  have := bc_sum (G := G) (d := d) (H := H) (i := i) (ys := l.map fun n : Nat => (n : Int)) (by rw [hl]; unfold natsV; rw [List.map_map]; rfl)
  rw [cast_sum] at this
  exact this
theorem LF.lowS {c : C6} (F : LF G c) (m : Nat) : ∀ x ∈ sigs c m, (Txt.lower ⟨#[x]⟩).length ≤ 1000000 := fun x hx => by
  unfold sigs at hx
  rw [List.mem_map] at hx
  obtain ⟨k, hk, rfl⟩ := hx
  exact (F.sg (List.mem_range.mp hk)).2.2.2
theorem LF.lowM {c : C6} (F : LF G c) : ∀ x ∈ smalls c, (Txt.lower ⟨#[x]⟩).length ≤ 1000000 := fun x hx => by
  unfold smalls at hx
  rw [List.mem_map] at hx
  obtain ⟨k, hk, rfl⟩ := hx
  exact (F.low k (List.mem_range.mp hk)).1
theorem LF.lowT {c : C6} (F : LF G c) : ∀ x ∈ typedN c c.size, (Txt.lower ⟨#[x]⟩).length ≤ 1000000 := fun x hx => by
  unfold typedN at hx
  rw [List.mem_flatMap] at hx
  obtain ⟨k, hk, hx⟩ := hx
  unfold typ1 at hx
  rcases List.mem_append.mp hx with hx | hx
  · split at hx
    · rw [List.mem_singleton.mp hx]; exact F.lowh _ (hidS_mem c k)
    · cases hx
  · rw [List.mem_singleton.mp hx]; exact (F.sg (List.mem_range.mp hk)).2.2.2
theorem low_app {a b : List Nat} (ha : ∀ x ∈ a, (Txt.lower ⟨#[x]⟩).length ≤ 1000000) (hb : ∀ x ∈ b, (Txt.lower ⟨#[x]⟩).length ≤ 1000000) : ∀ x ∈ a ++ b, (Txt.lower ⟨#[x]⟩).length ≤ 1000000 := fun x hx => (List.mem_append.mp hx).elim (ha x) (hb x)
theorem H22_plain (c : C6) : plainH (H22 c) = true := by
  refine plainH_app (H15_plain c c.size) ?_
  unfold plainH
  simp only [List.all_cons, List.all_nil, Bool.and_true, Bool.and_eq_true]
  exact ⟨plainVs_map (fun _ => rfl) _, signs_plain _⟩
theorem sg_len (c : C6) (m : Nat) : (sigs c m).length = c.size := by unfold sigs; rw [List.length_map, List.length_range]
theorem sm_len (c : C6) : (smalls c).length = c.size := by unfold smalls; rw [List.length_map, List.length_range]
/-- «if not _law_told(_levenshtein_distance(a, b, m), due): return False» -/
theorem told_if (K : LK G) (hp : plainH H = true) {e1 e2 e3 e4 : Expr} {p1 p2 p3 p4 p5 p6 : Pos} {sts : List Stmt} {a b : List Nat} {m due : Nat} (hlow : ∀ x ∈ a ++ b, (Txt.lower ⟨#[x]⟩).length ≤ 1000000) (ha : a.length ≤ 40) (hb : b.length ≤ 40)
    (h1 : BE G (d + 11) lwN e1 loc H (sv a) H) (h2 : BE G (d + 11) lwN e2 loc H (sv b) H) (h3 : BE G (d + 11) lwN e3 loc H (.int (m : Nat)) H) (h4 : BE G (d + 11) lwN e4 loc H (.int (due : Nat)) H) (hl : levF a b m = due)
    (n1 : ∀ es env, starEach (e1 :: es) env = (false, eval e1 env) :: starEach es env) (n2 : ∀ es env, starEach (e2 :: es) env = (false, eval e2 env) :: starEach es env) (n3 : ∀ es env, starEach (e3 :: es) env = (false, eval e3 env) :: starEach es env) (n4 : ∀ es env, starEach (e4 :: es) env = (false, eval e4 env) :: starEach es env) :
    BS G (d + 11) lwN (.If (.UnaryOp .Not (.Call (.Name "_law_told" p1) [.Call (.Name "_levenshtein_distance" p2) [e1, e2, e3] [] p3, e4] [] p4) p5) sts [] p6) loc H .next loc H := by
  have hlev := f_lev (d := d + 4) K hp hlow ha hb (mx := m)
  rw [hl] at hlev
  have inner : BE G (d + 11) lwN (.Call (.Name "_levenshtein_distance" p2) [e1, e2, e3] [] p3) loc H (.int (due : Nat)) H :=
    BE.callF K.toGOk (K.defs 18 (by decide)) (K.fn (i := 18) (by decide) rfl rfl rfl) (BA.cons h1 (BA.cons h2 (BA.cons h3 BA.nil (n3 _)) (n2 _)) (n1 _)) hlev (fun env => by rw [n1, n2, n3]; exact ⟨_, _, rfl, rfl⟩)
  have outer := BE.callF (p := p1) (pos := p4) K.toGOk (K.defs 32 (by decide)) (K.fn (i := 32) (x := "_law_told") (sc := lwN) (by decide) rfl rfl rfl) (BA.cons inner (BA.cons h4 BA.nil (n4 _))) (f_told (d := d + 9) K (u := (due : Int)) (v := (due : Int)) (H := H)) (fun env => by
    show ∃ t ts, backTo p4 ((false, _) :: starEach [e4] env) = _ ∧ _
    rw [n4]; exact ⟨_, _, rfl, rfl⟩)
  exact BS.ifF (BT.cast (BT.not (BT.val outer tru_bool)) (by simp)) BSs.nil
end
end Mine
end
section
open PySem PySem.Calls PyProof.Rows
set_option Elab.async false
set_option maxRecDepth 100000
namespace Mine
noncomputable def loc3a (c : C6) (r : Loc) : Loc := ("cells", .ref 0) :: ("hand", .fn (drOf (21 + wayOf c.c0)).name) :: ("opens", .str ⟨#[opn c.c0]⟩) :: ("shuts", .str ⟨#[shn c.c0]⟩) :: ("names", .ref 1) :: ("letters", .ref 2) :: ("size", .int (c.size : Nat)) :: ("mask", .int (c.mask : Nat)) :: ("typed", .ref 6) :: ("signs", .ref 9) :: ("word", sv (sigs c c.mask)) :: ("ready", sv (smalls c)) :: r
noncomputable def loc4 (c : C6) : Loc := [("cells", .ref 0), ("hand", .fn (drOf (21 + wayOf c.c0)).name), ("opens", .str ⟨#[opn c.c0]⟩), ("shuts", .str ⟨#[shn c.c0]⟩), ("names", .ref 1), ("letters", .ref 2), ("size", .int (c.size : Nat)), ("mask", .int (c.mask : Nat)), ("signs", .ref 9), ("word", sv (sigs c c.mask))]
noncomputable def pairsV : List V := [.tup [.int (4 : Nat), .int (4 : Nat)], .tup [.int (1 : Nat), .int (2 : Nat)]]
noncomputable def H29 (c : C6) : Lists := H22 c ++ [pairsV]
section
variable {G : GL} {d : Nat} {sc : List (Str × NameKind)} {loc loc' loc'' : Loc} {H H' H'' X H1 : Lists}
theorem slice_sv {l : List Nat} {lo hi : Option Int} {l' : List Nat} (hn : l.length ≤ 1000000) (h : cutL l lo hi = l') : Act2 G getItem (sv l) (.sl lo hi) H (sv l') H := (slice_str2 (by rw [sv_len]; exact hn)).cast (by
  unfold cutS; rw [h]; rfl)
theorem sv_add {a b : List Nat} (h : a.length + b.length ≤ 1000000) : Act2 G (binaryOp .Add) (sv a) (sv b) H (sv (a ++ b)) H := (add_str2 (by rw [sv_len, sv_len]; exact h)).cast (by
  unfold sv; congr 1; apply str_ext; simp [Str.cps_append])
theorem cutL_take {τ : Type} (l : List τ) (n : Nat) (h : n ≤ l.length) : cutL l none (some (n : Int)) = l.take n := by
  unfold cutL clipAt
  simp only [Option.elim]
  rw [List.drop_zero, if_neg (by (first | lia | omega))]
  congr 1
  (first | lia | omega)
theorem cutL_mid {τ : Type} (l : List τ) (a b : Nat) (h1 : a ≤ b) (h : b ≤ l.length) : cutL l (some (a : Int)) (some (b : Int)) = (l.drop a).take (b - a) := by
  unfold cutL clipAt
  simp only [Option.elim]
  rw [if_neg (by (first | lia | omega)), if_neg (by (first | lia | omega))]
  have e1 : (max 0 (min (a : Int) (l.length : Int))).toNat = a := by (first | lia | omega)
  have e2 : (max 0 (min (b : Int) (l.length : Int))).toNat = b := by (first | lia | omega)
  rw [e1, e2]
theorem H29_plain (c : C6) : plainH (H29 c) = true := plainH_app (H22_plain c) rfl
theorem law23 (K : LK G) (c : C6) (F : LF G c) (P : LL c) (k : LawRun G (d + 11) ((drOf 33).body.drop 30) (loc4 c) (H29 c)) : LawRun G (d + 11) ((drOf 33).body.drop 23) (loc3 c) (H22 c) := by
  have hz := size_le' c
  obtain ⟨tl1, tl2⟩ := typed_len c c.size
  have s1 := sg_len c c.mask
  have s2 := sm_len c
  have h22 := H22_plain c
  have bl : (bitPos c c.mask).length ≤ 8 := by unfold bitPos; exact Nat.le_trans (List.length_filter_le _ _) (by rw [List.length_range]; (first | lia | omega))
  have tlen : (signsV (typedN c c.size)).length = (typedN c c.size).length := by unfold signsV; rw [List.length_map]
  have tge : c.size ≤ (typedN c c.size).length := by
    have h := sel_typed c c.size
    have h2 : ((((typedN c c.size).zip (dueB c c.size)).filter fun p => !p.2).map (·.1)).length ≤ (typedN c c.size).length := by
      rw [List.length_map]
      refine Nat.le_trans (List.length_filter_le _ _) ?_
      rw [List.length_zip]; (first | lia | omega)
    rw [h, List.length_map, List.length_range] at h2
    exact h2
  refine LawRun.step (loc' := loc3a c [("price", .int (priceM c c.mask : Nat))]) (BS.assign (loc := loc3 c) (BE.drop (X := [natsV ((bitPos c c.mask).map fun k => (c.lt k).price)]) (BE.callB K.toGOk rfl K.sum (BA.cons (BE.comp (out := natsV ((bitPos c c.mask).map fun k => (c.lt k).price)) (H'' := H22 c) (BIt.range (b := (c.size : Nat)) (BRng.one K.toGOk rfl K.range (BA.cons (BE.var rfl rfl rfl) BA.nil)) (rng_small (by (first | lia | omega))) rng_size) ?_ ?_ (.inl rfl) (hfree := by rfl)) BA.nil) (sum_row (i := 10) rfl) rfl) h22 rfl) (.inl rfl)) ?_
  · have e : natsV ((bitPos c c.mask).map fun k => (c.lt k).price) = ((rngL 0 1 c.size).filter fun v => match v with | .int i => decide (c.mask / 2 ^ i.toNat % 2 = 1) | _ => false).map fun v => match v with | .int i => .int ((c.lt i.toNat).price : Nat) | _ => .none := by
      rw [rng_nats]
      unfold natsV bitPos
      rw [List.filter_map, List.map_map, List.map_map]; rfl
    rw [e]
    refine CompR.filter (fun v => match v with | .int i => .int ((c.lt i.toNat).price : Nat) | _ => .none) (fun v => match v with | .int i => decide (c.mask / 2 ^ i.toNat % 2 = 1) | _ => false) ?_ (fun _ => rfl) (fun v hv => ?_) (fun v hv hb => ?_)
    · trivial
    · obtain ⟨i, hi, rfl⟩ := rngL_mem hv
      simp only [Int.zero_add, Int.mul_one, Int.toNat_natCast]
      exact BT.cmp (BE.bin (BE.bin (BE.var rfl rfl rfl) (BE.bin BE.int (BE.var rfl rfl rfl) (pow_nat2 (by (first | lia | omega)))) (div_nat2 (by simp) (Nat.lt_of_lt_of_le (Nat.pow_lt_pow_right (by decide) (show i < 10 by (first | lia | omega))) (by decide)))) BE.int (mod_nat2 (b := 2) (by decide))) BE.int (eq_nat2 (b := 1))
    · obtain ⟨i, hi, rfl⟩ := rngL_mem hv
      simp only [Int.zero_add, Int.mul_one, Int.toNat_natCast]
      exact BE.sub (BE.sub (BE.var rfl rfl rfl) (BE.var rfl rfl rfl) (item_nat2 (i := 2) rfl (by (first | lia | omega)) (letV_get c hi))) BE.int (itemT_nat2 (k := 2) (by decide) rfl)
  · unfold natsV; rw [List.length_map, List.length_map]; (first | lia | omega)
  refine LawRun.step (told_if (loc := loc3a c [("price", .int (priceM c c.mask : Nat))]) K h22 (low_app (F.lowS _) F.lowM) (by (first | lia | omega)) (by (first | lia | omega)) (BE.var rfl rfl rfl) (BE.var rfl rfl rfl) (BE.var rfl rfl rfl) (BE.var rfl rfl rfl) P.lev1 (by intro _ _; rfl) (by intro _ _; rfl) (by intro _ _; rfl) (by intro _ _; rfl)) ?_
  refine LawRun.step (loc' := loc3a c [("price", .int (price2 c : Nat))]) (BS.assign (loc := loc3a c [("price", .int (priceM c c.mask : Nat))]) (BE.bin (BE.var rfl rfl rfl) (BE.bin BE.int (BE.bin (len_list K (i := 6) rfl rfl tlen (by (first | lia | omega))) (BE.var rfl rfl rfl) (subN2_nat tge)) (mul_nat2 (a := 2) (by decide))) add_nat2) (.inl rfl)) ?_
  refine LawRun.step (told_if (loc := loc3a c [("price", .int (price2 c : Nat))]) K h22 (low_app F.lowT F.lowM) (by (first | lia | omega)) (by (first | lia | omega)) (BE.meth BE.str m_join (BA.cons (BE.var rfl rfl rfl) BA.nil) (join_row (i := 6) (l := typedN c c.size) rfl (by (first | lia | omega)))) (BE.var rfl rfl rfl) (BE.var rfl rfl rfl) (BE.var rfl rfl rfl) P.lev2 (by intro _ _; rfl) (by intro _ _; rfl) (by intro _ _; rfl) (by intro _ _; rfl)) ?_
  refine LawRun.step (loc' := loc3a c [("price", .int (price2 c : Nat)), ("text", sv (textN c))]) (BS.assign (loc := loc3a c [("price", .int (price2 c : Nat))]) (BE.sub (BE.var rfl rfl rfl) (BE.slice (a := .none) (b := .int (3 : Nat)) ⟨rfl, rfl⟩ BE.int) (slice_sv (by (first | lia | omega)) (cutL_take _ 3 (by (first | lia | omega))))) (.inl rfl)) ?_
  have h0 : (sigs c c.mask)[0]? = some ((sigs c c.mask)[0]?.getD 0) := getD_of (by (first | lia | omega))
  have ht1 : (sigs c c.mask).take 1 = [(sigs c c.mask)[0]?.getD 0] := by
    have : (sigs c c.mask) ≠ [] := List.length_pos_iff.mp (by (first | lia | omega))
    cases hs : sigs c c.mask with
    | nil => exact absurd hs this
    | cons a r => rfl
  refine LawRun.step (H' := H22 c) (loc' := loc3a c [("price", .int (price2 c : Nat)), ("text", sv (textN c)), ("turned", sv (turnN c))]) (BS.assign (loc := loc3a c [("price", .int (price2 c : Nat)), ("text", sv (textN c))]) ?_ (.inl rfl)) ?_
  · unfold turnN
    rw [ht1]
    exact BE.bin (BE.sub (BE.var rfl rfl rfl) (BE.slice (a := .int (1 : Nat)) (b := .int (3 : Nat)) BE.int BE.int) (slice_sv (by (first | lia | omega)) (cutL_mid _ 1 3 (by (first | lia | omega)) (by (first | lia | omega))))) (BE.sub (BE.var rfl rfl rfl) BE.int (item_sv (i := 0) h0 (by (first | lia | omega)))) (sv_add (by simp; (first | lia | omega)))
  have lt1 : (textN c).length ≤ 3 := by unfold textN; rw [List.length_take]; (first | lia | omega)
  have lu1 : (turnN c).length ≤ 3 := by unfold turnN; rw [List.length_append, List.length_take, List.length_take]; (first | lia | omega)
  have lowX : ∀ x ∈ textN c, (Txt.lower ⟨#[x]⟩).length ≤ 1000000 := fun x hx => F.lowS _ x (List.mem_of_mem_take hx)
  have lowU : ∀ x ∈ turnN c, (Txt.lower ⟨#[x]⟩).length ≤ 1000000 := fun x hx => by
    unfold turnN at hx
    rcases List.mem_append.mp hx with hx | hx
    · exact F.lowS _ x (List.mem_of_mem_drop (List.mem_of_mem_take hx))
    · exact F.lowS _ x (List.mem_of_mem_take hx)
  have h29 := H29_plain c
  refine LawRun.step (H' := H29 c) (loc' := loc3a c [("price", .int (price2 c : Nat)), ("text", sv (textN c)), ("turned", sv (turnN c)), ("most", .int (1 : Nat)), ("due", .int (2 : Nat))]) (BS.for (BIt.list (j := 10) (l := pairsV) (BE.list (BA.cons (BE.tuple (BA.cons BE.int (BA.cons BE.int BA.nil)) (by simp)) (BA.cons (BE.tuple (BA.cons BE.int (BA.cons BE.int BA.nil)) (by simp)) BA.nil)) (by simp)) rfl) ?_) ?_
  · refine ForR.cons rfl (BB.tuple (BBs.name (.inl rfl) (BBs.name (.inl rfl) BBs.nil)) rfl (by intro _; rfl)) (l1 := loc3a c [("price", .int (price2 c : Nat)), ("text", sv (textN c)), ("turned", sv (turnN c)), ("most", .int (4 : Nat)), ("due", .int (4 : Nat))]) (l2 := loc3a c [("price", .int (price2 c : Nat)), ("text", sv (textN c)), ("turned", sv (turnN c)), ("most", .int (4 : Nat)), ("due", .int (4 : Nat))]) (h2 := H29 c) ?_ ?_
    · exact BSs.cons (told_if K h29 (low_app lowX lowU) (by (first | lia | omega)) (by (first | lia | omega)) (BE.var rfl rfl rfl) (BE.var rfl rfl rfl) (BE.var rfl rfl rfl) (BE.var rfl rfl rfl) P.tt4 (by intro _ _; rfl) (by intro _ _; rfl) (by intro _ _; rfl) (by intro _ _; rfl))
        (BSs.cons (told_if K h29 (low_app lowU lowX) (by (first | lia | omega)) (by (first | lia | omega)) (BE.var rfl rfl rfl) (BE.var rfl rfl rfl) (BE.var rfl rfl rfl) (BE.var rfl rfl rfl) P.ut4 (by intro _ _; rfl) (by intro _ _; rfl) (by intro _ _; rfl) (by intro _ _; rfl)) BSs.nil)
    · refine ForR.cons rfl (BB.tuple (BBs.name (.inl rfl) (BBs.name (.inl rfl) BBs.nil)) rfl (by intro _; rfl)) (l1 := loc3a c [("price", .int (price2 c : Nat)), ("text", sv (textN c)), ("turned", sv (turnN c)), ("most", .int (1 : Nat)), ("due", .int (2 : Nat))]) (l2 := loc3a c [("price", .int (price2 c : Nat)), ("text", sv (textN c)), ("turned", sv (turnN c)), ("most", .int (1 : Nat)), ("due", .int (2 : Nat))]) (h2 := H29 c) ?_ (ForR.nil rfl)
      exact BSs.cons (told_if K h29 (low_app lowX lowU) (by (first | lia | omega)) (by (first | lia | omega)) (BE.var rfl rfl rfl) (BE.var rfl rfl rfl) (BE.var rfl rfl rfl) (BE.var rfl rfl rfl) P.tt1 (by intro _ _; rfl) (by intro _ _; rfl) (by intro _ _; rfl) (by intro _ _; rfl))
        (BSs.cons (told_if K h29 (low_app lowU lowX) (by (first | lia | omega)) (by (first | lia | omega)) (BE.var rfl rfl rfl) (BE.var rfl rfl rfl) (BE.var rfl rfl rfl) (BE.var rfl rfl rfl) P.ut1 (by intro _ _; rfl) (by intro _ _; rfl) (by intro _ _; rfl) (by intro _ _; rfl)) BSs.nil)
  exact LawRun.sub (loc' := loc4 c) (subL.get (l0 := loc4 c) ⟨rfl, rfl, rfl, rfl, rfl, rfl, rfl, rfl, rfl, rfl, trivial⟩) k
end
end Mine
end
section
open PySem PySem.Calls PyProof.Rows
set_option Elab.async false
set_option maxRecDepth 100000
namespace Mine
noncomputable def nm0 (c : C6) : Str := nmOf (wayOf c.c0) (opn c.c0)
noncomputable def nm1 (c : C6) : Str := nmOf (wayOf c.c0) (shn c.c0)
noncomputable def shutOf (c : C6) : Str := cutS (nm1 c) none (some (-1))
noncomputable def pageStrs (c : C6) (m : Nat) : List Str := (List.range c.size).map fun k => if m / 2 ^ k % 2 = 0 then nm0 c else nm1 c
noncomputable def pageOf (c : C6) (m : Nat) : Str := Txt.join "" (pageStrs c m)
noncomputable def kpN (c : C6) (m : Nat) : List Nat := (stIter (shutOf c) (st0 (pageOf c m) (sigs c m)) (sigs c m).length).kp
noncomputable def lfN (c : C6) (m : Nat) : List Nat := (stIter (shutOf c) (st0 (pageOf c m) (sigs c m)) (sigs c m).length).lf
noncomputable def frN (c : C6) : List Nat := kpN c c.mask ++ lfN c c.mask
structure LS (G : GL) (d : Nat) (c : C6) : Prop where
  sk : ∀ m, m < 2 ^ c.size → SkOk G d (21 + wayOf c.c0) (opn c.c0) (shn c.c0) (shutOf c) (pageOf c m) (sigs c m)
  short : (shutOf c).length < (nm1 c).length
  nlen : (nm0 c).length ≤ 100 ∧ (nm1 c).length ≤ 100
  klen : ∀ m, m < 2 ^ c.size → (kpN c m).length + (lfN c m).length ≤ c.size
  frlt : ∀ p ∈ frN c, p < c.size
  frnd : (frN c).Nodup
noncomputable def fN (c : C6) : Nat := (frN c).length
theorem mask_lt (c : C6) : c.mask < 2 ^ c.size := Nat.mod_lt _ (Nat.two_pow_pos _)
noncomputable def loc5 (c : C6) : Loc := [("cells", .ref 0), ("hand", .fn (drOf (21 + wayOf c.c0)).name), ("opens", .str ⟨#[opn c.c0]⟩), ("shuts", .str ⟨#[shn c.c0]⟩), ("names", .ref 1), ("letters", .ref 2), ("size", .int (c.size : Nat)), ("mask", .int (c.mask : Nat)), ("signs", .ref 9), ("word", sv (sigs c c.mask)), ("kept", .ref 11), ("left", .ref 12), ("free", .ref 13)]
noncomputable def H32 (c : C6) (sg : List Nat) : Lists := H15 c c.size ++ [(dueB c c.size).dropLast.map .bool, signsV sg, pairsV, natsV (kpN c c.mask), natsV (lfN c c.mask), natsV (frN c)]
section
variable {G : GL} {d : Nat} {sc : List (Str × NameKind)} {loc loc' loc'' : Loc} {H H' H'' X H1 : Lists}
theorem page_sum (c : C6) (m : Nat) (h : (nm0 c).length ≤ 100 ∧ (nm1 c).length ≤ 100) : ((pageStrs c m).map (·.length)).sum + (pageStrs c m).length ≤ 1000000 := by
  have hz := size_le' c
  have h1 := str_map_join (fun k => if m / 2 ^ k % 2 = 0 then nm0 c else nm1 c) 100 (List.range c.size) fun x _ => by
    show Str.length (if _ then _ else _) ≤ 100
    split
    · exact h.1
    · exact h.2
  rw [List.length_range] at h1
  unfold pageStrs
  rw [List.length_map, List.length_range]
  (first | lia | omega)
/-- «''.join([names[m // 2 ** k % 2] for k in range(size)])», m given by an expression of the comprehension's own -/
theorem names_item (c : C6) (b : Nat) (hb : b < 2) : (namesV c)[b]? = some (.str (if b = 0 then nm0 c else nm1 c)) := by
  match b, hb with
  | 0, _ => rfl
  | 1, _ => rfl
theorem law30 (K : LK G) (c : C6) (S : LS G d c) (k : LawRun G (d + 11) ((drOf 33).body.drop 33) (loc5 c) (H32 c (sigs c c.mask))) : LawRun G (d + 11) ((drOf 33).body.drop 30) (loc4 c) (H29 c) := by
  have hz := size_le' c
  have hm := mask_lt c
  have hkl := S.klen c.mask hm
  refine LawRun.struck (nm0 := nm0 c) (nm1 := nm1 c) (l := sigs c c.mask) (j := 9) (jn := 1) (H1 := H29 c) K S.short (by have := S.nlen; (first | lia | omega)) (S.sk c.mask hm) rfl rfl rfl rfl rfl (BE.var rfl rfl rfl) (by intro _; rfl) rfl ?_
  have hp30 : plainH (H29 c ++ [natsV (kpN c c.mask), natsV (lfN c c.mask)]) = true := by
    refine plainH_app (H29_plain c) ?_
    unfold plainH
    simp only [List.all_cons, List.all_nil, Bool.and_true, Bool.and_eq_true]
    exact ⟨plainVs_map (fun _ => rfl) _, plainVs_map (fun _ => rfl) _⟩
  refine LawRun.step (BS.ifF (BT.cast (BT.cmp (BE.var (v := .str (pageOf c c.mask)) rfl rfl rfl) (BE.drop (X := [(pageStrs c c.mask).map .str]) (BE.meth BE.str m_join (BA.cons (BE.comp (out := (pageStrs c c.mask).map .str) (H'' := H29 c ++ [natsV (kpN c c.mask), natsV (lfN c c.mask)]) (BIt.range (b := (c.size : Nat)) (BRng.one K.toGOk rfl K.range (BA.cons (BE.var rfl rfl rfl) BA.nil)) (rng_small (by (first | lia | omega))) rng_size)
    (CompR.mapE (fun v => match v with | .int i => .str (if c.mask / 2 ^ i.toNat % 2 = 0 then nm0 c else nm1 c) | _ => .none) ?_ ?_ (fun _ => rfl) ?_) ?_ (.inl rfl) (hfree := by rfl)) BA.nil) (bc_join (i := 13) (ys := pageStrs c c.mask) rfl (by decide) (page_sum c _ S.nlen))) hp30 rfl) ne_str2) (by unfold pageOf; simp)) BSs.nil) ?_
  · trivial
  · rw [rng_nats]; unfold pageStrs natsV; rw [List.map_map, List.map_map]; rfl
  · intro v hv
    obtain ⟨i, hi, rfl⟩ := rngL_mem hv
    simp only [Int.zero_add, Int.mul_one, Int.toNat_natCast]
    exact BE.sub (BE.var rfl rfl rfl) (BE.bin (BE.bin (BE.var rfl rfl rfl) (BE.bin BE.int (BE.var rfl rfl rfl) (pow_nat2 (by (first | lia | omega)))) (div_nat2 (by simp) (Nat.lt_of_lt_of_le (Nat.pow_lt_pow_right (by decide) (show i < 10 by (first | lia | omega))) (by decide)))) BE.int (mod_nat2 (b := 2) (by decide))) (item_nat2 (i := 1) rfl (by (first | lia | omega)) (names_item c _ (Nat.mod_lt _ (by decide))))
  · unfold pageStrs; rw [List.length_map, List.length_map, List.length_range]; (first | lia | omega)
  refine LawRun.step (H' := H32 c (sigs c c.mask)) (BS.assign (v := .ref 13) ?_ (.inr rfl)) ?_
  · have e : H32 c (sigs c c.mask) = (H29 c ++ [natsV (kpN c c.mask), natsV (lfN c c.mask)]) ++ [natsV (kpN c c.mask) ++ natsV (lfN c c.mask)] := by
      unfold H32 H29 H22 frN natsV
      rw [List.map_append]; rfl
    rw [e]
    exact BE.callF K.toGOk (K.defs 3 (by decide)) (K.fn (i := 3) (by decide) rfl rfl rfl) (BA.cons (BE.var rfl rfl rfl) (BA.cons (BE.var rfl rfl rfl) BA.nil)) (f_concat K (i := 11) (j := 12) rfl rfl (by unfold natsV; rw [List.length_map, List.length_map]; (first | lia | omega)))
  exact LawRun.sub (loc' := loc5 c) (subL.get (l0 := loc5 c) ⟨rfl, rfl, rfl, rfl, rfl, rfl, rfl, rfl, rfl, rfl, rfl, rfl, rfl, trivial⟩) k
end
end Mine
end
section
open PySem PySem.Calls PyProof.Rows
set_option Elab.async false
set_option maxRecDepth 100000
namespace Mine
/-- a row by place, some places of one sort, the rest of another -/
noncomputable def mixN {τ : Type} (n : Nat) (S : List Nat) (f g : Nat → τ) : List τ := (List.range n).map fun p => if p ∈ S then f p else g p
theorem mix_set {τ : Type} {n p i : Nat} {S : List Nat} (f g : Nat → τ) (hp : S[i]? = some p) : (mixN n (S.take i) f g).set p (f p) = mixN n (S.take (i + 1)) f g := by
  unfold mixN
  have ht : S.take (i + 1) = S.take i ++ [p] := by
    have hi := (List.getElem?_eq_some_iff.mp hp)
    obtain ⟨h1, h2⟩ := hi
    rw [List.take_succ_eq_append_getElem h1, h2]
  rw [ht]
  apply List.ext_getElem
  · simp
  · intro t h1 h2
    rw [List.getElem_set]
    simp only [List.getElem_map, List.getElem_range, List.mem_append, List.mem_singleton]
    by_cases h : p = t
    · subst h; simp
    · rw [if_neg h]
      have : ¬ t = p := fun q => h q.symm
      simp [this]
theorem mix_get {τ : Type} {n p : Nat} {S : List Nat} (f g : Nat → τ) (hp : p < n) : (mixN n S f g)[p]? = some (if p ∈ S then f p else g p) := by
  unfold mixN
  rw [List.getElem?_map, List.getElem?_range hp]; rfl
theorem mix_nil {τ : Type} (n : Nat) (f g : Nat → τ) : mixN n [] f g = (List.range n).map g := by
  unfold mixN
  exact List.map_congr_left fun p _ => if_neg (by simp)
noncomputable def smF (c : C6) (p : Nat) : Nat := (c.lt p).small
noncomputable def grF (c : C6) (p : Nat) : Nat := (c.lt p).great
noncomputable def prF (c : C6) (p : Nat) : Nat := (c.lt p).price
noncomputable def baseF (c : C6) (p : Nat) : Nat := if p ∈ frN c then smF c p else sgOf c c.mask p
noncomputable def baseN (c : C6) : List Nat := (List.range c.size).map (baseF c)
noncomputable def sgA (c : C6) (i : Nat) : List Nat := mixN c.size ((frN c).take i) (smF c) (sgOf c c.mask)
noncomputable def sgB (c : C6) (i : Nat) : List Nat := mixN c.size ((frN c).take i) (grF c) (baseF c)
noncomputable def owB (c : C6) (i : Nat) : List Nat := mixN c.size ((frN c).take i) (prF c) (fun _ => 0)
noncomputable def tldB (c : C6) (i : Nat) : List Str := (List.range (i + 1)).map fun j => (⟨(sgB c j).toArray⟩ : Str)
section
variable {G : GL} {d : Nat} {sc : List (Str × NameKind)} {loc loc' loc'' : Loc} {H H' H'' X H1 : Lists}
theorem CompR.skips {x : Str} {elt : Expr} {ifs : List Expr} {src : Lists → Prop} {Hs : Nat → Lists} {l : Loc} (hs : ∀ i, src (Hs i)) : ∀ {vs : List V} {n : Nat} {l' : Loc}, (∀ v, setL l' x v = setL l x v) →
    (∀ i v, vs[i]? = some v → BIfs G d sc ifs (setL l x v) (Hs (n + i)) false (Hs (n + i + 1))) → CompR G d sc x elt ifs src vs l' (Hs n) [] (Hs (n + vs.length))
  | [], n, _, _, _ => .nil (hs n)
  | v :: vs, n, l', hl, hb => by
    have ih := CompR.skips (x := x) (elt := elt) (ifs := ifs) (l := l) hs (vs := vs) (n := n + 1) (l' := setL l' x v) (fun u => by rw [hl, setL_setL]) fun i u hu => by
      have := hb (i + 1) u (by simpa using hu)
      have e : n + (i + 1) = n + 1 + i := by (first | lia | omega)
      rw [e] at this; exact this
    have e : n + 1 + vs.length = n + (v :: vs).length := by simp only [List.length_cons]; (first | lia | omega)
    rw [e] at ih
    refine .skip (hs n) ?_ ih
    have := hb 0 v rfl
    rw [hl]; exact this
theorem CompR.skips0 {x : Str} {elt : Expr} {ifs : List Expr} {src : Lists → Prop} (Hs : Nat → Lists) {l : Loc} {vs : List V} {n : Nat} (hs : ∀ i, src (Hs i)) (hn : vs.length = n)
    (hb : ∀ i v, vs[i]? = some v → BIfs G d sc ifs (setL l x v) (Hs i) false (Hs (i + 1))) : CompR G d sc x elt ifs src vs l (Hs 0) [] (Hs n) := by
  subst hn
  have := CompR.skips (G := G) (d := d) (sc := sc) (x := x) (elt := elt) (ifs := ifs) (l := l) (l' := l) (Hs := Hs) hs (vs := vs) (n := 0) (fun _ => rfl) (fun i v h => by rw [Nat.zero_add]; exact hb i v h)
  rw [Nat.zero_add] at this
  exact this
theorem BT.dropM2 {e : Expr} {b : Bool} {x y : List V} (h : BT G d sc e loc H b (H' ++ [x] ++ [y])) (hl : H'.length = H.length) (hp : plainH H' = true) : BT G d sc e loc H b H' := by
  rw [List.append_assoc] at h; exact h.dropM hl hp
theorem H32_plain (c : C6) (sg : List Nat) : plainH (H32 c sg) = true := by
  refine plainH_app (H15_plain c c.size) ?_
  unfold plainH
  simp only [List.all_cons, List.all_nil, Bool.and_true, Bool.and_eq_true]
  exact ⟨plainVs_map (fun _ => rfl) _, signs_plain _, rfl, plainVs_map (fun _ => rfl) _, plainVs_map (fun _ => rfl) _, plainVs_map (fun _ => rfl) _⟩
theorem fr_len {c : C6} (S : LS G d c) : fN c ≤ c.size := by
  have := S.klen c.mask (mask_lt c)
  unfold fN frN
  rw [List.length_append]; exact this
theorem law33 (K : LK G) (c : C6) (F : LF G c) (S : LS G d c) : BS G (d + 11) lwN (lwSt 33) (loc5 c) (H32 c (sigs c c.mask)) .next (loc5 c) (H32 c (baseN c)) := by
  have hz := size_le' c
  have hfl := fr_len S
  have e0 : sigs c c.mask = sgA c 0 := by unfold sgA; rw [List.take_zero, mix_nil]; rfl
  have e1 : baseN c = sgA c (natsV (frN c)).length := by
    unfold sgA natsV
    rw [List.length_map, List.take_length]; rfl
  rw [e0, e1]
  have h13 : ∀ sg, (H32 c sg)[13]? = some (natsV (frN c)) := fun _ => rfl
  have hlen : ∀ sg sg', (H32 c sg).length = (H32 c sg').length := fun _ _ => rfl
  generalize hn : (natsV (frN c)).length = nn at *
  have hA := H32_plain c (sgA c nn)
  refine BS.ifF ?_ BSs.nil
  refine BT.dropM2 (H' := H32 c (sgA c nn)) (x := []) (y := []) ?_ (hlen _ _) hA
  refine BT.cmp (a := .ref (H32 c (sgA c nn)).length) (b := .ref (H32 c (sgA c nn) ++ [[]]).length) (H' := H32 c (sgA c nn) ++ [[]]) (H'' := H32 c (sgA c nn) ++ [[]] ++ [[]]) ?_ ?_ ne_empties
  rotate_left
  · exact BE.list BA.nil
  refine BE.comp (out := []) (BIt.list (BE.var rfl rfl rfl) (j := 13) (l := natsV (frN c)) (h13 _)) ?_ (by simp) (.inl rfl) (hfree := by rfl)
  refine CompR.skips0 (fun i => H32 c (sgA c i)) (fun _ => h13 _) hn fun i v hv => ?_
  have hil : i < (frN c).length := by
    have := (List.getElem?_eq_some_iff.mp hv).1
    unfold natsV at this; rw [List.length_map] at this; exact this
  have hp : (frN c)[i]? = some (frN c)[i] := List.getElem?_eq_getElem hil
  generalize (frN c)[i] = p at hp
  have hvp : v = .int (p : Nat) := by
    unfold natsV at hv
    rw [List.getElem?_map, hp] at hv
    exact (Option.some.inj hv).symm
  subst hvp
  have hps : p < c.size := S.frlt p (List.mem_of_getElem? hp)
  obtain ⟨x, hx, g1, g2, g3⟩ : ∃ x, (sgA c i)[p]? = some x ∧ mapB3 G.b3D x = ⟨#[smF c p]⟩ ∧ (b3get G.b3D x).isSome = true ∧ (Txt.lower ⟨#[x]⟩).length ≤ 1000000 := by
    refine ⟨_, mix_get _ _ hps, ?_⟩
    split
    · exact ⟨(F.b3s p hps).1, (F.b3s p hps).2, (F.low p hps).1⟩
    · exact (F.sg hps).2
  have hl : (sgA c i).length = c.size := by unfold sgA mixN; rw [List.length_map, List.length_range]
  have hset : ActU G setItemOf [.ref 9, .int (p : Nat), .str ⟨#[smF c p]⟩] (H32 c (sgA c i)) (H32 c (sgA c (i + 1))) := by
    have h := setNat (G := G) (H := H32 c (sgA c i)) (i := 9) (l := signsV (sgA c i)) (k := p) (v := .str ⟨#[smF c p]⟩) rfl (by unfold signsV; rw [List.length_map]; (first | lia | omega)) (by unfold signsV; rw [List.length_map]; (first | lia | omega))
    have e : (signsV (sgA c i)).set p (.str ⟨#[smF c p]⟩) = signsV (sgA c (i + 1)) := by
      have h2 : (sgA c i).set p (smF c p) = sgA c (i + 1) := mix_set (smF c) (sgOf c c.mask) hp
      unfold signsV
      rw [← h2, List.map_set]
    rw [e] at h
    exact h
  have hgx : (signsV (sgA c i))[p]? = some (.str ⟨#[x]⟩) := by unfold signsV; rw [List.getElem?_map, hx]; rfl
  have hb3 := f_b3 (G := G) (d := d + 9) (H := H32 c (sgA c i)) K g2 g3
  rw [g1] at hb3
  exact BT.cmp (BE.callF K.toGOk (K.defs 7 (by decide)) (K.fn (i := 7) (by decide) rfl rfl rfl) (BA.cons (BE.var rfl rfl rfl) (BA.cons (BE.var rfl rfl rfl) (BA.cons (BE.callF K.toGOk (K.defs 12 (by decide)) (K.fn (i := 12) (by decide) rfl rfl rfl) (BA.cons (BE.sub (BE.var rfl rfl rfl) (BE.var rfl rfl rfl) (item_nat2 (i := 9) rfl (by (first | lia | omega)) hgx)) BA.nil) hb3) BA.nil))) (f_setitem K hset)) BE.none isNot_none2
end
end Mine
end
section
open PySem PySem.Calls PyProof.Rows
set_option Elab.async false
set_option maxRecDepth 100000
namespace Mine
noncomputable def H36g (c : C6) (sg : List Nat) (tl : List Str) (ow : List Nat) : Lists := H15 c c.size ++ [(dueB c c.size).dropLast.map .bool, signsV sg, pairsV, natsV (kpN c c.mask), natsV (lfN c c.mask), natsV (frN c), tl.map .str, [.int 0], natsV ow]
noncomputable def H36 (c : C6) (i : Nat) : Lists := H36g c (sgB c i) (tldB c i) (owB c i)
noncomputable def H38 (c : C6) : Lists := H36 c (fN c) ++ [natsV (chainN c.mask c.size)]
noncomputable def loc5a (c : C6) (r : Loc) : Loc := ("cells", .ref 0) :: ("hand", .fn (drOf (21 + wayOf c.c0)).name) :: ("opens", .str ⟨#[opn c.c0]⟩) :: ("shuts", .str ⟨#[shn c.c0]⟩) :: ("names", .ref 1) :: ("letters", .ref 2) :: ("size", .int (c.size : Nat)) :: ("mask", .int (c.mask : Nat)) :: ("signs", .ref 9) :: ("word", sv (sigs c c.mask)) :: ("kept", .ref 11) :: ("left", .ref 12) :: ("free", .ref 13) :: r
noncomputable def loc6 (c : C6) : Loc := [("cells", .ref 0), ("hand", .fn (drOf (21 + wayOf c.c0)).name), ("opens", .str ⟨#[opn c.c0]⟩), ("shuts", .str ⟨#[shn c.c0]⟩), ("names", .ref 1), ("letters", .ref 2), ("size", .int (c.size : Nat)), ("word", sv (sigs c c.mask)), ("kept", .ref 11), ("left", .ref 12), ("free", .ref 13), ("told", .ref 14), ("masks", .ref 17)]
section
variable {G : GL} {d : Nat} {sc : List (Str × NameKind)} {loc loc' loc'' : Loc} {H H' H'' X H1 : Lists}
theorem H36g_plain (c : C6) (sg : List Nat) (tl : List Str) (ow : List Nat) : plainH (H36g c sg tl ow) = true := by
  refine plainH_app (H15_plain c c.size) ?_
  unfold plainH
  simp only [List.all_cons, List.all_nil, Bool.and_true, Bool.and_eq_true]
  exact ⟨plainVs_map (fun _ => rfl) _, signs_plain _, rfl, plainVs_map (fun _ => rfl) _, plainVs_map (fun _ => rfl) _, plainVs_map (fun _ => rfl) _, plainVs_map (fun _ => rfl) _, rfl, plainVs_map (fun _ => rfl) _⟩
theorem mix_len {τ : Type} (n : Nat) (S : List Nat) (f g : Nat → τ) : (mixN n S f g).length = n := by unfold mixN; rw [List.length_map, List.length_range]
theorem law34 (K : LK G) (c : C6) (F : LF G c) (S : LS G d c) (k : LawRun G (d + 11) ((drOf 33).body.drop 36) (loc5a c [("told", .ref 14), ("owed", .ref 16)]) (H36 c 0)) : LawRun G (d + 11) ((drOf 33).body.drop 33) (loc5 c) (H32 c (sigs c c.mask)) := by
  have hz := size_le' c
  refine LawRun.step (law33 K c F S) ?_
  have es : sgB c 0 = baseN c := by unfold sgB; rw [List.take_zero, mix_nil]; rfl
  have et : (tldB c 0).map V.str = [sv (baseN c)] := by unfold tldB; rw [← es]; rfl
  have eo : natsV (owB c 0) = List.replicate c.size (.int 0) := by
    unfold owB natsV
    rw [List.take_zero, mix_nil, List.map_map]
    apply List.ext_getElem
    · simp
    · intro i h1 h2; simp
  have lsm : (baseN c).length ≤ 1000 := by unfold baseN; rw [List.length_map, List.length_range]; (first | lia | omega)
  refine LawRun.step (H' := H32 c (baseN c) ++ [[sv (baseN c)]]) (loc' := loc5a c [("told", .ref 14)]) (BS.assign (loc := loc5 c) (BE.list (BA.cons (BE.meth BE.str m_join (BA.cons (BE.var rfl rfl rfl) BA.nil) (join_row (i := 9) (l := baseN c) rfl lsm)) BA.nil) (by simp)) (.inl rfl)) ?_
  refine LawRun.step (H' := H32 c (baseN c) ++ [[sv (baseN c)]] ++ [[.int 0]] ++ [List.replicate c.size (.int 0)]) (loc' := loc5a c [("told", .ref 14), ("owed", .ref 16)]) (BS.assign (loc := loc5a c [("told", .ref 14)]) (BE.bin (a := .ref 15) (BE.list (BA.cons BE.int BA.nil) (by simp)) (BE.var rfl rfl rfl) (mul_list2 (i := 15) rfl (by (first | lia | omega)))) (.inl rfl)) ?_
  have e : H36 c 0 = H32 c (baseN c) ++ [[sv (baseN c)]] ++ [[.int 0]] ++ [List.replicate c.size (.int 0)] := by
    unfold H36 H36g
    rw [et, eo, es]; rfl
  rw [← e]
  exact k
theorem law36 (K : LK G) (c : C6) (S : LS G d c) : BS G (d + 11) lwN (lwSt 36) (loc5a c [("told", .ref 14), ("owed", .ref 16)]) (H36 c 0) .next (loc5a c [("told", .ref 14), ("owed", .ref 16)]) (H36 c (fN c)) := by
  have hz := size_le' c
  have hfl := fr_len S
  have hn : (natsV (frN c)).length = fN c := by unfold natsV; rw [List.length_map]; rfl
  have key := BS.forGo (p := match lwSt 36 with | .For _ _ _ _ p => p | _ => default) (target := match lwSt 36 with | .For t _ _ _ _ => t | _ => .Constant .none 0 default) (iter := match lwSt 36 with | .For _ t _ _ _ => t | _ => .Constant .none 0 default) (body := match lwSt 36 with | .For _ _ b _ _ => b | _ => [])
    (G := G) (d := d + 11) (sc := lwN) (src := fun H => H[13]? = some (natsV (frN c))) (vs := natsV (frN c)) (loc := loc5a c [("told", .ref 14), ("owed", .ref 16)]) (fun _ => loc5a c [("told", .ref 14), ("owed", .ref 16)]) (fun i => H36 c i) ⟨rfl, rfl, rfl, rfl, rfl, rfl, rfl, rfl, rfl, rfl, rfl, rfl, rfl, rfl, rfl, trivial⟩ rfl (BIt.list (j := 13) (BE.var rfl rfl rfl) rfl) (fun _ => rfl) ?_
  · rw [hn] at key
    exact key
  · intro i v hv
    have hil : i < (frN c).length := by
      have := (List.getElem?_eq_some_iff.mp hv).1
      unfold natsV at this; rw [List.length_map] at this; exact this
    have hp : (frN c)[i]? = some (frN c)[i] := List.getElem?_eq_getElem hil
    generalize (frN c)[i] = p at hp
    have hvp : v = .int (p : Nat) := by
      unfold natsV at hv
      rw [List.getElem?_map, hp] at hv
      exact (Option.some.inj hv).symm
    subst hvp
    have hps : p < c.size := S.frlt p (List.mem_of_getElem? hp)
    have hlet := letV_get c hps
    have e1 : (sgB c i).set p (grF c p) = sgB c (i + 1) := mix_set _ _ hp
    have e2 : (owB c i).set p (prF c p) = owB c (i + 1) := mix_set _ _ hp
    have e3 : tldB c (i + 1) = tldB c i ++ [⟨(sgB c (i + 1)).toArray⟩] := by unfold tldB; rw [List.range_succ, List.map_append]; rfl
    have l1 : (sgB c i).length = c.size := mix_len _ _ _ _
    have l2 : (owB c i).length = c.size := mix_len _ _ _ _
    have l3 : (sgB c (i + 1)).length = c.size := mix_len _ _ _ _
    have hif : i < fN c := hil
    have l4 : (tldB c i).length = i + 1 := by unfold tldB; rw [List.length_map, List.length_range]
    refine ⟨_, _, loc5a c [("told", .ref 14), ("owed", .ref 16), ("place", .int (p : Nat))], BB.name (.inl rfl), ?_, subL.get (l0 := loc5a c [("told", .ref 14), ("owed", .ref 16)]) ⟨rfl, rfl, rfl, rfl, rfl, rfl, rfl, rfl, rfl, rfl, rfl, rfl, rfl, rfl, rfl, trivial⟩⟩
    have a1 : ActU G setItemOf [.ref 9, .int (p : Nat), .str ⟨#[grF c p]⟩] (H36g c (sgB c i) (tldB c i) (owB c i)) (H36g c (sgB c (i + 1)) (tldB c i) (owB c i)) := by
      have h := setNat (G := G) (H := H36g c (sgB c i) (tldB c i) (owB c i)) (i := 9) (l := signsV (sgB c i)) (k := p) (v := .str ⟨#[grF c p]⟩) rfl (by unfold signsV; rw [List.length_map]; (first | lia | omega)) (by unfold signsV; rw [List.length_map]; (first | lia | omega))
      have e : (signsV (sgB c i)).set p (.str ⟨#[grF c p]⟩) = signsV (sgB c (i + 1)) := by unfold signsV; rw [← e1, List.map_set]
      rw [e] at h
      exact h
    have a2 : ActU G setItemOf [.ref 16, .int (p : Nat), .int (prF c p : Nat)] (H36g c (sgB c (i + 1)) (tldB c i) (owB c i)) (H36g c (sgB c (i + 1)) (tldB c i) (owB c (i + 1))) := by
      have h := setNat (G := G) (H := H36g c (sgB c (i + 1)) (tldB c i) (owB c i)) (i := 16) (l := natsV (owB c i)) (k := p) (v := .int (prF c p : Nat)) rfl (by unfold natsV; rw [List.length_map]; (first | lia | omega)) (by unfold natsV; rw [List.length_map]; (first | lia | omega))
      have e : (natsV (owB c i)).set p (.int (prF c p : Nat)) = natsV (owB c (i + 1)) := by unfold natsV; rw [← e2, List.map_set]
      rw [e] at h
      exact h
    have a3 : BC G (d + 11) (.builtin "list.append") [.ref 14, sv (sgB c (i + 1))] (H36g c (sgB c (i + 1)) (tldB c i) (owB c (i + 1))) .none (H36 c (i + 1)) := by
      have h := bc_append (G := G) (d := d + 10) (H := H36g c (sgB c (i + 1)) (tldB c i) (owB c (i + 1))) (i := 14) (l := (tldB c i).map .str) (v := sv (sgB c (i + 1))) rfl (by rw [List.length_map]; (first | lia | omega))
      have e : (tldB c i).map V.str ++ [sv (sgB c (i + 1))] = (tldB c (i + 1)).map .str := by rw [e3, List.map_append]; rfl
      rw [e] at h
      exact h
    refine BSs.cons (BS.exprNone (BE.callF K.toGOk (K.defs 7 (by decide)) (K.fn (i := 7) (by decide) rfl rfl rfl) (BA.cons (BE.var rfl rfl rfl) (BA.cons (BE.var rfl rfl rfl) (BA.cons (BE.sub (BE.sub (BE.var rfl rfl rfl) (BE.var rfl rfl rfl) (item_nat2 (i := 2) rfl (by (first | lia | omega)) hlet)) BE.int (itemT_nat2 (k := 1) (by decide) rfl)) BA.nil))) (f_setitem K a1))) ?_
    refine BSs.cons (BS.exprNone (BE.callF K.toGOk (K.defs 7 (by decide)) (K.fn (i := 7) (by decide) rfl rfl rfl) (BA.cons (BE.var rfl rfl rfl) (BA.cons (BE.var rfl rfl rfl) (BA.cons (BE.sub (BE.sub (BE.var rfl rfl rfl) (BE.var rfl rfl rfl) (item_nat2 (i := 2) rfl (by (first | lia | omega)) hlet)) BE.int (itemT_nat2 (k := 2) (by decide) rfl)) BA.nil))) (f_setitem K a2))) ?_
    exact BSs.cons (BS.exprNone (BE.meth (BE.var rfl rfl rfl) m_append (BA.cons (BE.meth BE.str m_join (BA.cons (BE.var rfl rfl rfl) BA.nil) (join_row (i := 9) (l := sgB c (i + 1)) rfl (by (first | lia | omega)))) BA.nil) a3)) BSs.nil
end
end Mine
end
section
open PySem PySem.Calls PyProof.Rows
set_option Elab.async false
set_option maxRecDepth 100000
namespace Mine
noncomputable def chA (c : C6) (i : Nat) : Nat := (chainN c.mask c.size)[i]?.getD 0
noncomputable def prAll (c : C6) : Nat := ((frN c).map (prF c)).sum
structure LT (c : C6) : Prop where
  ch_len : (chainN c.mask c.size).length = fN c + 1
  ch_sg : ∀ i, i ≤ fN c → sigs c (chA c i) = sgB c i
  ch_lt : ∀ i, i ≤ fN c → chA c i < 2 ^ c.size
  ch_kp : ∀ i, i ≤ fN c → kpN c (chA c i) = (frN c).take i ∧ lfN c (chA c i) = (frN c).drop i
  sg_kp : (kpN c c.mask).length ≤ fN c ∧ sgB c (kpN c c.mask).length = sigs c c.mask
  up : ∀ i p, (frN c)[i]? = some p → levF (sgB c i) (sgB c (i + 1)) (prF c p) = prF c p
  dn : ∀ i p, (frN c)[i]? = some p → levF (sgB c (i + 1)) (sgB c i) (prF c p) = prF c p
  all : levF (sgB c 0) (sgB c (fN c)) (prAll c) = prAll c
  ok : ∀ i, i ≤ fN c → (PyData.str ⟨(sgB c i).toArray⟩).canLay0 = true
section
variable {G : GL} {d : Nat} {sc : List (Str × NameKind)} {loc loc' loc'' : Loc} {H H' H'' X H1 : Lists}
theorem in_natsV {i : Nat} {l : List Nat} {k : Nat} (hl : H[i]? = some (natsV l)) : Act2 G (compareOp .In) (.int (k : Nat)) (.ref i) H (.bool (decide (k ∈ l))) H := by
  have h := in_ints2 (G := G) (H := H) (i := i) (ys := l.map fun n : Nat => (n : Int)) (k := (k : Int)) (by rw [hl]; unfold natsV; rw [List.map_map]; rfl)
  refine h.cast ?_
  congr 1
  rw [List.any_map]
  by_cases hk : k ∈ l
  · rw [decide_eq_true hk, List.any_eq_true]
    exact ⟨k, hk, by simp⟩
  · rw [decide_eq_false hk, List.any_eq_false]
    intro x hx
    simp only [Function.comp, beq_iff_eq]
    intro q
    have : x = k := by (first | lia | omega)
    exact hk (this ▸ hx)
theorem law37 (K : LK G) (c : C6) (S : LS G d c) (k : LawRun G (d + 11) ((drOf 33).body.drop 39) (loc6 c) (H38 c)) : LawRun G (d + 11) ((drOf 33).body.drop 36) (loc5a c [("told", .ref 14), ("owed", .ref 16)]) (H36 c 0) := by
  have hz := size_le' c
  have hfl := fr_len S
  refine LawRun.step (law36 K c S) ?_
  have eo : owB c (fN c) = (List.range c.size).map fun p => if p ∈ frN c then prF c p else 0 := by
    unfold owB fN
    rw [List.take_length]; rfl
  refine LawRun.step (BS.ifF (BT.drop (X := [natsV ((List.range c.size).map fun p => if p ∈ frN c then prF c p else 0)]) (BT.cmp (BE.var rfl rfl rfl) (BE.comp (out := natsV ((List.range c.size).map fun p => if p ∈ frN c then prF c p else 0)) (H'' := H36 c (fN c)) (BIt.range (b := (c.size : Nat)) (BRng.one K.toGOk rfl K.range (BA.cons (BE.var rfl rfl rfl) BA.nil)) (rng_small (by (first | lia | omega))) rng_size) (CompR.mapE (fun v => match v with | .int i => .int (if i.toNat ∈ frN c then prF c i.toNat else 0 : Nat) | _ => .none) ?_ ?_ (fun _ => rfl) ?_) ?_ (.inl rfl) (hfree := by rfl)) (ne_ints (i := 16) (j := 17) (l := (List.range c.size).map fun p => if p ∈ frN c then prF c p else 0) ?_ ?_)) (H36g_plain c _ _ _)) BSs.nil) ?_
  · trivial
  · rw [rng_nats]; unfold natsV; rw [List.map_map, List.map_map]; rfl
  · intro v hv
    obtain ⟨i, hi, rfl⟩ := rngL_mem hv
    simp only [Int.zero_add, Int.mul_one, Int.toNat_natCast]
    by_cases hm : i ∈ frN c
    · rw [if_pos hm]
      exact BE.ifT (BT.cast (BT.cmp (BE.var rfl rfl rfl) (BE.var rfl rfl rfl) (in_natsV (i := 13) (l := frN c) rfl)) (by simpa using hm)) (BE.sub (BE.sub (BE.var rfl rfl rfl) (BE.var rfl rfl rfl) (item_nat2 (i := 2) rfl (by (first | lia | omega)) (letV_get c hi))) BE.int (itemT_nat2 (k := 2) (by decide) rfl))
    · rw [if_neg hm]
      exact BE.ifF (BT.cast (BT.cmp (BE.var rfl rfl rfl) (BE.var rfl rfl rfl) (in_natsV (i := 13) (l := frN c) rfl)) (by simpa using hm)) BE.int
  · unfold natsV; rw [List.length_map, List.length_map, List.length_range]; (first | lia | omega)
  · rw [← eo]; rfl
  · rfl
  refine LawRun.step (H' := H38 c) (loc' := loc5a c [("told", .ref 14), ("owed", .ref 16), ("masks", .ref 17)]) (BS.assign (loc := loc5a c [("told", .ref 14), ("owed", .ref 16)]) (v := .ref 17) (BE.callF K.toGOk (K.defs 30 (by decide)) (K.fn (i := 30) (by decide) rfl rfl rfl) (BA.cons (BE.var rfl rfl rfl) (BA.cons (BE.var rfl rfl rfl) BA.nil)) (f_chain K (H36g_plain c _ _ _) (by (first | lia | omega)))) (.inr rfl)) ?_
  exact LawRun.sub (loc' := loc6 c) (subL.get (l0 := loc6 c) ⟨rfl, rfl, rfl, rfl, rfl, rfl, rfl, rfl, rfl, rfl, rfl, rfl, rfl, trivial⟩) k
end
end Mine
end
section
open PySem PySem.Calls PyProof.Rows
set_option Elab.async false
set_option maxRecDepth 100000
namespace Mine
section
variable {G : GL} {d : Nat} {sc : List (Str × NameKind)} {loc loc' loc'' : Loc} {H H' H'' X H1 : Lists}
theorem H38_plain (c : C6) : plainH (H38 c) = true := by
  refine plainH_app (H36g_plain c _ _ _) ?_
  unfold plainH
  simp only [List.all_cons, List.all_nil, Bool.and_true]
  exact plainVs_map (fun _ => rfl) _
theorem told_chain {c : C6} (T : LT c) : (chainN c.mask c.size).map (fun m => sv (sigs c m)) = (tldB c (fN c)).map .str := by
  unfold tldB
  rw [List.map_map]
  apply List.ext_getElem
  · simp [T.ch_len]
  · intro i h1 h2
    simp at h1 h2
    have := T.ch_sg i (by (first | lia | omega))
    unfold chA at this
    rw [List.getElem?_eq_getElem h1] at this
    simp only [List.getElem_map, List.getElem_range, Function.comp]
    rw [← this]; rfl
theorem tld_get (c : C6) {i : Nat} (h : i ≤ fN c) : ((tldB c (fN c)).map V.str)[i]? = some (sv (sgB c i)) := by
  unfold tldB
  rw [List.map_map, List.getElem?_map, List.getElem?_range (by (first | lia | omega))]; rfl
theorem tld_len (c : C6) : ((tldB c (fN c)).map V.str).length = fN c + 1 := by unfold tldB; rw [List.length_map, List.length_map, List.length_range]
theorem law39 (K : LK G) (c : C6) (S : LS G d c) (T : LT c) : BS G (d + 11) lwN (lwSt 39) (loc6 c) (H38 c) .next (loc6 c) (H38 c) := by
  have hz := size_le' c
  have hfl := fr_len S
  refine BS.ifF (BT.drop (X := [(chainN c.mask c.size).map (fun m => sv (sigs c m))]) (BT.cmp (BE.var rfl rfl rfl) (BE.comp (out := (chainN c.mask c.size).map (fun m => sv (sigs c m))) (H'' := H38 c) (BIt.list (BE.var rfl rfl rfl) (j := 17) (l := natsV (chainN c.mask c.size)) rfl) (CompR.mapE (fun v => match v with | .int i => sv (sigs c i.toNat) | _ => .none) ?_ ?_ (fun _ => rfl) ?_) ?_ (.inr rfl) (hfree := by rfl)) (ne_strs (i := 14) (j := 18) (l := tldB c (fN c)) ?_ rfl ?_)) (H38_plain c)) BSs.nil
  · rfl
  · unfold natsV; rw [List.map_map]; rfl
  · intro v hv
    unfold natsV at hv
    rw [List.mem_map] at hv
    obtain ⟨m, hm, rfl⟩ := hv
    have ls : (sigs c m).length ≤ 1000 := by rw [sg_len]; (first | lia | omega)
    refine BE.drop (X := [signsV (sigs c m)]) (BE.meth BE.str m_join (BA.cons (BE.comp (out := signsV (sigs c m)) (H'' := H38 c) (BIt.range (b := (c.size : Nat)) (BRng.one K.toGOk rfl K.range (BA.cons (BE.var rfl rfl rfl) BA.nil)) (rng_small (by (first | lia | omega))) rng_size) (CompR.mapE (fun v => match v with | .int i => .str ⟨#[sgOf c m i.toNat]⟩ | _ => .none) ?_ ?_ (fun _ => rfl) ?_) ?_ (.inl rfl) (hfree := by rfl)) BA.nil) (join_row (i := 18) (l := sigs c m) rfl ls)) (H38_plain c) rfl
    · trivial
    · rw [rng_nats]; unfold natsV signsV sigs; rw [List.map_map, List.map_map]; rfl
    · intro v hv
      obtain ⟨i, hi, rfl⟩ := rngL_mem hv
      simp only [Int.zero_add, Int.mul_one, Int.toNat_natCast]
      have hb2 : m / 2 ^ i % 2 < 2 := Nat.mod_lt _ (by decide)
      exact BE.sub (BE.sub (BE.var rfl rfl rfl) (BE.var rfl rfl rfl) (item_nat2 (i := 2) rfl (by (first | lia | omega)) (letV_get c hi))) (BE.bin (BE.bin (BE.var rfl rfl rfl) (BE.bin BE.int (BE.var rfl rfl rfl) (pow_nat2 (by (first | lia | omega)))) (div_nat2 (by simp) (Nat.lt_of_lt_of_le (Nat.pow_lt_pow_right (by decide) (show i < 10 by (first | lia | omega))) (by decide)))) BE.int (mod_nat2 (b := 2) (by decide))) (itemT_nat2 (by (first | lia | omega)) (letter_item (c.lt i) _ hb2))
    · unfold signsV; rw [List.length_map]; (first | lia | omega)
  · rw [List.length_map, T.ch_len]; (first | lia | omega)
  · intro x hx
    unfold tldB at hx
    rw [List.mem_map] at hx
    obtain ⟨j, hj, rfl⟩ := hx
    exact T.ok j (by have := List.mem_range.mp hj; (first | lia | omega))
  · rw [told_chain T]; rfl
theorem law40 (K : LK G) (c : C6) (S : LS G d c) (T : LT c) : BS G (d + 11) lwN (lwSt 40) (loc6 c) (H38 c) .next (loc6 c) (H38 c) := by
  have hz := size_le' c
  have hk := T.sg_kp
  have hfl := fr_len S
  refine BS.ifF (BT.cast (BT.cmp (BE.sub (BE.var rfl rfl rfl) (len_list K (i := 11) (n := (kpN c c.mask).length) rfl rfl (by unfold natsV; rw [List.length_map]) (by (first | lia | omega))) (item_nat2 (i := 14) rfl (by (first | lia | omega)) (tld_get c hk.1))) (BE.var rfl rfl rfl) ne_str2) ?_) BSs.nil
  rw [hk.2]
  simp
theorem fr_get {c : C6} {i p : Nat} (h : (frN c)[i]? = some p) : (natsV (frN c))[i]? = some (.int (p : Nat)) := by unfold natsV; rw [List.getElem?_map, h]; rfl
theorem lowB {c : C6} (F : LF G c) (i : Nat) : ∀ x ∈ sgB c i, (Txt.lower ⟨#[x]⟩).length ≤ 1000000 := fun x hx => by
  unfold sgB mixN at hx
  rw [List.mem_map] at hx
  obtain ⟨p, hp, rfl⟩ := hx
  have hp' := List.mem_range.mp hp
  split
  · exact (F.low p hp').2
  · unfold baseF
    split
    · exact (F.low p hp').1
    · exact (F.sg hp').2.2.2
end
end Mine
end
section
open PySem PySem.Calls PyProof.Rows
set_option Elab.async false
set_option maxRecDepth 100000
namespace Mine
noncomputable def loc6a (c : C6) (r : Loc) : Loc := ("cells", .ref 0) :: ("hand", .fn (drOf (21 + wayOf c.c0)).name) :: ("opens", .str ⟨#[opn c.c0]⟩) :: ("shuts", .str ⟨#[shn c.c0]⟩) :: ("names", .ref 1) :: ("letters", .ref 2) :: ("size", .int (c.size : Nat)) :: ("word", sv (sigs c c.mask)) :: ("kept", .ref 11) :: ("left", .ref 12) :: ("free", .ref 13) :: ("told", .ref 14) :: ("masks", .ref 17) :: r
section
variable {G : GL} {d : Nat} {sc : List (Str × NameKind)} {loc loc' loc'' : Loc} {H H' H'' X H1 : Lists}
theorem sgB_len (c : C6) (i : Nat) : (sgB c i).length = c.size := mix_len _ _ _ _
theorem law41 (K : LK G) (c : C6) (F : LF G c) (S : LS G d c) (T : LT c) : BS G (d + 11) lwN (lwSt 41) (loc6 c) (H38 c) .next (loc6 c) (H38 c) := by
  have hz := size_le' c
  have hfl := fr_len S
  have hp38 := H38_plain c
  have key := BS.forGo (p := match lwSt 41 with | .For _ _ _ _ p => p | _ => default) (target := match lwSt 41 with | .For t _ _ _ _ => t | _ => .Constant .none 0 default) (iter := match lwSt 41 with | .For _ t _ _ _ => t | _ => .Constant .none 0 default) (body := match lwSt 41 with | .For _ _ b _ _ => b | _ => [])
    (G := G) (d := d + 11) (sc := lwN) (src := fun _ => True) (vs := rngL 0 1 (fN c)) (loc := loc6 c) (fun _ => loc6 c) (fun _ => H38 c) ⟨rfl, rfl, rfl, rfl, rfl, rfl, rfl, rfl, rfl, rfl, rfl, rfl, rfl, trivial⟩ rfl (BIt.range (b := (fN c : Nat)) (BRng.one K.toGOk rfl K.range (BA.cons (len_list K (i := 13) (n := fN c) rfl rfl (by unfold natsV; rw [List.length_map]; rfl) (by (first | lia | omega))) BA.nil)) (rng_small (by (first | lia | omega))) rng_size) (fun _ => trivial) ?_
  · exact key
  · intro i v hv
    obtain ⟨hi, rfl⟩ := rngN_get hv
    obtain ⟨p, hp⟩ : ∃ p, (frN c)[i]? = some p := ⟨_, List.getElem?_eq_getElem (show i < (frN c).length from hi)⟩
    have hps : p < c.size := S.frlt p (List.mem_of_getElem? hp)
    have hu := T.up i p hp
    have hd := T.dn i p hp
    have b1 := sgB_len c i
    have b2 := sgB_len c (i + 1)
    have low1 := low_app (lowB F i) (lowB F (i + 1))
    have low2 := low_app (lowB F (i + 1)) (lowB F i)
    have f1 := f_lev (d := d + 4) K hp38 low1 (by (first | lia | omega)) (by (first | lia | omega)) (mx := prF c p)
    have f2 := f_lev (d := d + 4) K hp38 low2 (by (first | lia | omega)) (by (first | lia | omega)) (mx := prF c p)
    rw [hu] at f1
    rw [hd] at f2
    refine ⟨_, _, loc6a c [("k", .int (i : Nat)), ("price", .int (prF c p : Nat)), ("cost", .int (prF c p : Nat))], BB.name (.inl rfl), ?_, subL.get (l0 := loc6 c) ⟨rfl, rfl, rfl, rfl, rfl, rfl, rfl, rfl, rfl, rfl, rfl, rfl, rfl, trivial⟩⟩
    refine BSs.cons (loc' := loc6a c [("k", .int (i : Nat)), ("price", .int (prF c p : Nat))]) (H' := H38 c) (BS.assign (loc := loc6a c [("k", .int (i : Nat))]) (BE.sub (BE.sub (BE.var rfl rfl rfl) (BE.sub (BE.var rfl rfl rfl) (BE.var rfl rfl rfl) (item_nat2 (i := 13) rfl (by (first | lia | omega)) (fr_get hp))) (item_nat2 (i := 2) rfl (by (first | lia | omega)) (letV_get c hps))) BE.int (itemT_nat2 (k := 2) (by decide) rfl)) (.inl rfl)) ?_
    refine BSs.cons (loc' := loc6a c [("k", .int (i : Nat)), ("price", .int (prF c p : Nat)), ("cost", .int (prF c p : Nat))]) (H' := H38 c) ?_ ?_
    · by_cases he : i % 2 = 0
      · exact BS.iteT (BT.cmp (BE.bin (BE.var rfl rfl rfl) BE.int (mod_nat2 (b := 2) (by decide))) BE.int (eq_nat2 (b := 0))) (by simpa using he) (BSs.cons (BS.assign (loc := loc6a c [("k", .int (i : Nat)), ("price", .int (prF c p : Nat))]) (BE.callF K.toGOk (K.defs 18 (by decide)) (K.fn (i := 18) (by decide) rfl rfl rfl) (BA.cons (BE.sub (BE.var rfl rfl rfl) (BE.var rfl rfl rfl) (item_nat2 (i := 14) rfl (by (first | lia | omega)) (tld_get c (i := i) (by (first | lia | omega))))) (BA.cons (BE.sub (BE.var rfl rfl rfl) (BE.bin (BE.var rfl rfl rfl) BE.int (add_nat2 (b := 1))) (item_nat2 (i := 14) rfl (by (first | lia | omega)) (tld_get c (i := i + 1) (by (first | lia | omega))))) (BA.cons (BE.var rfl rfl rfl) BA.nil))) f1) (.inl rfl)) BSs.nil)
      · exact BS.iteF (BT.cmp (BE.bin (BE.var rfl rfl rfl) BE.int (mod_nat2 (b := 2) (by decide))) BE.int (eq_nat2 (b := 0))) (by simpa using he) (BSs.cons (BS.assign (loc := loc6a c [("k", .int (i : Nat)), ("price", .int (prF c p : Nat))]) (BE.callF K.toGOk (K.defs 18 (by decide)) (K.fn (i := 18) (by decide) rfl rfl rfl) (BA.cons (BE.sub (BE.var rfl rfl rfl) (BE.bin (BE.var rfl rfl rfl) BE.int (add_nat2 (b := 1))) (item_nat2 (i := 14) rfl (by (first | lia | omega)) (tld_get c (i := i + 1) (by (first | lia | omega))))) (BA.cons (BE.sub (BE.var rfl rfl rfl) (BE.var rfl rfl rfl) (item_nat2 (i := 14) rfl (by (first | lia | omega)) (tld_get c (i := i) (by (first | lia | omega))))) (BA.cons (BE.var rfl rfl rfl) BA.nil))) f2) (.inl rfl)) BSs.nil)
    · exact BSs.cons (BS.ifF (BT.cast (BT.not (BT.val (BE.callF K.toGOk (K.defs 32 (by decide)) (K.fn (i := 32) (by decide) rfl rfl rfl) (BA.cons (BE.var rfl rfl rfl) (BA.cons (BE.var rfl rfl rfl) BA.nil)) (f_told (d := d + 9) K (u := (prF c p : Int)) (v := (prF c p : Int)) (H := H38 c))) tru_bool)) (by simp)) BSs.nil) BSs.nil
end
end Mine
end
section
open PySem PySem.Calls PyProof.Rows
set_option Elab.async false
set_option maxRecDepth 100000
namespace Mine
section
variable {G : GL} {d : Nat} {sc : List (Str × NameKind)} {loc loc' loc'' : Loc} {H H' H'' X H1 : Lists}
noncomputable def tOf (c : C6) : Nat := c.c5 % (fN c + 1)
theorem cutL_from {τ : Type} (l : List τ) (n : Nat) (h : n ≤ l.length) : cutL l (some (n : Int)) none = l.drop n := by
  unfold cutL clipAt
  simp only [Option.elim]
  rw [if_neg (by (first | lia | omega))]
  have e1 : (max 0 (min (n : Int) (l.length : Int))).toNat = n := by (first | lia | omega)
  rw [e1, List.take_of_length_le (by simp)]
theorem shaped_last (a b : List Nat) (n : Int) : SeqAt.shaped (.tuple [.list (a.map fun x : Nat => .int x), .list (b.map fun x : Nat => .int x), .int n]) = true := by
  obtain ⟨a1, a2⟩ := shaped_map (fun x : Nat => PyData.int x) a fun _ _ => ⟨by unfold PyData.canLay0; rfl, by unfold PyData.depth; rfl⟩
  obtain ⟨b1, b2⟩ := shaped_map (fun x : Nat => PyData.int x) b fun _ _ => ⟨by unfold PyData.canLay0; rfl, by unfold PyData.depth; rfl⟩
  unfold SeqAt.shaped
  simp only [PyData.canLay0, PyData.canLayAll0, PyData.depth, PyData.depthAll, a1, a2, b1, b2]
  rfl
theorem pyofs_nats (H : Lists) (l : List Nat) : PyOfs H (natsV l) (l.map fun x : Nat => .int x) := pyofs_map (fun n : Nat => V.int n) (fun n : Nat => PyData.int n) l fun _ _ => .int _
theorem chL_signs (l : List Nat) : chL ⟨l.toArray⟩ = signsV l := by unfold chL signsV; rfl
theorem law42 (K : LK G) (c : C6) (F : LF G c) (S : LS G d c) (T : LT c) : LawRun G (d + 11) ((drOf 33).body.drop 39) (loc6 c) (H38 c) := by
  have hz := size_le' c
  have hfl := fr_len S
  have hp38 := H38_plain c
  refine LawRun.step (law39 K c S T) (LawRun.step (law40 K c S T) (LawRun.step (law41 K c F S T) ?_))
  have fpr : ((frN c).map (prF c)).length = fN c := by rw [List.length_map]; rfl
  refine LawRun.step (loc' := loc6a c [("price", .int (prAll c : Nat))]) (BS.assign (loc := loc6 c) (BE.drop (X := [natsV ((frN c).map (prF c))]) (BE.callB K.toGOk rfl K.sum (BA.cons (BE.comp (out := natsV ((frN c).map (prF c))) (H'' := H38 c) (BIt.list (BE.var rfl rfl rfl) (j := 13) (l := natsV (frN c)) rfl) (CompR.mapE (fun v => match v with | .int i => .int (prF c i.toNat : Nat) | _ => .none) ?_ ?_ (fun _ => rfl) ?_) ?_ (.inl rfl) (hfree := by rfl)) BA.nil) (sum_row (i := 18) rfl) rfl) hp38 rfl) (.inl rfl)) ?_
  · rfl
  · unfold natsV; rw [List.map_map, List.map_map]; rfl
  · intro v hv
    unfold natsV at hv
    rw [List.mem_map] at hv
    obtain ⟨p, hp, rfl⟩ := hv
    exact BE.sub (BE.sub (BE.var rfl rfl rfl) (BE.var rfl rfl rfl) (item_nat2 (i := 2) rfl (by have := S.frlt p hp; (first | lia | omega)) (letV_get c (S.frlt p hp)))) BE.int (itemT_nat2 (k := 2) (by decide) rfl)
  · unfold natsV; rw [List.length_map]; (first | lia | omega)
  have b0 := sgB_len c 0
  have bn := sgB_len c (fN c)
  have tl := tld_len c
  refine LawRun.step (told_if (loc := loc6a c [("price", .int (prAll c : Nat))]) K hp38 (low_app (lowB F 0) (lowB F (fN c))) (by (first | lia | omega)) (by (first | lia | omega)) (BE.sub (BE.var rfl rfl rfl) BE.int (item_nat2 (i := 14) (k := 0) rfl (by decide) (tld_get c (i := 0) (by (first | lia | omega))))) (BE.sub (BE.var rfl rfl rfl) (neg_int2 BE.int) (item_list_neg2 (i := 14) (l := (tldB c (fN c)).map .str) (k := -1) rfl (by decide) (by (first | lia | omega)) (by (first | lia | omega)) ?_)) (BE.var rfl rfl rfl) (BE.var rfl rfl rfl) T.all (by intro _ _; rfl) (by intro _ _; rfl) (by intro _ _; rfl) (by intro _ _; rfl)) ?_
  · rw [tl, show (-1 + ((fN c + 1 : Nat) : Int)).toNat = fN c by (first | lia | omega)]
    exact tld_get c (Nat.le_refl _)
  refine LawRun.step (loc' := loc6a c [("price", .int (prAll c : Nat)), ("t", .int (tOf c : Nat))]) (BS.assign (loc := loc6a c [("price", .int (prAll c : Nat))]) (BE.bin (BE.sub (BE.var rfl rfl rfl) BE.int (item_nat2 (i := 0) (k := 5) rfl (by decide) rfl)) (len_list K (i := 14) (n := fN c + 1) rfl rfl tl (by (first | lia | omega))) (mod_nat2 (by (first | lia | omega)))) (.inr rfl)) ?_
  have ht : tOf c ≤ fN c := by unfold tOf; have := Nat.mod_lt c.c5 (show 0 < fN c + 1 by (first | lia | omega)); (first | lia | omega)
  have hlt := T.ch_lt _ ht
  have hkl := S.klen _ hlt
  have hsg := T.ch_sg _ ht
  obtain ⟨hkp, hlf⟩ := T.ch_kp _ ht
  generalize hmm : chA c (tOf c) = m at *
  have bt := sgB_len c (tOf c)
  have hlist : BC G (d + 11) (.type "list") [sv (sgB c (tOf c))] (H38 c) (.ref 18) (H38 c ++ [signsV (sgB c (tOf c))]) := by
    have := bc_list_str (G := G) (d := d + 10) (H := H38 c) (x := ⟨(sgB c (tOf c)).toArray⟩) (by rw [sv_len]; (first | lia | omega))
    rw [chL_signs] at this
    exact this
  refine LawRun.struck (nm0 := nm0 c) (nm1 := nm1 c) (l := sigs c m) (j := 18) (jn := 1) (H1 := H38 c ++ [signsV (sgB c (tOf c))]) K S.short (by have := S.nlen; (first | lia | omega)) (S.sk m hlt) rfl rfl rfl rfl rfl (BE.callT K.toGOk rfl K.list (BA.cons (BE.sub (BE.var rfl rfl rfl) (BE.var rfl rfl rfl) (item_nat2 (i := 14) rfl (by (first | lia | omega)) (tld_get c ht))) BA.nil) hlist rfl) (by intro _; rfl) (by rw [hsg]; rfl) ?_
  have hp45 : plainH (H38 c ++ [signsV (sgB c (tOf c))] ++ [natsV (kpN c m), natsV (lfN c m)]) = true := by
    refine plainH_app (plainH_app hp38 ?_) ?_
    · unfold plainH
      simp only [List.all_cons, List.all_nil, Bool.and_true]
      exact signs_plain _
    · unfold plainH
      simp only [List.all_cons, List.all_nil, Bool.and_true, Bool.and_eq_true]
      exact ⟨plainVs_map (fun _ => rfl) _, plainVs_map (fun _ => rfl) _⟩
  have hmk : (natsV (chainN c.mask c.size))[tOf c]? = some (.int (m : Nat)) := by
    have hl : tOf c < (chainN c.mask c.size).length := by rw [T.ch_len]; (first | lia | omega)
    unfold natsV
    rw [List.getElem?_map, getD_of hl, ← hmm]; rfl
  refine LawRun.step (BS.ifF (BT.cast (BT.cmp (BE.var (v := .str (pageOf c m)) rfl rfl rfl) (BE.drop (X := [(pageStrs c m).map .str]) (BE.meth BE.str m_join (BA.cons (BE.comp (out := (pageStrs c m).map .str) (H'' := H38 c ++ [signsV (sgB c (tOf c))] ++ [natsV (kpN c m), natsV (lfN c m)]) (BIt.range (b := (c.size : Nat)) (BRng.one K.toGOk rfl K.range (BA.cons (BE.var rfl rfl rfl) BA.nil)) (rng_small (by (first | lia | omega))) rng_size)
    (CompR.mapE (fun v => match v with | .int i => .str (if m / 2 ^ i.toNat % 2 = 0 then nm0 c else nm1 c) | _ => .none) ?_ ?_ (fun _ => rfl) ?_) ?_ (.inl rfl) (hfree := by rfl)) BA.nil) (bc_join (i := 21) (ys := pageStrs c m) rfl (by decide) (page_sum c _ S.nlen))) hp45 rfl) ne_str2) (by unfold pageOf; simp)) BSs.nil) ?_
  · trivial
  · rw [rng_nats]; unfold pageStrs natsV; rw [List.map_map, List.map_map]; rfl
  · intro v hv
    obtain ⟨i, hi, rfl⟩ := rngL_mem hv
    simp only [Int.zero_add, Int.mul_one, Int.toNat_natCast]
    exact BE.sub (BE.var rfl rfl rfl) (BE.bin (BE.bin (BE.sub (BE.var rfl rfl rfl) (BE.var rfl rfl rfl) (item_nat2 (i := 17) rfl (by (first | lia | omega)) hmk)) (BE.bin BE.int (BE.var rfl rfl rfl) (pow_nat2 (by (first | lia | omega)))) (div_nat2 (by simp) (Nat.lt_of_lt_of_le (Nat.pow_lt_pow_right (by decide) (show i < 10 by (first | lia | omega))) (by decide)))) BE.int (mod_nat2 (b := 2) (by decide))) (item_nat2 (i := 1) rfl (by (first | lia | omega)) (names_item c _ (Nat.mod_lt _ (by decide))))
  · unfold pageStrs; rw [List.length_map, List.length_map, List.length_range]; (first | lia | omega)
  have hfr : (frN c).length = fN c := rfl
  have k1 : (kpN c m).length = tOf c := by rw [hkp, List.length_take]; (first | lia | omega)
  have k2 : (lfN c m).length = fN c - tOf c := by rw [hlf, List.length_drop]; (first | lia | omega)
  have c1 : cutL (natsV (frN c)) none (some ((tOf c : Nat) : Int)) = natsV (kpN c m) := by
    rw [cutL_take _ _ (by unfold natsV; rw [List.length_map]; (first | lia | omega)), hkp]
    unfold natsV; rw [List.map_take]
  have c2 : cutL (natsV (frN c)) (some ((tOf c : Nat) : Int)) none = natsV (lfN c m) := by
    rw [cutL_from _ _ (by unfold natsV; rw [List.length_map]; (first | lia | omega)), hlf]
    unfold natsV; rw [List.map_drop]
  have fl : (natsV (frN c)).length ≤ 1000000 := by unfold natsV; rw [List.length_map]; (first | lia | omega)
  have sl1 := slice_list2 (G := G) (H := H38 c ++ [signsV (sgB c (tOf c))] ++ [natsV (kpN c m), natsV (lfN c m)]) (i := 13) (l := natsV (frN c)) (lo := none) (hi := some ((tOf c : Nat) : Int)) rfl fl
  have sl2 := slice_list2 (G := G) (H := H38 c ++ [signsV (sgB c (tOf c))] ++ [natsV (kpN c m), natsV (lfN c m)] ++ [natsV (kpN c m)]) (i := 13) (l := natsV (frN c)) (lo := some ((tOf c : Nat) : Int)) (hi := none) rfl fl
  rw [c1] at sl1
  rw [c2] at sl2
  have hval : V.int ((2 : Int) * (tOf c : Nat) - (fN c : Nat)) = .int (((kpN c m).length : Int) - ((lfN c m).length : Int)) := by rw [k1, k2]; exact congrArg V.int (by (first | lia | omega))
  have hfs := f_sub (G := G) (d := d + 9) (H := H38 c ++ [signsV (sgB c (tOf c))] ++ [natsV (kpN c m), natsV (lfN c m)]) K (u := ((kpN c m).length : Int)) (v := ((lfN c m).length : Int))
  have hmul : Act2 G (binaryOp .Mult) (.int 2) (.int (tOf c : Nat)) (H38 c ++ [signsV (sgB c (tOf c))] ++ [natsV (kpN c m), natsV (lfN c m)] ++ [natsV (kpN c m)] ++ [natsV (lfN c m)]) (.int ((2 : Int) * (tOf c : Nat))) (H38 c ++ [signsV (sgB c (tOf c))] ++ [natsV (kpN c m), natsV (lfN c m)] ++ [natsV (kpN c m)] ++ [natsV (lfN c m)]) := mul_int2 (.of_left (by decide))
  have hsub := (sub_int2 (G := G) (H := H38 c ++ [signsV (sgB c (tOf c))] ++ [natsV (kpN c m), natsV (lfN c m)] ++ [natsV (kpN c m)] ++ [natsV (lfN c m)]) (a := (2 : Int) * (tOf c : Nat)) (b := (fN c : Nat))).cast hval
  have heq : Act2 G (compareOp .Eq) (.tup [.ref 19, .ref 20, .int (((kpN c m).length : Int) - ((lfN c m).length : Int))]) (.tup [.ref 21, .ref 22, .int (((kpN c m).length : Int) - ((lfN c m).length : Int))]) (H38 c ++ [signsV (sgB c (tOf c))] ++ [natsV (kpN c m), natsV (lfN c m)] ++ [natsV (kpN c m)] ++ [natsV (lfN c m)]) (.bool true) (H38 c ++ [signsV (sgB c (tOf c))] ++ [natsV (kpN c m), natsV (lfN c m)] ++ [natsV (kpN c m)] ++ [natsV (lfN c m)]) :=
    eq_same (.tup (.cons (.ref (i := 19) rfl (pyofs_nats _ _)) (.cons (.ref (i := 20) rfl (pyofs_nats _ _)) (.cons (.int _) .nil)))) (.tup (.cons (.ref (i := 21) rfl (pyofs_nats _ _)) (.cons (.ref (i := 22) rfl (pyofs_nats _ _)) (.cons (.int _) .nil)))) (shaped_last _ _ _)
  exact LawRun.ret (BS.ret (BE.cmp (BE.tuple (BA.cons (BE.var rfl rfl rfl) (BA.cons (BE.var rfl rfl rfl) (BA.cons (BE.callF K.toGOk (K.defs 2 (by decide)) (K.fn (i := 2) (by decide) rfl rfl rfl) (BA.cons (len_list K (i := 19) (n := (kpN c m).length) rfl rfl (by unfold natsV; rw [List.length_map]; rfl) (by (first | lia | omega))) (BA.cons (len_list K (i := 20) (n := (lfN c m).length) rfl rfl (by unfold natsV; rw [List.length_map]; rfl) (by (first | lia | omega))) BA.nil)) hfs) BA.nil))) (by simp))
    (BE.tuple (BA.cons (BE.sub (BE.var rfl rfl rfl) (BE.slice (a := .none) (b := .int (tOf c : Nat)) ⟨rfl, rfl⟩ (BE.var rfl rfl rfl)) sl1) (BA.cons (BE.sub (BE.var rfl rfl rfl) (BE.slice (a := .int (tOf c : Nat)) (b := .none) (BE.var rfl rfl rfl) ⟨rfl, rfl⟩) sl2) (BA.cons (BE.bin (BE.bin BE.int (BE.var rfl rfl rfl) hmul) (len_list K (i := 13) (n := fN c) rfl rfl (by unfold natsV; rw [List.length_map]; rfl) (by (first | lia | omega))) hsub) BA.nil))) (by simp)) heq))
end
end Mine
end
section
open PySem PySem.Calls PyProof.Rows
set_option Elab.async false
set_option maxRecDepth 100000
namespace Mine
/-- the law's run, given what the plain laws say -/
theorem law_run {G : GL} {d : Nat} (K : LK G) (hs : G.script.length ≤ 1000000) (F : LF G (c6 G.script)) (P : LL (c6 G.script)) (S : LS G d (c6 G.script)) (T : LT (c6 G.script)) : LawRun G (d + 11) (drOf 33).body [("script", .scr)] [] :=
  law1 K hs (law2 K _ (LawRun.step (law15 K _) (law16 K _ F (law18 K _ F (law23 K _ F P (law30 K _ S (law34 K _ F S (law37 K _ S (law42 K _ F S T)))))))))
end Mine
end
section
open PySem PySem.Calls PyProof.Rows
set_option Elab.async false
set_option maxRecDepth 100000
namespace Mine
structure BSt where
  bs : List Bool
  lf : List Nat
  kp : List Nat
noncomputable def bStep (s : BSt) : BSt :=
  if s.bs.any id then
    let p := s.bs.findIdx id
    if p = 0 then ⟨s.bs.eraseIdx 0, s.lf.eraseIdx 0, s.kp ++ [s.lf[0]?.getD 0]⟩
    else ⟨(s.bs.eraseIdx (p - 1)).eraseIdx (p - 1), (s.lf.eraseIdx (p - 1)).eraseIdx (p - 1), s.kp⟩
  else s
noncomputable def bIter (s : BSt) : Nat → BSt
  | 0 => s
  | n + 1 => bStep (bIter s n)
noncomputable def bitsOf (n m : Nat) : List Bool := (List.range n).map fun k => decide (m / 2 ^ k % 2 = 1)
noncomputable def brOf (n m : Nat) : BSt := bIter ⟨bitsOf n m, List.range n, []⟩ n
noncomputable def frOf (n m : Nat) : List Nat := (brOf n m).kp ++ (brOf n m).lf
/-- the brackets' facts, for a mask of n letters -/
noncomputable def brOk (n m : Nat) : Bool :=
  let b := brOf n m
  let fr := b.kp ++ b.lf
  let ch := chainN m n
  !(b.bs.any id) && decide (fr.length ≤ n) && fr.all (fun p => decide (p < n)) && decide fr.Nodup && decide (ch.length = fr.length + 1) &&
    (List.range (fr.length + 1)).all (fun i =>
      let mi := ch[i]?.getD 0
      let bi := brOf n mi
      decide (mi < 2 ^ n) && decide (bi.kp = fr.take i) && decide (bi.lf = fr.drop i) && (List.range n).all fun p => decide (mi / 2 ^ p % 2 = 0) == (if fr.contains p then !(fr.take i).contains p else decide (m / 2 ^ p % 2 = 0))) &&
    (List.range n).all (fun p => !fr.contains p || (decide (m / 2 ^ p % 2 = 0) == !(fr.take b.kp.length).contains p))
theorem br5 : ∀ m, m < 2 ^ 5 → brOk 5 m = true := by decide +kernel
theorem br6 : ∀ m, m < 2 ^ 6 → brOk 6 m = true := by decide +kernel
theorem br7 : ∀ m, m < 2 ^ 7 → brOk 7 m = true := by decide +kernel
theorem br8_0 : ∀ m, m < 64 → brOk 8 m = true := by decide +kernel
theorem br8_1 : ∀ m, m < 64 → brOk 8 (64 + m) = true := by decide +kernel
theorem br8_2 : ∀ m, m < 64 → brOk 8 (128 + m) = true := by decide +kernel
theorem br8_3 : ∀ m, m < 64 → brOk 8 (192 + m) = true := by decide +kernel
theorem br8 : ∀ m, m < 2 ^ 8 → brOk 8 m = true := fun m hm => by
  by_cases h1 : m < 64
  · exact br8_0 m h1
  · by_cases h2 : m < 128
    · have := br8_1 (m - 64) (by (first | lia | omega))
      rwa [Nat.add_sub_cancel' (by (first | lia | omega))] at this
    · by_cases h3 : m < 192
      · have := br8_2 (m - 128) (by (first | lia | omega))
        rwa [Nat.add_sub_cancel' (by (first | lia | omega))] at this
      · have := br8_3 (m - 192) (by (first | lia | omega))
        rwa [Nat.add_sub_cancel' (by (first | lia | omega))] at this
theorem br_all {n m : Nat} (h5 : 5 ≤ n) (h8 : n ≤ 8) (hm : m < 2 ^ n) : brOk n m = true := by
  rcases (show n = 5 ∨ n = 6 ∨ n = 7 ∨ n = 8 by (first | lia | omega)) with rfl | rfl | rfl | rfl
  · exact br5 m hm
  · exact br6 m hm
  · exact br7 m hm
  · exact br8 m hm
end Mine
end
section
open PySem PySem.Calls PyProof.Rows
set_option Elab.async false
set_option maxRecDepth 100000
namespace Mine
structure BrF (n m : Nat) : Prop where
  done : (brOf n m).bs.any id = false
  len : (frOf n m).length ≤ n
  lt : ∀ p ∈ frOf n m, p < n
  nd : (frOf n m).Nodup
  clen : (chainN m n).length = (frOf n m).length + 1
  ch : ∀ i, i ≤ (frOf n m).length → ((chainN m n)[i]?.getD 0 < 2 ^ n ∧ (brOf n ((chainN m n)[i]?.getD 0)).kp = (frOf n m).take i ∧ (brOf n ((chainN m n)[i]?.getD 0)).lf = (frOf n m).drop i) ∧
    ∀ p, p < n → decide ((chainN m n)[i]?.getD 0 / 2 ^ p % 2 = 0) = if p ∈ frOf n m then !decide (p ∈ (frOf n m).take i) else decide (m / 2 ^ p % 2 = 0)
  kp : ∀ p, p < n → p ∈ frOf n m → decide (m / 2 ^ p % 2 = 0) = !decide (p ∈ (frOf n m).take (brOf n m).kp.length)
theorem contains_dec (l : List Nat) (p : Nat) : l.contains p = decide (p ∈ l) := by
  by_cases h : p ∈ l
  · rw [decide_eq_true h]; simpa using h
  · rw [decide_eq_false h]; simpa using h
theorem br_facts {n m : Nat} (h : brOk n m = true) : BrF n m := by
  unfold brOk at h
  simp only [Bool.and_eq_true, Bool.not_eq_true', decide_eq_true_eq, List.all_eq_true] at h
  obtain ⟨⟨⟨⟨⟨⟨h1, h2⟩, h3⟩, h4⟩, h5⟩, h6⟩, h7⟩ := h
  refine ⟨h1, h2, h3, h4, h5, fun i hi => ?_, fun p hp hm => ?_⟩
  · obtain ⟨⟨⟨a, b⟩, c⟩, e⟩ := h6 i (List.mem_range.mpr (by show i < (frOf n m).length + 1; (first | lia | omega)))
    refine ⟨⟨a, b, c⟩, fun p hp => ?_⟩
    have := e p (List.mem_range.mpr hp)
    rw [beq_iff_eq, contains_dec, contains_dec, show (brOf n m).kp ++ (brOf n m).lf = frOf n m from rfl] at this
    rw [this]
    by_cases hm : p ∈ frOf n m
    · rw [if_pos hm, if_pos (decide_eq_true hm)]
    · rw [if_neg hm, if_neg (by rw [decide_eq_false hm]; decide)]
  · have := h7 p (List.mem_range.mpr hp)
    rw [contains_dec, contains_dec, show (brOf n m).kp ++ (brOf n m).lf = frOf n m from rfl, decide_eq_true hm] at this
    rw [Bool.not_true, Bool.false_or, beq_iff_eq] at this
    exact this
/-- rows of names and rows of bits -/
noncomputable def nameRow (k o : Str) (bs : List Bool) : List Str := bs.map fun b => if b = true then k else o
theorem any_row {k o : Str} (hne : o ≠ k) (bs : List Bool) : (nameRow k o bs).any (· == k) = bs.any id := by
  unfold nameRow
  rw [List.any_map]
  congr 1
  funext b
  cases b
  · simp [hne]
  · simp
theorem find_row {k o : Str} (hne : o ≠ k) : ∀ bs : List Bool, (nameRow k o bs).findIdx (· == k) = bs.findIdx id
  | [] => rfl
  | b :: bs => by
    have ih := find_row hne bs
    unfold nameRow at *
    rw [List.map_cons, List.findIdx_cons, List.findIdx_cons, ih]
    cases b
    · have : (o == k) = false := by rw [beq_eq_false_iff_ne]; exact hne
      simp [this]
    · simp
theorem step_row {k o : Str} (hne : o ≠ k) (s : BSt) : stStep k ⟨nameRow k o s.bs, s.lf, s.kp⟩ = ⟨nameRow k o (bStep s).bs, (bStep s).lf, (bStep s).kp⟩ := by
  unfold stStep bStep
  simp only [any_row hne, find_row hne]
  split
  · split
    · simp only [nameRow, erase_map]
    · simp only [nameRow, erase_map]
  · rfl
theorem iter_row {k o : Str} (hne : o ≠ k) (s : BSt) : ∀ n, stIter k ⟨nameRow k o s.bs, s.lf, s.kp⟩ n = ⟨nameRow k o (bIter s n).bs, (bIter s n).lf, (bIter s n).kp⟩
  | 0 => rfl
  | n + 1 => by
    show stStep k (stIter k _ n) = _
    rw [iter_row hne s n, step_row hne]; rfl
theorem cut_uniq (c : Nat) : ∀ {x y a b : List Nat}, c ∉ x → c ∉ y → x ++ c :: a = y ++ c :: b → x = y ∧ a = b
  | [], [], _, _, _, _, h => ⟨rfl, by simpa using h⟩
  | [], y :: ys, _, _, _, hy, h => by
    simp only [List.nil_append, List.cons_append, List.cons.injEq] at h
    exact absurd (h.1 ▸ List.mem_cons_self) hy
  | x :: xs, [], _, _, hx, _, h => by
    simp only [List.nil_append, List.cons_append, List.cons.injEq] at h
    exact absurd (h.1 ▸ List.mem_cons_self) hx
  | x :: xs, y :: ys, a, b, hx, hy, h => by
    simp only [List.cons_append, List.cons.injEq] at h
    obtain ⟨h1, h2⟩ := h
    obtain ⟨e1, e2⟩ := cut_uniq c (x := xs) (y := ys) (fun q => hx (List.mem_cons_of_mem _ q)) (fun q => hy (List.mem_cons_of_mem _ q)) h2
    exact ⟨by rw [h1, e1], e2⟩
theorem join_cons2 (c : Nat) (p q : Str) (r : List Str) : (Str.join ⟨#[c]⟩ (p :: q :: r)).cps.toList = p.cps.toList ++ c :: (Str.join ⟨#[c]⟩ (q :: r)).cps.toList := by
  show (p ++ ⟨#[c]⟩ ++ Str.join ⟨#[c]⟩ (q :: r)).cps.toList = _
  simp [Str.cps_append]
/-- splitting at a sign is the one way to do it -/
theorem join_uniq (c : Nat) : ∀ (A B : List Str), A ≠ [] → B ≠ [] → (∀ p ∈ A, c ∉ p.cps.toList) → (∀ p ∈ B, c ∉ p.cps.toList) → (Str.join ⟨#[c]⟩ A).cps.toList = (Str.join ⟨#[c]⟩ B).cps.toList → A = B
  | [], _, h, _, _, _, _ => absurd rfl h
  | _ :: _, [], _, h, _, _, _ => absurd rfl h
  | [p], [q], _, _, _, _, h => by
    have : p = q := str_ext h
    rw [this]
  | [p], q :: q' :: r, _, _, hA, _, h => by
    rw [join_cons2] at h
    exact absurd (show c ∈ p.cps.toList by rw [show p.cps.toList = (Str.join ⟨#[c]⟩ [p]).cps.toList from rfl, h]; simp) (hA p List.mem_cons_self)
  | p :: p' :: r, [q], _, _, _, hB, h => by
    rw [join_cons2] at h
    exact absurd (show c ∈ q.cps.toList by rw [show q.cps.toList = (Str.join ⟨#[c]⟩ [q]).cps.toList from rfl, ← h]; simp) (hB q List.mem_cons_self)
  | p :: p' :: r, q :: q' :: t, _, _, hA, hB, h => by
    rw [join_cons2, join_cons2] at h
    obtain ⟨e1, e2⟩ := cut_uniq c (hA p List.mem_cons_self) (hB q List.mem_cons_self) h
    have ih := join_uniq c (p' :: r) (q' :: t) (by simp) (by simp) (fun x hx => hA x (List.mem_cons_of_mem _ hx)) (fun x hx => hB x (List.mem_cons_of_mem _ hx)) e2
    rw [str_ext e1, ih]
theorem split_is (c : Nat) {x : Str} {A : List Str} (hA : A ≠ []) (hf : ∀ p ∈ A, c ∉ p.cps.toList) (hx : x.cps.toList = (Str.join ⟨#[c]⟩ A).cps.toList) : Txt.split x ⟨#[c]⟩ = A := by
  have h1 := StrLaws.join_split x ⟨#[c]⟩
  have h2 := StrLaws.split_free x c
  refine join_uniq c _ _ (fun q => ?_) hA h2 hf (by rw [h1, hx])
  unfold Txt.split at q
  split at q
  · cases q
  · split at q
    · cases q
    · rw [StrLaws.partsBetween_eq] at q
      obtain ⟨a, b, e⟩ := StrLaws.partsFrom_ne x (⟨#[c]⟩ : Str).length 0 (Builtin.Str.occurrences x ⟨#[c]⟩ 0 x.length (x.length + 1))
      rw [e] at q
      cases q
end Mine
end
section
open PySem PySem.Calls PyProof.Rows
set_option Elab.async false
set_option maxRecDepth 100000
namespace Mine
noncomputable def pcOf (w c : Nat) : Str := cutS (nmOf w c) none (some (-1))
noncomputable def nmOk (w c : Nat) : Bool := decide ((nmOf w c).cps.toList = (pcOf w c).cps.toList ++ [59]) && decide (59 ∉ (pcOf w c).cps.toList) && decide ((nmOf w c).length ≤ 6) && decide ((pcOf w c).length < (nmOf w c).length) && decide (escL (escPairs w) [c] = (nmOf w c).cps.toList) && decide (c ∈ sevenN)
theorem nm_ok : ∀ w, w < 5 → ∀ c ∈ wr w, nmOk w c = true := by
  intro w hw
  match w, hw with
  | 0, _ => decide +kernel
  | 1, _ => decide +kernel
  | 2, _ => decide +kernel
  | 3, _ => decide +kernel
  | 4, _ => decide +kernel
theorem pc_ne : ∀ w, w < 5 → ∀ c ∈ wr w, ∀ c' ∈ wr w, c ≠ c' → pcOf w c ≠ pcOf w c' := by
  intro w hw
  match w, hw with
  | 0, _ => decide +kernel
  | 1, _ => decide +kernel
  | 2, _ => decide +kernel
  | 3, _ => decide +kernel
  | 4, _ => decide +kernel
theorem wr_nodup : ∀ w, w < 5 → (wr w).Nodup := by
  intro w hw
  match w, hw with
  | 0, _ => decide
  | 1, _ => decide
  | 2, _ => decide
  | 3, _ => decide
  | 4, _ => decide
theorem opn_ne_shn (c0 : Nat) : opn c0 ≠ shn c0 := by
  intro q
  have h1 := fi_lt c0
  have h2 := shi_lt c0
  have hl := wr_len (wayOf c0)
  have e1 : (wr (wayOf c0))[fiOf c0]? = some (opn c0) := getD_of h1
  have e2 : (wr (wayOf c0))[shi c0]? = some (shn c0) := getD_of h2
  rw [← q, ← e1] at e2
  have hij : shi c0 = fiOf c0 := by
    have hnd := wr_nodup _ (way_lt c0)
    rw [List.getElem?_eq_getElem h1, List.getElem?_eq_getElem h2] at e2
    exact (List.getElem_inj hnd).mp (Option.some.inj e2)
  have hr : c0 / 140 % ((wr (wayOf c0)).length - 1) < (wr (wayOf c0)).length - 1 := Nat.mod_lt _ (by (first | lia | omega))
  unfold shi at hij
  generalize c0 / 140 % ((wr (wayOf c0)).length - 1) = r at hij hr
  generalize (wr (wayOf c0)).length = W at *
  generalize fiOf c0 = f at *
  by_cases hb : f + 1 + r < W
  · rw [Nat.mod_eq_of_lt hb] at hij; (first | lia | omega)
  · rw [Nat.mod_eq_sub_mod (by (first | lia | omega)), Nat.mod_eq_of_lt (by (first | lia | omega))] at hij; (first | lia | omega)
structure NmF (w c : Nat) : Prop where
  cps : (nmOf w c).cps.toList = (pcOf w c).cps.toList ++ [59]
  free : 59 ∉ (pcOf w c).cps.toList
  len : (nmOf w c).length ≤ 6
  short : (pcOf w c).length < (nmOf w c).length
  esc : escL (escPairs w) [c] = (nmOf w c).cps.toList
  seven : c ∈ sevenN
theorem nm_facts {w c : Nat} (hw : w < 5) (hc : c ∈ wr w) : NmF w c := by
  have h := nm_ok w hw c hc
  unfold nmOk at h
  simp only [Bool.and_eq_true, decide_eq_true_eq] at h
  obtain ⟨⟨⟨⟨⟨a, b⟩, c'⟩, d⟩, e⟩, f⟩ := h
  exact ⟨a, b, c', d, e, f⟩
theorem join_nil_cps : ∀ l : List Str, (Str.join "" l).cps.toList = l.flatMap (·.cps.toList)
  | [] => rfl
  | [p] => by simp [Str.join]
  | p :: q :: r => by
    show (p ++ "" ++ Str.join "" (q :: r)).cps.toList = _
    rw [Str.cps_append, Str.cps_append, Array.toList_append, Array.toList_append, join_nil_cps (q :: r), List.flatMap_cons]
    show p.cps.toList ++ [] ++ _ = _
    rw [List.append_nil]; rfl
theorem join_semi : ∀ l : List Str, (Str.join ⟨#[59]⟩ (l ++ [⟨#[]⟩])).cps.toList = l.flatMap fun p => p.cps.toList ++ [59]
  | [] => rfl
  | p :: l => by
    have ih := join_semi l
    rw [List.flatMap_cons, ← ih]
    cases h : l ++ [(⟨#[]⟩ : Str)] with
    | nil => simp at h
    | cons q r =>
      show (Str.join ⟨#[59]⟩ (p :: (l ++ [⟨#[]⟩]))).cps.toList = _
      rw [h, join_cons2]
      simp
noncomputable def opPc (c : C6) : Str := pcOf (wayOf c.c0) (opn c.c0)
theorem op_ne (c : C6) : opPc c ≠ shutOf c := pc_ne _ (way_lt _) _ (opn_mem _) _ (shn_mem _) (opn_ne_shn _)
noncomputable def pieces (c : C6) (m : Nat) : List Str := (List.range c.size).map fun k => if m / 2 ^ k % 2 = 0 then opPc c else shutOf c
theorem page_cps (c : C6) (m : Nat) : (pageOf c m).cps.toList = (pieces c m).flatMap fun p => p.cps.toList ++ [59] := by
  have f0 := nm_facts (way_lt c.c0) (opn_mem c.c0)
  have f1 := nm_facts (way_lt c.c0) (shn_mem c.c0)
  unfold pageOf
  show (Builtin.Str.glued "" (pageStrs c m)).cps.toList = _
  rw [StrLaws.glued_eq_join, join_nil_cps]
  unfold pageStrs pieces
  rw [List.flatMap_map, List.flatMap_map]
  congr 1
  funext k
  split
  · exact f0.cps
  · exact f1.cps
theorem split_page (c : C6) (m : Nat) : Txt.split (pageOf c m) ⟨#[59]⟩ = pieces c m ++ [⟨#[]⟩] := by
  have f0 := nm_facts (way_lt c.c0) (opn_mem c.c0)
  have f1 := nm_facts (way_lt c.c0) (shn_mem c.c0)
  refine split_is 59 (by simp) (fun p hp => ?_) ?_
  · rcases List.mem_append.mp hp with hp | hp
    · unfold pieces at hp
      rw [List.mem_map] at hp
      obtain ⟨k, _, rfl⟩ := hp
      split
      · exact f0.free
      · exact f1.free
    · rw [List.mem_singleton.mp hp]; simp
  · rw [join_semi, page_cps]
theorem pieces_row (c : C6) (m : Nat) : pieces c m = nameRow (shutOf c) (opPc c) (bitsOf c.size m) := by
  unfold pieces nameRow bitsOf
  rw [List.map_map]
  refine List.map_congr_left fun k _ => ?_
  show (if _ then _ else _) = if decide (m / 2 ^ k % 2 = 1) = true then _ else _
  have : m / 2 ^ k % 2 < 2 := Nat.mod_lt _ (by decide)
  by_cases h : m / 2 ^ k % 2 = 0
  · rw [if_pos h, if_neg (by simp; (first | lia | omega))]
  · rw [if_neg h, if_pos (by simp; (first | lia | omega))]
theorem st_is (c : C6) (m : Nat) : stIter (shutOf c) (st0 (pageOf c m) (sigs c m)) (sigs c m).length = ⟨nameRow (shutOf c) (opPc c) (brOf c.size m).bs, (brOf c.size m).lf, (brOf c.size m).kp⟩ := by
  have e : st0 (pageOf c m) (sigs c m) = ⟨nameRow (shutOf c) (opPc c) (bitsOf c.size m), List.range c.size, []⟩ := by
    unfold st0
    rw [split_page, List.dropLast_concat, pieces_row, sg_len]
  rw [e, sg_len]
  exact iter_row (op_ne c) ⟨bitsOf c.size m, List.range c.size, []⟩ c.size
theorem kp_is (c : C6) (m : Nat) : kpN c m = (brOf c.size m).kp := by unfold kpN; rw [st_is]
theorem lf_is (c : C6) (m : Nat) : lfN c m = (brOf c.size m).lf := by unfold lfN; rw [st_is]
theorem fr_is (c : C6) : frN c = frOf c.size c.mask := by unfold frN frOf; rw [kp_is, lf_is]
end Mine
end
section
open PySem PySem.Calls PyProof.Rows
set_option Elab.async false
set_option maxRecDepth 100000
namespace Mine
section
variable {G : GL} {d : Nat}
theorem small_ne_great (c : C6) (k : Nat) : (c.lt k).great ≠ (c.lt k).small := by
  unfold C6.lt letterOf
  have hn : nthOf c.c1 k < 26 := Nat.mod_lt _ (by decide)
  have hs : 119808 ≤ startsN[(c.c3 / 256 + k) % 10]?.getD 0 := by
    have h : (c.c3 / 256 + k) % 10 < startsN.length := Nat.mod_lt _ (by decide)
    have : ∀ x ∈ startsN, 119808 ≤ x := by decide
    rw [List.getElem?_eq_getElem h]; exact this _ (List.getElem_mem h)
  split
  · simp only; (first | lia | omega)
  · simp only; (first | lia | omega)
theorem great_bit {c : C6} (F : LF G c) {m k : Nat} (hk : k < c.size) : isGreat G.b3D (sgOf c m k) = !decide (m / 2 ^ k % 2 = 0) := by
  unfold isGreat
  rw [(F.sg hk).2.1]
  unfold sgOf
  by_cases h : m / 2 ^ k % 2 = 0
  · rw [if_pos h]; simp [h]
  · rw [if_neg h]
    have : ¬ ((⟨#[(c.lt k).small]⟩ : Str) = ⟨#[(c.lt k).great]⟩) := fun q => by
      injection q with q
      simp at q
      exact small_ne_great c k q.symm
    rw [decide_eq_false this, decide_eq_false h]
theorem row_is {c : C6} (F : LF G c) (m : Nat) : rowStr G.b3D (opn c.c0) (shn c.c0) (sigs c m) = ((List.range c.size).map fun k => if m / 2 ^ k % 2 = 0 then opn c.c0 else shn c.c0).map fun x => (⟨#[x]⟩ : Str) := by
  unfold rowStr sigs
  rw [List.map_map, List.map_map]
  refine List.map_congr_left fun k hk => ?_
  have := great_bit F (m := m) (List.mem_range.mp hk)
  show (if isGreat G.b3D (sgOf c m k) = true then _ else _) = (⟨#[if _ then _ else _]⟩ : Str)
  rw [this]
  by_cases h : m / 2 ^ k % 2 = 0
  · rw [if_pos h, if_neg (by simp [h])]
  · rw [if_neg h, if_pos (by simp [h])]
theorem escL_flat (ps : List (Nat × Str)) : ∀ l : List Nat, escL ps l = l.flatMap fun x => escL ps [x]
  | [] => escL_nil ps
  | x :: l => by
    rw [List.flatMap_cons, ← escL_flat ps l, ← escL_append]; rfl
theorem esc_page {c : C6} (F : LF G c) (m : Nat) : escTo (escPairs (wayOf c.c0)) (Txt.join "" (rowStr G.b3D (opn c.c0) (shn c.c0) (sigs c m))) = pageOf c m := by
  have f0 := nm_facts (way_lt c.c0) (opn_mem c.c0)
  have f1 := nm_facts (way_lt c.c0) (shn_mem c.c0)
  apply str_ext
  rw [escTo_list, row_is F, join_signs, page_cps, escL_flat]
  unfold pieces
  rw [List.flatMap_map, List.flatMap_map]
  congr 1
  funext k
  split
  · rw [f0.esc]; exact f0.cps
  · rw [f1.esc]; exact f1.cps
theorem flat_len {τ : Type} (f : τ → List Nat) (n : Nat) : ∀ l : List τ, (∀ x ∈ l, (f x).length ≤ n) → (l.flatMap f).length ≤ n * l.length
  | [], _ => by simp
  | x :: l, h => by
    have := flat_len f n l fun y hy => h y (List.mem_cons_of_mem _ hy)
    have h1 := h x List.mem_cons_self
    rw [List.flatMap_cons, List.length_append, List.length_cons, Nat.mul_add, Nat.mul_one]
    (first | lia | omega)
theorem page_len (c : C6) (m : Nat) : (pageOf c m).length ≤ 100 := by
  have f0 := nm_facts (way_lt c.c0) (opn_mem c.c0)
  have f1 := nm_facts (way_lt c.c0) (shn_mem c.c0)
  have hz := size_le' c
  have h1 : (pageOf c m).length = (pageOf c m).cps.toList.length := by simp [Str.length]
  rw [h1, page_cps]
  have := flat_len (fun p : Str => p.cps.toList ++ [59]) 6 (pieces c m) fun p hp => by
    unfold pieces at hp
    rw [List.mem_map] at hp
    obtain ⟨k, _, rfl⟩ := hp
    have l0 : ((pcOf (wayOf c.c0) (opn c.c0)).cps.toList ++ [59]).length ≤ 6 := by rw [← f0.cps]; have := f0.len; simpa [Str.length] using this
    have l1 : ((pcOf (wayOf c.c0) (shn c.c0)).cps.toList ++ [59]).length ≤ 6 := by rw [← f1.cps]; have := f1.len; simpa [Str.length] using this
    split
    · exact l0
    · exact l1
  have h2 : (pieces c m).length = c.size := by unfold pieces; rw [List.length_map, List.length_range]
  rw [h2] at this
  (first | lia | omega)
theorem ls_ok {c : C6} (F : LF G c) : LS G d c := by
  have hz := size_le' c
  have f0 := nm_facts (way_lt c.c0) (opn_mem c.c0)
  have f1 := nm_facts (way_lt c.c0) (shn_mem c.c0)
  have br := fun {m : Nat} (h : m < 2 ^ c.size) => br_facts (br_all hz.1 hz.2 h)
  have bm := br (mask_lt c)
  refine ⟨fun m hm => ?_, f1.short, ⟨Nat.le_trans f0.len (by decide), Nat.le_trans f1.len (by decide)⟩, fun m hm => ?_, fun p hp => ?_, ?_⟩
  · have hlen : (pieces c m).length = c.size := by unfold pieces; rw [List.length_map, List.length_range]
    have hsp := split_page c m
    have two : 2 ≤ (Txt.split (pageOf c m) ⟨#[59]⟩).length := by rw [hsp, List.length_append, hlen]; simp; (first | lia | omega)
    have hcond : (decide ((pageOf c m).length < (⟨#[59]⟩ : Str).length) || decide (Builtin.Str.strKind (pageOf c m) < Builtin.Str.strKind ⟨#[59]⟩)) = false := by
      cases h : (decide ((pageOf c m).length < (⟨#[59]⟩ : Str).length) || decide (Builtin.Str.strKind (pageOf c m) < Builtin.Str.strKind ⟨#[59]⟩)) with
      | false => rfl
      | true =>
        unfold Txt.split at two
        rw [if_pos h] at two
        simp at two
    have hocc : (Builtin.Str.occurrences (pageOf c m) ⟨#[59]⟩ 0 (pageOf c m).length ((pageOf c m).length + 1)).isEmpty = false := by
      cases h : (Builtin.Str.occurrences (pageOf c m) ⟨#[59]⟩ 0 (pageOf c m).length ((pageOf c m).length + 1)).isEmpty with
      | false => rfl
      | true =>
        unfold Txt.split at two
        rw [if_neg (by rw [hcond]; decide), if_pos h] at two
        simp at two
    have hrow : ∀ x ∈ (Txt.join "" (rowStr G.b3D (opn c.c0) (shn c.c0) (sigs c m))).cps.toList, x ∈ sevenN := fun x hx => by
      rw [row_is F, join_signs] at hx
      simp only [List.mem_map] at hx
      obtain ⟨k, _, rfl⟩ := hx
      split
      · exact f0.seven
      · exact f1.seven
    have hrl : (Txt.join "" (rowStr G.b3D (opn c.c0) (shn c.c0) (sigs c m))).length ≤ 100000 := by
      rw [row_is F, join_signs]
      simp [Str.length]; (first | lia | omega)
    refine ⟨hand_idx (way_lt _), by rw [sg_len]; (first | lia | omega), fun x hx => ?_, fun G' K' H a => ?_, hcond, hocc, Nat.le_trans (page_len c m) (by decide), by rw [hsp, List.dropLast_concat, hlen, sg_len], by rw [hsp, List.length_append, hlen]; simp; (first | lia | omega), ?_⟩
    · unfold sigs at hx
      rw [List.mem_map] at hx
      obtain ⟨k, hk, rfl⟩ := hx
      have := F.sg (m := m) (List.mem_range.mp hk)
      exact ⟨this.2.2.1, this.2.2.2⟩
    · have := hand_call (d := d + 6) (H := H) K' (way_lt c.c0) hrow hrl
      rw [esc_page F] at this
      exact this a
    · rw [st_is]
      unfold nameRow
      intro h
      rw [List.mem_map] at h
      obtain ⟨b, hb, hk⟩ := h
      have hd := (br hm).done
      cases b with
      | true =>
        have : (brOf c.size m).bs.any id = true := List.any_eq_true.mpr ⟨true, hb, rfl⟩
        rw [hd] at this; cases this
      | false => exact op_ne c (by simpa using hk)
  · rw [kp_is, lf_is, ← List.length_append]; exact (br hm).len
  · rw [fr_is] at hp; exact bm.lt p hp
  · rw [fr_is]; exact bm.nd
end
end Mine
end
section
open PySem PySem.Calls PyProof.Rows
set_option Elab.async false
set_option maxRecDepth 100000
namespace Mine
section
variable {G : GL} {d : Nat}
theorem sgB_at (c : C6) (i : Nat) (m : Nat) (h : ∀ p, p < c.size → decide (m / 2 ^ p % 2 = 0) = if p ∈ frN c then !decide (p ∈ (frN c).take i) else decide (c.mask / 2 ^ p % 2 = 0)) : sigs c m = sgB c i := by
  unfold sigs sgB mixN
  refine List.map_congr_left fun p hp => ?_
  have hb := h p (List.mem_range.mp hp)
  by_cases ht : p ∈ (frN c).take i
  · have hm : p ∈ frN c := List.mem_of_mem_take ht
    rw [if_pos hm, decide_eq_true ht] at hb
    rw [if_pos ht]
    unfold sgOf grF
    rw [if_neg (by simpa using hb)]
  · rw [if_neg ht]
    unfold baseF
    by_cases hm : p ∈ frN c
    · rw [if_pos hm, decide_eq_false ht] at hb
      rw [if_pos hm]
      unfold sgOf smF
      rw [if_pos (by simpa using hb)]
    · rw [if_neg hm] at hb
      rw [if_neg hm]
      unfold sgOf
      by_cases h0 : c.mask / 2 ^ p % 2 = 0
      · rw [if_pos h0, if_pos (by simpa [h0] using hb)]
      · rw [if_neg h0, if_neg (by simpa [h0] using hb)]
/-- what is left to show of the distances -/
structure LV (c : C6) : Prop where
  up : ∀ i p, (frN c)[i]? = some p → levF (sgB c i) (sgB c (i + 1)) (prF c p) = prF c p
  dn : ∀ i p, (frN c)[i]? = some p → levF (sgB c (i + 1)) (sgB c i) (prF c p) = prF c p
  all : levF (sgB c 0) (sgB c (fN c)) (prAll c) = prAll c
  ok : ∀ i, i ≤ fN c → (PyData.str ⟨(sgB c i).toArray⟩).canLay0 = true
theorem lt_ok {c : C6} (V : LV c) : LT c := by
  have hz := size_le' c
  have br := fun {m : Nat} (h : m < 2 ^ c.size) => br_facts (br_all hz.1 hz.2 h)
  have bm := br (mask_lt c)
  have hfn : fN c = (frOf c.size c.mask).length := by unfold fN; rw [fr_is]
  refine ⟨by rw [bm.clen, hfn], fun i hi => ?_, fun i hi => ?_, fun i hi => ?_, ⟨?_, ?_⟩, V.up, V.dn, V.all, V.ok⟩
  · refine sgB_at c i _ fun p hp => ?_
    rw [fr_is]
    exact (bm.ch i (by (first | lia | omega))).2 p hp
  · exact (bm.ch i (by (first | lia | omega))).1.1
  · rw [kp_is, lf_is, fr_is]
    exact (bm.ch i (by (first | lia | omega))).1.2
  · rw [hfn, kp_is]; unfold frOf; rw [List.length_append]; (first | lia | omega)
  · symm
    refine sgB_at c _ _ fun p hp => ?_
    by_cases hm : p ∈ frN c
    · rw [if_pos hm, fr_is, kp_is]
      exact bm.kp p hp (fr_is c ▸ hm)
    · rw [if_neg hm]
end
end Mine
end
section
open PySem PySem.Calls PyProof.Rows
set_option Elab.async false
set_option maxRecDepth 100000
namespace Mine
theorem subN_self (x : Nat) : subN x x = 0 := if_pos rfl
theorem subN_comm (x y : Nat) : subN x y = subN y x := by
  by_cases h : x = y
  · subst h; rfl
  · have h' : ¬ y = x := fun q => h q.symm
    by_cases h2 : Txt.lower ⟨#[x]⟩ = Txt.lower ⟨#[y]⟩
    · have h2' := h2.symm
      simp [subN, h, h', h2]
    · have h2' : ¬ Txt.lower ⟨#[y]⟩ = Txt.lower ⟨#[x]⟩ := fun q => h2 q.symm
      simp [subN, h, h', h2, h2']
/-- charges on the rows bound the cost from below -/
theorem dp_rows (l s q : List Nat) (hq : q.length = l.length) (h2 : ∀ t : Nat, q[t]?.getD 0 ≤ 2) (hs : ∀ t i : Nat, t < l.length → i < s.length → q[t]?.getD 0 ≤ subN (l[t]?.getD 0) (s[i]?.getD 0)) :
    ∀ j i, j ≤ l.length → i ≤ s.length → (q.take j).sum ≤ dpD l s j i ∧ (q.take j).sum ≤ 2 * j := by
  intro j
  induction j with
  | zero => intro i _ _; simp
  | succ j ih =>
    intro i hj
    have ht : (q.take (j + 1)).sum = (q.take j).sum + q[j]?.getD 0 := by
      have hjq : j < q.length := by (first | lia | omega)
      rw [List.take_succ_eq_append_getElem hjq, List.sum_append, List.getElem?_eq_getElem hjq]; simp
    have hb := h2 j
    induction i with
    | zero =>
      intro _
      have := (ih 0 (by (first | lia | omega)) (Nat.zero_le _)).2
      rw [dpD_col, ht]
      (first | lia | omega)
    | succ i ihi =>
      intro hi
      have a := ihi (by (first | lia | omega))
      have b := ih (i + 1) (by (first | lia | omega)) hi
      have c := ih i (by (first | lia | omega)) (by (first | lia | omega))
      have e := hs j i (by (first | lia | omega)) (by (first | lia | omega))
      rw [dpD_step]
      have hl : (q.take (j + 1)).sum ≤ lfD l s j i + 2 := by
        unfold lfD
        split
        · rw [ht]; (first | lia | omega)
        · have := a.1; (first | lia | omega)
      rw [ht] at *
      (first | lia | omega)
/-- charges on the columns -/
theorem dp_cols (l s q : List Nat) (hq : q.length = s.length) (h2 : ∀ t : Nat, q[t]?.getD 0 ≤ 2) (hs : ∀ t j : Nat, t < s.length → j < l.length → q[t]?.getD 0 ≤ subN (l[j]?.getD 0) (s[t]?.getD 0)) :
    ∀ j i, j ≤ l.length → i ≤ s.length → (q.take i).sum ≤ dpD l s j i := by
  have c2 : ∀ i, i ≤ s.length → (q.take i).sum ≤ 2 * i := fun i hi => by
    induction i with
    | zero => simp
    | succ i ih =>
      have hjq : i < q.length := by (first | lia | omega)
      rw [List.take_succ_eq_append_getElem hjq, List.sum_append]
      have := h2 i
      rw [List.getElem?_eq_getElem hjq] at this
      have := ih (by (first | lia | omega))
      simp at *
      (first | lia | omega)
  intro j
  induction j with
  | zero =>
    intro i _ hi
    have : dpD l s 0 i = 2 * i := by rw [dpD]
    rw [this]; exact c2 i hi
  | succ j ih =>
    intro i hj
    induction i with
    | zero => intro _; simp
    | succ i ihi =>
      intro hi
      have hjq : i < q.length := by (first | lia | omega)
      have ht : (q.take (i + 1)).sum = (q.take i).sum + q[i]?.getD 0 := by
        rw [List.take_succ_eq_append_getElem hjq, List.sum_append, List.getElem?_eq_getElem hjq]; simp
      have hb := h2 i
      have a := ihi (by (first | lia | omega))
      have b := ih (i + 1) (by (first | lia | omega)) hi
      have c := ih i (by (first | lia | omega)) (by (first | lia | omega))
      have e := hs i j (by (first | lia | omega)) (by (first | lia | omega))
      have c3 := c2 i (by (first | lia | omega))
      rw [dpD_step]
      have hl : (q.take (i + 1)).sum ≤ lfD l s j i + 2 := by
        unfold lfD
        split
        · rename_i h0; subst h0; rw [ht]; simp at *; (first | lia | omega)
        · rw [ht]; (first | lia | omega)
      rw [ht] at *
      (first | lia | omega)
theorem dp_pair (l s : List Nat) (j i : Nat) : dpD l s (j + 1) (i + 1) ≤ dpD l s j i + subN (l[j]?.getD 0) (s[i]?.getD 0) := by rw [dpD_step]; (first | lia | omega)
theorem dp_del (l s : List Nat) (j i : Nat) : dpD l s (j + 1) (i + 1) ≤ dpD l s j (i + 1) + 2 := by rw [dpD_step]; (first | lia | omega)
theorem min_le (l s : List Nat) (j : Nat) : ∀ (n i : Nat), i < n → minTo l s j n ≤ dpD l s (j + 1) (i + 1)
  | n + 1, i, h => by
    unfold minTo
    by_cases hi : i = n
    · subst hi; split <;> (first | lia | omega)
    · have := min_le l s j n i (by (first | lia | omega))
      split <;> (first | lia | omega)
/-- a way through the table -/
inductive Up : List Nat → List Nat → Nat → Prop where
  | nil : Up [] [] 0
  | pair {x y : Nat} {l s : List Nat} {c : Nat} (h : Up l s c) : Up (x :: l) (y :: s) (subN x y + c)
  | del {x : Nat} {l s : List Nat} {c : Nat} (h : Up l s c) : Up (x :: l) s (2 + c)
theorem up_way {l s : List Nat} {c : Nat} (h : Up l s c) : ∀ (l0 s0 : List Nat) (c0 : Nat), 0 < (s0 ++ s).length → dpD (l0 ++ l) (s0 ++ s) l0.length s0.length ≤ c0 →
    dpD (l0 ++ l) (s0 ++ s) (l0 ++ l).length (s0 ++ s).length ≤ c0 + c ∧ ∀ j, l0.length ≤ j → j < (l0 ++ l).length → ∃ i, i < (s0 ++ s).length ∧ dpD (l0 ++ l) (s0 ++ s) (j + 1) (i + 1) ≤ c0 + c := by
  induction h with
  | nil =>
    intro l0 s0 c0 _ hd
    simp only [List.append_nil] at hd ⊢
    exact ⟨by (first | lia | omega), fun j h1 h2 => by (first | lia | omega)⟩
  | @pair x y l s c h ih =>
    intro l0 s0 c0 hp hd
    have e1 : l0 ++ x :: l = (l0 ++ [x]) ++ l := by simp
    have e2 : s0 ++ y :: s = (s0 ++ [y]) ++ s := by simp
    have hstep := dp_pair (l0 ++ x :: l) (s0 ++ y :: s) l0.length s0.length
    have g1 : (l0 ++ x :: l)[l0.length]?.getD 0 = x := by simp
    have g2 : (s0 ++ y :: s)[s0.length]?.getD 0 = y := by simp
    rw [g1, g2] at hstep
    have := ih (l0 ++ [x]) (s0 ++ [y]) (c0 + subN x y) (by rw [← e2]; exact hp) (by rw [← e1, ← e2, List.length_append, List.length_append]; simp only [List.length_singleton]; (first | lia | omega))
    rw [← e1, ← e2] at this
    refine ⟨by have := this.1; (first | lia | omega), fun j h1 h2 => ?_⟩
    by_cases hj : j = l0.length
    · subst hj
      exact ⟨s0.length, by simp, by (first | lia | omega)⟩
    · obtain ⟨i, a, b⟩ := this.2 j (by rw [List.length_append]; simp only [List.length_singleton]; (first | lia | omega)) h2
      exact ⟨i, a, by (first | lia | omega)⟩
  | @del x l s c h ih =>
    intro l0 s0 c0 hp hd
    have e1 : l0 ++ x :: l = (l0 ++ [x]) ++ l := by simp
    have hnext : dpD (l0 ++ x :: l) (s0 ++ s) (l0.length + 1) s0.length ≤ c0 + 2 := by
      cases hs0 : s0.length with
      | zero =>
        rw [hs0] at hd
        rw [dpD_col] at hd ⊢
        (first | lia | omega)
      | succ k =>
        have := dp_del (l0 ++ x :: l) (s0 ++ s) l0.length k
        rw [hs0] at hd
        (first | lia | omega)
    have := ih (l0 ++ [x]) s0 (c0 + 2) hp (by rw [← e1, List.length_append]; exact hnext)
    rw [← e1] at this
    refine ⟨by have := this.1; (first | lia | omega), fun j h1 h2 => ?_⟩
    by_cases hj : j = l0.length
    · subst hj
      cases hs0 : s0.length with
      | zero =>
        have h3 := dp_pair (l0 ++ x :: l) (s0 ++ s) l0.length 0
        have h4 := subN_le ((l0 ++ x :: l)[l0.length]?.getD 0) ((s0 ++ s)[0]?.getD 0)
        rw [hs0] at hd
        exact ⟨0, hp, by (first | lia | omega)⟩
      | succ k =>
        rw [hs0] at hnext
        exact ⟨k, by rw [List.length_append, hs0]; (first | lia | omega), by (first | lia | omega)⟩
    · obtain ⟨i, a, b⟩ := this.2 j (by rw [List.length_append]; simp only [List.length_singleton]; (first | lia | omega)) h2
      exact ⟨i, a, by (first | lia | omega)⟩
theorem rows_ok {l s : List Nat} {mx : Nat} : ∀ (k j : Nat), (∀ t, j ≤ t → t < j + k → minTo l s t s.length ≤ mx) → rowsFrom l s mx k j = true
  | 0, _, _ => rfl
  | k + 1, j, h => by
    unfold rowsFrom
    rw [decide_eq_true (h j (Nat.le_refl _) (by (first | lia | omega))), rows_ok k (j + 1) fun t h1 h2 => h t (by (first | lia | omega)) (by (first | lia | omega))]
    rfl
/-- the table's answer, from a way and a bound -/
theorem levDp_is {l s : List Nat} {c : Nat} (hs : 0 < s.length) (hu : Up l s c) (hl : c ≤ dpD l s l.length s.length) (hd : 2 * (l.length - s.length) ≤ c) : levDp l s c = c := by
  have hw := up_way hu [] [] 0 hs (by simp [dpD_col])
  simp only [List.nil_append, Nat.zero_add] at hw
  unfold levDp
  rw [if_neg (by (first | lia | omega)), if_pos]
  · (first | lia | omega)
  · refine rows_ok _ _ fun t _ h2 => ?_
    obtain ⟨i, h3, h4⟩ := hw.2 t (Nat.zero_le _) (by (first | lia | omega))
    exact Nat.le_trans (min_le l s t _ i h3) h4
end Mine
end
section
open PySem PySem.Calls PyProof.Rows
set_option Elab.async false
set_option maxRecDepth 100000
namespace Mine
/-- signs set beside signs, each at the least price there is -/
inductive Al (S : List Nat) : List Nat → List Nat → Nat → Prop where
  | nil : Al S [] [] 0
  | pair {x y : Nat} {l s : List Nat} {c : Nat} (h : ∀ z ∈ S, subN x y ≤ subN x z) (t : Al S l s c) : Al S (x :: l) (y :: s) (subN x y + c)
  | del {x : Nat} {l s : List Nat} {c : Nat} (h : ∀ z ∈ S, 2 ≤ subN x z) (t : Al S l s c) : Al S (x :: l) s (2 + c)
theorem Al.up {S l s : List Nat} {c : Nat} (h : Al S l s c) : Up l s c := by
  induction h with
  | nil => exact .nil
  | pair _ _ ih => exact .pair ih
  | del _ _ ih => exact .del ih
theorem Al.len {S l s : List Nat} {c : Nat} (h : Al S l s c) : s.length ≤ l.length ∧ 2 * (l.length - s.length) ≤ c := by
  induction h with
  | nil => simp
  | pair _ _ ih => simp only [List.length_cons]; (first | lia | omega)
  | del _ _ ih => simp only [List.length_cons]; (first | lia | omega)
theorem Al.swap {S l s : List Nat} {c : Nat} (h : Al S l s c) : l.length = s.length → Up s l c := by
  induction h with
  | nil => exact fun _ => .nil
  | @pair x y l s c _ _ ih => exact fun e => by rw [subN_comm]; exact .pair (ih (by simpa using e))
  | @del x l s c _ t ih => exact fun e => by have := t.len.1; simp only [List.length_cons] at e; (first | lia | omega)
theorem Al.charges {S l s : List Nat} {c : Nat} (h : Al S l s c) : ∃ q : List Nat, q.length = l.length ∧ q.sum = c ∧ (∀ t : Nat, q[t]?.getD 0 ≤ 2) ∧ ∀ t : Nat, t < l.length → ∀ z ∈ S, q[t]?.getD 0 ≤ subN (l[t]?.getD 0) z := by
  induction h with
  | nil => exact ⟨[], rfl, rfl, fun t => by simp, fun t h => by simp at h⟩
  | @pair x y l s c h _ ih =>
    obtain ⟨q, h1, h2, h3, h4⟩ := ih
    refine ⟨subN x y :: q, by simp [h1], by simp [h2], fun t => ?_, fun t ht z hz => ?_⟩
    · cases t with
      | zero => exact subN_le x y
      | succ t => exact h3 t
    · cases t with
      | zero => exact h z hz
      | succ t => exact h4 t (by simpa using ht) z hz
  | @del x l s c h _ ih =>
    obtain ⟨q, h1, h2, h3, h4⟩ := ih
    refine ⟨2 :: q, by simp [h1], by simp [h2], fun t => ?_, fun t ht z hz => ?_⟩
    · cases t with
      | zero => exact Nat.le_refl _
      | succ t => exact h3 t
    · cases t with
      | zero => exact h z hz
      | succ t => exact h4 t (by simpa using ht) z hz
theorem getD_mem {s : List Nat} {i : Nat} (h : i < s.length) : s[i]?.getD 0 ∈ s := by rw [List.getElem?_eq_getElem h]; exact List.getElem_mem h
theorem Al.low {S l s : List Nat} {c : Nat} (h : Al S l s c) (hs : ∀ z ∈ s, z ∈ S) : c ≤ dpD l s l.length s.length := by
  obtain ⟨q, h1, h2, h3, h4⟩ := h.charges
  have := (dp_rows l s q h1 h3 (fun t i ht hi => h4 t ht _ (hs _ (getD_mem hi))) l.length s.length (Nat.le_refl _) (Nat.le_refl _)).1
  rw [List.take_of_length_le (by (first | lia | omega)), h2] at this
  exact this
theorem Al.lowC {S l s : List Nat} {c : Nat} (h : Al S l s c) (hs : ∀ z ∈ s, z ∈ S) : c ≤ dpD s l s.length l.length := by
  obtain ⟨q, h1, h2, h3, h4⟩ := h.charges
  have := dp_cols s l q h1 h3 (fun t j ht hj => by rw [subN_comm]; exact h4 t ht _ (hs _ (getD_mem hj))) s.length l.length (Nat.le_refl _) (Nat.le_refl _)
  rw [List.take_of_length_le (by (first | lia | omega)), h2] at this
  exact this
theorem Al.head {S l s : List Nat} {x c : Nat} (h : Al S (x :: l) (x :: s) c) (hx : x ∈ S) : Al S l s c := by
  generalize hl : x :: l = L at h
  generalize hs : x :: s = T at h
  cases h with
  | nil => cases hl
  | pair _ t => cases hl; cases hs; rw [subN_self, Nat.zero_add]; exact t
  | del h _ =>
    cases hl
    have := h x hx
    rw [subN_self] at this
    (first | lia | omega)
theorem Al.drop {S : List Nat} : ∀ {l s : List Nat} {c : Nat}, Al S l s c → (∀ z ∈ s, z ∈ S) → Al S (l.drop (lcp l s)) (s.drop (lcp l s)) c
  | [], [], _, h, _ => h
  | [], _ :: _, _, h, _ => by cases h
  | _ :: _, [], _, h, _ => h
  | x :: l, y :: s, c, h, hs => by
    unfold lcp
    by_cases e : x = y
    · subst e
      rw [if_pos rfl]
      exact Al.drop (h.head (hs _ List.mem_cons_self)) fun z hz => hs z (List.mem_cons_of_mem _ hz)
    · rw [if_neg e]; exact h
theorem Al.append {S l s : List Nat} {c : Nat} (h : Al S l s c) {l' s' : List Nat} {c' : Nat} (h' : Al S l' s' c') : Al S (l ++ l') (s ++ s') (c + c') := by
  induction h with
  | nil => rw [Nat.zero_add]; exact h'
  | pair h _ ih => rw [Nat.add_assoc]; exact .pair h ih
  | del h _ ih => rw [Nat.add_assoc]; exact .del h ih
theorem Al.rev {S l s : List Nat} {c : Nat} (h : Al S l s c) : Al S l.reverse s.reverse c := by
  induction h with
  | nil => exact .nil
  | @pair x y l s c h _ ih =>
    rw [List.reverse_cons, List.reverse_cons, Nat.add_comm]
    exact ih.append (.pair (c := 0) h .nil)
  | @del x l s c h _ ih =>
    rw [List.reverse_cons, Nat.add_comm]
    have := ih.append (l' := [x]) (s' := []) (.del (c := 0) h .nil)
    rw [List.append_nil] at this
    exact this
theorem take_rev (l : List Nat) (n : Nat) : l.take (l.length - n) = (l.reverse.drop n).reverse := by
  rw [List.drop_reverse, List.reverse_reverse]
theorem Al.cut {S l s : List Nat} {c : Nat} (h : Al S l s c) (hs : ∀ z ∈ s, z ∈ S) : Al S (l.take (l.length - tcp l s)) (s.take (s.length - tcp l s)) c := by
  rw [take_rev, take_rev]
  exact (h.rev.drop fun z hz => hs z (List.mem_reverse.mp hz)).rev
theorem lcp_comm : ∀ a b : List Nat, lcp a b = lcp b a
  | [], [] => rfl
  | [], _ :: _ => rfl
  | _ :: _, [] => rfl
  | x :: a, y :: b => by
    unfold lcp
    by_cases e : x = y
    · rw [if_pos e, if_pos e.symm, lcp_comm a b]
    · rw [if_neg e, if_neg fun q => e q.symm]
theorem Al.del_all {S : List Nat} : ∀ {l : List Nat} {c : Nat}, Al S l [] c → c = 2 * l.length
  | [], _, .nil => rfl
  | _ :: l, _, .del _ t => by rw [List.length_cons, t.del_all]; (first | lia | omega)
/-- behind the heads and tails alike -/
theorem Al.tail {S l s : List Nat} {c : Nat} (h : Al S l s c) (hs : ∀ z ∈ s, z ∈ S) : levTail l s c = c ∧ levTail s l c = c := by
  obtain ⟨h1, h2⟩ := h.len
  by_cases hs0 : s = []
  · subst hs0
    have := h.del_all
    unfold levTail
    rw [if_pos (.inr rfl), if_pos (.inl rfl)]
    simp; (first | lia | omega)
  · have hp := List.length_pos_iff.mpr hs0
    have hl0 : l ≠ [] := List.length_pos_iff.mp (by (first | lia | omega))
    have hlp := List.length_pos_iff.mpr hl0
    have a1 := levDp_is hp h.up (h.low hs) h2
    have n1 : ¬ (l = [] ∨ s = []) := fun q => q.elim hl0 hs0
    have n2 : ¬ (s = [] ∨ l = []) := fun q => q.elim hs0 hl0
    by_cases he : l.length = s.length
    · have a2 := levDp_is hlp (h.swap he) (h.lowC hs) (by (first | lia | omega))
      refine ⟨?_, ?_⟩
      · unfold levTail; rw [if_neg n1, if_neg (by (first | lia | omega))]; exact a2
      · unfold levTail; rw [if_neg n2, if_neg (by (first | lia | omega))]; exact a1
    · refine ⟨?_, ?_⟩
      · unfold levTail; rw [if_neg n1, if_pos (by (first | lia | omega))]; exact a1
      · unfold levTail; rw [if_neg n2, if_neg (by (first | lia | omega))]; exact a1
theorem sum_zero : ∀ q : List Nat, (∀ x ∈ q, x = 0) → q.sum = 0
  | [], _ => rfl
  | x :: q, h => by rw [List.sum_cons, h x List.mem_cons_self, sum_zero q fun y hy => h y (List.mem_cons_of_mem _ hy)]
theorem Al.zero {S l : List Nat} {c : Nat} (h : Al S l l c) (hs : ∀ z ∈ l, z ∈ S) : c = 0 := by
  obtain ⟨q, h1, h2, h3, h4⟩ := h.charges
  rw [← h2]
  have : ∀ x ∈ q, x = 0 := fun x hx => by
    obtain ⟨t, ht⟩ := List.getElem?_of_mem hx
    have htl : t < l.length := by have := (List.getElem?_eq_some_iff.mp ht).1; (first | lia | omega)
    have := h4 t htl _ (hs _ (getD_mem htl))
    rw [subN_self, ht] at this
    simpa using this
  exact sum_zero q this
theorem Al.lev {S l s : List Nat} {c : Nat} (h : Al S l s c) (hs : ∀ z ∈ s, z ∈ S) : levF l s c = c ∧ levF s l c = c := by
  by_cases e : l = s
  · subst e
    have := h.zero hs
    unfold levF
    rw [if_pos rfl]
    exact ⟨this.symm, this.symm⟩
  · unfold levF levCut
    rw [if_neg e, if_neg fun q => e q.symm]
    have hd := h.drop hs
    have hs' : ∀ z ∈ s.drop (lcp l s), z ∈ S := fun z hz => hs z (List.mem_of_mem_drop hz)
    have hc := hd.cut hs'
    have ht := hc.tail fun z hz => hs' z (List.mem_of_mem_take hz)
    refine ⟨ht.1, ?_⟩
    have e1 : lcp s l = lcp l s := lcp_comm _ _
    have e2 : ∀ a b : List Nat, tcp a b = tcp b a := fun a b => lcp_comm _ _
    rw [e1, e2 (s.drop _)]
    exact ht.2
end Mine
end
section
open PySem PySem.Calls PyProof.Rows
set_option Elab.async false
set_option maxRecDepth 100000
namespace Mine
noncomputable def stF (q : Nat) : Nat := startsN[q]?.getD 0
theorem low_one {c : Nat} (hs : c ≠ 0x3A3) (h : Unicode.lowerOf c = [c]) : Txt.lower ⟨#[c]⟩ = ⟨#[c]⟩ := by
  unfold Txt.lower
  rw [placed_single ⟨#[c]⟩ _ (fun x => x) fun i d hd => ?_]
  · exact congrArg PySem.Str.mk (Array.toList_inj.mp (by simp))
  · have hd' : (#[c] : Array Nat)[i]? = some d := by simpa using hd
    have e : d = c := by
      have := List.mem_of_getElem? hd
      simpa using this
    subst e
    unfold Unicode.lowerAt
    have hne : (d == 0x3A3) = false := beq_eq_false_iff_ne.mpr hs
    simp only [hd', hne, Bool.false_and, Bool.false_eq_true, if_false]
    exact h
theorem shifted_no {lo hi c : Nat} (h1 : lo ≤ c) (h2 : c < hi) : ∀ {l : List (Nat × Nat × Nat)}, l.all (fun e => Nat.ble (e.2.1 + 1) lo || Nat.ble hi e.1) = true → Unicode.shifted l c = none
  | [], _ => rfl
  | (a, b, t) :: r, h => by
    rw [List.all_cons, Bool.and_eq_true, Bool.or_eq_true] at h
    have ih := shifted_no h1 h2 h.2
    have e : b + 1 ≤ lo ∨ hi ≤ a := h.1.imp Nat.le_of_ble_eq_true Nat.le_of_ble_eq_true
    unfold Unicode.shifted
    by_cases q : c < a
    · rw [if_pos q]
    · rw [if_neg q, if_neg (by (first | lia | omega)), ih]
theorem one_no : Unicode.lowerOf = Unicode.image UnicodeData.oneLower UnicodeData.severalLower ∧ UnicodeData.oneLower.all (fun e => Nat.ble (e.2.1 + 1) 119808 || Nat.ble 120458 e.1) = true ∧ UnicodeData.severalLower.all (fun e => Nat.ble (e.1 + 1) 119808) = true := ⟨rfl, by decide +kernel, by decide +kernel⟩
theorem several_no {c : Nat} (h : 119808 ≤ c) : ∀ {l : List (Nat × List Nat)}, l.all (fun e => Nat.ble (e.1 + 1) 119808) = true → l.lookup c = none
  | [], _ => rfl
  | (a, b) :: r, k => by
    rw [List.all_cons, Bool.and_eq_true] at k
    have e : a + 1 ≤ 119808 := Nat.le_of_ble_eq_true k.1
    have hne : (c == a) = false := beq_eq_false_iff_ne.mpr (by (first | lia | omega))
    rw [List.lookup_cons, hne]
    exact several_no h k.2
theorem low_math {c : Nat} (h1 : 119808 ≤ c) (h2 : c < 120458) : Txt.lower ⟨#[c]⟩ = ⟨#[c]⟩ := low_one (by (first | lia | omega)) (by
  rw [one_no.1]
  unfold Unicode.image
  rw [several_no h1 one_no.2.2, shifted_no h1 h2 one_no.2.1]
  rfl)
theorem low_a : ∀ n < 26, Txt.lower ⟨#[97 + n]⟩ = ⟨#[97 + n]⟩ ∧ Txt.lower ⟨#[65 + n]⟩ = ⟨#[97 + n]⟩ := by decide +kernel
theorem st_big : ∀ q < 10, 119808 ≤ stF q ∧ stF q ≤ 120432 := by decide
theorem low_tab : ∀ n < 26, Txt.lower ⟨#[97 + n]⟩ = ⟨#[97 + n]⟩ ∧ Txt.lower ⟨#[65 + n]⟩ = ⟨#[97 + n]⟩ ∧ ∀ q < 10, Txt.lower ⟨#[stF q + n]⟩ = ⟨#[stF q + n]⟩ := fun n hn => ⟨(low_a n hn).1, (low_a n hn).2, fun q hq => low_math (by have := st_big q hq; (first | lia | omega)) (by have := st_big q hq; (first | lia | omega))⟩
theorem low_hid : ∀ x ∈ hiddenN, Txt.lower ⟨#[x]⟩ = ⟨#[x]⟩ := by decide +kernel
/-- a sign of the letter n -/
noncomputable def IsSg (n v : Nat) : Prop := v = 97 + n ∨ v = 65 + n ∨ ∃ q, q < 10 ∧ v = stF q + n
noncomputable def idxOf (v : Nat) : Nat := if v < 97 then v - 65 else if v < 123 then v - 97 else match startsN.find? fun s => decide (s ≤ v) && decide (v < s + 26) with
  | some s => v - s
  | none => 100
theorem idx_tab : ∀ n < 26, idxOf (97 + n) = n ∧ idxOf (65 + n) = n ∧ ∀ q < 10, idxOf (stF q + n) = n := by decide +kernel
theorem hid_big : ∀ x ∈ hiddenN, 123 ≤ x ∧ x < 119808 := by decide
theorem IsSg.idx {n v : Nat} (hn : n < 26) (h : IsSg n v) : idxOf v = n := by
  rcases h with h | h | ⟨q, hq, h⟩ <;> subst h
  · exact (idx_tab n hn).1
  · exact (idx_tab n hn).2.1
  · exact (idx_tab n hn).2.2 q hq
theorem IsSg.low {n v : Nat} (hn : n < 26) (h : IsSg n v) : ∃ u, Txt.lower ⟨#[v]⟩ = ⟨#[u]⟩ ∧ IsSg n u := by
  rcases h with h | h | ⟨q, hq, h⟩ <;> subst h
  · exact ⟨_, (low_tab n hn).1, .inl rfl⟩
  · exact ⟨_, (low_tab n hn).2.1, .inl rfl⟩
  · exact ⟨_, (low_tab n hn).2.2 q hq, .inr (.inr ⟨q, hq, rfl⟩)⟩
theorem one_inj {a b : Nat} (h : (⟨#[a]⟩ : Str) = ⟨#[b]⟩) : a = b := by
  have := congrArg (fun s : Str => s.cps.toList) h
  simpa using this
/-- signs of unlike letters -/
theorem sub_two {n m v w : Nat} (hn : n < 26) (hm : m < 26) (hv : IsSg n v) (hw : IsSg m w) (h : n ≠ m) : subN v w = 2 := by
  unfold subN
  rw [if_neg fun e => h (by rw [← hv.idx hn, ← hw.idx hm, e]), if_neg fun e => ?_]
  obtain ⟨u, h1, h2⟩ := hv.low hn
  obtain ⟨u', h3, h4⟩ := hw.low hm
  rw [h1, h3] at e
  exact h (by rw [← h2.idx hn, ← h4.idx hm, one_inj e])
theorem sub_hid {n x w : Nat} (hn : n < 26) (hx : x ∈ hiddenN) (hw : IsSg n w) : subN x w = 2 := by
  have hb := hid_big x hx
  have big : ∀ w, IsSg n w → x ≠ w := fun w h e => by
    rcases h with h | h | ⟨q, hq, h⟩
    · (first | lia | omega)
    · (first | lia | omega)
    · have := st_big q hq; (first | lia | omega)
  unfold subN
  rw [if_neg (big w hw), if_neg fun e => ?_]
  obtain ⟨u, h1, h2⟩ := hw.low hn
  rw [low_hid x hx, h1] at e
  exact big u h2 (one_inj e)
theorem sub_great {n : Nat} (hn : n < 26) : subN (65 + n) (97 + n) = 1 ∧ ∀ q < 10, subN (stF q + n) (97 + n) = 2 := by
  refine ⟨?_, fun q hq => ?_⟩
  · unfold subN
    rw [if_neg (by (first | lia | omega)), if_pos (by rw [(low_tab n hn).1, (low_tab n hn).2.1])]
  · unfold subN
    have hb := st_big q hq
    rw [if_neg (by (first | lia | omega)), if_neg fun e => ?_]
    rw [(low_tab n hn).1, (low_tab n hn).2.2 q hq] at e
    have := one_inj e
    (first | lia | omega)
/-- the letters of a script -/
theorem nth_lt (c1 k : Nat) : nthOf c1 k < 26 := Nat.mod_lt _ (by decide)
theorem step_odd : ∀ i < 12, ∀ a < 8, ∀ b < 8, ∀ r < 26, (r + a * (stepsN[i]?.getD 0)) % 26 = (r + b * (stepsN[i]?.getD 0)) % 26 → a = b := by decide +kernel
theorem nth_inj {c1 a b : Nat} (ha : a < 8) (hb : b < 8) (h : nthOf c1 a = nthOf c1 b) : a = b := by
  refine step_odd (c1 / 26 % 12) (Nat.mod_lt _ (by decide)) a ha b hb (c1 % 26) (Nat.mod_lt _ (by decide)) ?_
  unfold nthOf stepOf at h
  (first | lia | omega)
theorem C6.sm_is (c : C6) (k : Nat) : (c.lt k).small = 97 + nthOf c.c1 k := by unfold C6.lt letterOf; split <;> rfl
theorem C6.gr_is (c : C6) (k : Nat) : ((c.lt k).great = 65 + nthOf c.c1 k ∧ (c.lt k).price = 1) ∨ ∃ q, q < 10 ∧ (c.lt k).great = stF q + nthOf c.c1 k ∧ (c.lt k).price = 2 := by
  unfold C6.lt letterOf
  split
  · exact .inl ⟨rfl, rfl⟩
  · exact .inr ⟨(c.c3 / 256 + k) % 10, Nat.mod_lt _ (by decide), rfl, rfl⟩
theorem C6.smI (c : C6) (k : Nat) : IsSg (nthOf c.c1 k) (c.lt k).small := .inl (c.sm_is k)
theorem C6.grI (c : C6) (k : Nat) : IsSg (nthOf c.c1 k) (c.lt k).great := by
  rcases c.gr_is k with h | ⟨q, hq, h⟩
  · exact .inr (.inl h.1)
  · exact .inr (.inr ⟨q, hq, h.1⟩)
theorem C6.cost (c : C6) (k : Nat) : subN (c.lt k).great (c.lt k).small = (c.lt k).price := by
  rw [c.sm_is]
  have hn := nth_lt c.c1 k
  rcases c.gr_is k with h | ⟨q, hq, h⟩
  · rw [h.1, h.2]; exact (sub_great hn).1
  · rw [h.1, h.2]; exact (sub_great hn).2 q hq
end Mine
end
section
open PySem PySem.Calls PyProof.Rows
set_option Elab.async false
set_option maxRecDepth 100000
namespace Mine
theorem dpD_row (l s : List Nat) (i : Nat) : dpD l s 0 i = 2 * i := by rw [dpD]
/-- three unlike signs, turned by one -/
theorem lev_turn {x y z : Nat} (hxy : x ≠ y) (hxz : x ≠ z) (c1 : subN x y = 2) (c2 : subN x z = 2) (c3 : subN y z = 2) : levF [x, y, z] [y, z, x] 4 = 4 ∧ levF [x, y, z] [y, z, x] 1 = 2 ∧ levF [y, z, x] [x, y, z] 4 = 4 ∧ levF [y, z, x] [x, y, z] 1 = 2 := by
  have c1' := subN_comm x y ▸ c1
  have c2' := subN_comm x z ▸ c2
  have c3' := subN_comm y z ▸ c3
  have a11 : dpD [y, z, x] [x, y, z] 1 1 = 2 := by rw [dpD_step]; simp [lfD, dpD_col, dpD_row, c1']
  have a12 : dpD [y, z, x] [x, y, z] 1 2 = 2 := by rw [dpD_step]; simp [lfD, dpD_row, subN_self, a11]
  have a13 : dpD [y, z, x] [x, y, z] 1 3 = 4 := by rw [dpD_step]; simp [lfD, dpD_row, a12]
  have a21 : dpD [y, z, x] [x, y, z] 2 1 = 4 := by rw [dpD_step]; simp [lfD, dpD_col, a11, c2']
  have a22 : dpD [y, z, x] [x, y, z] 2 2 = 4 := by rw [dpD_step]; simp [lfD, a21, a12, a11, c3']
  have a23 : dpD [y, z, x] [x, y, z] 2 3 = 2 := by rw [dpD_step]; simp [lfD, a22, a13, a12, subN_self]
  have a31 : dpD [y, z, x] [x, y, z] 3 1 = 4 := by rw [dpD_step]; simp [lfD, dpD_col, a21, subN_self]
  have a32 : dpD [y, z, x] [x, y, z] 3 2 = 6 := by rw [dpD_step]; simp [lfD, a31, a22, a21, c1]
  have a33 : dpD [y, z, x] [x, y, z] 3 3 = 4 := by rw [dpD_step]; simp [lfD, a32, a23, a22, c2]
  have b11 : dpD [x, y, z] [y, z, x] 1 1 = 2 := by rw [dpD_step]; simp [lfD, dpD_row, c1]
  have b12 : dpD [x, y, z] [y, z, x] 1 2 = 4 := by rw [dpD_step]; simp [lfD, dpD_row, c2, b11]
  have b13 : dpD [x, y, z] [y, z, x] 1 3 = 4 := by rw [dpD_step]; simp [lfD, dpD_row, subN_self, b12]
  have b21 : dpD [x, y, z] [y, z, x] 2 1 = 2 := by rw [dpD_step]; simp [lfD, dpD_col, b11, subN_self]
  have b22 : dpD [x, y, z] [y, z, x] 2 2 = 4 := by rw [dpD_step]; simp [lfD, b21, b12, b11, c3]
  have b23 : dpD [x, y, z] [y, z, x] 2 3 = 6 := by rw [dpD_step]; simp [lfD, b22, b13, b12, c1']
  have b31 : dpD [x, y, z] [y, z, x] 3 1 = 4 := by rw [dpD_step]; simp [lfD, dpD_col, b21, c3']
  have b32 : dpD [x, y, z] [y, z, x] 3 2 = 2 := by rw [dpD_step]; simp [lfD, b31, b22, b21, subN_self]
  have b33 : dpD [x, y, z] [y, z, x] 3 3 = 4 := by rw [dpD_step]; simp [lfD, b32, b23, b22, c2']
  have n1 : ¬ [x, y, z] = [y, z, x] := by simp [hxy]
  have n2 : ¬ [y, z, x] = [x, y, z] := fun e => n1 e.symm
  have l1 : lcp [x, y, z] [y, z, x] = 0 := by simp [lcp, hxy]
  have l2 : lcp [y, z, x] [x, y, z] = 0 := by rw [lcp_comm]; exact l1
  have t1 : tcp [x, y, z] [y, z, x] = 0 := by simp [tcp, lcp, Ne.symm hxz]
  have t2 : tcp [y, z, x] [x, y, z] = 0 := by simp [tcp, lcp, hxz]
  refine ⟨?_, ?_, ?_, ?_⟩
  · unfold levF levCut; rw [if_neg n1, l1]
    simp only [List.drop_zero, t1]
    simp [levTail, levDp, rowsFrom, minTo, a11, a12, a13, a21, a22, a23, a31, a32, a33]
  · unfold levF levCut; rw [if_neg n1, l1]
    simp only [List.drop_zero, t1]
    simp [levTail, levDp, rowsFrom, minTo, a11, a12, a13, a21, a22, a23, a31, a32, a33]
  · unfold levF levCut; rw [if_neg n2, l2]
    simp only [List.drop_zero, t2]
    simp [levTail, levDp, rowsFrom, minTo, b11, b12, b13, b21, b22, b23, b31, b32, b33]
  · unfold levF levCut; rw [if_neg n2, l2]
    simp only [List.drop_zero, t2]
    simp [levTail, levDp, rowsFrom, minTo, b11, b12, b13, b21, b22, b23, b31, b32, b33]
/-- rows of signs by place -/
noncomputable def rowN (c : C6) (f : Nat → Nat) : List Nat := (List.range c.size).map f
noncomputable def sumN (c : C6) (w : Nat → Nat) : Nat := ((List.range c.size).map w).sum
theorem al_map {S : List Nat} {f g w : Nat → Nat} : ∀ {L : List Nat}, (∀ k ∈ L, subN (f k) (g k) = w k ∧ ∀ z ∈ S, w k ≤ subN (f k) z) → Al S (L.map f) (L.map g) (L.map w).sum
  | [], _ => .nil
  | k :: L, h => by
    have h1 := h k List.mem_cons_self
    have ih := al_map (L := L) fun j hj => h j (List.mem_cons_of_mem _ hj)
    rw [List.map_cons, List.map_cons, List.map_cons, List.sum_cons, ← h1.1]
    exact .pair (fun z hz => h1.1 ▸ h1.2 z hz) ih
theorem size_8 (c : C6) {k : Nat} (h : k < c.size) : k < 8 := by have := size_le' c; (first | lia | omega)
theorem least {c : C6} {f g w : Nat → Nat} (h : ∀ k, k < c.size → IsSg (nthOf c.c1 k) (f k) ∧ IsSg (nthOf c.c1 k) (g k) ∧ subN (f k) (g k) = w k) {k : Nat} (hk : k < c.size) : ∀ z ∈ rowN c g, w k ≤ subN (f k) z := fun z hz => by
  obtain ⟨j, hj, rfl⟩ := List.mem_map.mp hz
  have hj := List.mem_range.mp hj
  by_cases e : k = j
  · subst e; rw [(h k hk).2.2]; exact Nat.le_refl _
  · rw [sub_two (nth_lt _ _) (nth_lt _ _) (h k hk).1 (h j hj).2.1 fun q => e (nth_inj (size_8 c hk) (size_8 c hj) q), ← (h k hk).2.2]
    exact subN_le _ _
theorem al_row {c : C6} {f g w : Nat → Nat} (h : ∀ k, k < c.size → IsSg (nthOf c.c1 k) (f k) ∧ IsSg (nthOf c.c1 k) (g k) ∧ subN (f k) (g k) = w k) : Al (rowN c g) (rowN c f) (rowN c g) (sumN c w) :=
  al_map fun k hk => ⟨(h k (List.mem_range.mp hk)).2.2, least h (List.mem_range.mp hk)⟩
theorem C6.sgI (c : C6) (m k : Nat) : IsSg (nthOf c.c1 k) (sgOf c m k) := by
  unfold sgOf
  split
  · exact c.smI k
  · exact c.grI k
theorem sg_cost (c : C6) (m k : Nat) : subN (sgOf c m k) (c.lt k).small = if decide (m / 2 ^ k % 2 = 1) = true then (c.lt k).price else 0 := by
  unfold sgOf
  by_cases h : m / 2 ^ k % 2 = 0
  · rw [if_pos h, if_neg (by simp [h]), subN_self]
  · rw [if_neg h, if_pos (by simp; (first | lia | omega)), c.cost]
theorem sum_filter (p : Nat → Bool) (w : Nat → Nat) : ∀ L : List Nat, ((L.filter p).map w).sum = (L.map fun k => if p k = true then w k else 0).sum
  | [] => rfl
  | k :: L => by
    rw [List.map_cons, List.sum_cons, ← sum_filter p w L]
    by_cases h : p k = true
    · rw [List.filter_cons_of_pos h, if_pos h, List.map_cons, List.sum_cons]
    · rw [List.filter_cons_of_neg h, if_neg h, Nat.zero_add]
theorem price_is (c : C6) (m : Nat) : priceM c m = sumN c fun k => if decide (m / 2 ^ k % 2 = 1) = true then (c.lt k).price else 0 := sum_filter _ _ _
theorem word_row (c : C6) (m : Nat) {k : Nat} : IsSg (nthOf c.c1 k) (sgOf c m k) ∧ IsSg (nthOf c.c1 k) (c.lt k).small ∧ subN (sgOf c m k) (c.lt k).small = if decide (m / 2 ^ k % 2 = 1) = true then (c.lt k).price else 0 := ⟨c.sgI m k, c.smI k, sg_cost c m k⟩
theorem ll_lev1 (c : C6) : levF (sigs c c.mask) (smalls c) (priceM c c.mask) = priceM c c.mask := by
  rw [price_is]
  exact ((al_row (c := c) (f := sgOf c c.mask) (g := fun k => (c.lt k).small) fun k _ => word_row c c.mask).lev fun _ h => h).1
theorem al_typed (c : C6) : ∀ L : List Nat, (∀ k ∈ L, k < c.size) → L.length ≤ (L.flatMap (typ1 c)).length ∧
    Al (smalls c) (L.flatMap (typ1 c)) (L.map fun k => (c.lt k).small) ((L.map fun k => if decide (c.mask / 2 ^ k % 2 = 1) = true then (c.lt k).price else 0).sum + 2 * ((L.flatMap (typ1 c)).length - L.length))
  | [], _ => ⟨Nat.le_refl _, .nil⟩
  | k :: L, h => by
    obtain ⟨h1, h2⟩ := al_typed c L fun j hj => h j (List.mem_cons_of_mem _ hj)
    have hk := h k List.mem_cons_self
    have hl := least (c := c) (f := sgOf c c.mask) (g := fun k => (c.lt k).small) (fun k _ => word_row c c.mask) hk
    have hp := Al.pair (S := smalls c) (x := sgOf c c.mask k) (y := (c.lt k).small) (fun z hz => sg_cost c c.mask k ▸ hl z hz) h2
    rw [sg_cost] at hp
    rw [List.flatMap_cons, List.map_cons, List.map_cons, List.sum_cons, List.length_append, List.length_cons]
    generalize hw : (if decide (c.mask / 2 ^ k % 2 = 1) = true then (c.lt k).price else 0) = w at *
    generalize (L.map fun k => if decide (c.mask / 2 ^ k % 2 = 1) = true then (c.lt k).price else 0).sum = W at *
    unfold typ1
    by_cases hh : hidB c k = true
    · rw [if_pos hh]
      have hd := Al.del (S := smalls c) (x := hidS c k) (fun z hz => by
        unfold smalls at hz
        obtain ⟨j, _, rfl⟩ := List.mem_map.mp hz
        exact Nat.le_of_eq (sub_hid (nth_lt _ _) (hidS_mem c k) (c.smI j)).symm) hp
      refine ⟨by simp only [List.length_append, List.length_singleton]; unfold typ1 at h1; (first | lia | omega), ?_⟩
      unfold typ1 at hd h1
      refine cast (congrArg (Al _ _ _) ?_) hd
      simp only [List.length_append, List.length_singleton]
      (first | lia | omega)
    · rw [if_neg hh]
      refine ⟨by simp only [List.length_append, List.length_singleton, List.length_nil]; unfold typ1 at h1; (first | lia | omega), ?_⟩
      unfold typ1 at hp h1
      refine cast (congrArg (Al _ _ _) ?_) hp
      simp only [List.length_append, List.length_singleton, List.length_nil]
      (first | lia | omega)
theorem ll_lev2 (c : C6) : levF (typedN c c.size) (smalls c) (price2 c) = price2 c := by
  have h := (al_typed c (List.range c.size) fun k hk => List.mem_range.mp hk).2
  rw [List.length_range] at h
  have e : price2 c = (((List.range c.size).map fun k => if decide (c.mask / 2 ^ k % 2 = 1) = true then (c.lt k).price else 0).sum + 2 * (((List.range c.size).flatMap (typ1 c)).length - c.size)) := by
    unfold price2; rw [price_is]; rfl
  rw [e]
  exact (h.lev fun _ h => h).1
theorem ll_ok (c : C6) : LL c := by
  have hz := size_le' c
  have e : ∃ L, List.range c.size = 0 :: 1 :: 2 :: L := by
    refine ⟨(List.range (c.size - 3)).map (· + 3), ?_⟩
    have : c.size = (c.size - 3) + 1 + 1 + 1 := by (first | lia | omega)
    generalize c.size - 3 = n at this
    rw [this, List.range_succ_eq_map, List.range_succ_eq_map, List.range_succ_eq_map]
    simp [Function.comp_def]
  obtain ⟨L, hL⟩ := e
  have et : textN c = [sgOf c c.mask 0, sgOf c c.mask 1, sgOf c c.mask 2] := by unfold textN sigs; rw [hL]; simp only [List.map_cons, List.take_succ_cons, List.take_zero]
  have eu : turnN c = [sgOf c c.mask 1, sgOf c c.mask 2, sgOf c c.mask 0] := by unfold turnN sigs; rw [hL]; simp only [List.map_cons, List.take_succ_cons, List.take_zero, List.drop_succ_cons, List.drop_zero, List.cons_append, List.nil_append]
  have un : ∀ i j, i < 8 → j < 8 → i ≠ j → subN (sgOf c c.mask i) (sgOf c c.mask j) = 2 ∧ sgOf c c.mask i ≠ sgOf c c.mask j := fun i j hi hj h => by
    have := sub_two (nth_lt _ _) (nth_lt _ _) (c.sgI c.mask i) (c.sgI c.mask j) fun q => h (nth_inj hi hj q)
    exact ⟨this, fun q => by rw [q, subN_self] at this; cases this⟩
  have h01 := un 0 1 (by decide) (by decide) (by decide)
  have h02 := un 0 2 (by decide) (by decide) (by decide)
  have h12 := un 1 2 (by decide) (by decide) (by decide)
  obtain ⟨t1, t2, t3, t4⟩ := lev_turn h01.2 h02.2 h01.1 h02.1 h12.1
  refine ⟨ll_lev1 c, ll_lev2 c, ?_, ?_, ?_, ?_⟩
  · rw [et, eu]; exact t1
  · rw [et, eu]; exact t2
  · rw [et, eu]; exact t3
  · rw [et, eu]; exact t4
/-- the chain's rows -/
noncomputable def bF (c : C6) (i p : Nat) : Nat := if p ∈ (frN c).take i then grF c p else baseF c p
theorem sgB_row (c : C6) (i : Nat) : sgB c i = rowN c (bF c i) := rfl
theorem baseI (c : C6) (k : Nat) : IsSg (nthOf c.c1 k) (baseF c k) := by
  unfold baseF
  split
  · exact c.smI k
  · exact c.sgI c.mask k
theorem bI (c : C6) (i k : Nat) : IsSg (nthOf c.c1 k) (bF c i k) := by
  unfold bF
  split
  · exact c.grI k
  · exact baseI c k
theorem base_cost (c : C6) {k : Nat} (h : k ∈ frN c) : subN (grF c k) (baseF c k) = prF c k := by
  unfold baseF
  rw [if_pos h]
  exact c.cost k
theorem sum_one {p : Nat} {x : Nat} : ∀ n, p < n → ((List.range n).map fun k => if k = p then x else 0).sum = x
  | 0, h => by (first | lia | omega)
  | n + 1, h => by
    rw [List.range_succ, List.map_append, List.sum_append]
    by_cases e : p = n
    · subst e
      have : ((List.range p).map fun k => if k = p then x else 0).sum = 0 := sum_zero _ fun y hy => by
        obtain ⟨k, hk, rfl⟩ := List.mem_map.mp hy
        exact if_neg (by have := List.mem_range.mp hk; (first | lia | omega))
      rw [this]; simp
    · rw [sum_one n (by (first | lia | omega))]
      have : ¬ n = p := fun q => e q.symm
      simp [this]
theorem sum_add (f g : Nat → Nat) : ∀ L : List Nat, (L.map fun k => f k + g k).sum = (L.map f).sum + (L.map g).sum
  | [] => rfl
  | k :: L => by simp only [List.map_cons, List.sum_cons, sum_add f g L]; (first | lia | omega)
theorem sum_mem {n : Nat} {w : Nat → Nat} : ∀ {L : List Nat}, L.Nodup → (∀ p ∈ L, p < n) → ((List.range n).map fun k => if k ∈ L then w k else 0).sum = (L.map w).sum
  | [], _, _ => by
    refine sum_zero _ fun y hy => ?_
    obtain ⟨k, _, rfl⟩ := List.mem_map.mp hy
    simp
  | p :: L, hn, hl => by
    have hn' := List.nodup_cons.mp hn
    rw [List.map_cons, List.sum_cons, ← sum_mem (n := n) (w := w) hn'.2 fun q hq => hl q (List.mem_cons_of_mem _ hq), ← sum_one (x := w p) n (hl p List.mem_cons_self), ← sum_add]
    congr 1
    refine List.map_congr_left fun k _ => ?_
    by_cases e : k = p
    · subst e; simp [hn'.1]
    · by_cases e2 : k ∈ L
      · simp [e, e2]
      · simp [e, e2]
theorem take_mem {L : List Nat} {i p k : Nat} (h : L[i]? = some p) : k ∈ L.take (i + 1) ↔ k ∈ L.take i ∨ k = p := by
  obtain ⟨h1, h2⟩ := List.getElem?_eq_some_iff.mp h
  rw [List.take_succ_eq_append_getElem h1, h2, List.mem_append, List.mem_singleton]
theorem lv_ok {G : GL} {d : Nat} {c : C6} (S : LS G d c) : LV c := by
  have one : ∀ i p, (frN c)[i]? = some p → Al (sgB c i) (sgB c (i + 1)) (sgB c i) (prF c p) := fun i p h => by
    have hp := S.frlt p (List.mem_of_getElem? h)
    have hm := List.mem_of_getElem? h
    have hnot : p ∉ (frN c).take i := fun q => by
      obtain ⟨h1, h2⟩ := List.getElem?_eq_some_iff.mp h
      have hnd := S.frnd
      rw [← List.take_append_drop i (frN c), List.nodup_append] at hnd
      have : p ∈ (frN c).drop i := by rw [List.drop_eq_getElem_cons h1, h2]; exact List.mem_cons_self
      exact hnd.2.2 _ q _ this rfl
    have := al_row (c := c) (f := bF c (i + 1)) (g := bF c i) (w := fun k => if k = p then prF c p else 0) fun k hk => ⟨bI c _ k, bI c _ k, by
      unfold bF
      by_cases e : k = p
      · subst e
        rw [if_pos rfl, if_pos ((take_mem h).mpr (.inr rfl)), if_neg hnot, base_cost c hm]
      · rw [if_neg e]
        by_cases e2 : k ∈ (frN c).take i
        · rw [if_pos ((take_mem h).mpr (.inl e2)), if_pos e2, subN_self]
        · rw [if_neg fun q => ((take_mem h).mp q).elim e2 e, if_neg e2, subN_self]⟩
    have hs : sumN c (fun k => if k = p then prF c p else 0) = prF c p := sum_one _ hp
    rw [hs] at this
    exact this
  refine ⟨fun i p h => ((one i p h).lev fun _ h => h).2, fun i p h => ((one i p h).lev fun _ h => h).1, ?_, fun i _ => ?_⟩
  · have hfl : (frN c).take (fN c) = frN c := List.take_of_length_le (Nat.le_refl _)
    have := al_row (c := c) (f := bF c (fN c)) (g := bF c 0) (w := fun k => if k ∈ frN c then prF c k else 0) fun k hk => ⟨bI c _ k, bI c _ k, by
      unfold bF
      rw [hfl]
      by_cases e : k ∈ frN c
      · rw [if_pos e, if_pos e, if_neg (by simp), base_cost c e]
      · rw [if_neg e, if_neg e, if_neg (by simp), subN_self]⟩
    have hs : sumN c (fun k => if k ∈ frN c then prF c k else 0) = prAll c := sum_mem S.frnd S.frlt
    rw [hs] at this
    exact (this.lev fun _ h => h).2
  · have : ∀ x ∈ sgB c i, x ≤ 121000 := fun x hx => by
      rw [sgB_row] at hx
      obtain ⟨k, _, rfl⟩ := List.mem_map.mp hx
      have hn := nth_lt c.c1 k
      rcases bI c i k with h | h | ⟨q, hq, h⟩
      · (first | lia | omega)
      · (first | lia | omega)
      · have := st_big q hq; (first | lia | omega)
    unfold PyData.canLay0 PyData.strOk
    rw [List.all_toArray, List.all_eq_true]
    intro x hx
    have := this x hx
    exact decide_eq_true (by (first | lia | omega))
end Mine
end
section
open PySem PySem.Calls PyProof.Rows PySem.W
set_option Elab.async false
set_option maxRecDepth 100000
namespace Mine
/-- an end is a thread's own -/
noncomputable def HaltOk (s : Shared) (t : Thread) : Step → Prop
  | .go .. => True
  | .halt o s' => ∀ f, o = .done f → through t = true ∧ s' = s
theorem finish_ok {s : Shared} {t : Thread} {o : Outcome} (h : ∀ f, o = .done f → through t = true) : HaltOk s t (finish o s) := by
  unfold finish
  split
  · exact fun f e => nomatch e
  · exact fun f e => ⟨h f e, rfl⟩
theorem halt_ok {s : Shared} {t : Thread} {o : Outcome} (h : ∀ f, o ≠ .done f) : HaltOk s t (.halt o s) := fun f e => absurd e (h f)
theorem if_ok {c : Prop} [Decidable c] {P : Step → Prop} {a b : Step} (ha : P a) (hb : P b) : P (if c then a else b) := by
  split
  · exact ha
  · exact hb
/-- what holds of every step's two ends -/
theorem step_ok {den : Code → Sem Fin} {p : Program} {w : World} {P : Step → Prop} {heap : Heap} {gens : Array GenState} {drawn : Drawn} {toks : Nat} {os : OsState} {t : Thread}
    (hg : ∀ heap' gens' drawn' toks' os' t', toks ≤ toks' → P (.go ⟨heap', gens', drawn', toks', os'⟩ t')) (hh : ∀ o, (∀ f, o ≠ .done f) → P (.halt o ⟨heap, gens, drawn, toks, os⟩))
    (hf : ∀ f, t.cur = .pure (.done f) → t.stack = [] → P (finish (.done f) ⟨heap, gens, drawn, toks, os⟩)) : P (step den p w ⟨heap, gens, drawn, toks, os⟩ t) := by
  obtain ⟨cur, code, pos, stack⟩ := t
  have le := Nat.le_refl toks
  have hq : ∀ o, (∀ f, o ≠ .done f) → P (finish o ⟨heap, gens, drawn, toks, os⟩) := fun o ho => if_ok (hh _ fun _ e => nomatch e) (hh o ho)
  cases cur with
  | pure fin => cases fin with
    | again c => exact hg _ _ _ _ _ _ le
    | done f => cases stack with
      | nil => exact hf f rfl rfl
      | cons fr r => cases fr <;> exact hg _ _ _ _ _ _ le
  | raise e => cases stack with
    | nil => exact hq _ fun _ e => nomatch e
    | cons fr r => cases fr <;> exact hg _ _ _ _ _ _ le
  | unsupported what => exact hh _ fun _ e => nomatch e
  | finish e => exact if_ok (P := P) (hh _ fun _ e => nomatch e) (hh _ fun _ e => nomatch e)
  | rule _ k => exact hg _ _ _ _ _ _ le
  | «at» p k => exact hg _ _ _ _ _ _ le
  | load a x k =>
    have : ∀ y, heap.get? a = y → P (step den p w ⟨heap, gens, drawn, toks, os⟩ ⟨.load a x k, code, pos, stack⟩) := fun y e => by
      unfold step
      dsimp only
      rw [e]
      cases y with
      | none => exact hh _ fun _ e => nomatch e
      | some st => exact hg _ _ _ _ _ _ le
    exact this _ rfl
  | update a x f k => exact if_ok (P := P) (hg _ _ _ _ _ _ le) (hh _ fun _ e => nomatch e)
  | alloc o k => exact hg _ _ _ _ _ _ le
  | loadIfAlive a k => exact hg _ _ _ _ _ _ le
  | point l k => exact hg _ _ _ _ _ _ le
  | register a k => exact hh _ fun _ e => nomatch e
  | fresh k => exact hg _ _ _ _ _ _ (Nat.le_succ _)
  | ask k => exact hg _ _ _ _ _ _ le
  | choose src n k => exact if_ok (P := P) (hh _ fun _ e => nomatch e) (hg _ _ _ _ _ _ le)
  | os q l k => exact hg _ _ _ _ _ _ le
  | call c h g l k => exact hg _ _ _ _ _ _ le
  | handled own k => exact hg _ _ _ _ _ _ le
  | newGen c k => exact hg _ _ _ _ _ _ le
  | genState g k =>
    have : ∀ y, gens[g]? = y → P (step den p w ⟨heap, gens, drawn, toks, os⟩ ⟨.genState g k, code, pos, stack⟩) := fun y e => by
      unfold step
      dsimp only
      rw [e]
      cases y with
      | none => exact hh _ fun _ e => nomatch e
      | some st => exact hg _ _ _ _ _ _ le
    exact this _ rfl
  | resume g r l k =>
    have : ∀ y, gens[g]? = y → P (step den p w ⟨heap, gens, drawn, toks, os⟩ ⟨.resume g r l k, code, pos, stack⟩) := fun y e => by
      unfold step
      dsimp only
      rw [e]
      cases y with
      | none => exact hh _ fun _ e => nomatch e
      | some st => cases st with
        | fresh c => cases r with
          | send v => cases v <;> exact hg _ _ _ _ _ _ le
          | throw e => exact hg _ _ _ _ _ _ le
        | suspended => exact hg _ _ _ _ _ _ le
        | running => exact hg _ _ _ _ _ _ le
        | finished => exact hg _ _ _ _ _ _ le
    exact this _ rfl
  | «yield» v g0 l kk =>
    have : ∀ y, splitAtGen stack = y → P (step den p w ⟨heap, gens, drawn, toks, os⟩ ⟨.«yield» v g0 l kk, code, pos, stack⟩) := fun y e => by
      unfold step
      dsimp only
      rw [e]
      cases y with
      | none => exact hh _ fun _ e => nomatch e
      | some st => exact hg _ _ _ _ _ _ le
    exact this _ rfl
  | stack k => exact hg _ _ _ _ _ _ le
  | fork c k => exact hh _ fun _ e => nomatch e
  | thread k => exact hg _ _ _ _ _ _ le
  | await a tk ti l k => exact hh _ fun _ e => nomatch e
theorem halt_done {den : Code → Sem Fin} {p : Program} {w : World} {s s' : Shared} {t : Thread} {f : Flow} (h : step den p w s t = .halt (.done f) s') : through t = true ∧ s' = s := by
  have := step_ok (den := den) (p := p) (w := w) (P := HaltOk s t) (heap := s.heap) (gens := s.gens) (drawn := s.drawn) (toks := s.toks) (os := s.os) (t := t) (fun _ _ _ _ _ _ _ => trivial) (fun o ho => halt_ok ho)
    fun f h1 h2 => finish_ok fun _ _ => by unfold through; rw [h1, h2]; rfl
  rw [h] at this
  exact this f rfl
noncomputable def TokOk (n : Nat) : Step → Prop
  | .go s' _ => n ≤ s'.toks
  | .halt .. => True
theorem run_through {den : Code → Sem Fin} {p : Program} {w : World} {f : Flow} : ∀ {n : Nat} {s s' : Shared} {t : Thread}, runN den p w n s t = .halted (.done f) s' → ∃ m t₁, runN den p w m s t = .running s' t₁ ∧ through t₁ = true
  | 0, _, _, _, h => by cases h
  | n + 1, s, s', t, h => by
    unfold runN at h
    cases hs : step den p w s t with
    | go s₂ t₂ =>
      rw [hs] at h
      obtain ⟨m, t₁, h1, h2⟩ := run_through h
      exact ⟨m + 1, t₁, by unfold runN; rw [hs]; exact h1, h2⟩
    | halt o s₂ =>
      rw [hs] at h
      cases h
      obtain ⟨h1, h2⟩ := halt_done hs
      exact ⟨0, t, by unfold runN; rw [h2], h1⟩
theorem step_toks {den : Code → Sem Fin} {p : Program} {w : World} {s s' : Shared} {t t' : Thread} (h : step den p w s t = .go s' t') : s.toks ≤ s'.toks := by
  have := step_ok (den := den) (p := p) (w := w) (P := TokOk s.toks) (heap := s.heap) (gens := s.gens) (drawn := s.drawn) (toks := s.toks) (os := s.os) (t := t) (fun _ _ _ _ _ _ h => h) (fun o ho => trivial)
    fun f h1 h2 => if_ok (P := TokOk s.toks) trivial trivial
  rw [h] at this
  exact this
theorem run_toks {den : Code → Sem Fin} {p : Program} {w : World} {f : Outcome} : ∀ {n : Nat} {s s' : Shared} {t : Thread}, runN den p w n s t = .halted f s' → s.toks ≤ s'.toks
  | 0, _, _, _, h => by cases h
  | n + 1, s, s', t, h => by
    unfold runN at h
    cases hs : step den p w s t with
    | go s₂ t₂ => rw [hs] at h; exact Nat.le_trans (step_toks hs) (run_toks h)
    | halt o s₂ =>
      rw [hs] at h
      cases h
      rw [step_halt_same _ _ _ _ _ _ _ hs]
      exact Nat.le_refl _
/-- a thread that ends, seen a step before its end -/
theorem ran_through {prog : Program} {w : World} {t : Sem Fin} {s : Shared} {R : Shared → Prop} (hz : s.asleep)
    (h : wpAny (model prog w) callerA t (fun fin s' => ∃ f, fin = .done f ∧ R s' ∧ s'.gens = #[]) (fun _ _ => False) s) :
    ∃ s', (∃ n t₁, schedN (denote table) prog w n (.single s ⟨t, .builtin "claim.caller" {}, default, []⟩) = .running (.single s' t₁) ∧ through t₁ = true) ∧ s'.heap.life = s.heap.life ∧ s.toks ≤ s'.toks ∧ R s' ∧ s'.gens = #[] := by
  have hw := wp_of_wpAny_done (M := model prog w) (R := fun r s' => ((∃ f, r = .ok f) ∧ R s' ∧ s'.gens = #[]) ∧ leftWithCleanup s'.gens = false) caller_in
    (wpAny_mono h (fun fin s' x => by
      obtain ⟨f, h1, h2, h3⟩ := x
      exact ⟨f, h1, ⟨⟨f, rfl⟩, h2, h3⟩, by rw [h3]; simp [leftWithCleanup]⟩) fun _ _ x => x.elim) default
  obtain ⟨n, r, s₁, hn, ⟨f, hr⟩, hR, hg⟩ := (wp_iff_halts (M := model prog w) t (fun r s' => (∃ f, r = .ok f) ∧ R s' ∧ s'.gens = #[]) default s).mp hw
  subst hr
  obtain ⟨s'', hrn, hf, hc⟩ := runNI_real _ _ _ hn (outcomeOf_ends _)
  obtain rfl := Shared.eq_of_forget_eq hf hg
  have hrn : runN (denote table) prog w n s ⟨t, .builtin "claim.caller" {}, default, []⟩ = .halted (.done f) s'' := hrn
  have hne : ∀ k s₂, runN (denote table) prog w k s ⟨t, .builtin "claim.caller" {}, default, []⟩ ≠ .halted (.unsupported "lifetime:generator-with-cleanup-left-suspended") s₂ := fun k s₂ hk => by
    have a := runN_mono _ _ _ n k _ _ _ _ hrn
    have b := runN_mono _ _ _ k n _ _ _ _ hk
    rw [Nat.add_comm, b] at a
    injection a with a1 _
    cases a1
  obtain ⟨m, t₁, h1, h2⟩ := run_through (f := f) hrn
  exact ⟨s'', ⟨m, t₁, (schedN_eq_runN (denote table) prog w s _ hz ⟨hc, hne⟩ m).trans (congrArg Run.lift h1), h2⟩, runN_life _ _ _ hrn, run_toks hrn, hR, hg⟩
end Mine
end
section
open PySem PySem.Calls PyProof.Rows PySem.W
set_option Elab.async false
set_option maxRecDepth 100000
namespace Mine
noncomputable abbrev pw : Program := PySem.Challenge.pw_tc0071_01
theorem among_snoc {pos : Pos} {a b : Int} {v : Value} : ∀ (l : List Value), TriplesOk l → codeAmong pos l = none → ¬ (a = pos.line ∧ b = pos.col) → codeAmong pos (l ++ [rawInt a, rawInt b, v]) = none := by
  intro l
  fun_induction TriplesOk l with
  | case1 =>
    intro _ _ h
    simp only [List.nil_append, rawInt]
    unfold codeAmong
    rw [if_neg (by simp only [Bool.and_eq_true, beq_iff_eq]; exact h)]
    unfold codeAmong; rfl
  | case2 a' t b' u x rest ih =>
    intro h1 h2 h
    simp only [List.cons_append]
    unfold codeAmong at h2 ⊢
    split at h2
    · cases h2
    · rename_i hne
      rw [if_neg hne]
      exact ih h1 h2 h
  | case3 l h1 h2 => intro h; exact h.elim
noncomputable def itemOf (i : Nat) : DefItem := ⟨(drOf i).name, (drOf i).params, (drOf i).body, (drOf i).scope, (drOf i).pos⟩
noncomputable def stOf (i : Nat) : Stmt := .FunctionDef (drOf i).name (drOf i).params (drOf i).body [] none [] (drOf i).scope none (drOf i).name (drOf i).pos
theorem def_at : ∀ i ∈ defIdx, pw.main.body[i]? = some (stOf i) := by
  intro i hi
  unfold defIdx at hi
  simp only [List.mem_cons, List.not_mem_nil, or_false] at hi
  rcases hi with h | h | h | h | h | h | h | h | h | h | h | h | h | h | h | h | h | h | h | h | h | h | h | h <;> subst h <;> rfl
theorem plain_tree : ∀ i ∈ defIdx, PlainDefTree (drOf i).name (drOf i).params (drOf i).body (drOf i).scope (drOf i).pos := by
  intro i hi
  unfold defIdx at hi
  simp only [List.mem_cons, List.not_mem_nil, or_false] at hi
  rcases hi with h | h | h | h | h | h | h | h | h | h | h | h | h | h | h | h | h | h | h | h | h | h | h | h <;> subst h <;> exact fun _ => rfl
theorem def_free : ∀ i ∈ defIdx, ∀ x ∈ (drOf i).scope.names, x.2 ≠ .free := by decide +kernel
theorem def_doc : ∀ i ∈ defIdx, docOf (drOf i).body = none := by
  intro i hi
  unfold defIdx at hi
  simp only [List.mem_cons, List.not_mem_nil, or_false] at hi
  rcases hi with h | h | h | h | h | h | h | h | h | h | h | h | h | h | h | h | h | h | h | h | h | h | h | h <;> subst h <;> rfl
theorem def_loc : ∀ i ∈ defIdx, pw.main.scope.names.lookup (drOf i).name = some .local := by decide +kernel
theorem def_nb : ∀ i ∈ defIdx, (drOf i).name ≠ "__builtins__" := by decide +kernel
theorem def_dflt : ∀ i ∈ defIdx, (drOf i).params.defaults = [] := by
  intro i hi
  unfold defIdx at hi
  simp only [List.mem_cons, List.not_mem_nil, or_false] at hi
  rcases hi with h | h | h | h | h | h | h | h | h | h | h | h | h | h | h | h | h | h | h | h | h | h | h | h <;> subst h <;> rfl
theorem def_qual : ∀ i ∈ defIdx, qualnameIn { scope := pw.main.scope, locals := mainGlobals, globals := mainGlobals, cells := [] } (drOf i).name (drOf i).name = (drOf i).name := by
  intro i hi
  unfold defIdx at hi
  simp only [List.mem_cons, List.not_mem_nil, or_false] at hi
  rcases hi with h | h | h | h | h | h | h | h | h | h | h | h | h | h | h | h | h | h | h | h | h | h | h | h <;> subst h <;> rfl
theorem def_lines : ∀ i ∈ defIdx, ∀ j ∈ defIdx, i ≠ j → (drOf i).pos.line ≠ (drOf j).pos.line := by decide +kernel
end Mine
end
section
open PySem PySem.Calls PyProof.Rows PySem.W
set_option Elab.async false
set_option maxRecDepth 100000
namespace Mine
/-- the top, from a statement on -/
structure TGo (w : World) (A : Around) (c F : Addr) (Q : Flow → Shared → Prop) (s₀ : Shared) (i : Nat) (h : Heap) (tk : Nat) : Prop where
  out : wpAny (model pw w) A (execs (pw.main.body.drop i) (mainEnv pw c F)) Q (fun _ _ => False) { s₀ with heap := h, toks := tk }
noncomputable def PsFresh (i : Nat) (ps : Array Value) : Prop := ∀ j ∈ defIdx, i ≤ j → codeAmong (drOf j).pos ps.toList = none
structure TopFrom (w : World) (A : Around) (c F Pl : Addr) (Q : Flow → Shared → Prop) (s₀ : Shared) (m0 : Str → Option Value) (i : Nat) (defs : List DefItem) (consts : List (Str × PyData)) (objs : List (Str × (Obj → Prop))) (names : List Str) : Prop where
  go : ∀ h mg₀ mg ps tk, Mod s₀.heap mg₀ c Pl h mg ps defs consts objs names → (∀ y, y ≠ ("__name__" : Str) → mg₀ y = m0 y) → PsFresh i ps → TGo w A c F Q s₀ i h tk
section
variable {w : World} {A : Around} {c F Pl : Addr} {Q : Flow → Shared → Prop} {s₀ : Shared} {m0 : Str → Option Value} {i : Nat} {defs : List DefItem} {consts : List (Str × PyData)} {objs : List (Str × (Obj → Prop))} {names : List Str}
theorem drop_at {τ : Type} {l : List τ} {i : Nat} {x : τ} (h : l[i]? = some x) : l.drop i = x :: l.drop (i + 1) := by
  obtain ⟨h1, h2⟩ := List.getElem?_eq_some_iff.mp h
  rw [List.drop_eq_getElem_cons h1, h2]
theorem TGo.step {st : Stmt} {h : Heap} {tk : Nat} (hst : pw.main.body[i]? = some st)
    (k : wpAny (model pw w) A (exec st (mainEnv pw c F)) (fun f s' => match f with | .next => ∃ h' tk', s' = { s₀ with heap := h', toks := tk' } ∧ TGo w A c F Q s₀ (i + 1) h' tk' | _ => False) (fun _ _ => False) { s₀ with heap := h, toks := tk }) : TGo w A c F Q s₀ i h tk := by
  refine ⟨?_⟩
  rw [drop_at hst]
  refine wpAny_execs_cons ?_
  refine wpAny_mono k ?_ ?_
  · intro f s' hf
    cases f with
    | next => obtain ⟨h', tk', rfl, hg⟩ := hf; exact hg.out
    | brk => exact hf.elim
    | cont => exact hf.elim
    | ret v => exact hf.elim
  · exact fun _ _ x => x
theorem TopFrom.def (hi : i ∈ defIdx) (hnew : (drOf i).name ∉ names) (k : TopFrom w A c F Pl Q s₀ m0 (i + 1) (itemOf i :: defs) consts objs ((drOf i).name :: names)) : TopFrom w A c F Pl Q s₀ m0 i defs consts objs names := by
  refine ⟨fun h mg₀ mg ps tk X hm hps => ?_⟩
  refine TGo.step (def_at i hi) ?_
  have htr : TriplesOk ps.toList := by
    obtain ⟨_, _, _, _, _, _, _, _, _, _, _, _, _, _, _, _, _, _, _, h, _⟩ := X.main.code
    exact h
  refine Mod.def_plain (prog := pw) (s := { s₀ with heap := h, toks := tk }) X (plain_tree i hi) (def_free i hi) (def_doc i hi) (def_loc i hi) (def_qual i hi) hnew ?_ (def_nb i hi) rfl (hps i hi (Nat.le_refl _)) (def_dflt i hi)
  intro h' mg' c' tk' X'
  refine ⟨h', tk', rfl, k.go h' mg₀ mg' _ tk' X' hm fun j hj hij => ?_⟩
  rw [Array.toList_append]
  refine among_snoc _ htr (hps j hj (by (first | lia | omega))) fun q => ?_
  exact def_lines i hi j hj (by (first | lia | omega)) (by have := q.1; (first | lia | omega))
theorem Mod.forget {h₀ h : Heap} {mg₀ mg : Str → Option Value} {ps : Array Value} {x : Str} {d : PyData} (X : Mod h₀ mg₀ c Pl h mg ps defs ((x, d) :: consts) objs (x :: names))
    (hd : ∀ e ∈ defs, e.name ∈ names) (hc : ∀ p ∈ consts, p.1 ∈ names) (ho : ∀ p ∈ objs, p.1 ∈ names) :
    Mod h₀ (fun y => if y = x then mg y else mg₀ y) c Pl h mg ps defs consts objs names := by
  refine ⟨X.main, X.keep, X.made, fun p hp => X.bound p (List.mem_cons_of_mem _ hp), ?_, hd, hc, X.held, ho, X.grows, X.lowP, X.lowG, X.tabs⟩
  intro y hy
  by_cases e : y = x
  · rw [if_pos e]
  · rw [if_neg e]
    exact X.others y fun q => (List.mem_cons.mp q).elim e hy
theorem TopFrom.name {p' q pos : Pos} {x : Str} {kd : Nat} (hst : pw.main.body[i]? = some (.Assign [.Name "__name__" p'] (.Constant (.str x) kd q) pos)) (hn : ("__name__" : Str) ∉ names)
    (k : TopFrom w A c F Pl Q s₀ m0 (i + 1) defs consts objs names) : TopFrom w A c F Pl Q s₀ m0 i defs consts objs names := by
  refine ⟨fun h mg₀ mg ps tk X hm hps => ?_⟩
  refine TGo.step hst ?_
  refine Mod.assign (prog := pw) (s := { s₀ with heap := h, toks := tk }) X (by rfl) hn lit_str ?_ (by decide) rfl rfl
  intro h' mg' tk' X'
  refine ⟨h', tk', rfl, k.go h' _ mg' _ tk' (Mod.forget X' X.dnames X.cnames X.onames) (fun y hy => ?_) fun j hj hij => hps j hj (by (first | lia | omega))⟩
  rw [if_neg hy]; exact hm y hy
theorem TopFrom.int {p' q pos : Pos} {x : Str} {v : Int} {kd : Nat} (hst : pw.main.body[i]? = some (.Assign [.Name x p'] (.Constant (.int v) kd q) pos)) (hloc : pw.main.scope.names.lookup x = some .local) (hn : x ∉ names) (hnb : x ≠ "__builtins__")
    (k : TopFrom w A c F Pl Q s₀ m0 (i + 1) defs ((x, .int v) :: consts) objs (x :: names)) : TopFrom w A c F Pl Q s₀ m0 i defs consts objs names := by
  refine ⟨fun h mg₀ mg ps tk X hm hps => ?_⟩
  refine TGo.step hst ?_
  refine Mod.assign (prog := pw) (s := { s₀ with heap := h, toks := tk }) X hloc hn lit_int ?_ hnb rfl rfl
  intro h' mg' tk' X'
  exact ⟨h', tk', rfl, k.go h' mg₀ mg' _ tk' X' hm fun j hj hij => hps j hj (by (first | lia | omega))⟩
theorem TopFrom.obj {p' pos : Pos} {x : Str} {e : Expr} {P : Obj → Prop} (hst : pw.main.body[i]? = some (.Assign [.Name x p'] e pos)) (hloc : pw.main.scope.names.lookup x = some .local) (hn : x ∉ names) (hnb : x ≠ "__builtins__")
    (hs : swapsWith e (some (.Name x p')) pos.line (mainEnv pw c F) = pure false)
    (hval : ∀ h mg₀ mg ps tk (Q' : Value → Shared → Prop), Mod s₀.heap mg₀ c Pl h mg ps defs consts objs names → (∀ y, y ≠ ("__name__" : Str) → mg₀ y = m0 y) →
      (∀ a o h₁ tk', h.objs.size ≤ a → h₁.get? a = some o → P o → (∀ b o', h.get? b = some o' → h₁.get? b = some o') → Q' (.ref a) { s₀ with heap := h₁, toks := tk' }) →
      wpAny (model pw w) A (eval e (mainEnv pw c F)) Q' (fun _ _ => False) { s₀ with heap := h, toks := tk })
    (k : TopFrom w A c F Pl Q s₀ m0 (i + 1) defs consts ((x, P) :: objs) (x :: names)) : TopFrom w A c F Pl Q s₀ m0 i defs consts objs names := by
  refine ⟨fun h mg₀ mg ps tk X hm hps => ?_⟩
  refine TGo.step hst ?_
  refine Mod.assign_obj (prog := pw) (s := { s₀ with heap := h, toks := tk }) (P := P) X hloc hn (fun Q' hQ => hval h mg₀ mg ps tk Q' X hm hQ) ?_ hnb rfl hs
  intro h' mg' tk' X'
  exact ⟨h', tk', rfl, k.go h' mg₀ mg' _ tk' X' hm fun j hj hij => hps j hj (by (first | lia | omega))⟩
end
end Mine
end
section
open PySem PySem.Calls PyProof.Rows PySem.W
set_option Elab.async false
set_option maxRecDepth 100000
namespace Mine
noncomputable def valOf (i : Nat) : Expr := match pw.main.body[i]? with
  | some (.Assign _ e _) => e
  | _ => .Constant .none 0 default
noncomputable def b1L : List Int := [173, 847, 6150, 6155, 6156, 6157, 8203, 8204, 8205, 8288, 65279] ++ (List.range 16).map fun i : Nat => (65024 + (i : Int) * 1)
noncomputable def b1M (k : Int) : Bool := (firstMet (fun i => b1L.getD i 0) 27).any (· == k)
noncomputable def b1C : Nat := (firstMet (fun i => b1L.getD i 0) 27).length
section
variable {w : World} {A : Around} {c F : Addr} {s₀ : Shared} {E : Value → Shared → Prop}
theorem ints_spliced {env : Env} {pos : Pos} : ∀ {es : List Expr} {ns : List Int} {s : Shared} {Q : List Value → Shared → Prop}, constInts es = some ns →
    (∀ vs tk, IntsAre vs ns → Q vs { s with toks := tk }) → wpAny (model pw w) A (spliced (backTo pos (starEach es env))) Q E s
  | [], ns, s, Q, h, hQ => by
    cases h
    exact spliced_nil (hQ [] s.toks .nil)
  | e :: r, ns, s, Q, h, hQ => by
    unfold constInts at h
    split at h
    · rename_i heq; cases heq
    · rename_i i k p r' heq
      cases heq
      split at h
      · rename_i l hl
        cases h
        have hs : backTo pos (starEach (.Constant (.int i) k p :: r) env) = (false, eval (.Constant (.int i) k p) env) :: backTo pos (starEach r env) := rfl
        rw [hs]
        refine spliced_cons (wpAny_Constant_int ?_)
        exact ints_spliced hl fun vs tk hv => hQ _ tk (.cons i _ hv)
      · cases h
    · cases h
theorem items_ints {a : Int} {n : Nat} {acc : Array Value} (hi : ItemsOf (fun i v => ∃ t, v = .int (a + i * 1) t) acc n) : IntsAre acc.toList ((List.range n).map fun i : Nat => (a + (i : Int) * 1)) := by
  obtain ⟨hsz, hP⟩ := hi
  have key : ∀ (k : Nat) (l : List Value) (j : Nat), (∀ (i : Nat) (v : Value), l[i]? = some v → ∃ t, v = Value.int (a + ((j + i : Nat) : Int) * 1) t) → l.length = k → IntsAre l ((List.range' j k).map fun i : Nat => (a + (i : Int) * 1)) := by
    intro k
    induction k with
    | zero => intro l j _ hl; rw [List.length_eq_zero_iff.mp hl]; exact .nil
    | succ k ih =>
      intro l j hP hl
      cases l with
      | nil => cases hl
      | cons v l =>
        rw [List.range'_succ, List.map_cons]
        obtain ⟨t, e⟩ := hP 0 v (by simp)
        rw [e]
        refine .cons _ t (ih l (j + 1) (fun i w hw => ?_) (by simpa using hl))
        obtain ⟨t, e⟩ := hP (i + 1) w (by simpa using hw)
        exact ⟨t, by rw [e, show j + 1 + i = j + (i + 1) by (first | lia | omega)]⟩
  have := key n acc.toList 0 (fun i v hv => by
    obtain ⟨t, e⟩ := hP i v (by simpa using hv)
    exact ⟨t, by rw [e]; simp⟩) (by simp [hsz])
  rw [← List.range_eq_range'] at this
  exact this
theorem call_one {env : Env} {x : Str} {p pos : Pos} {e : Expr} {T : String} {mg mb : Str → Option Value} {s : Shared} {Q : Value → Shared → Prop} (hk : env.scope.kind = .module) (hl : env.locals = env.globals) (hg : s.heap.Ns env.globals mg) (hb : s.heap.Ns env.builtins mb)
    (n1 : mg x = none) (b1 : mb x = some (.type T)) (hs : ∀ env, backTo pos (starEach [e] env) = [(false, eval e env)])
    (h : wpAny (model pw w) A (eval e env) (fun v s₁ => wpAny (model pw w) A (call (.type T) [v]) Q E s₁) E s) (hd : (x == ("__debug__" : Str)) = false := by decide) : wpAny (model pw w) A (eval (.Call (.Name x p) [e] [] pos) env) Q E s := by
  refine wpAny_Call_NameR (Name_module hk hl (loadGlobal_builtin hg n1 hb b1 ?_) hd)
  rw [hs env]
  exact PySem.callWith_type rfl (evalArgs_plain (spliced_cons (wpAny_mono h (fun v s₁ h₁ => spliced_nil h₁) fun _ _ x => x)))
theorem call_two {env : Env} {x : Str} {p pos : Pos} {e e' : Expr} {T : String} {mg mb : Str → Option Value} {s : Shared} {Q : Value → Shared → Prop} (hk : env.scope.kind = .module) (hl : env.locals = env.globals) (hg : s.heap.Ns env.globals mg) (hb : s.heap.Ns env.builtins mb)
    (n1 : mg x = none) (b1 : mb x = some (.type T)) (hs : ∀ env, backTo pos (starEach [e, e'] env) = [(false, eval e env), (false, eval e' env)])
    (h : wpAny (model pw w) A (eval e env) (fun v s₁ => wpAny (model pw w) A (eval e' env) (fun v' s₂ => wpAny (model pw w) A (call (.type T) [v, v']) Q E s₂) E s₁) E s) (hd : (x == ("__debug__" : Str)) = false := by decide) : wpAny (model pw w) A (eval (.Call (.Name x p) [e, e'] [] pos) env) Q E s := by
  refine wpAny_Call_NameR (Name_module hk hl (loadGlobal_builtin hg n1 hb b1 ?_) hd)
  rw [hs env]
  exact PySem.callWith_type rfl (evalArgs_plain (spliced_cons (wpAny_mono h (fun v s₁ h₁ => spliced_cons (wpAny_mono h₁ (fun v s₁ h₁ => spliced_nil h₁) fun _ _ x => x)) fun _ _ x => x)))
theorem b1_val {h : Heap} {mg mb : Str → Option Value} {tk : Nat} {Q : Value → Shared → Prop} (hA : A.handled = none) (hg : h.Ns mainGlobals mg) (hb : h.Ns builtinsNs mb)
    (n1 : mg "set" = none) (n2 : mg "list" = none) (n3 : mg "range" = none) (b1 : mb "set" = some (.type "set")) (b2 : mb "list" = some (.type "list")) (b3 : mb "range" = some (.type "range"))
    (hQ : ∀ a o h₁ tk', h.objs.size ≤ a → h₁.get? a = some o → o.SetObjOf (intKind pw w) b1M b1C → (∀ b o', h.get? b = some o' → h₁.get? b = some o') → Q (.ref a) { s₀ with heap := h₁, toks := tk' }) :
    wpAny (model pw w) A (eval (valOf 9) (mainEnv pw c F)) Q E { s₀ with heap := h, toks := tk } := by
  refine call_one (T := "set") rfl rfl hg hb n1 b1 (fun _ => rfl) ?_
  refine wpAny_BinOp ?_
  refine wpAny_List ?_
  refine ints_spliced (ns := [173, 847, 6150, 6155, 6156, 6157, 8203, 8204, 8205, 8288, 65279]) rfl fun vs tk1 hv => ⟨by rw [hv.length]; decide, ?_⟩
  dsimp only
  have k1 : ∀ b o', h.get? b = some o' → (h.push { cls := .type "list", data := .seq vs.toArray }).get? b = some o' := fun b o' e => Heap.get?_push_of_some _ e
  have hl1 : (h.push { cls := .type "list", data := .seq vs.toArray }).get? h.objs.size = some { cls := .type "list", data := .seq vs.toArray } := Heap.get?_push_size _ rfl
  have hz1 : h.objs.size ≤ (h.push { cls := .type "list", data := .seq vs.toArray }).objs.size := by rw [Heap.size_push]; (first | lia | omega)
  generalize h.push { cls := .type "list", data := .seq vs.toArray } = h1 at *
  refine call_one (T := "list") rfl rfl (hg.keeps k1) (hb.keeps k1) n2 b2 (fun _ => rfl) ?_
  refine call_two (T := "range") rfl rfl (hg.keeps k1) (hb.keeps k1) n3 b3 (fun _ => rfl) ?_
  refine wpAny_Constant_int ?_
  refine wpAny_Constant_int ?_
  refine call_range_2 ?_
  dsimp only
  refine call_list_range (a := 65024) (b := 65040) (c := 1) (n := 16) hA (IsRange.new ..) (by decide) (by decide) (by decide) fun h2 tk2 acc c2 hk2 hl2 hi2 => ?_
  dsimp only at hk2 hl2 ⊢
  have k2 : ∀ b o', h1.get? b = some o' → h2.get? b = some o' := fun b o' e => hk2 b o' (Heap.get?_push_of_some _ e)
  have hi3 := items_ints hi2
  have hl1' := k2 _ _ hl1
  have hla := hi3.length
  have hlv := hv.length
  rw [List.length_map, List.length_range] at hla
  have hla' : acc.size = 16 := by simpa using hla
  refine P.add_list hl1' hl2 ?_ (by rw [List.size_toArray, hlv, hla', sizeLine_eq]; decide)
  dsimp only
  have k3 : ∀ b o', h2.get? b = some o' → (h2.push { cls := .type "list", data := .seq (vs.toArray ++ acc) }).get? b = some o' := fun b o' e => Heap.get?_push_of_some _ e
  have hl3 : (h2.push { cls := .type "list", data := .seq (vs.toArray ++ acc) }).get? h2.objs.size = some { cls := .type "list", data := .seq (vs.toArray ++ acc) } := Heap.get?_push_size _ rfl
  have hsz : (vs.toArray ++ acc).size = 27 := by rw [Array.size_append, List.size_toArray, hlv, hla']; rfl
  have hints : IntsAre (vs.toArray ++ acc).toList b1L := by
    rw [Array.toList_append]
    exact hv.append hi3
  have hz2 : h.objs.size ≤ h2.objs.size := Nat.le_of_lt (Heap.lt_size hl1')
  have hz3 : h.objs.size ≤ (h2.push { cls := .type "list", data := .seq (vs.toArray ++ acc) }).objs.size := by rw [Heap.size_push]; (first | lia | omega)
  generalize h2.push { cls := .type "list", data := .seq (vs.toArray ++ acc) } = h3 at *
  refine PySem.call_set_list (items := vs.toArray ++ acc) (ns := b1L) hA ⟨_, hl3, rfl, _, rfl⟩ hints (by rw [hsz]; decide) fun h4 tk4 hS hk4 => ?_
  rw [hsz] at hS
  obtain ⟨o, ho, hso⟩ := hS.objOf
  dsimp only at ho hk4 ⊢
  exact hQ _ o h4 _ hz3 ho hso fun b o' e => hk4 b o' (Heap.lt_size (k3 _ _ (k2 _ _ (k1 _ _ e)))) (k3 _ _ (k2 _ _ (k1 _ _ e)))
end
end Mine
end
section
open PySem PySem.Calls PyProof.Rows PySem.W
set_option Elab.async false
set_option maxRecDepth 100000
namespace Mine
section
variable {w : World} {A : Around} {E : Value → Shared → Prop}
noncomputable abbrev iK (w : World) : KeyKind pw w Int := intKind pw w
theorem put_fresh {s : Shared} {d : Addr} {kvs : List (Int × Value)} {k : Int} {key v : Value} {Q : Unit → Shared → Prop} (hkey : (iK w).is k key = true) (hm : s.heap.DictOf (iK w) d kvs) (hf : k ∉ kvs.map (·.1))
    (hQ : ∀ h', h'.DictOf (iK w) d (kvs ++ [(k, v)]) → Heap.SameBut d s.heap h' → Q () { s with heap := h' }) (hsz : kvs.length ≤ sizeLine) :
    wpAny (model pw w) A (dictPut d ((iK w).hash k) key v) Q E s := by
  obtain ⟨o, es, ep, ho, hc, hd, hk, hp, hn⟩ := hm
  have hes : es.size ≤ sizeLine := by
    have e1 := hp.length
    have e2 : es.toList.length = es.size := by simp
    (first | lia | omega)
  unfold dictPut
  refine wpAny_bind (wpAny_dictFind_of hkey ho hd hk ?_)
  have hidx : (es.findIdx? fun e => (iK w).is k e.key) = kvs.findIdx? fun kv => decide (kv.1 = k) := by
    rw [← hp.findIdx k]; obtain ⟨l⟩ := es; simp
  have hnone : (kvs.findIdx? fun kv => decide (kv.1 = k)) = none := by
    rw [List.findIdx?_eq_none_iff]
    intro x hx
    exact decide_eq_false fun e => hf (List.mem_map.mpr ⟨x, hx, e⟩)
  rw [hidx, hnone]
  refine wpAny_updateDictKeys (hz := hes) ho hd (hQ _ ⟨_, _, ep + 1, Heap.get?_update_self _ ho (Obj.isFreed_of_dict (Obj.data_mapDictKeys hd _)), hc.mapDictKeys _, Obj.data_mapDictKeys hd _, hk.push hkey _, ?_, ?_⟩ (Heap.SameBut.update ..))
  · have := hp.append hkey ((iK w).hash k) v
    obtain ⟨l⟩ := es
    simpa using this
  · rw [List.map_append, List.nodup_append]
    refine ⟨hn, by simp, ?_⟩
    intro a ha b hb
    simp only [List.map_cons, List.map_nil, List.mem_singleton] at hb
    subst hb
    exact fun e => hf (e ▸ ha)
/-- one table laid over another, all its keys new there -/
theorem merge_fresh {s : Shared} {d o : Addr} {kvs more : List (Int × Value)} {Q : Unit → Shared → Prop} (hdo : d ≠ o) (hoS : (o == sysModules) = false)
    (hd : s.heap.DictOf (iK w) d kvs) (ho : s.heap.DictOf (iK w) o more) (hne : kvs ≠ []) (hfr : ((kvs ++ more).map (·.1)).Nodup)
    (hQ : ∀ h', h'.DictOf (iK w) d (kvs ++ more) → Heap.SameBut d s.heap h' → Q () { s with heap := h' })
    (hsz : kvs.length + more.length ≤ sizeLine) :
    wpAny (model pw w) A (mergeMapping d (.ref o) false) Q E s := by
  have hty := ho.typeIs
  obtain ⟨od, esd, epd, hod, hcd, hdd, hkd, hpd, hnd⟩ := id hd
  obtain ⟨oo, eso, epo, hoo, hco, hdo', hko, hpo, hno⟩ := id ho
  have hlen : more.length = eso.size := by rw [← hpo.length]; simp
  unfold mergeMapping
  dsimp only
  refine wpAny_bind (wpAny_isInstance hty isSubtype_dict_dict ?_)
  rw [if_pos rfl]
  refine wpAny_bind (wpAny_specialOf hty F.slot_dict_iter.lookup ?_)
  refine wpAny_bind (wpAny_pure ?_)
  simp only [beq_self_eq_true]
  rw [if_neg (by rw [hoS]; exact Bool.false_ne_true)]
  refine wpAny_bind (wpAny_dictEntries hod hdd ?_)
  rw [if_neg (by
    intro h
    have h0 : esd = #[] := Array.isEmpty_iff.mp h
    have := hpd.length; rw [h0] at this; exact hne (List.length_eq_zero_iff.mp (by simpa using this.symm)))]
  refine wpAny_bind (wpAny_dictEntries hoo hdo' ?_)
  refine wpAny_bind (wpAny_dictEpoch hoo hdo' ?_)
  refine wpAny_bind ?_
  rw [List.range_eq_range']
  refine wpAny_forIn_list _
      (fun rest _ s' => ∃ h' i, s' = { s with heap := h' } ∧ rest = List.range' i (eso.size - i) ∧ i ≤ eso.size ∧ h'.DictOf (iK w) d (kvs ++ more.take i) ∧ h'.get? o = some oo ∧ Heap.SameBut d s.heap h')
      _ ?_ ?_ _ _ ⟨s.heap, 0, rfl, by simp, Nat.zero_le _, by simpa using hd, hoo, Heap.SameBut.refl _ _⟩
  · rintro x rest b s' ⟨h', i, rfl, hr, hi, hd', hoo', hs'⟩
    have hlt : i < eso.size := by
      rcases Nat.lt_or_ge i eso.size with h | h
      · exact h
      · rw [Nat.sub_eq_zero_of_le h] at hr; simp at hr
    obtain ⟨rfl, hrest⟩ : x = i ∧ rest = List.range' (i + 1) (eso.size - (i + 1)) := by
      have e : eso.size - i = (eso.size - (i + 1)) + 1 := by (first | lia | omega)
      rw [e, List.range'_succ] at hr
      injection hr with h1 h2
      exact ⟨h1, h2⟩
    refine wpAny_bind (wpAny_dictEntries hoo' hdo' ?_)
    rw [Array.getElem?_eq_getElem hlt]
    have hxm : x < more.length := by rw [hlen]; exact hlt
    obtain ⟨kv, hkv⟩ : ∃ kv, more[x]? = some kv := ⟨more[x]'hxm, List.getElem?_eq_getElem _⟩
    obtain ⟨k, v⟩ := kv
    obtain ⟨hkey, hval⟩ := hpo.get? (e := eso[x]) (by simp [hlt]) hkv
    obtain ⟨k', hkey', hhash⟩ := hko eso[x] (Array.getElem_mem hlt)
    obtain rfl : k' = k := (iK w).inj _ _ _ hkey' hkey
    have htk : more.take (x + 1) = more.take x ++ [(k', v)] := by
      rw [List.take_succ_eq_append_getElem hxm]
      have := (List.getElem?_eq_some_iff.mp hkv).2
      rw [this]
    have hfk : k' ∉ (kvs ++ more.take x).map (·.1) := by
      have h1 : (kvs ++ more) = (kvs ++ more.take x) ++ (k', v) :: more.drop (x + 1) := by
        rw [List.append_assoc]
        congr 1
        have := (List.getElem?_eq_some_iff.mp hkv).2
        conv => lhs; rw [← List.take_append_drop x more, List.drop_eq_getElem_cons hxm, this]
      rw [h1, List.map_append, List.nodup_append] at hfr
      intro hmem
      exact hfr.2.2 k' hmem k' (by simp) rfl
    have hl2 : (kvs ++ more.take x).length ≤ sizeLine := by rw [List.length_append, List.length_take]; (first | lia | omega)
    show wpAny _ _ (holding [eso[x].key, eso[x].val] (dictPut d eso[x].hash eso[x].key eso[x].val) >>= _) _ _ _
    rw [hhash, hval]
    refine wpAny_bind (wpAny_holding (put_fresh hkey hd' hfk (fun h'' hd'' hs'' => ?_) hl2))
    have hoo'' : h''.get? o = some oo := (hs''.2 o (Ne.symm hdo)).trans hoo'
    refine wpAny_bind (wpAny_dictEpoch hoo'' hdo' ?_)
    rw [if_neg (by simp)]
    exact wpAny_pure ⟨h'', x + 1, rfl, hrest, hlt, by rw [htk, ← List.append_assoc]; exact hd'', hoo'', hs'.trans hs''⟩
  · rintro b s' ⟨h', i, rfl, hr, hi, hd', hoo', hs'⟩
    have hin : i = eso.size := by
      rcases Nat.lt_or_ge i eso.size with h | h
      · have e : eso.size - i = (eso.size - (i + 1)) + 1 := by (first | lia | omega)
        rw [e, List.range'_succ] at hr; exact nomatch hr
      · exact Nat.le_antisymm hi h
    refine wpAny_pure (hQ h' ?_ hs')
    rw [hin, ← hlen, List.take_length] at hd'; exact hd'
end
end Mine
end
section
open PySem PySem.Calls PyProof.Rows PySem.W PyProof.V
set_option Elab.async false
set_option maxRecDepth 100000
namespace Mine
/-- a pair of trees that answers with these two -/
noncomputable def TK (w : World) (A : Around) (E : Value → Shared → Prop) (p : Sem Value × Sem Value) (k : Int) (dv : PyData) : Prop :=
  ∀ (s : Shared) (Q : Value → Value → Shared → Prop), (∀ t vv tk, Flat vv dv → Q (.int k t) vv { s with toks := tk }) → wpAny (model pw w) A p.1 (fun kv s1 => wpAny (model pw w) A p.2 (fun vv s2 => Q kv vv s2) E s1) E s
inductive Trees (w : World) (A : Around) (E : Value → Shared → Prop) : List (Sem Value × Sem Value) → List (PyData × PyData) → Prop
  | nil : Trees w A E [] []
  | cons {p k dv ps D} : TK w A E p k dv → Trees w A E ps D → Trees w A E (p :: ps) ((.int k, dv) :: D)
section
variable {w : World} {A : Around} {E : Value → Shared → Prop}
theorem Trees.length {ps : List (Sem Value × Sem Value)} {D : List (PyData × PyData)} (h : Trees w A E ps D) : ps.length = D.length := by
  induction h with
  | nil => rfl
  | cons _ _ ih => simp [ih]
theorem Trees.append {ps ps' : List (Sem Value × Sem Value)} {D D' : List (PyData × PyData)} (h : Trees w A E ps D) (h' : Trees w A E ps' D') : Trees w A E (ps ++ ps') (D ++ D') := by
  induction h with
  | nil => exact h'
  | cons a _ ih => exact .cons a ih
theorem Trees.keyed {ps : List (Sem Value × Sem Value)} {D : List (PyData × PyData)} (h : Trees w A E ps D) : intKeyed D = true := by
  induction h with
  | nil => rfl
  | cons _ _ ih => exact ih
theorem flatp_app {a b : List (Int × Value)} {D D' : List (PyData × PyData)} (h : FlatPairs PyData.int a D) (h' : FlatPairs PyData.int b D') : FlatPairs PyData.int (a ++ b) (D ++ D') := by
  induction h with
  | nil => exact h'
  | cons f _ ih => exact .cons f ih
theorem flatp_len {a : List (Int × Value)} {D : List (PyData × PyData)} (h : FlatPairs PyData.int a D) : a.length = D.length := by
  induction h with
  | nil => rfl
  | cons f _ ih => simp [ih]
theorem flatp_keys {a : List (Int × Value)} {D : List (PyData × PyData)} (h : FlatPairs PyData.int a D) : a.map (·.1) = intKeysOf D := by
  induction h with
  | nil => rfl
  | cons f _ ih => simp [intKeysOf, ih]
theorem keys_app : ∀ {D D' : List (PyData × PyData)}, intKeyed D = true → intKeysOf (D ++ D') = intKeysOf D ++ intKeysOf D'
  | [], _, _ => rfl
  | (.int k, _) :: D, D', h => by
    have := keys_app (D := D) (D' := D') h
    simp [intKeysOf, this]
  | (.none, _) :: _, _, h => by cases h
  | (.bool _, _) :: _, _, h => by cases h
  | (.str _, _) :: _, _, h => by cases h
  | (.list _, _) :: _, _, h => by cases h
  | (.tuple _, _) :: _, _, h => by cases h
  | (.dict _, _) :: _, _, h => by cases h
theorem flatp_keyed {a : List (Int × Value)} {D : List (PyData × PyData)} (h : FlatPairs PyData.int a D) : intKeyed D = true := by
  induction h with
  | nil => rfl
  | cons f _ ih => exact ih
theorem evalPairs_trees {ps : List (Sem Value × Sem Value)} {D : List (PyData × PyData)} (x : Trees w A E ps D) : ∀ (s : Shared) (Q : List (Value × Value) → Shared → Prop),
    (∀ vs kvs tk, Carries (iK w) vs kvs → FlatPairs PyData.int kvs D → Q vs { s with toks := tk }) → wpAny (model pw w) A (evalPairs ps) Q E s := by
  induction x with
  | nil => exact fun s Q h => evalPairs_nil (h [] [] s.toks trivial .nil)
  | @cons p k dv ps D hp ht ih =>
    intro s Q h
    refine evalPairs_cons ?_
    refine hp s (fun kv vv s2 => wpAny (model pw w) A (evalPairs ps) (fun vs s₃ => Q ((kv, vv) :: vs) s₃) E s2) fun t vv tk hf => ?_
    exact ih _ _ fun vs kvs tk' hc hk => h _ ((k, vv) :: kvs) tk' ⟨intKind_is _ _ _ _, rfl, hc⟩ (.cons hf hk)
theorem long_store {d : Addr} (f : Sem Value × Sem Value → PUnit → Sem (ForInStep PUnit)) (hf : ∀ p, f p PUnit.unit = (do
      let kv ← p.1
      let vv ← holding [kv] p.2
      holding [kv, vv] (dictSet d kv vv)
      pure (ForInStep.yield PUnit.unit))) {ps : List (Sem Value × Sem Value)} {D : List (PyData × PyData)} (x : Trees w A E ps D) : ∀ (acc : List (Int × Value)) (s : Shared) (Q : PUnit → Shared → Prop), s.heap.DictOf (iK w) d acc →
    (acc.map (·.1) ++ intKeysOf D).Nodup → acc.length + D.length ≤ sizeLine →
    (∀ kvs h' tk, FlatPairs PyData.int kvs D → h'.DictOf (iK w) d (acc ++ kvs) → Heap.SameBut d s.heap h' → Q PUnit.unit { s with heap := h', toks := tk }) → wpAny (model pw w) A (forIn ps PUnit.unit f) Q E s := by
  induction x with
  | nil =>
    intro acc s Q hd _ _ h
    rw [List.forIn_nil]
    exact wpAny_pure (h [] s.heap s.toks .nil (by rw [List.append_nil]; exact hd) (Heap.SameBut.refl _ _))
  | @cons p k dv ps D hp ht ih =>
    intro acc s Q hd hn hz h
    rw [List.forIn_cons, hf]
    simp only [List.length_cons] at hz
    refine wpAny_bind ?_
    refine wpAny_bind (wpAny_mono (hp s (fun kv vv s2 => wpAny (model pw w) A (holding [kv, vv] (dictSet d kv vv)) (fun _ s3 => wpAny (model pw w) A (forIn ps PUnit.unit f) Q E s3) E s2) fun t vv tk hfl => ?_) (fun kv s1 h1 => ?_) fun _ _ x => x)
    · refine wpAny_holding (wpAny_dictSet_pairs (knd := iK w) (k := k) (hsz := by (first | lia | omega)) (intKind_is _ _ _ _) hd fun h' hd' hs' => ?_)
      have hfresh : stored acc k vv = acc ++ [(k, vv)] := by
        unfold stored
        rw [if_neg]
        rw [List.any_eq_true]
        rintro ⟨x, hx, he⟩
        have hk : k ∈ acc.map (·.1) := List.mem_map.mpr ⟨x, hx, of_decide_eq_true he⟩
        rw [List.nodup_append] at hn
        exact hn.2.2 k hk k (by simp [intKeysOf]) rfl
      rw [hfresh] at hd'
      refine ih (acc ++ [(k, vv)]) _ Q hd' ?_ (by rw [List.length_append, List.length_singleton]; (first | lia | omega)) fun kvs h2 tk2 hfl2 hd2 hs2 => ?_
      · rw [List.map_append, List.append_assoc]
        exact hn
      · rw [List.append_assoc] at hd2
        exact h ((k, vv) :: kvs) h2 tk2 (.cons hfl hfl2) hd2 (hs'.trans hs2)
    · refine wpAny_bind (wpAny_holding (wpAny_mono h1 (fun vv s2 h2 => ?_) fun _ _ x => x))
      exact wpAny_bind (wpAny_mono h2 (fun _ s3 h3 => wpAny_pure h3) fun _ _ x => x)
theorem sub_dict {ps : List (Sem Value × Sem Value)} {D : List (PyData × PyData)} (ht : Trees w A E ps D) (hn : (intKeysOf D).Nodup) (hl : D.length ≤ 100) {s : Shared} {Q : Addr → Shared → Prop}
    (h : ∀ kvs h' tk, FlatPairs PyData.int kvs D → h'.DictOf (iK w) s.heap.objs.size kvs → (∀ b o, s.heap.get? b = some o → h'.get? b = some o) → s.heap.objs.size ≤ h'.objs.size → Q s.heap.objs.size { s with heap := h', toks := tk }) :
    wpAny (model pw w) A (subDict ps) Q E s := by
  by_cases hsh : ps.length ≤ 15
  · refine wpAny_subDict (knd := iK w) hsh (evalPairs_trees ht _ _ fun vs kvs tk hc hf => ⟨kvs, hc, Heap.DictOf.new _, fun h' hd hs => ?_⟩)
    rw [merged_nil_of_nodup _ (by rw [flatp_keys hf]; exact hn)] at hd
    exact h kvs h' _ hf hd (fun b o e => (hs.2 b (Nat.ne_of_lt (Heap.lt_size e))).trans (Heap.get?_push_of_some _ e)) (by rw [hs.1, Heap.size_push]; (first | lia | omega))
  · unfold subDict
    refine wpAny_bind (wpAny_alloc ?_)
    refine wpAny_bind (wpAny_holding ?_)
    rw [if_neg hsh]
    refine wpAny_bind (wpAny_rule ?_)
    refine wpAny_bind (long_store _ (fun _ => rfl) ht [] _ _ (Heap.DictOf.new _) (by simpa using hn) (by rw [List.length_nil, sizeLine_eq]; (first | lia | omega)) fun kvs h' tk hf hd hs => ?_)
    refine wpAny_pure (wpAny_pure ?_)
    exact h kvs h' _ hf hd (fun b o e => (hs.2 b (Nat.ne_of_lt (Heap.lt_size e))).trans (Heap.get?_push_of_some _ e)) (by rw [hs.1, Heap.size_push]; (first | lia | omega))
end
end Mine
end
section
open PySem PySem.Calls PyProof.Rows PySem.W PyProof.V
set_option Elab.async false
set_option maxRecDepth 100000
namespace Mine
/-- the table made so far -/
structure MainOk (w : World) (h0 : Heap) (main : Option Addr) (acc : List (Int × Value)) (h : Heap) : Prop where
  keep : ∀ b o, h0.get? b = some o → h.get? b = some o
  size : h0.objs.size ≤ h.objs.size
  at_ : match main with
    | none => acc = []
    | some d => acc ≠ [] ∧ h.DictOf (iK w) d acc ∧ h0.objs.size ≤ d
section
variable {w : World} {A : Around} {E : Value → Shared → Prop} {s₀ : Shared} {h0 : Heap}
theorem keyed_app : ∀ {D D' : List (PyData × PyData)}, intKeyed D = true → intKeyed D' = true → intKeyed (D ++ D') = true
  | [], _, _, h => h
  | (.int k, _) :: D, D', h, h' => keyed_app (D := D) (D' := D') h h'
  | (.none, _) :: _, _, h, _ => by cases h
  | (.bool _, _) :: _, _, h, _ => by cases h
  | (.str _, _) :: _, _, h, _ => by cases h
  | (.list _, _) :: _, _, h, _ => by cases h
  | (.tuple _, _) :: _, _, h, _ => by cases h
  | (.dict _, _) :: _, _, h, _ => by cases h
noncomputable def flushT (run : List (Sem Value × Sem Value)) (main : Option Addr) : Sem (Option Addr) :=
  if run.isEmpty = true then pure main
  else match main with
    | none => do
      let x ← subDict run
      pure (some x)
    | some d => do
      let sub ← holding [Value.ref d] (subDict run)
      (holding [Value.ref d, Value.ref sub] (mergeMapping d (Value.ref sub) false)).onRaise fun x => do
          let _ ← holding [Value.ref d, x] (runValue (Code.builtin "proto.let_go" { }))
          pure ()
      pure (some d)
theorem flush_ok {run : List (Sem Value × Sem Value)} {Dr Da : List (PyData × PyData)} {main : Option Addr} {acc : List (Int × Value)} {h : Heap} {tk : Nat} {Q : Option Addr → Shared → Prop}
    (hS : sysModules < h0.objs.size) (ht : Trees w A E run Dr) (hne : run ≠ []) (hm : MainOk w h0 main acc h) (hfa : FlatPairs PyData.int acc Da)
    (hn : (intKeysOf Da ++ intKeysOf Dr).Nodup) (hl : Dr.length ≤ 100) (hl2 : Da.length ≤ 100000)
    (hQ : ∀ d acc' h' tk', MainOk w h0 (some d) acc' h' → FlatPairs PyData.int acc' (Da ++ Dr) → Q (some d) { s₀ with heap := h', toks := tk' }) :
    wpAny (model pw w) A (flushT run main) Q E { s₀ with heap := h, toks := tk } := by
  unfold flushT
  rw [if_neg (by simpa using hne)]
  have hnr : (intKeysOf Dr).Nodup := (List.nodup_append.mp hn).2.1
  have hdne : Dr ≠ [] := fun e => hne (List.length_eq_zero_iff.mp (by rw [ht.length, e]; rfl))
  cases main with
  | none =>
    have ha : acc = [] := hm.at_
    subst ha
    cases hfa
    refine wpAny_bind (sub_dict ht hnr hl fun kvs h' tk' hf hd hk hz => wpAny_pure ?_)
    refine hQ _ kvs h' tk' ⟨fun b o e => hk b o (hm.keep b o e), Nat.le_trans hm.size hz, ?_, hd, hm.size⟩ hf
    intro e
    subst e
    cases hf
    exact hdne rfl
  | some d =>
    obtain ⟨a1, a2, a3⟩ := hm.at_
    refine wpAny_bind (wpAny_holding (sub_dict ht hnr hl fun kvs h' tk' hf hd hk hz => ?_))
    dsimp only at hd hk hz ⊢
    have hdl : d < h.objs.size := by
      obtain ⟨o, es, ep, ho, _⟩ := a2
      exact Heap.lt_size ho
    have hsz := hm.size
    refine wpAny_bind (wpAny_onRaise (wpAny_holding (merge_fresh (s := { s₀ with heap := h', toks := tk' }) (Nat.ne_of_lt hdl) ?_ (a2.keep hk) hd a1 ?_ (fun h2 hd2 hs2 => wpAny_pure ?_) ?_)))
    · exact beq_eq_false_iff_ne.mpr (Nat.ne_of_gt (Nat.lt_of_lt_of_le hS hsz))
    · rw [List.map_append, flatp_keys hfa, flatp_keys hf]; exact hn
    · refine hQ d (acc ++ kvs) h2 tk' ⟨fun b o e => ?_, by rw [hs2.1]; exact Nat.le_trans hsz hz, fun e => a1 (List.append_eq_nil_iff.mp e).1, hd2, a3⟩ (flatp_app hfa hf)
      exact (hs2.2 b (Nat.ne_of_lt (Nat.lt_of_lt_of_le (Heap.lt_size e) a3))).trans (hk b o (hm.keep b o e))
    · rw [flatp_len hfa, flatp_len hf, sizeLine_eq]; (first | lia | omega)
theorem disp_loop {Q : (Option Addr × List (Sem Value × Sem Value)) → Shared → Prop} (hS : sysModules < h0.objs.size) (D0 : List (PyData × PyData)) (hn : (intKeysOf D0).Nodup) (hl : D0.length ≤ 100000)
    (f : (Option (Sem Value) × Sem Value) → (Option Addr × List (Sem Value × Sem Value)) → Sem (ForInStep (Option Addr × List (Sem Value × Sem Value))))
    (hf : ∀ (p : Sem Value × Sem Value) main run, f (some p.1, p.2) (main, run) = if ((run ++ [(p.1, p.2)]).length == 17) = true then (do
        let main ← flushT (run ++ [(p.1, p.2)]) main
        pure (ForInStep.yield (main, []))) else pure (ForInStep.yield (main, run ++ [(p.1, p.2)])))
    (hQ : ∀ main run acc Da Dr h tk, MainOk w h0 main acc h → FlatPairs PyData.int acc Da → Trees w A E run Dr → run.length < 17 → Da ++ Dr = D0 → Q (main, run) { s₀ with heap := h, toks := tk }) :
    ∀ {ps : List (Sem Value × Sem Value)} {D : List (PyData × PyData)} (_ : Trees w A E ps D) (main : Option Addr) (run : List (Sem Value × Sem Value)) (acc : List (Int × Value)) (Da Dr : List (PyData × PyData)) (h : Heap) (tk : Nat),
      MainOk w h0 main acc h → FlatPairs PyData.int acc Da → Trees w A E run Dr → run.length < 17 → Da ++ Dr ++ D = D0 →
      wpAny (model pw w) A (forIn (ps.map fun p => (some p.1, p.2)) (main, run) f) Q E { s₀ with heap := h, toks := tk } := by
  intro ps D x
  induction x with
  | nil =>
    intro main run acc Da Dr h tk hm hfa ht hr he
    rw [List.map_nil, List.forIn_nil]
    rw [List.append_nil] at he
    exact wpAny_pure (hQ main run acc Da Dr h tk hm hfa ht hr he)
  | @cons p k dv ps D hp htp ih =>
    intro main run acc Da Dr h tk hm hfa ht hr he
    rw [List.map_cons, List.forIn_cons, hf]
    have ht' : Trees w A E (run ++ [(p.1, p.2)]) (Dr ++ [(.int k, dv)]) := ht.append (.cons hp .nil)
    have hl' : (run ++ [(p.1, p.2)]).length = run.length + 1 := by simp
    have he' : Da ++ (Dr ++ [(.int k, dv)]) ++ D = D0 := by rw [← he]; simp
    by_cases h17 : (run ++ [(p.1, p.2)]).length = 17
    · rw [if_pos (by rw [h17]; rfl)]
      have hn' : (intKeysOf Da ++ intKeysOf (Dr ++ [(.int k, dv)])).Nodup := by
        rw [← keys_app (flatp_keyed hfa)]
        rw [← he', keys_app (keyed_app (flatp_keyed hfa) ht'.keyed)] at hn
        exact (List.nodup_append.mp hn).1
      have hz := ht'.length
      have hda : Da.length ≤ 100000 := by
        have := congrArg List.length he'
        simp only [List.length_append] at this
        (first | lia | omega)
      refine wpAny_bind (wpAny_bind (flush_ok hS ht' (by simp) hm hfa hn' (by (first | lia | omega)) hda fun d acc' h' tk' hm' hf' => wpAny_pure ?_))
      exact ih (some d) [] acc' _ [] h' tk' hm' hf' .nil (by simp) (by rw [List.append_nil]; exact he')
    · rw [if_neg (by simpa using h17)]
      refine wpAny_bind (wpAny_pure ?_)
      exact ih main (run ++ [(p.1, p.2)]) acc Da _ h tk hm hfa ht' (by (first | lia | omega)) he'
theorem trees_of {env : Env} {pos : Pos} : ∀ (keys : List (Option Expr)) (values : List Expr) (D : List (PyData × PyData)), litPairs keys values = some D → intKeyed D = true → Trees w A E (pairTrees keys values env pos) D
  | [], [], D, hD, _ => by
    cases hD
    exact .nil
  | some k :: ks, v :: vs, D, hD, hk => by
    simp only [litPairs, Option.bind_eq_bind, Option.pure_def] at hD
    cases hk1 : tabLit k with
    | none => simp [hk1] at hD
    | some dk =>
      cases hv : tabLit v with
      | none => simp [hk1, hv] at hD
      | some dv =>
        cases hr : litPairs ks vs with
        | none => simp [hk1, hv, hr] at hD
        | some r =>
          simp only [hk1, hv, hr, Option.bind_some, Option.some.injEq] at hD
          subst hD
          cases dk with
          | int i =>
            refine .cons ?_ (trees_of ks vs r hr hk)
            intro s Q h
            refine eval_lit hk1 fun kv tk₁ fk => ?_
            obtain ⟨t, rfl⟩ := fk.int_inv
            refine wpAny_bind (eval_lit hv fun vv tk₂ fv => ?_)
            exact wpAny_bind (wpAny_standAt (wpAny_pure (h t vv tk₂ fv)))
          | none => cases hk
          | bool _ => cases hk
          | str _ => cases hk
          | list _ => cases hk
          | tuple _ => cases hk
          | dict _ => cases hk
  | [], _ :: _, _, hD, _ => by simp [litPairs] at hD
  | none :: _, _, _, hD, _ => by simp [litPairs] at hD
  | some _ :: _, [], _, hD, _ => by simp [litPairs] at hD
theorem flush_nil {main : Option Addr} {s : Shared} {Q : Option Addr → Shared → Prop} (h : Q main s) : wpAny (model pw w) A (flushT [] main) Q E s := by
  unfold flushT
  rw [if_pos List.isEmpty_nil]
  exact wpAny_pure h
/-- a long table of signs and texts -/
theorem dict_long {env : Env} {keys : List (Option Expr)} {values : List Expr} {pos : Pos} {D : List (PyData × PyData)} {Q : Value → Shared → Prop} {h : Heap} {tk : Nat} (hD : litPairs keys values = some D) (hk : intKeyed D = true) (hn : (intKeysOf D).Nodup)
    (hall : keys.all (·.isSome) = true) (hl : keys.length = values.length) (h0 : D ≠ []) (hlen : D.length ≤ 100000) (hS : sysModules < h.objs.size)
    (hQ : ∀ a o h₁ tk', h.objs.size ≤ a → h₁.get? a = some o → TabObj (intKind pw w) PyData.int D o → (∀ b o', h.get? b = some o' → h₁.get? b = some o') → Q (.ref a) { s₀ with heap := h₁, toks := tk' }) :
    wpAny (model pw w) A (eval (.Dict keys values pos) env) Q E { s₀ with heap := h, toks := tk } := by
  rw [arm_eval_Dict, zip_pairTrees keys values env pos hall hl]
  refine wpAny_bind (wpAny_standAt ?_)
  unfold dictDisplay
  dsimp only
  have fin : ∀ d acc h' tk', MainOk w h (some d) acc h' → FlatPairs PyData.int acc D → Q (.ref d) { s₀ with heap := h', toks := tk' } := fun d acc h' tk' hm hf => by
    obtain ⟨a1, a2, a3⟩ := hm.at_
    obtain ⟨o, ho, hd⟩ := Heap.dictOf_iff.mp a2
    exact hQ d o h' tk' a3 ho ⟨_, hd, hf⟩ hm.keep
  refine wpAny_bind (disp_loop (h0 := h) hS D hn hlen _ (fun p main run => rfl) (fun main run acc Da Dr h' tk' hm hfa ht hr he => ?_) (trees_of keys values D hD hk) none [] [] [] [] h tk ⟨fun _ _ e => e, Nat.le_refl _, rfl⟩ .nil .nil (by simp) rfl)
  show wpAny (model pw w) A (flushT run main >>= _) Q E _
  by_cases hre : run = []
  · subst hre
    cases ht
    rw [List.append_nil] at he
    subst he
    refine wpAny_bind (flush_nil ?_)
    cases main with
    | none =>
      have ha : acc = [] := hm.at_
      subst ha
      cases hfa
      exact absurd rfl h0
    | some d => exact wpAny_pure (fin d acc h' tk' hm hfa)
  · have hz := ht.length
    have hn' : (intKeysOf Da ++ intKeysOf Dr).Nodup := by
      rw [← keys_app (flatp_keyed hfa), he]; exact hn
    have hda : Da.length ≤ 100000 := by
      have := congrArg List.length he
      simp only [List.length_append] at this
      (first | lia | omega)
    refine wpAny_bind (flush_ok hS ht hre hm hfa hn' (by (first | lia | omega)) hda fun d acc' h2 tk2 hm2 hf2 => ?_)
    rw [he] at hf2
    exact wpAny_pure (fin d acc' h2 tk2 hm2 hf2)
end
end Mine
end
section
open PySem PySem.Calls PyProof.Rows PySem.W PyProof.V
set_option Elab.async false
set_option maxRecDepth 100000
namespace Mine
noncomputable def keysAt : List (Option Expr) := match valOf 11 with
  | .Dict ks _ _ => ks
  | _ => []
noncomputable def valsAt : List Expr := match valOf 11 with
  | .Dict _ vs _ => vs
  | _ => []
noncomputable def posAt : Pos := match valOf 11 with
  | .Dict _ _ p => p
  | _ => default
noncomputable def b3T : List (PyData × PyData) := (litPairs keysAt valsAt).getD []
theorem b3T_some : (litPairs keysAt valsAt).isSome = true := by decide +kernel
theorem b3T_is : litPairs keysAt valsAt = some b3T := by
  obtain ⟨x, hx⟩ := Option.isSome_iff_exists.mp b3T_some
  unfold b3T
  rw [hx]; rfl
theorem b3T_keyed : intKeyed b3T = true := by decide +kernel
noncomputable def incr : List Int → Bool
  | a :: b :: r => decide (a < b) && incr (b :: r)
  | _ => true
theorem incr_pw : ∀ {l : List Int}, incr l = true → l.Pairwise (· < ·)
  | [], _ => .nil
  | [a], _ => by simp
  | a :: b :: r, h => by
    unfold incr at h
    rw [Bool.and_eq_true] at h
    have ih := incr_pw h.2
    have hab : a < b := of_decide_eq_true h.1
    refine List.pairwise_cons.mpr ⟨fun x hx => ?_, ih⟩
    rcases List.mem_cons.mp hx with e | hx
    · subst e; exact hab
    · exact Int.lt_trans hab ((List.pairwise_cons.mp ih).1 x hx)
theorem b3T_incr : incr (intKeysOf b3T) = true := by decide +kernel
theorem b3T_nodup : (intKeysOf b3T).Nodup := (incr_pw b3T_incr).imp fun h e => by (first | lia | omega)
theorem b3T_all : keysAt.all (·.isSome) = true := by decide +kernel
theorem b3T_len : keysAt.length = valsAt.length := by decide +kernel
theorem b3T_sz : b3T.length = 650 := by decide +kernel
end Mine
end
section
open PySem PySem.Calls PyProof.Rows PySem.W PyProof.V
set_option Elab.async false
set_option maxRecDepth 100000
namespace Mine
noncomputable def lkN (k : Nat) : List (PyData × PyData) → Option PyData
  | (.int (.ofNat j), v) :: r => match Nat.beq j k with
    | true => some v
    | false => lkN k r
  | _ :: r => lkN k r
  | [] => none
theorem lk_is (k : Nat) : ∀ {D : List (PyData × PyData)}, intKeyed D = true → PySem.Spec.lookup (.int (k : Nat)) D = lkN k D
  | [], _ => rfl
  | (.int (.ofNat j), v) :: r, h => by
    have ih := lk_is k (D := r) h
    unfold PySem.Spec.lookup lkN
    have e : PySem.Spec.same (.int (.ofNat j)) (.int (k : Nat)) = Nat.beq j k := by
      show ((Int.ofNat j) == (Int.ofNat k)) = _
      by_cases q : j = k
      · subst q; simp
      · have h1 : Nat.beq j k = false := Bool.eq_false_iff.mpr fun e => q (Nat.eq_of_beq_eq_true e)
        have h2 : ((Int.ofNat j) == (Int.ofNat k)) = false := beq_eq_false_iff_ne.mpr fun e => q (Int.ofNat.inj e)
        rw [h1, h2]
    rw [e, ih]
    cases Nat.beq j k <;> rfl
  | (.int (.negSucc j), v) :: r, h => by
    have ih := lk_is k (D := r) h
    unfold PySem.Spec.lookup lkN
    have e : PySem.Spec.same (.int (.negSucc j)) (.int (k : Nat)) = false := rfl
    rw [e, ih]; rfl
  | (.none, _) :: _, h => by cases h
  | (.bool _, _) :: _, h => by cases h
  | (.str _, _) :: _, h => by cases h
  | (.list _, _) :: _, h => by cases h
  | (.tuple _, _) :: _, h => by cases h
  | (.dict _, _) :: _, h => by cases h
noncomputable def isS (o : Option PyData) (x : Str) : Bool := match o with
  | some (.str y) => decide (y = x)
  | _ => false
theorem isS_is {o : Option PyData} {x : Str} (h : isS o x = true) : o = some (.str x) := by
  unfold isS at h
  split at h
  · rw [of_decide_eq_true h]
  · cases h
noncomputable def bigK (lo : Nat) : PyData × PyData → Bool
  | (.int (.ofNat j), _) => Nat.ble lo j
  | _ => false
theorem lkN_big {lo k : Nat} (h : lo ≤ k) : ∀ D : List (PyData × PyData), lkN k D = lkN k (D.filter (bigK lo))
  | [] => rfl
  | (.int (.ofNat j), v) :: r => by
    have ih := lkN_big h r
    rw [List.filter_cons]
    cases q : Nat.ble lo j with
    | true =>
      have e : bigK lo (.int (.ofNat j), v) = true := q
      rw [if_pos e]
      show (match Nat.beq j k with | true => some v | false => lkN k r) = (match Nat.beq j k with | true => some v | false => lkN k (r.filter (bigK lo)))
      rw [ih]
    | false =>
      have e : bigK lo (.int (.ofNat j), v) = false := q
      rw [if_neg (by rw [e]; exact Bool.false_ne_true)]
      have hb : Nat.beq j k = false := Bool.eq_false_iff.mpr fun e' => by
        have := Nat.eq_of_beq_eq_true e'
        subst this
        rw [Nat.ble_eq_true_of_le h] at q
        cases q
      show (match Nat.beq j k with | true => some v | false => lkN k r) = _
      rw [hb]
      exact ih
  | (.int (.negSucc j), v) :: r => lkN_big h r
  | (.none, _) :: r => lkN_big h r
  | (.bool _, _) :: r => lkN_big h r
  | (.str _, _) :: r => lkN_big h r
  | (.list _, _) :: r => lkN_big h r
  | (.tuple _, _) :: r => lkN_big h r
  | (.dict _, _) :: r => lkN_big h r
noncomputable def b3B : List (PyData × PyData) := b3T.filter (bigK 119808)
theorem tab_big : ∀ q < 10, ∀ n < 26, isS (lkN (stF q + n) b3B) ⟨#[97 + n]⟩ = true := by decide +kernel
theorem tab_math : ∀ q < 10, ∀ n < 26, isS (lkN (stF q + n) b3T) ⟨#[97 + n]⟩ = true := fun q hq n hn => by
  rw [lkN_big (lo := 119808) (by have := st_big q hq; (first | lia | omega)) b3T]
  exact tab_big q hq n hn
noncomputable def noLow : PyData × PyData → Bool
  | (.int (.ofNat j), _) => Nat.ble 123 j
  | _ => true
theorem lkN_low {k : Nat} (h : k < 123) : ∀ {D : List (PyData × PyData)}, D.all noLow = true → lkN k D = none
  | [], _ => rfl
  | (.int (.ofNat j), v) :: r, hd => by
    rw [List.all_cons, Bool.and_eq_true] at hd
    have e : 123 ≤ j := Nat.le_of_ble_eq_true hd.1
    have hb : Nat.beq j k = false := Bool.eq_false_iff.mpr fun e' => by
      have := Nat.eq_of_beq_eq_true e'
      (first | lia | omega)
    show (match Nat.beq j k with | true => some v | false => lkN k r) = _
    rw [hb]
    exact lkN_low h hd.2
  | (.int (.negSucc j), v) :: r, hd => lkN_low (D := r) h hd
  | (.none, _) :: r, hd => lkN_low (D := r) h hd
  | (.bool _, _) :: r, hd => lkN_low (D := r) h hd
  | (.str _, _) :: r, hd => lkN_low (D := r) h hd
  | (.list _, _) :: r, hd => lkN_low (D := r) h hd
  | (.tuple _, _) :: r, hd => lkN_low (D := r) h hd
  | (.dict _, _) :: r, hd => lkN_low (D := r) h hd
theorem b3T_noLow : b3T.all noLow = true := by decide +kernel
theorem tab_low : ∀ n < 26, (lkN (97 + n) b3T).isNone = true ∧ (lkN (65 + n) b3T).isNone = true := fun n hn => by
  rw [lkN_low (by (first | lia | omega)) b3T_noLow, lkN_low (by (first | lia | omega)) b3T_noLow]
  exact ⟨rfl, rfl⟩
theorem b1_no : ∀ n < 26, b1M ((97 + n : Nat) : Int) = false ∧ b1M ((65 + n : Nat) : Int) = false ∧ ∀ q < 10, b1M ((stF q + n : Nat) : Int) = false := by decide +kernel
theorem b1_yes : ∀ x ∈ hiddenN, b1M (x : Nat) = true := by decide +kernel
theorem low_len {v : Nat} {u : Nat} (h : Txt.lower ⟨#[v]⟩ = ⟨#[u]⟩) : (Txt.lower ⟨#[v]⟩).length ≤ 1000000 := by rw [h]; exact Nat.le_of_ble_eq_true rfl
section
variable {G : GL}
theorem lf_ok (h3 : G.b3D = b3T) (h1 : G.b1S = b1M) (c : C6) : LF G c := by
  have lk : ∀ v : Nat, PySem.Spec.lookup (.int (v : Nat)) b3T = lkN v b3T := fun v => lk_is v b3T_keyed
  have hn := fun k => nth_lt c.c1 k
  have lowS : ∀ k, PySem.Spec.lookup (.int ((c.lt k).small : Nat)) b3T = none := fun k => by
    rw [lk, c.sm_is]
    exact Option.isNone_iff_eq_none.mp (tab_low _ (hn k)).1
  have great : ∀ k, ((c.lt k).great = 65 + nthOf c.c1 k ∧ PySem.Spec.lookup (.int ((c.lt k).great : Nat)) b3T = none ∧ Txt.lower ⟨#[(c.lt k).great]⟩ = ⟨#[(c.lt k).small]⟩) ∨
      (∃ q, q < 10 ∧ (c.lt k).great = stF q + nthOf c.c1 k ∧ PySem.Spec.lookup (.int ((c.lt k).great : Nat)) b3T = some (.str ⟨#[(c.lt k).small]⟩)) := fun k => by
    rw [lk, c.sm_is]
    rcases c.gr_is k with h | ⟨q, hq, h⟩
    · rw [h.1]
      exact .inl ⟨rfl, Option.isNone_iff_eq_none.mp (tab_low _ (hn k)).2, (low_tab _ (hn k)).2.1⟩
    · rw [h.1]
      exact .inr ⟨q, hq, rfl, isS_is (tab_math q hq _ (hn k))⟩
  refine ⟨fun x hx => ?_, fun k _ => ?_, fun k _ => ?_, fun k _ => ?_, fun k _ => ?_, fun k _ => ?_, fun x hx => ?_⟩
  · rw [h1]; exact b1_yes x hx
  · rw [h1, c.sm_is]; exact (b1_no _ (hn k)).1
  · rw [h1]
    rcases c.gr_is k with h | ⟨q, hq, h⟩
    · rw [h.1]; exact (b1_no _ (hn k)).2.1
    · rw [h.1]; exact (b1_no _ (hn k)).2.2 q hq
  · rw [h3]
    unfold mapB3 b3get
    rw [lowS]
    refine ⟨?_, rfl⟩
    show Txt.lower ⟨#[(c.lt k).small]⟩ = _
    rw [c.sm_is]
    exact (low_tab _ (hn k)).1
  · rw [h3]
    unfold mapB3 b3get
    rcases great k with ⟨_, h, hl⟩ | ⟨q, hq, _, h⟩
    · rw [h]; exact ⟨hl, rfl⟩
    · rw [h]; exact ⟨rfl, rfl⟩
  · refine ⟨?_, ?_⟩
    · rw [c.sm_is]; exact low_len (low_tab _ (hn k)).1
    · rcases c.gr_is k with h | ⟨q, hq, h⟩
      · rw [h.1]; exact low_len (low_tab _ (hn k)).2.1
      · rw [h.1]; exact low_len ((low_tab _ (hn k)).2.2 q hq)
  · exact low_len (low_hid x hx)
end
end Mine
end
section
open PySem PySem.Calls PyProof.Rows PySem.W PyProof.V
set_option Elab.async false
set_option maxRecDepth 100000
namespace Mine
noncomputable def posOf (i : Nat) : Pos × Pos × Pos := match pw.main.body[i]? with
  | some (.Assign [.Name _ p'] (.Constant _ _ q) pos) => (p', q, pos)
  | some (.Assign [.Name _ p'] _ pos) => (p', default, pos)
  | _ => default
noncomputable def topDefs : List DefItem := (defIdx.map itemOf).reverse
noncomputable def topConsts : List (Str × PyData) := [("_CASE_COST", .int 1), ("_MOVE_COST", .int 2), ("_MAX_STRING_SIZE", .int 40)]
noncomputable def topObjs (w : World) : List (Str × (Obj → Prop)) := [("b3_exceptions", TabObj (intKind pw w) PyData.int b3T), ("b1_set", fun o => o.SetObjOf (intKind pw w) b1M b1C)]
noncomputable def topNames : List Str := [(drOf 33).name, (drOf 32).name, (drOf 31).name, (drOf 30).name, (drOf 29).name, (drOf 28).name, (drOf 27).name, (drOf 25).name, (drOf 24).name, (drOf 23).name, (drOf 22).name, (drOf 21).name, (drOf 20).name, (drOf 18).name, (drOf 17).name, "_CASE_COST", "_MOVE_COST", "_MAX_STRING_SIZE", (drOf 12).name, "b3_exceptions", (drOf 10).name, "b1_set", (drOf 7).name, (drOf 6).name, (drOf 5).name, (drOf 4).name, (drOf 3).name, (drOf 2).name, (drOf 1).name]
section
variable {w : World} {A : Around} {c F Pl : Addr} {Q : Flow → Shared → Prop} {s₀ : Shared} {m0 mb : Str → Option Value}
theorem keep_of {h0 h : Heap} {mg₀ mg : Str → Option Value} {ps : Array Value} {defs : List DefItem} {consts : List (Str × PyData)} {objs : List (Str × (Obj → Prop))} {names : List Str} (X : Mod h0 mg₀ c Pl h mg ps defs consts objs names)
    (hb : h0.Ns builtinsNs mb) (hP : builtinsNs ≠ Pl) : h.Ns builtinsNs mb := hb.at fun o => X.keep _ o hP (by decide)
theorem b3T_ne : b3T ≠ [] := fun e => by
  have := congrArg List.length e
  rw [b3T_sz] at this
  exact absurd this (by decide)
theorem b3T_le : b3T.length ≤ 100000 := by rw [b3T_sz]; decide
structure W9 (w : World) (A : Around) (e : Expr) (env : Env) (Q : Value → Shared → Prop) (E : Value → Shared → Prop) (s : Shared) : Prop where
  out : wpAny (model pw w) A (eval e env) Q E s
theorem dict_longW {env : Env} {keys : List (Option Expr)} {values : List Expr} {pos : Pos} {D : List (PyData × PyData)} {Q E : Value → Shared → Prop} {h : Heap} {tk : Nat} (hD : litPairs keys values = some D) (hk : intKeyed D = true) (hn : (intKeysOf D).Nodup)
    (hall : keys.all (·.isSome) = true) (hl : keys.length = values.length) (h0 : D ≠ []) (hlen : D.length ≤ 100000) (hS : sysModules < h.objs.size)
    (hQ : ∀ a o h₁ tk', h.objs.size ≤ a → h₁.get? a = some o → TabObj (intKind pw w) PyData.int D o → (∀ b o', h.get? b = some o' → h₁.get? b = some o') → Q (.ref a) { s₀ with heap := h₁, toks := tk' }) :
    W9 w A (.Dict keys values pos) env Q E { s₀ with heap := h, toks := tk } := ⟨dict_long hD hk hn hall hl h0 hlen hS hQ⟩
theorem b3_val {E : Value → Shared → Prop} {h : Heap} {tk : Nat} {Q : Value → Shared → Prop} (hS : sysModules < h.objs.size)
    (hQ : ∀ a o h₁ tk', h.objs.size ≤ a → h₁.get? a = some o → TabObj (intKind pw w) PyData.int b3T o → (∀ b o', h.get? b = some o' → h₁.get? b = some o') → Q (.ref a) { s₀ with heap := h₁, toks := tk' }) :
    W9 w A (.Dict keysAt valsAt posAt) (mainEnv pw c F) Q E { s₀ with heap := h, toks := tk } :=
  dict_longW b3T_is b3T_keyed b3T_nodup b3T_all b3T_len b3T_ne b3T_le hS hQ
theorem b1_valW {h : Heap} {mg mb : Str → Option Value} {tk : Nat} {Q E : Value → Shared → Prop} (hA : A.handled = none) (hg : h.Ns mainGlobals mg) (hb : h.Ns builtinsNs mb)
    (n1 : mg "set" = none) (n2 : mg "list" = none) (n3 : mg "range" = none) (b1 : mb "set" = some (.type "set")) (b2 : mb "list" = some (.type "list")) (b3 : mb "range" = some (.type "range"))
    (hQ : ∀ a o h₁ tk', h.objs.size ≤ a → h₁.get? a = some o → o.SetObjOf (intKind pw w) b1M b1C → (∀ b o', h.get? b = some o' → h₁.get? b = some o') → Q (.ref a) { s₀ with heap := h₁, toks := tk' }) :
    W9 w A (valOf 9) (mainEnv pw c F) Q E { s₀ with heap := h, toks := tk } := ⟨b1_val hA hg hb n1 n2 n3 b1 b2 b3 hQ⟩
theorem TopFrom.objW {i : Nat} {defs : List DefItem} {consts : List (Str × PyData)} {objs : List (Str × (Obj → Prop))} {names : List Str} {p' pos : Pos} {x : Str} {e : Expr} {P : Obj → Prop} (hst : pw.main.body[i]? = some (.Assign [.Name x p'] e pos)) (hloc : pw.main.scope.names.lookup x = some .local) (hn : x ∉ names) (hnb : x ≠ "__builtins__")
    (hs : swapsWith e (some (.Name x p')) pos.line (mainEnv pw c F) = pure false)
    (hval : ∀ h mg₀ mg ps tk (Q' : Value → Shared → Prop), Mod s₀.heap mg₀ c Pl h mg ps defs consts objs names → (∀ y, y ≠ ("__name__" : Str) → mg₀ y = m0 y) →
      (∀ a o h₁ tk', h.objs.size ≤ a → h₁.get? a = some o → P o → (∀ b o', h.get? b = some o' → h₁.get? b = some o') → Q' (.ref a) { s₀ with heap := h₁, toks := tk' }) →
      W9 w A e (mainEnv pw c F) Q' (fun _ _ => False) { s₀ with heap := h, toks := tk })
    (k : TopFrom w A c F Pl Q s₀ m0 (i + 1) defs consts ((x, P) :: objs) (x :: names)) : TopFrom w A c F Pl Q s₀ m0 i defs consts objs names :=
  TopFrom.obj hst hloc hn hnb hs (fun h mg₀ mg ps tk Q' X hm hQ => (hval h mg₀ mg ps tk Q' X hm hQ).out) k
theorem top_all (hA : A.handled = none) (hb : s₀.heap.Ns builtinsNs mb) (hP : builtinsNs ≠ Pl) (hS : sysModules < s₀.heap.objs.size) (n1 : m0 "set" = none) (n2 : m0 "list" = none) (n3 : m0 "range" = none)
    (b1 : mb "set" = some (.type "set")) (b2 : mb "list" = some (.type "list")) (b3 : mb "range" = some (.type "range"))
    (k : TopFrom w A c F Pl Q s₀ m0 34 topDefs topConsts (topObjs w) topNames) : TopFrom w A c F Pl Q s₀ m0 0 [] [] [] [] := by
  refine TopFrom.name (i := 0) (p' := (posOf 0).1) (q := (posOf 0).2.1) (pos := (posOf 0).2.2) rfl (by decide +kernel) ?_
  refine TopFrom.def (i := 1) (by decide) (by decide +kernel) ?_
  refine TopFrom.def (i := 2) (by decide) (by decide +kernel) ?_
  refine TopFrom.def (i := 3) (by decide) (by decide +kernel) ?_
  refine TopFrom.def (i := 4) (by decide) (by decide +kernel) ?_
  refine TopFrom.def (i := 5) (by decide) (by decide +kernel) ?_
  refine TopFrom.def (i := 6) (by decide) (by decide +kernel) ?_
  refine TopFrom.def (i := 7) (by decide) (by decide +kernel) ?_
  refine TopFrom.name (i := 8) (p' := (posOf 8).1) (q := (posOf 8).2.1) (pos := (posOf 8).2.2) rfl (by decide +kernel) ?_
  refine TopFrom.objW (i := 9) (x := "b1_set") (e := valOf 9) (p' := (posOf 9).1) (pos := (posOf 9).2.2) (P := fun o => o.SetObjOf (intKind pw w) b1M b1C) rfl rfl (by decide +kernel) (by decide) rfl ?_ ?_
  · intro h mg₀ mg ps tk Q' X hm hQ
    have off : ∀ x : Str, x ≠ "__name__" → x ∉ ([(drOf 7).name, (drOf 6).name, (drOf 5).name, (drOf 4).name, (drOf 3).name, (drOf 2).name, (drOf 1).name] : List Str) → mg x = m0 x := fun x h1 h2 => (X.others x h2).trans (hm x h1)
    exact b1_valW hA X.main.g (keep_of X hb hP) ((off _ (by decide) (by decide +kernel)).trans n1) ((off _ (by decide) (by decide +kernel)).trans n2) ((off _ (by decide) (by decide +kernel)).trans n3) b1 b2 b3 hQ
  refine TopFrom.def (i := 10) (by decide) (by decide +kernel) ?_
  refine TopFrom.objW (i := 11) (x := "b3_exceptions") (e := .Dict keysAt valsAt posAt) (p' := (posOf 11).1) (pos := (posOf 11).2.2) (P := TabObj (intKind pw w) PyData.int b3T) rfl rfl (by decide +kernel) (by decide) rfl ?_ ?_
  · intro h mg₀ mg ps tk Q' X hm hQ
    exact b3_val (Nat.lt_of_lt_of_le hS X.grows) hQ
  refine TopFrom.def (i := 12) (by decide) (by decide +kernel) ?_
  refine TopFrom.name (i := 13) (p' := (posOf 13).1) (q := (posOf 13).2.1) (pos := (posOf 13).2.2) rfl (by decide +kernel) ?_
  refine TopFrom.int (i := 14) (p' := (posOf 14).1) (q := (posOf 14).2.1) (pos := (posOf 14).2.2) rfl rfl (by decide +kernel) (by decide) ?_
  refine TopFrom.int (i := 15) (p' := (posOf 15).1) (q := (posOf 15).2.1) (pos := (posOf 15).2.2) rfl rfl (by decide +kernel) (by decide) ?_
  refine TopFrom.int (i := 16) (p' := (posOf 16).1) (q := (posOf 16).2.1) (pos := (posOf 16).2.2) rfl rfl (by decide +kernel) (by decide) ?_
  refine TopFrom.def (i := 17) (by decide) (by decide +kernel) ?_
  refine TopFrom.def (i := 18) (by decide) (by decide +kernel) ?_
  refine TopFrom.name (i := 19) (p' := (posOf 19).1) (q := (posOf 19).2.1) (pos := (posOf 19).2.2) rfl (by decide +kernel) ?_
  refine TopFrom.def (i := 20) (by decide) (by decide +kernel) ?_
  refine TopFrom.def (i := 21) (by decide) (by decide +kernel) ?_
  refine TopFrom.def (i := 22) (by decide) (by decide +kernel) ?_
  refine TopFrom.def (i := 23) (by decide) (by decide +kernel) ?_
  refine TopFrom.def (i := 24) (by decide) (by decide +kernel) ?_
  refine TopFrom.def (i := 25) (by decide) (by decide +kernel) ?_
  refine TopFrom.name (i := 26) (p' := (posOf 26).1) (q := (posOf 26).2.1) (pos := (posOf 26).2.2) rfl (by decide +kernel) ?_
  refine TopFrom.def (i := 27) (by decide) (by decide +kernel) ?_
  refine TopFrom.def (i := 28) (by decide) (by decide +kernel) ?_
  refine TopFrom.def (i := 29) (by decide) (by decide +kernel) ?_
  refine TopFrom.def (i := 30) (by decide) (by decide +kernel) ?_
  refine TopFrom.def (i := 31) (by decide) (by decide +kernel) ?_
  refine TopFrom.def (i := 32) (by decide) (by decide +kernel) ?_
  refine TopFrom.def (i := 33) (by decide) (by decide +kernel) ?_
  exact k
end
end Mine
end
section
open PySem PySem.Calls PyProof.Rows PySem.W PyProof.V
set_option Elab.async false
set_option maxRecDepth 100000
namespace Mine
/-- what the top leaves -/
structure TopEnd (w : World) (s₀ : Shared) (m0 : Str → Option Value) (s₁ : Shared) : Prop where
  os : s₁.os = s₀.os
  gens : s₁.gens = s₀.gens
  out : ∃ c Pl h₁ mg₀ mg ps, Mod h₁ mg₀ c Pl s₁.heap mg ps topDefs topConsts (topObjs w) topNames ∧ (∀ y, y ≠ ("__name__" : Str) → mg₀ y = m0 y) ∧ (∀ b o, s₀.heap.get? b = some o → h₁.get? b = some o) ∧ s₀.heap.objs.size ≤ Pl ∧ s₀.heap.objs.size ≤ h₁.objs.size
theorem imports_none : behindTheImports pw = pw.main.body := by rfl
theorem no_anns : hasAnns pw.main.body = false := by rfl
theorem no_doc : docOf pw.main.body = none := by rfl
theorem drop_end : pw.main.body.drop 34 = [] := by rfl
theorem top_walk {w : World} {s₀ : Shared} {m0 mb : Str → Option Value} {bm : Addr} {ob : Obj} (hG : s₀.heap.Ns mainGlobals m0) (hb : s₀.heap.Ns builtinsNs mb)
    (hbm : m0 "__builtins__" = some (.ref bm)) (hn1 : bm ≠ builtinsNs) (hn2 : bm ≠ mainGlobals) (hob : s₀.heap.get? bm = some ob) (ho1 : ob.cls = .type "module") (ho2 : ob.dict = some builtinsNs) (ho3 : ob.data = .plain)
    (hS : sysModules < s₀.heap.objs.size) (n1 : m0 "set" = none) (n2 : m0 "list" = none) (n3 : m0 "range" = none)
    (b1 : mb "set" = some (.type "set")) (b2 : mb "list" = some (.type "list")) (b3 : mb "range" = some (.type "range")) (hg : s₀.gens = #[]) :
    wpAny (model pw w) callerA (topStub pw).cur (fun fin s' => ∃ f, fin = .done f ∧ TopEnd w s₀ m0 s' ∧ s'.gens = #[]) (fun _ _ => False) s₀ := by
  have hbl := Heap.lt_size hob
  have hgl := hG.lt
  show wpAny _ _ (do
    let code ← moduleCode pw.main
    let frame ← newBodyFrame code mainNs mainNs
    let _ ← run (.body (behindTheImports pw) { scope := pw.main.scope, locals := mainNs, globals := mainNs, cells := [], code, frame := some frame })
    ret .none) _ _ _
  refine wpAny_bind (wpAny_moduleCode fun c Pl h₁ tk₁ hk₁ hc hP hcode => ?_)
  unfold newBodyFrame
  refine wpAny_bind (wpAny_bind (wpAny_nsGet (hG.keeps hk₁) (wpAny_alloc ?_)))
  rw [imports_none]
  refine wpAny_bind (wpAny_run (codeAny_body no_anns no_doc ?_))
  generalize hfr : (({ cls := .type "frame", slots := _ } : Obj)) = fr
  have hk₂ : ∀ b o, s₀.heap.get? b = some o → (h₁.push fr).get? b = some o := fun b o e => Heap.get?_push_of_some _ (hk₁ _ _ e)
  have hPl : Pl < (h₁.push fr).objs.size := (hcode.push fr).lt.2
  have hgrow : s₀.heap.objs.size ≤ (h₁.push fr).objs.size := Nat.le_of_lt (Nat.lt_of_le_of_lt hP hPl)
  have hmain : (h₁.push fr).Main m0 c Pl #[] := ⟨hG.keeps hk₂, hcode.push fr, ⟨Nat.lt_of_lt_of_le hgl hc, Nat.lt_of_lt_of_le hgl hP⟩,
    ⟨bm, ob, hbm, hn1, hn2, Nat.ne_of_lt (Nat.lt_of_lt_of_le hbl hP), hk₂ _ _ hob, ho1, ho2, ho3⟩⟩
  have hbP : builtinsNs ≠ Pl := Nat.ne_of_lt (Nat.lt_of_lt_of_le hb.lt hP)
  have X0 : Mod (h₁.push fr) m0 c Pl (h₁.push fr) m0 #[] [] [] [] [] := ⟨hmain, fun _ _ _ _ e => e, (fun _ hd => nomatch hd), (fun _ hp => nomatch hp), fun _ _ => rfl, (fun _ hd => nomatch hd), (fun _ hp => nomatch hp), (fun _ hp => nomatch hp), (fun _ hp => nomatch hp), Nat.le_refl _, hPl, Nat.lt_of_lt_of_le hgl hgrow, (fun _ hd => nomatch hd)⟩
  have T := top_all (w := w) (A := (callerA.mark none).deeper (mainEnv pw c h₁.objs.size)) (c := c) (F := h₁.objs.size) (Pl := Pl) (s₀ := { s₀ with heap := h₁.push fr, toks := tk₁ }) (m0 := m0) (mb := mb)
    (Q := fun f s' => f = .next ∧ TopEnd w s₀ m0 s') rfl (hb.keeps hk₂) hbP (Nat.lt_of_lt_of_le hS hgrow) n1 n2 n3 b1 b2 b3
    ⟨fun h mg₀ mg ps tk X hm _ => ⟨by
      rw [drop_end]
      exact wpAny_execs_nil ⟨rfl, ⟨rfl, rfl, c, Pl, _, mg₀, mg, ps, X, hm, hk₂, hP, hgrow⟩⟩⟩⟩
  have T := (T.go (h₁.push fr) m0 m0 #[] tk₁ X0 (fun _ _ => rfl) (fun j _ _ => rfl)).out
  refine wpAny_mono T ?_ ?_
  · rintro f s' ⟨rfl, hT⟩
    exact wpAny_pure ⟨_, rfl, hT, hT.gens.trans hg⟩
  · exact fun _ _ x => x.elim
theorem top_ran {w : World} {s₀ : Shared} {m0 mb : Str → Option Value} {bm : Addr} {ob : Obj} (hz : s₀.asleep) (hG : s₀.heap.Ns mainGlobals m0) (hb : s₀.heap.Ns builtinsNs mb)
    (hbm : m0 "__builtins__" = some (.ref bm)) (hn1 : bm ≠ builtinsNs) (hn2 : bm ≠ mainGlobals) (hob : s₀.heap.get? bm = some ob) (ho1 : ob.cls = .type "module") (ho2 : ob.dict = some builtinsNs) (ho3 : ob.data = .plain)
    (hS : sysModules < s₀.heap.objs.size) (n1 : m0 "set" = none) (n2 : m0 "list" = none) (n3 : m0 "range" = none)
    (b1 : mb "set" = some (.type "set")) (b2 : mb "list" = some (.type "list")) (b3 : mb "range" = some (.type "range")) (hg : s₀.gens = #[]) :
    ∃ s₁, (∃ n t, schedN (denote table) pw w n (.single s₀ (topStub pw)) = .running (.single s₁ t) ∧ through t = true) ∧ s₁.heap.life = s₀.heap.life ∧ s₀.toks ≤ s₁.toks ∧ TopEnd w s₀ m0 s₁ ∧ s₁.gens = #[] :=
  ran_through hz (top_walk hG hb hbm hn1 hn2 hob ho1 ho2 ho3 hS n1 n2 n3 b1 b2 b3 hg)
end Mine
end
section
open PySem PySem.Calls PyProof.Rows PySem.W PyProof.V
set_option Elab.async false
set_option maxRecDepth 100000
namespace Mine
theorem opening_pw : opening pw = plainProg pw.main.scope.names := by kernel_rfl
theorem imports_pw : importedModules pw.main.body = [] := by kernel_rfl
theorem numpy_pw : pw.main.body.any namesNumpy = false := by kernel_rfl
theorem fence_pw (s : Shared) : fenceModules? pw s = some s := by
  unfold fenceModules?
  rw [imports_pw, numpy_pw]
  rfl
/-- the state behind the opening -/
structure Opened (w : World) (s : Shared) : Prop where
  heap : s.heap = boot_heap w.params
  gens : s.gens = #[]
  toks : s.toks = boot_toks
  asleep : s.asleep
theorem toks_pos : 0 < boot_toks := by decide +kernel
theorem opened (w : World) : ∃ s, AfterRun (opening pw) w s ∧ Opened w s ∧ ∀ s', AfterRun (opening pw) w s' → s' = s := by
  obtain ⟨s, hs, hv⟩ := Option.map_eq_some_iff.mp (boot_plain w pw.main.scope.names)
  rw [← opening_pw, ← table_eq_tree] at hs
  have A := AfterImport.of_importEnds hs
  exact ⟨s, A, ⟨congrArg Prod.fst hv, congrArg (fun x => x.2.1) hv, congrArg (fun x => x.2.2.2) hv, A.life⟩, fun s' hs' => AfterImport.unique hs' A⟩
section
variable (P : Params)
theorem bt_g : (boot_heap P).isNs mainGlobals = true := by kernel_rfl
theorem bt_b : (boot_heap P).isNs builtinsNs = true := by kernel_rfl
theorem bt_c : (boot_heap P).isNs cStatics = true := by kernel_rfl
theorem bt_view : (boot_heap P).bltView = bltViewBooted := by kernel_rfl
theorem bt_cn : (boot_heap P).nsKeys cStatics = [] := by kernel_rfl
theorem bt_gn : ((boot_heap P).nsKeys mainGlobals).all (fun k => startupNames.contains k) = true := by kernel_rfl
theorem bt_main : ∃ bm ob, (boot_heap P).nsMap mainGlobals "__builtins__" = some (.ref bm) ∧ bm ≠ builtinsNs ∧ bm ≠ mainGlobals ∧ (boot_heap P).get? bm = some ob ∧ ob.cls = .type "module" ∧ ob.dict = some builtinsNs ∧ ob.data = .plain := ⟨4, { cls := .type "module", dict := some builtinsNs }, by kernel_rfl, by decide, by decide, by kernel_rfl, rfl, rfl, rfl⟩
theorem bt_bi : ∀ p ∈ biList, (boot_heap P).nsMap builtinsNs p.1 = some p.2 := by
  intro p hp
  unfold biList at hp
  simp only [List.mem_cons, List.not_mem_nil, or_false] at hp
  rcases hp with h | h | h | h | h | h | h | h | h | h | h | h | h | h <;> subst h <;> kernel_rfl
theorem bt_bs : (boot_heap P).nsMap builtinsNs "set" = some (.type "set") := by kernel_rfl
theorem bt_bl : (boot_heap P).nsMap builtinsNs "list" = some (.type "list") := by kernel_rfl
theorem bt_br : (boot_heap P).nsMap builtinsNs "range" = some (.type "range") := by kernel_rfl
theorem bt_size : sysModules < (boot_heap P).objs.size := Heap.lt_size (Heap.Ns.of_isNs (bt_c P)).choose_spec.choose_spec.choose_spec.1 |> fun h => Nat.lt_trans (by decide) h
theorem bt_gnone {x : Str} (hx : x ∉ startupNames) : (boot_heap P).nsMap mainGlobals x = none :=
  Heap.nsMap_none fun hk => hx (List.contains_iff_mem.mp (List.all_eq_true.mp (bt_gn P) x hk))
theorem bt_cnone (x : Str) : (boot_heap P).nsMap cStatics x = none := Heap.nsMap_none (by rw [bt_cn]; exact fun h => nomatch h)
end
end Mine
end
section
open PySem PySem.Calls PyProof.Rows PySem.W PyProof.V
set_option Elab.async false
set_option maxRecDepth 100000
namespace Mine
theorem topNames_bound : topNames.all (fun k => pw.boundNames.contains k) = true := by decide +kernel
theorem topNames_laid : laidNames.all (fun k => !topNames.contains k && k != ("__name__" : Str)) = true := by decide +kernel
theorem name_start : ("__name__" : Str) ∈ startupNames := by decide
theorem top_through (w : World) {s₀ : Shared} (O : Opened w s₀) : ∃ s₁, TopRan pw w s₀ s₁ ∧ s₁.asleep ∧ s₁.gens = #[] ∧ 0 < s₁.toks ∧ TopEnd w s₀ ((boot_heap w.params).nsMap mainGlobals) s₁ := by
  obtain ⟨bm, ob, m1, m2, m3, m4, m5, m6, m7⟩ := bt_main w.params
  have hG : s₀.heap.Ns mainGlobals ((boot_heap w.params).nsMap mainGlobals) := by rw [O.heap]; exact .of_isNs (bt_g _)
  have hB : s₀.heap.Ns builtinsNs ((boot_heap w.params).nsMap builtinsNs) := by rw [O.heap]; exact .of_isNs (bt_b _)
  obtain ⟨s₁, hrun, hlife, htk, T, hgens⟩ := top_ran (w := w) O.asleep hG hB m1 m2 m3 (by rw [O.heap]; exact m4) m5 m6 m7 (by rw [O.heap]; exact bt_size _)
    (bt_gnone _ (by decide)) (bt_gnone _ (by decide)) (bt_gnone _ (by decide)) (bt_bs _) (bt_bl _) (bt_br _) O.gens
  obtain ⟨c, Pl, h₁, mg₀, mg, ps, X, hm, hk, hP, hsz⟩ := T.out
  have keep : ∀ b o, s₀.heap.get? b = some o → b ≠ mainGlobals → s₁.heap.get? b = some o := fun b o e hb =>
    X.keep b o (Nat.ne_of_lt (Nat.lt_of_lt_of_le (Heap.lt_size e) hP)) hb (hk b o e)
  have glob : ∀ x, globalOf s₁.heap x = mg x := Claim2Try.globalOf_of_ns X.main.g
  have glob0 : ∀ x, globalOf s₀.heap x = (boot_heap w.params).nsMap mainGlobals x := Claim2Try.globalOf_of_ns hG
  have hC : s₀.heap.Ns cStatics ((boot_heap w.params).nsMap cStatics) := by rw [O.heap]; exact .of_isNs (bt_c _)
  have stat : ∀ x, staticOf s₁.heap x = none := fun x =>
    (Pin.staticOf_of_ns (hC.at (h' := s₁.heap) fun o e => keep _ o e (by decide)) x).trans (bt_cnone _ x)
  refine ⟨s₁, ⟨hrun, hlife, Shared.rest_eq T.os, fun b o e hn => keep b o e fun q => hn (.inl q), fun key v hv => ?_, fun key => ?_, Pin.keysAreStrs_of_ns X.main.g, ?_, ?_, fun g hg => ?_, fun x v hv => ?_, fun x hx => ?_⟩,
    Shared.asleep_of_life hlife O.asleep, hgens, Nat.lt_of_lt_of_le (by rw [O.toks]; exact toks_pos) htk, T⟩
  · rw [stat key] at hv; cases hv
  · refine .inl ?_
    rw [stat key]
    exact ((Pin.staticOf_of_ns hC key).trans (bt_cnone _ key)).symm
  · intro x hx
    have : builtinOf s₁.heap x = builtinOf s₀.heap x := by
      obtain ⟨o, es, n, e, _⟩ := hB
      unfold builtinOf
      rw [keep _ o e (by decide), e]
    rw [this, O.heap]
    exact (Pin.builtinOf_eq (bt_b _) x).trans (Heap.of_bltView (bt_b _) (bt_view _) x hx)
  · obtain ⟨bm', o', b1, _, _, _, b2, b3, b4, _⟩ := X.main.bmod
    exact ⟨bm', o', (glob _).trans b1, b2, b3, b4⟩
  · rw [hgens] at hg; simp at hg
  · rw [glob] at hv
    by_cases h1 : x ∈ topNames
    · exact .inr (List.contains_iff_mem.mp (List.all_eq_true.mp topNames_bound x h1))
    · by_cases h2 : x = "__name__"
      · subst h2; exact .inl name_start
      · refine .inl ?_
        rw [X.others x h1, hm x h2] at hv
        by_cases h3 : x ∈ startupNames
        · exact h3
        · rw [bt_gnone _ h3] at hv; cases hv
  · have h := List.all_eq_true.mp topNames_laid x hx
    simp only [Bool.and_eq_true, Bool.not_eq_true', bne_iff_ne, ne_eq] at h
    rw [glob, glob0, X.others x (fun q => by rw [List.contains_iff_mem.mpr q] at h; cases h.1), hm x h.2]
end Mine
end
section
open PySem PySem.Calls PyProof.Rows PySem.W PyProof.V
set_option Elab.async false
set_option maxRecDepth 100000
namespace Mine
theorem bi_free : biList.all (fun p => !topNames.contains p.1 && !startupNames.contains p.1) = true := by decide +kernel
theorem top_defs_mem : ∀ i ∈ defIdx, itemOf i ∈ topDefs := fun i hi => List.mem_reverse.mpr (List.mem_map_of_mem hi)
theorem datum_int {v : Value} {i : Int} (h : IsDatum v (.int i)) : ∃ t, v = .int i t := by
  have h := h {}
  cases h
  exact ⟨_, rfl⟩
theorem b1C_lt : b1C < scanBound := by decide +kernel
noncomputable abbrev glOf (w : World) (h : Heap) (mg mb : Str → Option Value) (script : List Int) (aScr aB1 aB3 : Addr) (thr : Nat) : GL := ⟨pw, w, h, mg, mb, defIdx.map drOf, script, aScr, aB1, aB3, thr, b3T, b1M⟩
theorem lk_of {w : World} {s₀ s₁ : Shared} (O : Opened w s₀) (T : TopEnd w s₀ ((boot_heap w.params).nsMap mainGlobals) s₁) {h : Heap} (hkeep : ∀ b o, s₁.heap.get? b = some o → h.get? b = some o)
    {thr : Nat} (ht : 0 < thr) {aScr : Addr} {items : Array Value} {script : List Int} (hs : h.PlainList aScr items) (hi : IntsAre items.toList script) :
    ∃ mg mb aB1 aB3, LK (glOf w h mg mb script aScr aB1 aB3 thr) ∧ s₁.heap.Ns mainGlobals mg := by
  obtain ⟨c, Pl, h₁, mg₀, mg, ps, X, hm, hk, hP, hsz⟩ := T.out
  have hG : s₀.heap.Ns mainGlobals ((boot_heap w.params).nsMap mainGlobals) := by rw [O.heap]; exact .of_isNs (bt_g _)
  have hB : s₀.heap.Ns builtinsNs ((boot_heap w.params).nsMap builtinsNs) := by rw [O.heap]; exact .of_isNs (bt_b _)
  have hC : s₀.heap.Ns cStatics ((boot_heap w.params).nsMap cStatics) := by rw [O.heap]; exact .of_isNs (bt_c _)
  have keep : ∀ b o, s₀.heap.get? b = some o → b ≠ mainGlobals → h.get? b = some o := fun b o e hb =>
    hkeep b o (X.keep b o (Nat.ne_of_lt (Nat.lt_of_lt_of_le (Heap.lt_size e) hP)) hb (hk b o e))
  have hB' : h.Ns builtinsNs ((boot_heap w.params).nsMap builtinsNs) := hB.at fun o e => keep _ o e (by decide)
  have hC' : h.Ns cStatics ((boot_heap w.params).nsMap cStatics) := hC.at fun o e => keep _ o e (by decide)
  obtain ⟨aB3, o3, l3, n3, e3, kvs, q3, f3⟩ := X.held ("b3_exceptions", TabObj (intKind pw w) PyData.int b3T) (by unfold topObjs; exact List.mem_cons_self)
  obtain ⟨aB1, o1, l1, n1, e1, q1⟩ := X.held ("b1_set", fun o => o.SetObjOf (intKind pw w) b1M b1C) (by unfold topObjs; exact List.mem_cons_of_mem _ List.mem_cons_self)
  have const : ∀ x i, (x, PyData.int i) ∈ topConsts → ∃ t, mg x = some (.int i t) := fun x i hx => by
    obtain ⟨v, hv, hd⟩ := X.bound _ hx
    obtain ⟨t, rfl⟩ := datum_int hd
    exact ⟨t, hv⟩
  refine ⟨mg, (boot_heap w.params).nsMap builtinsNs, aB1, aB3, ?_, X.main.g⟩
  exact { 
    thr := ht
    nb := ⟨_, hC', bt_cnone _ _⟩
    ns := X.main.g.keeps hkeep
    nsb := hB'
    nolimit := ⟨_, hC', bt_cnone _ _⟩
    fns := by
      intro d hd
      obtain ⟨i, hi, rfl⟩ := List.mem_map.mp hd
      obtain ⟨a, c', o, pm, doc, _, _, h3, h4, h5, h6⟩ := (X.made _ (top_defs_mem i hi)).plain (def_dflt i hi)
      exact ⟨a, o, pm, .ref c', doc, h3, hkeep _ _ h4, h5, h6.keeps hkeep⟩
    b3 := TabAt.ofObj (beq_eq_false_iff_ne.mpr (Nat.ne_of_gt (Nat.lt_of_lt_of_le (Nat.lt_of_lt_of_le (by rw [O.heap]; exact bt_size _) hsz) l3))) (hkeep _ _ e3) q3 f3
    b1 := ⟨b1C, q1.setOf (hkeep _ _ e1) b1C_lt⟩
    scr := ⟨items, hs, hi⟩
    defs := fun i hi => List.mem_map_of_mem hi
    bi := by
      intro x v hx
      have hf := List.all_eq_true.mp bi_free _ hx
      simp only [Bool.and_eq_true, Bool.not_eq_true'] at hf
      refine .inr ⟨?_, bt_bi _ _ hx⟩
      have h1 : x ∉ topNames := fun q => by rw [List.contains_iff_mem.mpr q] at hf; cases hf.1
      have h2 : x ∉ startupNames := fun q => by rw [List.contains_iff_mem.mpr q] at hf; cases hf.2
      show mg x = none
      rw [X.others x h1, hm x (fun q => h2 (q ▸ name_start))]
      exact bt_gnone _ h2
    move := let ⟨t, ht⟩ := const "_MOVE_COST" 2 (.tail _ (.head _)); ⟨t, .inl ht⟩
    case_ := let ⟨t, ht⟩ := const "_CASE_COST" 1 (.head _); ⟨t, .inl ht⟩
    maxs := let ⟨t, ht⟩ := const "_MAX_STRING_SIZE" 40 (.tail _ (.tail _ (.head _))); ⟨t, .inl ht⟩
    b1n := .inl n1
    b3n := .inl n3 }
end Mine
end
section
open PySem PySem.Calls PyProof.Rows PySem.W PyProof.V
set_option Elab.async false
set_option maxRecDepth 100000
namespace Mine
noncomputable abbrev rwo : OpenLaw := PySem.Challenge.rw_tc0071_01
theorem items_scr {R : WRecords} : ∀ {xs : List WData}, WShape.hasItems R xs .int = true → ∃ is : List Int, xs = is.map .int
  | [], _ => ⟨[], rfl⟩
  | x :: xs, h => by
    simp only [WShape.hasItems, Bool.and_eq_true] at h
    obtain ⟨is, rfl⟩ := items_scr h.2
    obtain ⟨h1, _⟩ := h
    cases x <;> simp [WShape.has, WShape.arms] at h1
    rename_i i
    exact ⟨i :: is, rfl⟩
theorem pre_is {args : List WData} (h : rwo.row.toRowW.claim.pre args = true) : ∃ is : List Int, args = [.list (is.map .int)] ∧ is.length ≤ 63 := by
  obtain ⟨h1, h2⟩ := pre_splitW h
  obtain ⟨d, r, rfl, a, b⟩ := hasAllW_cons (show WShape.hasAll [] args [.list .int] = true from h1)
  obtain ⟨xs, rfl, hx⟩ := hasW_list a
  obtain ⟨is, rfl⟩ := items_scr hx
  cases r with
  | cons _ _ => simp [WShape.hasAll] at b
  | nil =>
    refine ⟨is, rfl, ?_⟩
    obtain ⟨h3, _⟩ := holds_andW h2
    have h4 := condW_of h3 (by wtm_val)
    simp at h4
    (first | lia | omega)
theorem lay_ints {R : WRecords} {cl : Str → Option Addr} {P : Params} {ord : List DictEntry → List DictEntry} : ∀ (is : List Int) (s : Shared), ∃ vs, layAllW R cl P ord (is.map .int) s = some (vs, { s with toks := s.toks + is.length }) ∧ IntsAre vs is
  | [], s => ⟨[], by simp [layAllW], .nil⟩
  | i :: is, s => by
    obtain ⟨vs, h, hi⟩ := lay_ints is { s with toks := s.toks + 1 }
    refine ⟨.int i s.toks :: vs, ?_, .cons i _ hi⟩
    have e : s.toks + 1 + is.length = s.toks + (is.length + 1) := by (first | lia | omega)
    simp only [List.map_cons, layAllW, layW, List.length_cons]
    rw [h]
    simp only [e]
theorem lay_list {R : WRecords} {cl : Str → Option Addr} {P : Params} {ord : List DictEntry → List DictEntry} (is : List Int) (s : Shared) : ∃ vs, layAllW R cl P ord [.list (is.map .int)] s = some ([.ref s.heap.objs.size], { s with toks := s.toks + is.length, heap := s.heap.push { cls := .type "list", data := .seq vs.toArray } }) ∧ IntsAre vs is := by
  obtain ⟨vs, h, hi⟩ := lay_ints (R := R) (cl := cl) (P := P) (ord := ord) is s
  exact ⟨vs, by simp only [layAllW, layW, h], hi⟩
end Mine
end
section
open PySem PySem.Calls PyProof.Rows PySem.W PyProof.V
set_option Elab.async false
set_option maxRecDepth 100000
namespace Mine
theorem room_caller : Room 12 callerA := ⟨rfl, by decide +kernel, by decide +kernel⟩
theorem law_bind : ∀ (pm cd doc : Value) (rs : List Value), rs.length = [V.scr].length → bindArgs (docDef (drOf 33).name (drOf 33).params (drOf 33).body (drOf 33).scope pm cd doc) ⟨rs, []⟩ = pure ((["script"] : List Str).zip rs) := by
  intro pm cd doc rs hl
  obtain ⟨x, rfl⟩ := len_1 hl
  rfl
theorem law_name : (drOf 33).name = "law" := by decide +kernel
theorem law_call {G : GL} (K : LK G) (h3 : G.b3D = b3T) (h1 : G.b1S = b1M) (hn : G.script.length ≤ 1000000) {s : Shared} (e1 : G.h₀ = s.heap) (e2 : G.thr ≤ s.toks) :
    ∃ a, G.mg "law" = some (.ref a) ∧ ∀ (Q : Value → Shared → Prop) (E : Value → Shared → Prop), (∀ s', (∃ h t, s' = { s with heap := h, toks := t }) → (∀ b o, s.heap.get? b = some o → s'.heap.get? b = some o) → Q (.bool true) s') →
      wpAny (model G.prog G.w) callerA (call (.ref a) [.ref G.aScr]) Q E s := by
  obtain ⟨a, o, pm, cd, doc, m1, _⟩ := K.fns (drOf 33) (K.defs 33 (by decide))
  refine ⟨a, law_name ▸ m1, fun Q E hQ => ?_⟩
  have F : LF G (c6 G.script) := lf_ok h3 h1 _
  have S : LS G 0 (c6 G.script) := ls_ok F
  have L := law_run K hn F (ll_ok _) S (lt_ok (lv_ok S))
  refine call_raw (d := 11) (α := []) (H := []) (args := [.scr]) (names := ["script"]) K.toGOk (K.defs 33 (by decide)) law_bind ?_ ?_ rfl rfl rfl m1 room_caller
    ⟨e2, fun b o e => by rw [← e1]; exact e, rfl, List.nodup_nil, (fun _ h => nomatch h), (fun i a l h => by simp at h)⟩ (.cons .scr .nil) ?_
  · decide +kernel
  · decide +kernel
  · intro env s1 R' Kd X' L' x hfp hfr
    refine L.run _ env [] s1 R' Kd X' L' rfl hfr _ _ fun s' hs hk => ?_
    obtain ⟨h', t', rfl⟩ := x.same
    obtain ⟨h'', t'', rfl⟩ := hs
    exact hQ _ ⟨_, _, rfl⟩ fun b o e => hk b o (by rw [e1]; exact e)
end Mine
end
section
open PySem PySem.Calls PyProof.Rows PySem.W PyProof.V
set_option Elab.async false
set_option maxRecDepth 100000
namespace Mine
theorem law_pinned {w : World} {s₀ s₁ : Shared} {m0 : Str → Option Value} (T : TopEnd w s₀ m0 s₁) : isTheDefsW pw s₁.heap "law" := by
  obtain ⟨c, Pl, h₁, mg₀, mg, ps, X, _⟩ := T.out
  obtain ⟨a, c', o, pm, doc, _, _, h3, h4, h5, _⟩ := (X.made _ (top_defs_mem 33 (by decide))).plain (def_dflt 33 (by decide))
  refine ⟨a, o, _, (drOf 33).params, (drOf 33).body, (drOf 33).scope, ?_, h4, h5, by kernel_rfl, law_name, law_name, rfl, rfl, rfl, rfl, rfl, rfl, .inl ⟨def_dflt 33 (by decide), rfl⟩, [], by kernel_rfl, .inl ⟨rfl, rfl⟩⟩
  exact (Claim2Try.globalOf_of_ns X.main.g _).trans (law_name ▸ h3)
theorem all_at {α : Type} {f : α → Bool} {l : List α} (k : Nat) (h1 : (l.take k).all f = true) (h2 : (l.drop k).all f = true) : l.all f = true := by
  rw [← List.take_append_drop k l, List.all_append, h1, h2]; rfl
theorem ws_all (top : Scope) (cx : TablesWhole.Ctx) (sc : Scope) : ∀ l, TablesWhole.wSs TablesWhole.holds top cx sc l = l.all (TablesWhole.wS TablesWhole.holds top cx sc)
  | [] => rfl
  | s :: r => by
    rw [List.all_cons, ← ws_all top cx sc r]; rfl
theorem nr_all (lk : Look) : ∀ l, noRoadLSs lk l = l.all (noRoadLS lk)
  | [] => rfl
  | s :: r => by
    rw [List.all_cons, ← nr_all lk r]; rfl
theorem module_whole {m : Module} (h1 : TablesWhole.wSs TablesWhole.gather m.scope ⟨m.scope, [], [], [], none⟩ m.scope m.body = []) (h2 : TablesWhole.noTwice m.scope = true)
    (h3 : m.body.all (TablesWhole.wS TablesWhole.holds m.scope ⟨m.scope, [], [], [], none⟩ m.scope) = true) : TablesWhole.wModule TablesWhole.holds m = true := by
  rw [← ws_all] at h3
  unfold TablesWhole.wModule
  rw [h1]
  show (true && (TablesWhole.noTwice m.scope && (TablesWhole.wSs TablesWhole.holds m.scope ⟨m.scope, [], [], [], none⟩ m.scope m.body && true))) = true
  rw [h2, h3]; rfl
theorem whole_of {p : Program} (h0 : p.modules = []) (h1 : p.parses = []) (h2 : p.harvested = []) (h : TablesWhole.wModule TablesWhole.holds p.main = true) : p.tablesWhole = true := by
  unfold Program.tablesWhole TablesWhole.wProgram
  rw [h0, h1, h2, h]; rfl
theorem told_no : TablesWhole.wSs TablesWhole.gather pw.main.scope ⟨pw.main.scope, [], [], [], none⟩ pw.main.scope pw.main.body = [] := by decide +kernel
theorem main_twice : TablesWhole.noTwice pw.main.scope = true := by decide +kernel
theorem tabs_0 : (pw.main.body.take 12).all (TablesWhole.wS TablesWhole.holds pw.main.scope ⟨pw.main.scope, [], [], [], none⟩ pw.main.scope) = true := by decide +kernel
theorem tabs_1 : ((pw.main.body.drop 12).take 21).all (TablesWhole.wS TablesWhole.holds pw.main.scope ⟨pw.main.scope, [], [], [], none⟩ pw.main.scope) = true := by decide +kernel
theorem tabs_2 : ((pw.main.body.drop 12).drop 21).all (TablesWhole.wS TablesWhole.holds pw.main.scope ⟨pw.main.scope, [], [], [], none⟩ pw.main.scope) = true := by decide +kernel
theorem bare_pw : pw.bare := ⟨rfl, rfl, rfl, rfl, rfl, whole_of rfl rfl rfl (module_whole told_no main_twice (all_at 12 tabs_0 (all_at 21 tabs_1 tabs_2)))⟩
theorem road_of {p : Program} (hs : (importedModules p.main.body).all cThrough.contains = true) (h1 : readsOut p p.main.body "vars" = false) (h2 : readsOut p p.main.body "dir" = false) (h3 : readsOut p p.main.body "locals" = false)
    (h : p.main.body.all (noRoadLS { strict := false, foot := none, bare := [] }) = true) :
    noRoadLSs { strict := !(importedModules p.main.body).all cThrough.contains, foot := none, bare := (["vars", "dir", "locals"] : List Str).filter (readsOut p p.main.body) } p.main.body = true := by
  rw [List.filter_cons, h1, List.filter_cons, h2, List.filter_cons, h3, hs, nr_all]
  exact h
theorem out_strict : (importedModules pw.main.body).all cThrough.contains = true := by decide +kernel
theorem out_vars : readsOut pw pw.main.body "vars" = false := by decide +kernel
theorem out_dir : readsOut pw pw.main.body "dir" = false := by decide +kernel
theorem out_locals : readsOut pw pw.main.body "locals" = false := by decide +kernel
theorem road_0 : (pw.main.body.take 12).all (noRoadLS { strict := false, foot := none, bare := [] }) = true := by decide +kernel
theorem road_1 : ((pw.main.body.drop 12).take 21).all (noRoadLS { strict := false, foot := none, bare := [] }) = true := by decide +kernel
theorem road_2 : ((pw.main.body.drop 12).drop 21).all (noRoadLS { strict := false, foot := none, bare := [] }) = true := by decide +kernel
theorem road_pw : noRoadLSs { strict := !(importedModules pw.main.body).all cThrough.contains, foot := none, bare := (["vars", "dir", "locals"] : List Str).filter (readsOut pw pw.main.body) } pw.main.body = true :=
  road_of out_strict out_vars out_dir out_locals (all_at 12 road_0 (all_at 21 road_1 road_2))
theorem looks_pw : looksOpen pw = true := by
  unfold looksOpen
  repeat' (with_reducible refine look_both ?_ ?_)
  case refine_1.refine_2 => with_reducible exact road_pw
  all_goals decide +kernel
theorem opens_pw : opensWell pw = true := by decide +kernel
noncomputable abbrev lawTree : List Value → Sem Fin := fun vs => do
  match ← nsGet mainNs ("law" : Str) with
  | some f => do ret (← PySem.call f vs)
  | none => unsupported "claim.caller:no-such-global"
theorem law_from {w : World} {s₀ s₁ : Shared} (O : Opened w s₀) (T : TopEnd w s₀ ((boot_heap w.params).nsMap mainGlobals) s₁) (hz : s₁.asleep) (hgens : s₁.gens = #[]) (htk : 0 < s₁.toks) (TR : TopRan pw w s₀ s₁) (free : Addr → Prop) (gens : Prop) {kept : Heap → Prop} (hkept : ∀ h, kept h) :
    rwo.row.toRowW.claim.CallFrom (fun vs => ⟨lawTree vs, .builtin "claim.caller" {}, default, []⟩) w free gens kept s₁ := by
  refine ClaimW.callFrom_of_specG (c := rwo.row.toRowW.claim) hz hgens fun args hpre hlay ord hord => ?_
  obtain ⟨is, rfl, hn⟩ := pre_is hpre
  obtain ⟨vs, hlaid, hints⟩ := lay_list (R := rwo.row.toRowW.claim.records) (cl := classAt s₁.heap) (P := w.params) (ord := ord) is s₁
  have keeps := layAllW_keeps _ _ _ hlaid
  have hal := layAllW_rest _ _ _ hlaid
  refine ⟨_, _, hlaid, ?_⟩
  generalize hs2 : ({ s₁ with toks := s₁.toks + is.length, heap := s₁.heap.push { cls := .type "list", data := .seq vs.toArray } } : Shared) = s₂ at hlaid keeps hal ⊢
  obtain ⟨as, hrd, hin, hold⟩ := reads_layAllW hord _ _ _ hlaid hlay s₂.heap (fun _ _ e => e)
  have L : Laid rwo.row.toRowW.claim.records w s₁ s₂ [.list (is.map .int)] [.ref s₁.heap.objs.size] as := ⟨⟨ord, hord, hlaid⟩, hrd, hin, hold, keeps, hal.1.trans hgens, hal.2.2.1⟩
  have htk2 : 0 < s₂.toks := by rw [← hs2]; exact Nat.lt_of_lt_of_le htk (Nat.le_add_right _ _)
  have hlist : s₂.heap.PlainList s₁.heap.objs.size vs.toArray := ⟨0, by rw [← hs2]; exact Heap.get?_push_size _ rfl⟩
  obtain ⟨mg, mb, aB1, aB3, K, hmg⟩ := lk_of (w := w) O T (h := s₂.heap) keeps htk2 (script := is) hlist (by simpa using hints)
  obtain ⟨a, ma, hcall⟩ := law_call K rfl rfl (by show is.length ≤ 1000000; (first | lia | omega)) (s := s₂) rfl (Nat.le_refl _)
  refine wpAny_bind (wpAny_nsGet (hmg.keeps keeps) ?_)
  rw [show mg "law" = some (.ref a) from ma]
  refine wpAny_bind (wpAny_mono (hcall (fun v s' => GoodWG rwo.row.toRowW.claim (classAt s₁.heap) (ExcName.means s₁.heap) [.list (is.map .int)] s₂ (.ok (.ret v)) s') (fun _ _ => False) ?_) ?_ fun _ _ x => x.elim)
  · rintro s' ⟨h', t', rfl⟩ hk
    refine ⟨.inl ⟨.bool true, .bool true, [], rfl, fun _ => rfl, .bool _, ?_, fun _ => ⟨List.nodup_nil, fun _ h => nomatch h⟩⟩, .of_keep hk, rfl, ?_⟩
    · kernel_rfl
    · exact .of_eq (hal.1.trans hgens)
  · intro v s' g
    have z := g.laid (c := rwo.row.toRowW.claim) rfl rfl (fun a b => ident_freeW rfl rfl rfl a b) L
    exact wpAny_pure ⟨_, rfl, z.1, z.2.1, z.2.2, hkept _⟩
theorem law_holds (said : rwo.row.wellSaid = true) : rwo.row.Holds := by
  refine ⟨said, ⟨[.list []], by decide +kernel, by decide +kernel⟩, ⟨bare_pw, opens_pw, rfl⟩, ⟨[.list []], by decide +kernel, by decide +kernel⟩, fun w => ?_⟩
  obtain ⟨s₀, hA, O, uniq⟩ := opened w
  refine ⟨⟨s₀, hA⟩, fun s hs => ?_⟩
  obtain rfl := uniq s hs
  obtain ⟨s₁, TR, hz, hgens, htk, T⟩ := top_through w O
  refine ⟨s, fence_pw s, O.gens, s₁, TR, fun n hn => ?_, (fun x hx => nomatch hx), (fun x hx => nomatch hx), law_from O T hz hgens htk TR _ _ fun h hw => nomatch hw⟩
  obtain rfl : n = "law" := List.mem_singleton.mp hn
  exact law_pinned T
set_option maxHeartbeats 8000000 in
theorem law_said : rwo.wellSaid = true := by
  unfold OpenLaw.wellSaid OpenRow.wellSaid OpenRow.partSaid
  rw [show rwo.row.prog = pw from rfl, looks_pw]
  repeat' (with_reducible refine look_both ?_ ?_)
  all_goals decide +kernel
end Mine
end
theorem PySem.Challenge.cw_tc0071_01_holds : PySem.Challenge.rw_tc0071_01.Holds := by
  exact PySem.W.holds_law Mine.law_said Mine.law_holds
