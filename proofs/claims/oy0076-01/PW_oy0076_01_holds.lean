import PyProof.Rows.All
import OpenK.KLine
import OpenK.XSeg
import KE.BytesMake
import KE.BitLaws
import KE.KBytesWalk
import KE.KxDecode
import PySem.Challenge.RW_oy0076_01
set_option Elab.async false
set_option linter.unusedVariables false

-- Hd
section
open PySem PySem.W PyProof.Rows
set_option maxRecDepth 100000
set_option maxHeartbeats 8000000
namespace Mine
-- the head at once: the kernel runs the whole top in one check (the pieces' twins would make the compiled file too great)
noncomputable def keptIx : List Nat := [0, 2, 3, 4, 5, 7, 8, 9, 13, 14, 16, 17, 18, 19, 20, 21, 22, 23, 24, 25, 26, 27, 28, 29, 30, 31, 32, 33, 34, 35, 36, 37, 39, 40, 41, 42, 43, 44, 45, 46]
noncomputable def viewP : Program := PySem.W.view PySem.Challenge.pw_oy0076_01 keptIx
noncomputable def looseL : List PySem.Str := [Str.ofString "b2a_base64", Str.ofString "b64encode", Str.ofString "_urlsafe_encode_translation", Str.ofString "_filemode_table"]
noncomputable def fmTab : List (List (Int × Nat)) := [[(40960, 108), (49152, 115), (32768, 45), (24576, 98), (16384, 100), (8192, 99), (4096, 112)], [(256, 114)], [(128, 119)], [(2112, 115), (2048, 83), (64, 120)], [(32, 114)], [(16, 119)], [(1032, 115), (1024, 83), (8, 120)], [(4, 114)], [(2, 119)], [(513, 116), (512, 84), (1, 120)]]
noncomputable def lvL : List (PySem.Str × WData) := [(Str.ofString "_urlsafe_encode_translation", .bytes ((List.range 256).map fun i => if i = 43 then 45 else if i = 47 then 95 else i.toUInt8)), (Str.ofString "_filemode_table", .tuple (fmTab.map fun r => .tuple (r.map fun p => .tuple [.int p.1, .str ⟨#[p.2]⟩])))]
set_option hygiene false in
local macro_rules
  | `(tactic| o_head $H) => `(tactic| (
    refine holds_open (q := Mine.viewP) (loose := Mine.looseL) (Xt := fun s => xlAt Mine.viewP Mine.lvL s && recOk (RowW.records (OpenRow.toRowW (OpenLaw.row PySem.Challenge.rw_oy0076_01))) s) (XP := XL Mine.viewP Mine.lvL) (Yf := Hook.obs $H) (Ya := Hook.val $H) (YP := Hook.says $H) (N := 2116) ?hl (Hook.of $H) (Hook.keeps $H) (fun s e => xl_of s (Bool.and_eq_true_iff.mp e).1) XL.keeps (by rfl) (by rfl) (by rfl) (fun s e => recFacts_of (Bool.and_eq_true_iff.mp e).2) (by rfl) (by first | assumption | decide +kernel) (by decide +kernel) ⟨rfl, rfl, rfl, rfl, rfl, by decide +kernel⟩ ?hw ?hc;
    (case hl => (intro w; kernel_rfl))))
open_top hd for PySem.Challenge.rw_oy0076_01
end Mine
end

-- M1
section
open PySem PySem.W PyProof.Rows
set_option maxRecDepth 100000
namespace Mine

/-- pure data -/
inductive D where
  | none
  | bool (b : Bool)
  | int (i : Int)
  | str (x : Str)
  | bytes (b : Array UInt8)
  | ty (n : String)
  | list (l : List D)
  | tup (l : List D)

/-- a list as the interpreter makes it -/
noncomputable def PL (h : Heap) (a : Addr) (vs : Array Value) : Prop := ∃ o n, h.get? a = some o ∧ o.cls = .type "list" ∧ (o.dict = Option.none ∧ o.slots = #[]) ∧ o.data = .seq vs n
theorem PL.plain {h : Heap} {a : Addr} {vs : Array Value} (x : PL h a vs) : PlainL h a vs := let ⟨o, n, h1, h2, h3, h4⟩ := x; ⟨o, n, h1, h2, h3.1, h4⟩
theorem PL.isList {h : Heap} {a : Addr} {vs : Array Value} (x : PL h a vs) : h.IsList a vs := x.plain.isList
theorem PL.obj {h : Heap} {a : Addr} {vs : Array Value} (x : PL h a vs) : ∃ n, h.get? a = some { cls := .type "list", dict := Option.none, data := .seq vs n, slots := #[] } := by
  obtain ⟨⟨c, d, dt, sl⟩, n, h1, h2, ⟨h3, h3'⟩, h4⟩ := x
  dsimp only at h2 h3 h3' h4
  subst h2 h3 h3' h4
  exact ⟨n, h1⟩
theorem list_append_PL {prog : Program} {w : World} {A : Around} {E : Value → Shared → Prop} {s : Shared} {l : Addr} {its : Array Value} {x : Value} {Q : Value → Shared → Prop}
    (hl : PL s.heap l its) (hQ : ∀ h', PL h' l (its.push x) → Heap.SameBut l s.heap h' → Q .none { s with heap := h' }) (hsz : its.size ≤ sizeLine) :
    wpAny (model prog w) A (call (.builtin "list.append") [.ref l, x]) Q E s := by
  obtain ⟨o, n, ho, hc, hdn, hd⟩ := id hl
  obtain ⟨n', hd'⟩ := Obj.data_mapSeq hd (·.push x)
  refine wpAny_call_entry slot_list_append hl.isList.typeIs entry_list_append ?_ (args_list_append _ _)
  show wpAny _ _ (updateSeq l (·.push x) >>= fun _ => ret .none) _ _ s
  refine wpAny_bind ?_
  refine wpAny_updateSeq ho hd (wpAny_pure ⟨.none, rfl, hQ _ ?_ (Heap.SameBut.update ..)⟩)
  refine ⟨_, n', Heap.get?_update_self _ ho (Obj.isFreed_of_seq hd'), (Obj.cls_mapSeq ..).trans hc, ?_, hd'⟩
  obtain ⟨c, d, dt, sl⟩ := o
  subst hd
  exact hdn

-- the value v is the datum d in the heap h; none of the lists and tuples on the way lies in V
mutual
noncomputable def Rd (h : Heap) (V : List Addr) : D → Value → Prop
  | .none, v => v = .none
  | .bool b, v => v = .bool b
  | .int i, v => ∃ t, v = .int i t
  | .str x, v => ∃ t, v = .str x t
  | .bytes b, v => ∃ t, v = .bytes b t
  | .ty n, v => v = .type n
  | .list ds, v => ∃ a vs, v = .ref a ∧ PL h a vs ∧ a ∉ V ∧ RdL h V ds vs.toList
  | .tup ds, v => ∃ a vs, v = .ref a ∧ (∃ o, h.get? a = some o ∧ o.cls = .type "tuple" ∧ ∃ n, o.data = .seq vs n) ∧ a ∉ V ∧ RdL h V ds vs.toList
noncomputable def RdL (h : Heap) (V : List Addr) : List D → List Value → Prop
  | [], vs => vs = []
  | d :: ds, vs => ∃ v vs', vs = v :: vs' ∧ Rd h V d v ∧ RdL h V ds vs'
end

/-- what was stays -/
structure Ext (s s' : Shared) : Prop where
  keep : ∀ b o, s.heap.get? b = some o → s'.heap.get? b = some o
  os : s'.os = s.os
  gens : ∃ more : Array GenState, s'.gens = s.gens ++ more ∧ ∀ y ∈ more, y.bare = true

theorem Ext.refl (s : Shared) : Ext s s := ⟨fun _ _ e => e, rfl, #[], by simp, fun _ h => by simp at h⟩
theorem Ext.trans {a b c : Shared} (x : Ext a b) (y : Ext b c) : Ext a c := by
  obtain ⟨m1, e1, b1⟩ := x.gens
  obtain ⟨m2, e2, b2⟩ := y.gens
  refine ⟨fun b o e => y.keep b o (x.keep b o e), y.os.trans x.os, m1 ++ m2, by rw [e2, e1, Array.append_assoc], fun g hg => ?_⟩
  rcases Array.mem_append.mp hg with h | h
  · exact b1 g h
  · exact b2 g h

/-- what becomes of the lists and tuples outside V -/
noncomputable def Kp (h : Heap) (V : List Addr) (h' : Heap) (V' : List Addr) : Prop := ∀ b o xs n, h.get? b = some o → o.data = .seq xs n → b ∉ V → h'.get? b = some o ∧ b ∉ V'
mutual
theorem Rd.mono {h h' : Heap} {V V' : List Addr} (hk : Kp h V h' V') : ∀ (d : D) (v : Value), Rd h V d v → Rd h' V' d v
  | .none, _, x => x
  | .bool _, _, x => x
  | .int _, _, x => x
  | .str _, _, x => x
  | .bytes _, _, x => x
  | .ty _, _, x => x
  | .list ds, _, x => by
    obtain ⟨a, vs, rfl, ⟨o, n, ho, hc, hq, hd⟩, hn, hr⟩ := x
    obtain ⟨h1, h2⟩ := hk a o _ _ ho hd hn
    exact ⟨a, vs, rfl, ⟨o, n, h1, hc, hq, hd⟩, h2, RdL.mono hk ds _ hr⟩
  | .tup ds, _, x => by
    obtain ⟨a, vs, rfl, ⟨o, ho, hc, n, hd⟩, hn, hr⟩ := x
    obtain ⟨h1, h2⟩ := hk a o _ _ ho hd hn
    exact ⟨a, vs, rfl, ⟨o, h1, hc, n, hd⟩, h2, RdL.mono hk ds _ hr⟩
theorem RdL.mono {h h' : Heap} {V V' : List Addr} (hk : Kp h V h' V') : ∀ (ds : List D) (vs : List Value), RdL h V ds vs → RdL h' V' ds vs
  | [], _, x => x
  | d :: ds, _, x => by
    obtain ⟨v, vs, rfl, h1, h2⟩ := x
    exact ⟨v, vs, rfl, Rd.mono hk d v h1, RdL.mono hk ds vs h2⟩
end
theorem Ext.kp {s s' : Shared} (e : Ext s s') (V : List Addr) : Kp s.heap V s'.heap V := fun b o _ _ h _ hn => ⟨e.keep b o h, hn⟩
theorem Rd.ext {s s' : Shared} {V : List Addr} {d : D} {v : Value} (x : Rd s.heap V d v) (e : Ext s s') : Rd s'.heap V d v := Rd.mono (e.kp V) d v x
theorem RdL.ext {s s' : Shared} {V : List Addr} {d : List D} {v : List Value} (x : RdL s.heap V d v) (e : Ext s s') : RdL s'.heap V d v := RdL.mono (e.kp V) d v x

theorem RdL.length {h : Heap} {V : List Addr} : ∀ {ds : List D} {vs : List Value}, RdL h V ds vs → vs.length = ds.length
  | [], _, x => by rw [show _ = [] from x]; rfl
  | d :: ds, _, x => by obtain ⟨v, vs, rfl, _, h2⟩ := x; simp [RdL.length h2]
theorem RdL.get {h : Heap} {V : List Addr} : ∀ {ds : List D} {vs : List Value} {i : Nat} {d : D}, RdL h V ds vs → ds[i]? = some d → ∃ v, vs[i]? = some v ∧ Rd h V d v
  | [], _, _, _, _, e => by simp at e
  | d :: ds, _, 0, d', x, e => by
    obtain ⟨v, vs, rfl, h1, _⟩ := x
    simp at e; subst e
    exact ⟨v, by simp, h1⟩
  | d :: ds, _, i + 1, d', x, e => by
    obtain ⟨v, vs, rfl, _, h2⟩ := x
    simp at e
    obtain ⟨v', h3, h4⟩ := RdL.get h2 e
    exact ⟨v', by simpa using h3, h4⟩
theorem RdL.append {h : Heap} {V : List Addr} : ∀ {ds ds' : List D} {vs vs' : List Value}, RdL h V ds vs → RdL h V ds' vs' → RdL h V (ds ++ ds') (vs ++ vs')
  | [], _, _, _, x, y => by rw [show _ = [] from x]; exact y
  | d :: ds, _, _, _, x, y => by obtain ⟨v, vs, rfl, h1, h2⟩ := x; exact ⟨v, vs ++ _, rfl, h1, RdL.append h2 y⟩

/-- a name's binding: shared data, or a list of the frame's own, whose items are shared data or lists of its own -/
inductive El where
  | sh (d : D)
  | ow (l : List D)
inductive Bd where
  | sh (d : D)
  | own (els : List El)

noncomputable def ElsOk (h : Heap) (V : List Addr) : List El → List Value → List Addr → Prop
  | [], vs, fp => vs = [] ∧ fp = []
  | .sh d :: es, vs, fp => ∃ v vs', vs = v :: vs' ∧ Rd h V d v ∧ ElsOk h V es vs' fp
  | .ow ds :: es, vs, fp => ∃ a ws vs' fp', vs = .ref a :: vs' ∧ PL h a ws ∧ RdL h V ds ws.toList ∧ fp = a :: fp' ∧ ElsOk h V es vs' fp'
noncomputable def BdOk (h : Heap) (V : List Addr) : Bd → Value → List Addr → Prop
  | .sh d, v, fp => Rd h V d v ∧ fp = []
  | .own es, v, fp => ∃ a vs fp', v = .ref a ∧ PL h a vs ∧ ElsOk h V es vs.toList fp' ∧ fp = a :: fp'
noncomputable abbrev Rho := List (Str × Bd)
noncomputable def EnvOk (look : Str → Option Value) (h : Heap) (V : List Addr) : Rho → List Addr → Prop
  | [], fp => fp = []
  | (x, b) :: r, fp => ∃ v f1 f2, look x = some v ∧ BdOk h V b v f1 ∧ EnvOk look h V r f2 ∧ fp = f1 ++ f2


theorem ElsOk.mono {h h' : Heap} {V V' : List Addr} (hk : Kp h V h' V') : ∀ {es : List El} {vs : List Value} {fp : List Addr}, (∀ a o, a ∈ fp → h.get? a = some o → h'.get? a = some o) → ElsOk h V es vs fp → ElsOk h' V' es vs fp
  | [], _, _, _, x => x
  | .sh d :: es, _, _, hf, x => by
    obtain ⟨v, vs, rfl, h1, h2⟩ := x
    exact ⟨v, vs, rfl, Rd.mono hk _ _ h1, ElsOk.mono hk hf h2⟩
  | .ow ds :: es, _, _, hf, x => by
    obtain ⟨a, ws, vs, fp, rfl, ⟨o, n, ho, hc⟩, h1, rfl, h2⟩ := x
    exact ⟨a, ws, vs, fp, rfl, ⟨o, n, hf a o (.head _) ho, hc⟩, RdL.mono hk _ _ h1, rfl, ElsOk.mono hk (fun a o q => hf a o (.tail _ q)) h2⟩
theorem BdOk.mono {h h' : Heap} {V V' : List Addr} (hk : Kp h V h' V') : ∀ {b : Bd} {v : Value} {fp : List Addr}, (∀ a o, a ∈ fp → h.get? a = some o → h'.get? a = some o) → BdOk h V b v fp → BdOk h' V' b v fp
  | .sh d, _, _, _, x => ⟨Rd.mono hk _ _ x.1, x.2⟩
  | .own es, _, _, hf, x => by
    obtain ⟨a, vs, fp, rfl, ⟨o, n, ho, hc⟩, h1, rfl⟩ := x
    exact ⟨a, vs, fp, rfl, ⟨o, n, hf a o (.head _) ho, hc⟩, ElsOk.mono hk (fun a o q => hf a o (.tail _ q)) h1, rfl⟩
theorem EnvOk.mono {look : Str → Option Value} {h h' : Heap} {V V' : List Addr} (hk : Kp h V h' V') : ∀ {ρ : Rho} {fp : List Addr}, (∀ a o, a ∈ fp → h.get? a = some o → h'.get? a = some o) → EnvOk look h V ρ fp → EnvOk look h' V' ρ fp
  | [], _, _, x => x
  | (y, b) :: r, _, hf, x => by
    obtain ⟨v, f1, f2, h1, h2, h3, rfl⟩ := x
    exact ⟨v, f1, f2, h1, BdOk.mono hk (fun a o q => hf a o (List.mem_append_left _ q)) h2, EnvOk.mono hk (fun a o q => hf a o (List.mem_append_right _ q)) h3, rfl⟩
theorem ElsOk.alloc {h : Heap} {V : List Addr} : ∀ {es : List El} {vs : List Value} {fp : List Addr}, ElsOk h V es vs fp → ∀ a ∈ fp, ∃ o, h.get? a = some o
  | [], _, _, x, a, ha => by rw [x.2] at ha; cases ha
  | .sh d :: es, _, _, x, a, ha => by
    obtain ⟨v, vs, rfl, h1, h2⟩ := x
    exact ElsOk.alloc h2 a ha
  | .ow ds :: es, _, _, x, a, ha => by
    obtain ⟨b, ws, vs, fp, rfl, ⟨o, n, ho, hc⟩, h1, rfl, h2⟩ := x
    cases ha with
    | head => exact ⟨o, ho⟩
    | tail _ ha => exact ElsOk.alloc h2 a ha
theorem EnvOk.alloc {look : Str → Option Value} {h : Heap} {V : List Addr} : ∀ {ρ : Rho} {fp : List Addr}, EnvOk look h V ρ fp → ∀ a ∈ fp, ∃ o, h.get? a = some o
  | [], _, x, a, ha => by rw [show _ = [] from x] at ha; cases ha
  | (y, b) :: r, _, x, a, ha => by
    obtain ⟨v, f1, f2, h1, h2, h3, rfl⟩ := x
    rcases List.mem_append.mp ha with ha | ha
    · cases b with
      | sh d => rw [h2.2] at ha; cases ha
      | own es =>
        obtain ⟨c, vs, fp, rfl, ⟨o, n, ho, hc⟩, h4, rfl⟩ := h2
        cases ha with
        | head => exact ⟨o, ho⟩
        | tail _ ha => exact ElsOk.alloc h4 a ha
    · exact EnvOk.alloc h3 a ha

structure Wd where
  prog : Program
  w : World
  mg : Str → Option Value
  mb : Str → Option Value
  K : Frag
noncomputable abbrev Wd.M (W : Wd) : Model := model W.prog W.w

structure Gl (W : Wd) (h : Heap) : Prop where
  g : h.Ns mainGlobals W.mg
  b : h.Ns builtinsNs W.mb
  nl : h.NoLimit
  k : W.K.In h
theorem Gl.keeps {W : Wd} {h h' : Heap} (x : Gl W h) (hk : ∀ b o, h.get? b = some o → h'.get? b = some o) : Gl W h' := ⟨x.g.keeps hk, x.b.keeps hk, x.nl.keeps hk, x.k.keeps hk⟩

/-- the places to stay away from: there, and none of the module's own -/
noncomputable def VOk (W : Wd) (h : Heap) (V : List Addr) : Prop := ∀ a ∈ V, (∃ o, h.get? a = some o) ∧ W.K.lookup a = Option.none

structure AOk (n : Nat) (A : Around) : Prop where
  hd : A.handled = Option.none
  dp : A.depth + n ≤ 900
  un : A.units + 100 * n ≤ 9000
theorem AOk.mono {n m : Nat} {A : Around} (x : AOk n A) (h : m ≤ n) : AOk m A := ⟨x.hd, by have := x.dp; omega, by have := x.un; omega⟩

noncomputable def lookIn (env : Env) (m cm : Str → Option Value) (x : Str) : Option Value :=
  if (x == ("__debug__" : Str)) || (x == ("__classdict__" : Str)) then Option.none else
  match env.kindOf x with
  | some .local => m x
  | some .cell => (env.cells.lookup x).bind fun _ => cm x
  | some .free => (env.cells.lookup x).bind fun _ => cm x
  | _ => Option.none

structure St (W : Wd) (env : Env) (B : Heap) (G fp : List Addr) (s : Shared) (ρ : Rho) : Prop where
  gl : Gl W B
  keep : ∀ b o, B.get? b = some o → s.heap.get? b = some o
  kind : env.scope.kind = .function
  eg : env.globals = mainGlobals
  eb : env.builtins = builtinsNs
  frame : ∃ m cm, s.heap.Ns env.locals m ∧ (∀ n c, env.cells.lookup n = some c → s.heap.IsCell c (cm n)) ∧ EnvOk (lookIn env m cm) s.heap (fp ++ G) ρ fp
  names : (ρ.map (·.1)).Nodup
  fpn : fp.Nodup
  fpB : ∀ a ∈ fp, B.get? a = Option.none
  fpG : ∀ a ∈ fp, a ∉ G
  GB : VOk W s.heap G
  freshL : B.get? env.locals = Option.none
  freshC : ∀ n c, env.func.isSome = true → env.kindOf n = some .cell → env.cells.lookup n = some c → B.get? c = Option.none
  apart : ∀ n n' c, env.cells.lookup n = some c → env.cells.lookup n' = some c → n = n'

section
variable {W : Wd} {n : Nat} {env : Env} {B : Heap} {G fp : List Addr} {s s' : Shared} {ρ : Rho} {A : Around} {E : Value → Shared → Prop}

theorem St.ext (x : St W env B G fp s ρ) (e : Ext s s') : St W env B G fp s' ρ := by
  obtain ⟨m, cm, h1, h2, h3⟩ := x.frame
  exact ⟨x.gl, fun b o q => e.keep b o (x.keep b o q), x.kind, x.eg, x.eb, ⟨m, cm, h1.keeps e.keep, fun n c q => (h2 n c q).keeps e.keep, EnvOk.mono (e.kp _) (fun a o _ q => e.keep a o q) h3⟩, x.names, x.fpn, x.fpB, x.fpG, (fun a ha => let ⟨⟨o, ho⟩, hk⟩ := x.GB a ha; ⟨⟨o, e.keep a o ho⟩, hk⟩), x.freshL, x.freshC, x.apart⟩
theorem St.gl' (x : St W env B G fp s ρ) : Gl W s.heap := x.gl.keeps x.keep
theorem St.valloc (x : St W env B G fp s ρ) : VOk W s.heap (fp ++ G) := fun a ha => by
  rcases List.mem_append.mp ha with ha | ha
  · obtain ⟨m, cm, _, _, h3⟩ := x.frame
    refine ⟨EnvOk.alloc h3 a ha, ?_⟩
    cases q : W.K.lookup a with
    | none => rfl
    | some o => have := x.gl.k a o q; rw [x.fpB a ha] at this; cases this
  · obtain ⟨⟨o, ho⟩, hk⟩ := x.GB a ha
    exact ⟨⟨o, ho⟩, hk⟩

/-- the expression e comes to the datum d -/
structure Ex (W : Wd) (n : Nat) (env : Env) (ρ : Rho) (e : Expr) (d : D) : Prop where
  r : ∀ (B : Heap) (G fp : List Addr) (s : Shared) (A : Around) (E : Value → Shared → Prop) (Q : Value → Shared → Prop), St W env B G fp s ρ → AOk n A →
    (∀ v s', Rd s'.heap (fp ++ G) d v → Ext s s' → Q v s') → wpAny W.M A (eval e env) Q E s
/-- the test e comes to b -/
structure Tr (W : Wd) (n : Nat) (env : Env) (ρ : Rho) (e : Expr) (b : Bool) : Prop where
  r : ∀ (B : Heap) (G fp : List Addr) (s : Shared) (A : Around) (E : Value → Shared → Prop) (Q : Bool → Shared → Prop), St W env B G fp s ρ → AOk n A →
    (∀ s', Ext s s' → Q b s') → wpAny W.M A (isTrue e env (eval e env)) Q E s
/-- a call of f with the data ds comes to d -/
structure Fn (W : Wd) (n : Nat) (f : Value) (ds : List D) (d : D) : Prop where
  r : ∀ (s : Shared) (A : Around) (vs : List Value) (V : List Addr) (E : Value → Shared → Prop) (Q : Value → Shared → Prop), Gl W s.heap → AOk n A → RdL s.heap V ds vs →
    VOk W s.heap V → (∀ v s', Rd s'.heap V d v → Ext s s' → Q v s') → wpAny W.M A (call f vs) Q E s

theorem EnvOk.find {look : Str → Option Value} {h : Heap} {V : List Addr} : ∀ {ρ : Rho} {fp : List Addr} {x : Str} {b : Bd}, EnvOk look h V ρ fp → ρ.lookup x = some b → ∃ v f, look x = some v ∧ BdOk h V b v f
  | [], _, _, _, _, e => by cases e
  | (y, c) :: r, _, x, b, q, e => by
    obtain ⟨v, f1, f2, h1, h2, h3, rfl⟩ := q
    rw [List.lookup_cons] at e
    by_cases hy : (x == y) = true
    · rw [hy] at e
      cases e
      rw [beq_iff_eq.mp hy]
      exact ⟨v, f1, h1, h2⟩
    · rw [Bool.not_eq_true] at hy
      rw [hy] at e
      exact EnvOk.find h3 e

theorem St.name {x : Str} {b : Bd} {pos : Pos} {Q : Value → Shared → Prop} (S : St W env B G fp s ρ) (hx : ρ.lookup x = some b)
    (h : ∀ v f, BdOk s.heap (fp ++ G) b v f → Q v s) : wpAny W.M A (eval (.Name x pos) env) Q E s := by
  obtain ⟨m, cm, h1, h2, h3⟩ := S.frame
  obtain ⟨v, f, hv, hb⟩ := EnvOk.find h3 hx
  unfold lookIn at hv
  split at hv
  · cases hv
  · rename_i hq
    have hq : ((x == ("__debug__" : Str)) || (x == ("__classdict__" : Str))) = false := by simpa using hq
    obtain ⟨q1, q2⟩ := Bool.or_eq_false_iff.mp hq
    split at hv
    · rename_i hk
      exact wpAny_Name (wpAny_loadName_local S.kind hk h1 hv (h v f hb)) q1
    · rename_i hk
      cases hc : env.cells.lookup x with
      | none => rw [hc] at hv; cases hv
      | some c =>
        rw [hc] at hv
        have hv : cm x = some v := hv
        exact wpAny_Name (wpAny_loadName_cell S.kind hk hc (hv ▸ h2 x c hc) (h v f hb)) q1
    · rename_i hk
      cases hc : env.cells.lookup x with
      | none => rw [hc] at hv; cases hv
      | some c =>
        rw [hc] at hv
        have hv : cm x = some v := hv
        exact wpAny_Name (wpAny_loadName_free S.kind hk hc (hv ▸ h2 x c hc) (h v f hb) q2) q1
    · cases hv

theorem Ex.name {x : Str} {d : D} {pos : Pos} (hx : ρ.lookup x = some (.sh d)) : Ex W n env ρ (.Name x pos) d := .mk fun B G fp s A E Q S _ h =>
  S.name hx fun v f hb => h v s hb.1 (Ext.refl s)

theorem Ext.toks {t : Nat} : Ext s { s with toks := t } := ⟨fun _ _ e => e, rfl, #[], by simp, fun _ h => by simp at h⟩

theorem Ex.int {i : Int} {k : Nat} {pos : Pos} : Ex W n env ρ (.Constant (.int i) k pos) (.int i) := .mk fun B G fp s A E Q S _ h =>
  wpAny_Constant_int (h _ _ ⟨_, rfl⟩ Ext.toks)
theorem Ex.strC {x : Str} {k : Nat} {pos : Pos} : Ex W n env ρ (.Constant (.str x) k pos) (.str x) := .mk fun B G fp s A E Q S _ h =>
  Calls.Constant_str (h _ _ ⟨_, rfl⟩ Ext.toks)
theorem Ex.noneC {k : Nat} {pos : Pos} : Ex W n env ρ (.Constant .none k pos) .none := .mk fun B G fp s A E Q S _ h =>
  wpAny_pure (h _ _ rfl (Ext.refl s))
theorem Ex.boolC {b : Bool} {k : Nat} {pos : Pos} : Ex W n env ρ (.Constant (.bool b) k pos) (.bool b) := .mk fun B G fp s A E Q S _ h =>
  wpAny_pure (h _ _ rfl (Ext.refl s))

/-- a step upon two values -/
structure Op2 (W : Wd) (n : Nat) (op : Value → Value → Sem Value) (a b d : D) : Prop where
  r : ∀ (s : Shared) (A : Around) (va vb : Value) (V : List Addr) (E : Value → Shared → Prop) (Q : Value → Shared → Prop), Gl W s.heap → AOk n A → Rd s.heap V a va → Rd s.heap V b vb →
    VOk W s.heap V → (∀ v s', Rd s'.heap V d v → Ext s s' → Q v s') → wpAny W.M A (op va vb) Q E s

theorem Ex.binop {l r : Expr} {op : Operator} {pos : Pos} {a b d : D} (hl : Ex W n env ρ l a) (hr : Ex W n env ρ r b) (ho : Op2 W n (binaryOp op) a b d) : Ex W n env ρ (.BinOp l op r pos) d :=
  .mk fun B G fp s A E Q S hA h => wpAny_BinOp (hl.r B G fp s A E _ S hA fun va s₁ ra e₁ => hr.r B G fp s₁ A E _ (S.ext e₁) hA fun vb s₂ rb e₂ =>
    ho.r s₂ A va vb (fp ++ G) E Q (S.ext (e₁.trans e₂)).gl' hA (ra.ext e₂) rb ((S.ext (e₁.trans e₂)).valloc) fun v s₃ rv e₃ => h v s₃ rv ((e₁.trans e₂).trans e₃))
theorem Ex.cmp {l r : Expr} {op : CmpOp} {pos : Pos} {a b d : D} (hl : Ex W n env ρ l a) (hr : Ex W n env ρ r b) (ho : Op2 W n (compareOp op) a b d) (hm : behindInMarks op r = false) : Ex W n env ρ (.Compare l [op] [r] pos) d :=
  .mk fun B G fp s A E Q S hA h => wpAny_Compare1 (hl.r B G fp s A E _ S hA fun va s₁ ra e₁ => hr.r B G fp s₁ A E _ (S.ext e₁) hA fun vb s₂ rb e₂ =>
    ho.r s₂ A va vb (fp ++ G) E Q (S.ext (e₁.trans e₂)).gl' hA (ra.ext e₂) rb ((S.ext (e₁.trans e₂)).valloc) fun v s₃ rv e₃ => h v s₃ rv ((e₁.trans e₂).trans e₃)) hm
theorem Tr.cmp {l r : Expr} {op : CmpOp} {pos : Pos} {a b : D} {t : Bool} (hl : Ex W n env ρ l a) (hr : Ex W n env ρ r b) (ho : Op2 W n (compareOp op) a b (.bool t)) (hm : behindInMarks op r = false) : Tr W n env ρ (.Compare l [op] [r] pos) t :=
  .mk fun B G fp s A E Q S hA h => wpAny_isTrue_Compare1 (hl.r B G fp s A E _ S hA fun va s₁ ra e₁ => hr.r B G fp s₁ A E _ (S.ext e₁) hA fun vb s₂ rb e₂ =>
    ho.r s₂ A va vb (fp ++ G) E _ (S.ext (e₁.trans e₂)).gl' hA (ra.ext e₂) rb ((S.ext (e₁.trans e₂)).valloc) fun v s₃ rv e₃ => by
      rw [show v = .bool t from rv]
      exact wpAny_truthy_bool (h s₃ ((e₁.trans e₂).trans e₃))) hm
end
end Mine
end

-- M2
section
open PySem PySem.W PyProof.Rows
set_option maxRecDepth 100000
namespace Mine

inductive Fl where
  | next | brk | cont
  | ret (d : D)
noncomputable def FlOk (h : Heap) (V : List Addr) : Fl → Flow → Prop
  | .next, f => f = .next
  | .brk, f => f = .brk
  | .cont, f => f = .cont
  | .ret d, f => ∃ v, f = .ret v ∧ Rd h V d v

noncomputable def OwnP (env : Env) (fp : List Addr) (b : Addr) : Prop := b = env.locals ∨ (env.func.isSome = true ∧ ∃ n, env.kindOf n = some .cell ∧ env.cells.lookup n = some b) ∨ b ∈ fp

/-- what a statement leaves -/
structure SExt (env : Env) (fp : List Addr) (s : Shared) (fp' : List Addr) (s' : Shared) : Prop where
  keep : ∀ b o, s.heap.get? b = some o → ¬ OwnP env fp b → s'.heap.get? b = some o
  there : ∀ b o, s.heap.get? b = some o → ∃ o', s'.heap.get? b = some o'
  new : ∀ a ∈ fp', a ∈ fp ∨ s.heap.get? a = Option.none
  os : s'.os = s.os
  gens : ∃ more : Array GenState, s'.gens = s.gens ++ more ∧ ∀ y ∈ more, y.bare = true

section
variable {W : Wd} {n : Nat} {env : Env} {B : Heap} {G fp fp' fp'' : List Addr} {s s' s'' : Shared} {ρ : Rho} {A : Around} {E : Value → Shared → Prop}

theorem SExt.refl (env : Env) (fp : List Addr) (s : Shared) : SExt env fp s fp s := ⟨fun _ _ e _ => e, fun _ o e => ⟨o, e⟩, fun _ h => .inl h, rfl, #[], by simp, fun _ h => by simp at h⟩
theorem SExt.trans (x : SExt env fp s fp' s') (y : SExt env fp' s' fp'' s'') : SExt env fp s fp'' s'' := by
  obtain ⟨m1, e1, b1⟩ := x.gens
  obtain ⟨m2, e2, b2⟩ := y.gens
  refine ⟨fun b o e hn => y.keep b o (x.keep b o e hn) fun hq => ?_, fun b o e => let ⟨o', e'⟩ := x.there b o e; y.there b o' e', fun a ha => ?_, y.os.trans x.os, m1 ++ m2, by rw [e2, e1, Array.append_assoc], fun g hg => ?_⟩
  · rcases hq with h | h | h
    · exact hn (.inl h)
    · exact hn (.inr (.inl h))
    · rcases x.new b h with h | h
      · exact hn (.inr (.inr h))
      · rw [e] at h; cases h
  · rcases y.new a ha with h | h
    · exact x.new a h
    · cases q : s.heap.get? a with
      | none => exact .inr rfl
      | some o =>
        obtain ⟨o', e'⟩ := x.there a o q
        rw [e'] at h; cases h
  · rcases Array.mem_append.mp hg with h | h
    · exact b1 g h
    · exact b2 g h
theorem Ext.sext (x : Ext s s') : SExt env fp s fp s' := ⟨fun b o e _ => x.keep b o e, fun b o e => ⟨o, x.keep b o e⟩, fun _ h => .inl h, x.os, x.gens⟩

/-- the frame's own places are no lists or tuples but its own -/
theorem St.kp (S : St W env B G fp s ρ) (x : SExt env fp s fp' s') : Kp s.heap (fp ++ G) s'.heap (fp' ++ G) := by
  intro b o xs k ho hd hn
  have nf : b ∉ fp := fun h => hn (List.mem_append_left _ h)
  have ng : b ∉ G := fun h => hn (List.mem_append_right _ h)
  obtain ⟨m, cm, ⟨oL, es, ep, hL, hLd, _⟩, hc, _⟩ := S.frame
  refine ⟨x.keep b o ho fun hq => ?_, fun h => ?_⟩
  · rcases hq with h | ⟨hfn, k', hk, hl⟩ | h
    · subst h; rw [ho] at hL; cases hL; rw [hd] at hLd; cases hLd
    · obtain ⟨oc, hoc, hcd⟩ := hc k' b hl
      rw [ho] at hoc; cases hoc; rw [hd] at hcd; cases hcd
    · exact nf h
  · rcases List.mem_append.mp h with h | h
    · rcases x.new b h with h | h
      · exact nf h
      · rw [ho] at h; cases h
    · exact ng h

noncomputable def put : Rho → Str → Bd → Rho
  | [], x, b => [(x, b)]
  | (y, c) :: r, x, b => if y == x then (x, b) :: r else (y, c) :: put r x b
theorem put_names : ∀ (ρ : Rho) (x : Str) (b : Bd), (∀ y, y ∈ (put ρ x b).map (·.1) → y = x ∨ y ∈ ρ.map (·.1))
  | [], x, b, y, h => by simp [put] at h; exact .inl h
  | (z, c) :: r, x, b, y, h => by
    unfold put at h
    split at h
    · rename_i q
      rcases List.mem_cons.mp h with h | h
      · exact .inl h
      · exact .inr (.tail _ h)
    · rcases List.mem_cons.mp h with h | h
      · exact .inr (h ▸ .head _)
      · exact (put_names r x b y h).imp id (.tail _)
theorem put_nodup : ∀ {ρ : Rho} {x : Str} {b : Bd}, (ρ.map (·.1)).Nodup → ((put ρ x b).map (·.1)).Nodup
  | [], x, b, _ => by simp [put]
  | (z, c) :: r, x, b, h => by
    have h' := List.nodup_cons.mp (show (z :: r.map (·.1)).Nodup from h)
    unfold put
    split
    · rename_i q
      rw [← beq_iff_eq.mp q]
      exact h
    · rename_i q
      refine List.nodup_cons.mpr ⟨fun hm => ?_, put_nodup h'.2⟩
      rcases put_names r x b z hm with e | e
      · exact q (beq_iff_eq.mpr e)
      · exact h'.1 e

theorem EnvOk.look {look look' : Str → Option Value} {h : Heap} {V : List Addr} : ∀ {ρ : Rho} {fp : List Addr}, (∀ y ∈ ρ.map (·.1), look' y = look y) → EnvOk look h V ρ fp → EnvOk look' h V ρ fp
  | [], _, _, x => x
  | (y, b) :: r, _, hl, x => by
    obtain ⟨v, f1, f2, h1, h2, h3, rfl⟩ := x
    exact ⟨v, f1, f2, (hl y (.head _)).trans h1, h2, EnvOk.look (fun z hz => hl z (.tail _ hz)) h3, rfl⟩

/-- a name bound anew -/
theorem EnvOk.put {look look' : Str → Option Value} {h : Heap} {V : List Addr} {x : Str} {v : Value} {b : Bd} {f : List Addr} (hx : look' x = some v) (hy : ∀ y, y ≠ x → look' y = look y) :
    ∀ {ρ : Rho} {fp : List Addr}, (ρ.map (·.1)).Nodup → EnvOk look h V ρ fp → fp.Nodup → f.Nodup → (∀ a ∈ f, a ∉ fp) →
      ∃ fp', fp'.Nodup ∧ (∀ a ∈ fp', a ∈ f ∨ a ∈ fp) ∧ ∀ h' V', Kp h V h' V' → (∀ a o, a ∈ fp → h.get? a = some o → h'.get? a = some o) → BdOk h' V' b v f → EnvOk look' h' V' (Mine.put ρ x b) fp'
  | [], _, _, q, _, hf, _ => ⟨f, hf, fun _ h => .inl h, fun h' V' _ _ hb => ⟨v, f, [], hx, hb, rfl, by simp⟩⟩
  | (z, c) :: r, _, hn, q, hp, hf, hd => by
    obtain ⟨u, f1, f2, h1, h2, h3, rfl⟩ := q
    have hn' := List.nodup_cons.mp (show (z :: r.map (·.1)).Nodup from hn)
    obtain ⟨p1, p2, p3⟩ := List.nodup_append.mp hp
    unfold Mine.put
    by_cases hz : (z == x) = true
    · rw [if_pos hz]
      have ez := beq_iff_eq.mp hz
      subst ez
      refine ⟨f ++ f2, List.nodup_append.mpr ⟨hf, p2, fun a ha b hb e => hd a ha (List.mem_append_right _ (e ▸ hb))⟩, fun a ha => (List.mem_append.mp ha).imp id fun h => List.mem_append_right _ h, fun h' V' hk hfp hb => ?_⟩
      exact ⟨v, f, f2, hx, hb, EnvOk.look (fun y hy' => hy y fun e => hn'.1 (e ▸ hy')) (EnvOk.mono hk (fun a o ha => hfp a o (List.mem_append_right _ ha)) h3), rfl⟩
    · rw [if_neg hz]
      have hzx : z ≠ x := fun e => hz (beq_iff_eq.mpr e)
      obtain ⟨fp', i1, i2, i3⟩ := EnvOk.put (b := b) hx hy hn'.2 h3 p2 hf (fun a ha h => hd a ha (List.mem_append_right _ h))
      refine ⟨f1 ++ fp', List.nodup_append.mpr ⟨p1, i1, fun a ha b hb e => ?_⟩, fun a ha => ?_, fun h' V' hk hfp hb => ?_⟩
      · subst e
        rcases i2 a hb with h | h
        · exact hd a h (List.mem_append_left _ ha)
        · exact p3 a ha a h rfl
      · rcases List.mem_append.mp ha with h | h
        · exact .inr (List.mem_append_left _ h)
        · exact (i2 a h).imp id fun h => List.mem_append_right _ h
      · exact ⟨u, f1, fp', (hy z hzx).trans h1, BdOk.mono hk (fun a o ha => hfp a o (List.mem_append_left _ ha)) h2, i3 h' V' hk (fun a o ha => hfp a o (List.mem_append_right _ ha)) hb, rfl⟩

theorem ElsOk.seqs {h : Heap} {V : List Addr} : ∀ {es : List El} {vs : List Value} {fp : List Addr}, ElsOk h V es vs fp → ∀ a ∈ fp, ∃ o xs k, h.get? a = some o ∧ o.data = .seq xs k
  | [], _, _, x, a, ha => by rw [x.2] at ha; cases ha
  | .sh d :: es, _, _, x, a, ha => by
    obtain ⟨v, vs, rfl, h1, h2⟩ := x
    exact ElsOk.seqs h2 a ha
  | .ow ds :: es, _, _, x, a, ha => by
    obtain ⟨b, ws, vs, fp, rfl, ⟨o, n, ho, hc, hq, hd⟩, h1, rfl, h2⟩ := x
    cases ha with
    | head => exact ⟨o, _, _, ho, hd⟩
    | tail _ ha => exact ElsOk.seqs h2 a ha
theorem EnvOk.seqs {look : Str → Option Value} {h : Heap} {V : List Addr} : ∀ {ρ : Rho} {fp : List Addr}, EnvOk look h V ρ fp → ∀ a ∈ fp, ∃ o xs k, h.get? a = some o ∧ o.data = .seq xs k
  | [], _, x, a, ha => by rw [show _ = [] from x] at ha; cases ha
  | (y, b) :: r, _, x, a, ha => by
    obtain ⟨v, f1, f2, h1, h2, h3, rfl⟩ := x
    rcases List.mem_append.mp ha with ha | ha
    · cases b with
      | sh d => rw [h2.2] at ha; cases ha
      | own es =>
        obtain ⟨c, vs, fp, rfl, ⟨o, n, ho, hc, hq, hd⟩, h4, rfl⟩ := h2
        cases ha with
        | head => exact ⟨o, _, _, ho, hd⟩
        | tail _ ha => exact ElsOk.seqs h4 a ha
    · exact EnvOk.seqs h3 a ha

noncomputable def storable (env : Env) (x : Str) : Bool := !((x == ("__debug__" : Str)) || (x == ("__classdict__" : Str))) &&
  match env.kindOf x with
  | some .local => true
  | some .cell => env.func.isSome && (env.cells.lookup x).isSome
  | _ => false

theorem St.stored {x : Str} {v : Value} {b : Bd} {f : List Addr} {m cm m' cm' : Str → Option Value} (S : St W env B G fp s ρ) (e : Ext s s')
    (hE : EnvOk (lookIn env m cm) s.heap (fp ++ G) ρ fp) (hos : s''.os = s'.os) (hgens : s''.gens = s'.gens)
    (hns : s''.heap.Ns env.locals m') (hcl : ∀ n c, env.cells.lookup n = some c → s''.heap.IsCell c (cm' n))
    (hx : lookIn env m' cm' x = some v) (hy : ∀ y, y ≠ x → lookIn env m' cm' y = lookIn env m cm y)
    (hk : ∀ b o, s'.heap.get? b = some o → ¬ OwnP env [] b → s''.heap.get? b = some o) (hth : ∀ b o, s'.heap.get? b = some o → ∃ o', s''.heap.get? b = some o')
    (hf : f.Nodup) (hfr : ∀ a ∈ f, s.heap.get? a = Option.none)
    (hb : ∀ h' V', Kp s.heap (fp ++ G) h' V' → (∀ a o xs k, s'.heap.get? a = some o → o.data = .seq xs k → h'.get? a = some o) → BdOk h' V' b v f) :
    ∃ fp', St W env B G fp' s'' (put ρ x b) ∧ SExt env fp s fp' s'' := by
  have hS' := S.ext e
  have own_no : ∀ b o xs k, s'.heap.get? b = some o → o.data = .seq xs k → ¬ OwnP env [] b := fun b o xs k ho hd hq => by
    obtain ⟨m₀, cm₀, ⟨oL, es, ep, hL, hLd, _⟩, hc, _⟩ := hS'.frame
    rcases hq with h | ⟨hfn, k', hk, hl⟩ | h
    · subst h; rw [ho] at hL; cases hL; rw [hd] at hLd; cases hLd
    · obtain ⟨oc, hoc, hcd⟩ := hc k' b hl
      rw [ho] at hoc; cases hoc; rw [hd] at hcd; cases hcd
    · cases h
  have hall := S.valloc
  have hfd : ∀ a ∈ f, a ∉ fp := fun a ha h => by
    obtain ⟨⟨o, ho⟩, _⟩ := hall a (List.mem_append_left _ h)
    rw [hfr a ha] at ho; cases ho
  obtain ⟨fp', i1, i2, i3⟩ := EnvOk.put (b := b) hx hy S.names hE S.fpn hf hfd
  have sx : SExt env fp s fp' s'' := by
    refine ⟨fun b o ho hn => hk b o (e.keep b o ho) fun hq => hn (hq.imp id (Or.imp id fun h => nomatch h)), fun b o ho => hth b o (e.keep b o ho), fun a ha => (i2 a ha).elim (fun h => .inr (hfr a h)) .inl, hos.trans e.os, ?_⟩
    obtain ⟨more, h1, h2⟩ := e.gens
    exact ⟨more, hgens.trans h1, h2⟩
  have kp := S.kp sx
  refine ⟨fp', ⟨S.gl, fun b o ho => hk b o (e.keep b o (S.keep b o ho)) fun hq => ?_, S.kind, S.eg, S.eb, ⟨m', cm', hns, hcl, i3 _ _ kp (fun a o ha ho => ?_) (hb _ _ kp fun a o xs k ho hd => hk a o ho (own_no a o xs k ho hd))⟩, put_nodup S.names, i1, fun a ha => ?_, (fun a ha hG => (i2 a ha).elim (fun h => by obtain ⟨⟨o, ho⟩, _⟩ := S.GB a hG; rw [hfr a h] at ho; cases ho) (fun h => S.fpG a h hG)), (fun a ha => let ⟨⟨o, ho⟩, hk'⟩ := S.GB a ha; ⟨sx.there a o ho, hk'⟩), S.freshL, S.freshC, S.apart⟩, sx⟩
  · rcases hq with h | ⟨hfn, k', hk, hl⟩ | h
    · rw [h, S.freshL] at ho; cases ho
    · rw [S.freshC k' b hfn hk hl] at ho; cases ho
    · cases h
  · refine hk a o (e.keep a o ho) fun hq => ?_
    obtain ⟨m₀, cm₀, ⟨oL, es, ep, hL, hLd, _⟩, hc, hE₀⟩ := S.frame
    obtain ⟨xs, k, hd⟩ : ∃ xs k, o.data = .seq xs k := by
      obtain ⟨o', xs, k, ho', hd⟩ := EnvOk.seqs hE₀ a ha
      rw [ho] at ho'; cases ho'
      exact ⟨xs, k, hd⟩
    exact own_no a o xs k (e.keep a o ho) hd hq
  · rcases i2 a ha with h | h
    · cases q : B.get? a with
      | none => rfl
      | some o => have := S.keep a o q; rw [hfr a h] at this; cases this
    · exact S.fpB a h

theorem St.store {x : Str} {v : Value} {b : Bd} {f : List Addr} {Q : Unit → Shared → Prop} (S : St W env B G fp s ρ) (e : Ext s s') (hs : storable env x = true)
    (hf : f.Nodup) (hfr : ∀ a ∈ f, s.heap.get? a = Option.none)
    (hb : ∀ h' V', Kp s.heap (fp ++ G) h' V' → (∀ a o xs k, s'.heap.get? a = some o → o.data = .seq xs k → h'.get? a = some o) → BdOk h' V' b v f)
    (h : ∀ s'' fp', St W env B G fp' s'' (put ρ x b) → SExt env fp s fp' s'' → Q () s'') : wpAny W.M A (storeName env x v) Q E s' := by
  have hS' := S.ext e
  obtain ⟨m, cm, h1, h2, h3⟩ := S.frame
  have h1' := h1.keeps e.keep
  have h2' : ∀ n c, env.cells.lookup n = some c → s'.heap.IsCell c (cm n) := fun n c q => (h2 n c q).keeps e.keep
  unfold storable at hs
  obtain ⟨hs1, hs2⟩ := Bool.and_eq_true_iff.mp hs
  have hq : ((x == ("__debug__" : Str)) || (x == ("__classdict__" : Str))) = false := by simpa using hs1
  have hL : ∃ oL es ep, s'.heap.get? env.locals = some oL ∧ oL.data = .dict es ep := by obtain ⟨oL, es, ep, hL, hLd, _⟩ := h1'; exact ⟨oL, es, ep, hL, hLd⟩
  split at hs2
  · rename_i hk
    refine wpAny_storeName_local hk h1' (fun h' hn hsb => ?_) (by rw [S.kind]; rfl)
    obtain ⟨fp', hS, sx⟩ := St.stored (s'' := { s' with heap := h', toks := s'.toks + 1 }) (x := x) (v := v) (b := b) (cm' := cm) S e h3 rfl rfl hn
      (fun n c q => (h2' n c q).sameBut hsb fun ec => by
        obtain ⟨oL, es, ep, hL1, hL2⟩ := hL
        obtain ⟨oc, hoc, hcd⟩ := h2' n c q
        rw [ec, hL1] at hoc; cases hoc; rw [hL2] at hcd; cases hcd)
      (by unfold lookIn; rw [if_neg (by rw [hq]; exact Bool.false_ne_true), hk]; simp) (fun y hy => by
        unfold lookIn
        split
        · rfl
        · split <;> first | rfl | simp [hy])
      (fun b o ho hn => (hsb.2 b fun eb => hn (.inl eb)).trans ho) (fun b o ho => by
        by_cases eb : b = env.locals
        · obtain ⟨o', es, ep, ho', _⟩ := hn
          exact ⟨o', eb ▸ ho'⟩
        · exact ⟨o, (hsb.2 b eb).trans ho⟩) hf hfr hb
    exact h _ fp' hS sx
  · rename_i hk
    obtain ⟨hfn, hs2⟩ := Bool.and_eq_true_iff.mp hs2
    obtain ⟨c, hc⟩ := Option.isSome_iff_exists.mp hs2
    refine wpAny_storeName_cell S.kind hk hc (h2' x c hc) fun h' hcell hsb => ?_
    have cL : env.locals ≠ c := fun ec => by
      obtain ⟨oL, es, ep, hL1, hL2⟩ := hL
      obtain ⟨oc, hoc, hcd⟩ := h2' x c hc
      rw [← ec, hL1] at hoc; cases hoc; rw [hL2] at hcd; cases hcd
    obtain ⟨fp', hS, sx⟩ := St.stored (s'' := { s' with heap := h' }) (x := x) (v := v) (b := b) (m' := m) (cm' := fun y => if y = x then some v else cm y) S e h3 rfl rfl (h1'.sameBut hsb cL)
      (fun n c' q => by
        by_cases en : n = x
        · subst en
          rw [hc] at q; cases q
          simpa using hcell
        · simp only [en, if_false]
          exact (h2' n c' q).sameBut hsb fun ec => en (S.apart n x c (ec ▸ q) hc))
      (by unfold lookIn; rw [if_neg (by rw [hq]; exact Bool.false_ne_true), hk, hc]; simp) (fun y hy => by
        unfold lookIn
        split
        · rfl
        · split <;> first | rfl | simp [hy])
      (fun b o ho hn => (hsb.2 b fun eb => hn (.inr (.inl ⟨hfn, x, hk, eb ▸ hc⟩))).trans ho) (fun b o ho => by
        by_cases eb : b = c
        · obtain ⟨o', ho', _⟩ := hcell
          exact ⟨o', eb ▸ ho'⟩
        · exact ⟨o, (hsb.2 b eb).trans ho⟩) hf hfr hb
    exact h _ fp' hS sx
  · cases hs2
end
end Mine
end

-- M3
section
open PySem PySem.W PyProof.Rows
set_option maxRecDepth 100000
namespace Mine

/-- what a statement's (a block's) end must be good for -/
noncomputable abbrev SPost (W : Wd) (env : Env) (B : Heap) (G fp : List Addr) (s : Shared) (R : Rho → Fl → Prop) (Q : Flow → Shared → Prop) : Prop :=
  ∀ f s' ρ' fp' fl, R ρ' fl → St W env B G fp' s' ρ' → FlOk s'.heap (fp' ++ G) fl f → SExt env fp s fp' s' → Q f s'
structure Sx (W : Wd) (n : Nat) (env : Env) (ρ : Rho) (st : Stmt) (R : Rho → Fl → Prop) : Prop where
  r : ∀ (B : Heap) (G fp : List Addr) (s : Shared) (A : Around) (E : Value → Shared → Prop) (Q : Flow → Shared → Prop), St W env B G fp s ρ → AOk n A → SPost W env B G fp s R Q → wpAny W.M A (exec st env) Q E s
structure Bx (W : Wd) (n : Nat) (env : Env) (ρ : Rho) (sts : List Stmt) (R : Rho → Fl → Prop) : Prop where
  r : ∀ (B : Heap) (G fp : List Addr) (s : Shared) (A : Around) (E : Value → Shared → Prop) (Q : Flow → Shared → Prop), St W env B G fp s ρ → AOk n A → SPost W env B G fp s R Q → wpAny W.M A (execs sts env) Q E s

section
variable {W : Wd} {n : Nat} {env : Env} {B : Heap} {G fp fp' fp'' : List Addr} {s s' s'' : Shared} {ρ : Rho} {A : Around} {E : Value → Shared → Prop} {R R' : Rho → Fl → Prop} {st : Stmt} {sts rest : List Stmt}

theorem Bx.nil (h : R ρ .next) : Bx W n env ρ [] R := .mk fun B G fp s A E Q S hA hQ => wpAny_execs_nil (hQ _ s ρ fp .next h S rfl (SExt.refl ..))
theorem Bx.cons (h1 : Sx W n env ρ st R') (h2 : ∀ ρ', R' ρ' .next → Bx W n env ρ' rest R) (h3 : ∀ ρ' fl, fl ≠ .next → R' ρ' fl → R ρ' fl) : Bx W n env ρ (st :: rest) R :=
  .mk fun B G fp s A E Q S hA hQ => wpAny_execs_cons (h1.r B G fp s A E _ S hA fun f s' ρ' fp' fl hR S' hf sx => by
    cases fl with
    | next =>
      rw [show f = .next from hf]
      exact (h2 ρ' hR).r B G fp' s' A E Q S' hA fun f₂ s₂ ρ₂ fp₂ fl₂ r₂ S₂ hf₂ sx₂ => hQ f₂ s₂ ρ₂ fp₂ fl₂ r₂ S₂ hf₂ (sx.trans sx₂)
    | brk =>
      rw [show f = .brk from hf]
      exact hQ _ s' ρ' fp' .brk (h3 _ _ (by intro h; cases h) hR) S' rfl sx
    | cont =>
      rw [show f = .cont from hf]
      exact hQ _ s' ρ' fp' .cont (h3 _ _ (by intro h; cases h) hR) S' rfl sx
    | ret d =>
      obtain ⟨v, rfl, hv⟩ := hf
      exact hQ _ s' ρ' fp' (.ret d) (h3 _ _ (by intro h; cases h) hR) S' ⟨v, rfl, hv⟩ sx)
/-- a statement that always goes on, to one state -/
theorem Bx.seq {ρ' : Rho} (h1 : Sx W n env ρ st (fun r fl => r = ρ' ∧ fl = .next)) (h2 : Bx W n env ρ' rest R) : Bx W n env ρ (st :: rest) R :=
  Bx.cons h1 (fun ρ'' h => h.1 ▸ h2) fun _ _ hn h => absurd h.2 hn
theorem Bx.last (h1 : Sx W n env ρ st R) : Bx W n env ρ [st] R := Bx.cons h1 (fun _ h => Bx.nil h) fun _ _ _ h => h
theorem Sx.mono (h : Sx W n env ρ st R') (hr : ∀ ρ' fl, R' ρ' fl → R ρ' fl) : Sx W n env ρ st R := .mk fun B G fp s A E Q S hA hQ => h.r B G fp s A E Q S hA fun f s' ρ' fp' fl hR => hQ f s' ρ' fp' fl (hr _ _ hR)
theorem Bx.mono (h : Bx W n env ρ sts R') (hr : ∀ ρ' fl, R' ρ' fl → R ρ' fl) : Bx W n env ρ sts R := .mk fun B G fp s A E Q S hA hQ => h.r B G fp s A E Q S hA fun f s' ρ' fp' fl hR => hQ f s' ρ' fp' fl (hr _ _ hR)

theorem Sx.assign {x : Str} {p pos : Pos} {e : Expr} {d : D} (he : Ex W n env ρ e d) (hx : storable env x = true) (hs : swapsWith e (some (.Name x p)) pos.line env = pure false) :
    Sx W n env ρ (.Assign [.Name x p] e pos) (fun r fl => r = put ρ x (.sh d) ∧ fl = .next) := .mk fun B G fp s A E Q S hA hQ =>
  wpAny_Assign_Name (he.r B G fp s A E _ S hA fun v s₁ rv e₁ => (S.ext e₁).store (b := .sh d) (f := []) (Ext.refl s₁) hx .nil (fun _ h => nomatch h)
    (fun h' V' kp _ => ⟨Rd.mono kp _ _ rv, rfl⟩) fun s₂ fp' S₂ sx => hQ _ s₂ _ fp' .next ⟨rfl, rfl⟩ S₂ rfl (e₁.sext.trans sx)) hs

theorem Sx.ret {e : Expr} {pos : Pos} {d : D} (he : Ex W n env ρ e d) : Sx W n env ρ (.Return (some e) pos) (fun r fl => r = ρ ∧ fl = .ret d) := .mk fun B G fp s A E Q S hA hQ =>
  wpAny_Return_some (he.r B G fp s A E _ S hA fun v s₁ rv e₁ => hQ _ s₁ ρ fp (.ret d) ⟨rfl, rfl⟩ (S.ext e₁) ⟨v, rfl, rv⟩ e₁.sext)

theorem Sx.ite {test : Expr} {body orelse : List Stmt} {pos : Pos} {b : Bool} (ht : Tr W n env ρ test b) (h1 : b = true → Bx W n env ρ body R) (h2 : b = false → Bx W n env ρ orelse R) : Sx W n env ρ (.If test body orelse pos) R :=
  .mk fun B G fp s A E Q S hA hQ => wpAny_If (ht.r B G fp s A E _ S hA fun s₁ e₁ => by
    cases b with
    | true => rw [if_pos rfl]; exact (h1 rfl).r B G fp s₁ A E Q (S.ext e₁) hA fun f s' ρ' fp' fl hR S' hf sx => hQ f s' ρ' fp' fl hR S' hf (e₁.sext.trans sx)
    | false => rw [if_neg Bool.false_ne_true]; exact (h2 rfl).r B G fp s₁ A E Q (S.ext e₁) hA fun f s' ρ' fp' fl hR S' hf sx => hQ f s' ρ' fp' fl hR S' hf (e₁.sext.trans sx))

theorem Sx.brk {pos : Pos} (h : R ρ .brk) : Sx W n env ρ (.Break pos) R := .mk fun B G fp s A E Q S hA hQ => fun Γ p hΓ => hQ _ s ρ fp .brk h S rfl (SExt.refl ..)

theorem Sx.while {test : Expr} {body orelse : List Stmt} {pos : Pos} (I : Nat → Rho → Prop)
    (turn : ∀ k ρ, I k ρ → ∃ b, Tr W n env ρ test b ∧ (b = true → Bx W n env ρ body (fun ρ' fl => match fl with
        | .next | .cont => ∃ k', k' < k ∧ I k' ρ'
        | .brk => R ρ' .next
        | .ret d => R ρ' (.ret d))) ∧ (b = false → Bx W n env ρ orelse R)) (k : Nat) (h : I k ρ) : Sx W n env ρ (.While test body orelse pos) R :=
  .mk fun B G fp s A E Q S hA hQ => by
    refine wpAny_While (codeAny_whileLoop (fun k s' => ∃ ρ' fp', I k ρ' ∧ St W env B G fp' s' ρ' ∧ SExt env fp s fp' s') (fun k s₁ hI => ?_) k ⟨ρ, fp, h, S, SExt.refl ..⟩)
    obtain ⟨ρ₁, fp₁, hI, S₁, sx₁⟩ := hI
    obtain ⟨b, ht, hb1, hb2⟩ := turn k ρ₁ hI
    refine ht.r B G fp₁ s₁ A _ _ S₁ hA fun s₂ e₂ => ?_
    have S₂ := S₁.ext e₂
    have sx₂ := sx₁.trans (e₂.sext (env := env) (fp := fp₁))
    cases b with
    | true =>
      rw [if_pos rfl]
      refine (hb1 rfl).r B G fp₁ s₂ A _ _ S₂ hA fun f s₃ ρ₃ fp₃ fl hR S₃ hf sx₃ => ?_
      cases fl with
      | next => rw [show f = .next from hf]; obtain ⟨k', hk, hI'⟩ := hR; exact ⟨k', hk, ρ₃, fp₃, hI', S₃, sx₂.trans sx₃⟩
      | cont => rw [show f = .cont from hf]; obtain ⟨k', hk, hI'⟩ := hR; exact ⟨k', hk, ρ₃, fp₃, hI', S₃, sx₂.trans sx₃⟩
      | brk => rw [show f = .brk from hf]; exact hQ _ s₃ ρ₃ fp₃ .next hR S₃ rfl (sx₂.trans sx₃)
      | ret d => obtain ⟨v, rfl, hv⟩ := hf; exact hQ _ s₃ ρ₃ fp₃ (.ret d) hR S₃ ⟨v, rfl, hv⟩ (sx₂.trans sx₃)
    | false =>
      rw [if_neg Bool.false_ne_true]
      exact (hb2 rfl).r B G fp₁ s₂ A _ _ S₂ hA fun f s₃ ρ₃ fp₃ fl hR S₃ hf sx₃ => hQ f s₃ ρ₃ fp₃ fl hR S₃ hf (sx₂.trans sx₃)
end
end Mine
end

-- M4
section
open PySem PySem.W PyProof.Rows
set_option maxRecDepth 100000
namespace Mine

/-- what a turn of an iterator leaves -/
structure IExt (its : List Addr) (s s' : Shared) : Prop where
  keep : ∀ b o, b ∉ its → s.heap.get? b = some o → s'.heap.get? b = some o
  os : s'.os = s.os
  gens : s'.gens = s.gens

noncomputable def isTup : Expr → Bool
  | .Tuple .. => true
  | _ => false

structure IsIter (W : Wd) (n : Nat) (it : Addr) (its : List Addr) (P : Heap → List Addr → List D → Prop) (Pm : Heap → List Addr → List D → Value → Prop) : Prop where
  nextS : ∀ {s : Shared} {A : Around} {E : Value → Shared → Prop} {Q : Option Value → Shared → Prop} {V : List Addr} {d : D} {ds : List D}, P s.heap V (d :: ds) → (∀ a ∈ V, ∃ o, s.heap.get? a = some o) → AOk n A →
    (∀ v s', Rd s'.heap V d v → Pm s'.heap V ds v → IExt its s s' → Q (some v) s') → wpAny W.M A (pyNext (.ref it)) Q E s
  nextN : ∀ {s : Shared} {A : Around} {E : Value → Shared → Prop} {Q : Option Value → Shared → Prop} {V : List Addr}, P s.heap V [] → AOk n A →
    (∀ s', IExt its s s' → Q Option.none s') → wpAny W.M A (pyNext (.ref it)) Q E s
  go : ∀ {s : Shared} {A : Around} {E : Value → Shared → Prop} {Q : Unit → Shared → Prop} {V : List Addr} {ds : List D} (target : Expr) (v : Value), (isTup target = true ∨ ∀ h V ds v, Pm h V ds v → P h V ds) → Pm s.heap V ds v →
    (∀ s', P s'.heap V ds → IExt its s s' → Q () s') → wpAny W.M A (letOwnedTupleGo target (.ref it) v) Q E s
  again : ∀ {s : Shared} {A : Around} {E : Value → Shared → Prop} {Q : Value → Shared → Prop} {V : List Addr} {ds : List D}, P s.heap V ds → AOk n A → Q (.ref it) s → wpAny W.M A (pyIter (.ref it)) Q E s
  stable : ∀ {h h' : Heap} {V V' : List Addr} {ds : List D}, P h V ds → Kp h V h' V' → (∀ a ∈ its, ∀ o, h.get? a = some o → h'.get? a = some o) → P h' V' ds
  fldsM : ∀ {h : Heap} {V : List Addr} {ds : List D} {v : Value}, Pm h V ds v → ∀ a ∈ its, ∃ o vs, h.get? a = some o ∧ o.data = .fields vs
  flds : ∀ {h : Heap} {V : List Addr} {ds : List D}, P h V ds → ∀ a ∈ its, ∃ o vs, h.get? a = some o ∧ o.data = .fields vs

section
variable {prog : Program} {w : World} {A : Around} {s : Shared}
theorem forLoopT {R : Result → Shared → Prop} {target it body orelse env} (I : Nat → Shared → Prop)
    (turn : ∀ n s, I n s → wpAny (model prog w) A (pyNext it) (fun r s₁ => match r with
      | Option.none => wpAny (model prog w) A (execs orelse env) (fun f s₃ => R (.ok f) s₃) (notedBy (model prog w) A env fun e s' => R (.error e) s') s₁
      | some v => wpAny (model prog w) A (letOwnedTupleGo target it v) (fun _ s₁ => wpAny (model prog w) A (assign target env v) (fun _ s₂ => wpAny (model prog w) A (execs body env) (fun f s₃ => match f with
          | .next | .cont => ∃ m, m < n ∧ I m s₃
          | .brk => R (.ok .next) s₃
          | .ret v => R (.ok (.ret v)) s₃) (notedBy (model prog w) A env fun e s' => R (.error e) s') s₂) (notedBy (model prog w) A env fun e s' => R (.error e) s') s₁) (notedBy (model prog w) A env fun e s' => R (.error e) s') s₁) (notedBy (model prog w) A env fun e s' => R (.error e) s') s)
    (n : Nat) (h : I n s) : codeAny (model prog w) A (.forLoop target it body orelse env) R s := by
  refine codeAny_loop' rfl I (fun n s hI => ?_) n h
  show wpAny _ _ ((forTurn target it body orelse env).onRaise (fun x => do noteFrame x env; theTreesLotGoes x)) _ _ s
  refine wpAny_noted ?_
  simp only [forTurn]
  refine wpAny_bind (wpAny_standAt (wpAny_bind (wpAny_onRaise (wpAny_mono (turn n s hI) (fun r s₁ h₁ => ?_) fun _ _ h' => wpAny_standAt h'))))
  cases r with
  | none => exact wpAny_pure (.inr ⟨rfl, codeAny_block h₁⟩)
  | some v =>
    refine wpAny_bind (wpAny_mono h₁ (fun _ s₁' h₁' => ?_) fun _ _ h' => h')
    refine wpAny_bind (wpAny_mono h₁' (fun _ s₂ h₂ => wpAny_bind (wpAny_mono h₂ (fun f s₃ h₃ => ?_) fun _ _ h' => h')) fun _ _ h' => h')
    cases f with
    | next => exact wpAny_pure (.inl ⟨rfl, h₃⟩)
    | cont => exact wpAny_pure (.inl ⟨rfl, h₃⟩)
    | brk => exact wpAny_pure h₃
    | ret v => exact wpAny_pure h₃
end

section
variable {W : Wd} {n : Nat} {env : Env} {B : Heap} {G fp fp' fp'' : List Addr} {s s' s'' : Shared} {ρ : Rho} {A : Around} {E : Value → Shared → Prop} {R R' : Rho → Fl → Prop}

/-- the iterator's own objects are none of the frame's -/
theorem St.after {its : List Addr} (S : St W env B G fp s ρ) (x : IExt its s s') (hB : ∀ a ∈ its, B.get? a = Option.none) (hG : ∀ a ∈ G, a ∉ its) (hf : ∀ a ∈ its, ∃ o vs, s.heap.get? a = some o ∧ o.data = .fields vs) : St W env B G fp s' ρ := by
  have ns : ∀ b o, s.heap.get? b = some o → (∀ vs, o.data ≠ .fields vs) → s'.heap.get? b = some o := fun b o ho hd => x.keep b o (fun hb => by
    obtain ⟨o', vs, h1, h2⟩ := hf b hb
    rw [ho] at h1; cases h1
    exact hd vs h2) ho
  obtain ⟨m, cm, ⟨oL, es, ep, hL, hLd, hr⟩, h2, h3⟩ := S.frame
  have kp : Kp s.heap (fp ++ G) s'.heap (fp ++ G) := fun b o xs k ho hd hn => ⟨ns b o ho (fun vs e => by rw [hd] at e; cases e), hn⟩
  refine ⟨S.gl, fun b o q => x.keep b o (fun hb => by rw [hB b hb] at q; cases q) (S.keep b o q), S.kind, S.eg, S.eb, ⟨m, cm, ⟨oL, es, ep, ns _ _ hL (fun vs e => by rw [hLd] at e; cases e), hLd, hr⟩, fun k c q => ?_, EnvOk.mono kp (fun a o ha ho => ?_) h3⟩, S.names, S.fpn, S.fpB, S.fpG, (fun a ha => let ⟨⟨o, ho⟩, hk'⟩ := S.GB a ha; ⟨⟨o, x.keep a o (hG a ha) ho⟩, hk'⟩), S.freshL, S.freshC, S.apart⟩
  · obtain ⟨oc, hoc, hcd⟩ := h2 k c q
    exact ⟨oc, ns _ _ hoc (fun vs e => by rw [hcd] at e; cases e), hcd⟩
  · obtain ⟨o', xs, k, ho', hd⟩ := EnvOk.seqs h3 a ha
    rw [ho] at ho'; cases ho'
    exact ns a o ho fun vs e => by rw [hd] at e; cases e

/-- the expression e, iterated, hands out the data ds -/
structure Itx (W : Wd) (n : Nat) (env : Env) (ρ : Rho) (e : Expr) (ds : List D) : Prop where
  r : ∀ (B : Heap) (G fp : List Addr) (s : Shared) (A : Around) (E : Value → Shared → Prop) (Q : Value → Shared → Prop), St W env B G fp s ρ → AOk n A →
    (∀ it its P Pm s', IsIter W n it its P Pm → (∀ h V ds v, Pm h V ds v → P h V ds) → P s'.heap (fp ++ G) ds → (∀ a ∈ its, s.heap.get? a = Option.none) → Ext s s' → Q (.ref it) s') →
    wpAny W.M A (eval e env) (fun x s₁ => wpAny W.M A (pyIter x) Q E s₁) E s
/-- the same, for a for statement alone -/
structure ItxT (W : Wd) (n : Nat) (env : Env) (ρ : Rho) (target e : Expr) (ds : List D) : Prop where
  r : ∀ (B : Heap) (G fp : List Addr) (s : Shared) (A : Around) (E : Value → Shared → Prop) (Q : Value → Shared → Prop), St W env B G fp s ρ → AOk n A →
    (∀ it its P Pm s', IsIter W n it its P Pm → (isTup target = true ∨ ∀ h V ds v, Pm h V ds v → P h V ds) → P s'.heap (fp ++ G) ds → (∀ a ∈ its, s.heap.get? a = Option.none) → Ext s s' → Q (.ref it) s') →
    wpAny W.M A (eval e env) (fun x s₁ => wpAny W.M A (pyIter x) Q E s₁) E s
theorem Itx.toT {target e : Expr} {ds : List D} (h : Itx W n env ρ e ds) : ItxT W n env ρ target e ds := .mk fun B G fp s A E Q S hA hQ => h.r B G fp s A E Q S hA fun it its P Pm s' hI hp => hQ it its P Pm s' hI (.inr hp)
structure IterOf (W : Wd) (n : Nat) (d : D) (ds : List D) : Prop where
  r : ∀ (s : Shared) (A : Around) (v : Value) (V : List Addr) (E : Value → Shared → Prop) (Q : Value → Shared → Prop), Gl W s.heap → AOk n A → Rd s.heap V d v → VOk W s.heap V →
    (∀ it its P Pm s', IsIter W n it its P Pm → (∀ h V ds v, Pm h V ds v → P h V ds) → P s'.heap V ds → (∀ a ∈ its, s.heap.get? a = Option.none) → Ext s s' → Q (.ref it) s') → wpAny W.M A (pyIter v) Q E s
theorem Itx.of {e : Expr} {d : D} {ds : List D} (he : Ex W n env ρ e d) (hi : IterOf W n d ds) : Itx W n env ρ e ds := .mk fun B G fp s A E Q S hA hQ =>
  he.r B G fp s A E _ S hA fun v s₁ rv e₁ => hi.r s₁ A v (fp ++ G) E Q (S.ext e₁).gl' hA rv (S.ext e₁).valloc fun it its P Pm s' hI hpl hP hfr e₂ => hQ it its P Pm s' hI hpl hP (fun a ha => by
    cases q : s.heap.get? a with
    | none => rfl
    | some o => have := e₁.keep a o q; rw [hfr a ha] at this; cases this) (e₁.trans e₂)

/-- the target takes the datum d -/
structure Ax (W : Wd) (n : Nat) (env : Env) (ρ : Rho) (target : Expr) (d : D) (ρ' : Rho) : Prop where
  r : ∀ (B : Heap) (G fp : List Addr) (s : Shared) (A : Around) (E : Value → Shared → Prop) (Q : Unit → Shared → Prop) (v : Value), St W env B G fp s ρ → AOk n A → Rd s.heap (fp ++ G) d v →
    (∀ s' fp', St W env B G fp' s' ρ' → SExt env fp s fp' s' → Q () s') → wpAny W.M A (assign target env v) Q E s
theorem Ax.name {x : Str} {pos : Pos} {d : D} (hx : storable env x = true) : Ax W n env ρ (.Name x pos) d (put ρ x (.sh d)) := .mk fun B G fp s A E Q v S hA rv h =>
  wpAny_assign_Name (S.store (b := .sh d) (f := []) (Ext.refl s) hx .nil (fun _ h => nomatch h) (fun h' V' kp _ => ⟨Rd.mono kp _ _ rv, rfl⟩) h)

noncomputable def LoopP (W : Wd) (n : Nat) (env : Env) (target : Expr) (body orelse : List Stmt) (R : Rho → Fl → Prop) : List D → Rho → Prop
  | [], ρ => Bx W n env ρ orelse R
  | d :: ds, ρ => ∃ ρ₁, Ax W n env ρ target d ρ₁ ∧ Bx W n env ρ₁ body (fun ρ' fl => match fl with
      | .next | .cont => LoopP W n env target body orelse R ds ρ'
      | .brk => R ρ' .next
      | .ret d => R ρ' (.ret d))

theorem Sx.for {target iter : Expr} {body orelse : List Stmt} {pos : Pos} {ds : List D} (hi : ItxT W n env ρ target iter ds) (hl : LoopP W n env target body orelse R ds ρ)
    (hs : ∀ x, foldedSetIterable iter env x = pure x) : Sx W n env ρ (.For target iter body orelse pos) R := .mk fun B G fp s A E Q S hA hQ => by
  refine wpAny_For (hi.r B G fp s A E _ S hA fun it its P Pm s₁ hI htg hP hfr e₁ => ?_) hs
  have hB : ∀ a ∈ its, B.get? a = Option.none := fun a ha => by
    cases q : B.get? a with
    | none => rfl
    | some o => have := S.keep a o q; rw [hfr a ha] at this; cases this
  have hG : ∀ a ∈ G, a ∉ its := fun a ha hi => by
    obtain ⟨⟨o, ho⟩, _⟩ := S.GB a ha
    rw [hfr a hi] at ho; cases ho
  refine forLoopT (fun k s' => ∃ ρ' fp' ds', ds'.length = k ∧ LoopP W n env target body orelse R ds' ρ' ∧ P s'.heap (fp' ++ G) ds' ∧ St W env B G fp' s' ρ' ∧ SExt env fp s fp' s') (fun k s₂ hI₂ => ?_) ds.length ⟨ρ, fp, ds, rfl, hl, hP, S.ext e₁, e₁.sext⟩
  obtain ⟨ρ₂, fp₂, ds₂, rfl, hl₂, hP₂, S₂, sx₂⟩ := hI₂
  have hfl := fun {ds} (hP : P s₂.heap (fp₂ ++ G) ds) => hI.flds hP
  have isx : ∀ {s₂ s₃ : Shared} {fp₂ : List Addr}, SExt env fp s fp₂ s₂ → St W env B G fp₂ s₂ ρ₂ → IExt its s₂ s₃ → SExt env fp s fp₂ s₃ := fun {s₂ s₃ fp₂} a S' x => by
    obtain ⟨more, h1, h2⟩ := a.gens
    refine ⟨fun b o ho hn => x.keep b o (fun hb => by rw [hfr b hb] at ho; cases ho) (a.keep b o ho hn), fun b o ho => let ⟨o', ho'⟩ := a.there b o ho; ⟨o', x.keep b o' (fun hb => by rw [hfr b hb] at ho; cases ho) ho'⟩, a.new, x.os.trans a.os, more, x.gens.trans h1, h2⟩
  cases ds₂ with
  | nil =>
    refine hI.nextN hP₂ hA fun s₃ x₃ => ?_
    have S₃ := S₂.after x₃ hB hG (hI.flds hP₂)
    refine hl₂.r B G fp₂ s₃ A _ _ S₃ hA fun f s₄ ρ₄ fp₄ fl hR S₄ hf sx₄ => hQ f s₄ ρ₄ fp₄ fl hR S₄ hf ((isx sx₂ S₂ x₃).trans sx₄)
  | cons d ds₂ =>
    refine hI.nextS hP₂ (fun a ha => (S₂.valloc a ha).1) hA fun v s₃ rv hP₃ x₃ => ?_
    have S₃ := S₂.after x₃ hB hG (hI.flds hP₂)
    have sx₃ := isx sx₂ S₂ x₃
    refine hI.go target v htg hP₃ fun s₃' hP₃' x₃' => ?_
    have S₃' := S₃.after x₃' hB hG (hI.fldsM hP₃)
    have sx₃' : SExt env fp s fp₂ s₃' := isx sx₃ S₃ x₃'
    have rv' : Rd s₃'.heap (fp₂ ++ G) d v := Rd.mono (fun b o xs k ho hd hn => ⟨x₃'.keep b o (fun hb => by
      obtain ⟨o', vs, h1, h2⟩ := hI.fldsM hP₃ b hb
      rw [ho] at h1; cases h1; rw [hd] at h2; cases h2) ho, hn⟩) d v rv
    obtain ⟨ρ₁, hax, hbx⟩ := hl₂
    refine hax.r B G fp₂ s₃' A _ _ v S₃' hA rv' fun s₄ fp₄ S₄ sx₄ => ?_
    refine hbx.r B G fp₄ s₄ A _ _ S₄ hA fun f s₅ ρ₅ fp₅ fl hR S₅ hf sx₅ => ?_
    have sx₄₅ := sx₄.trans sx₅
    have hP₅ : P s₅.heap (fp₅ ++ G) ds₂ := hI.stable hP₃' (S₃'.kp sx₄₅) fun a ha o ho => sx₄₅.keep a o ho fun hq => by
      obtain ⟨o', vs, h1, h2⟩ := hI.flds hP₃' a ha
      rw [ho] at h1; cases h1
      obtain ⟨m, cm, ⟨oL, es, ep, hL, hLd, _⟩, hc, hE⟩ := S₃'.frame
      rcases hq with h | ⟨hfn, k', hk, hl⟩ | h
      · subst h; rw [ho] at hL; cases hL; rw [h2] at hLd; cases hLd
      · obtain ⟨oc, hoc, hcd⟩ := hc k' a hl
        rw [ho] at hoc; cases hoc; rw [h2] at hcd; cases hcd
      · obtain ⟨o₂, xs, k, ho₂, hd⟩ := EnvOk.seqs hE a h
        rw [ho] at ho₂; cases ho₂; rw [h2] at hd; cases hd
    have sxf := sx₃'.trans sx₄₅
    cases fl with
    | next => rw [show f = .next from hf]; exact ⟨ds₂.length, by simp, ρ₅, fp₅, ds₂, rfl, hR, hP₅, S₅, sxf⟩
    | cont => rw [show f = .cont from hf]; exact ⟨ds₂.length, by simp, ρ₅, fp₅, ds₂, rfl, hR, hP₅, S₅, sxf⟩
    | brk => rw [show f = .brk from hf]; exact hQ _ s₅ ρ₅ fp₅ .next hR S₅ rfl sxf
    | ret r => obtain ⟨u, rfl, hu⟩ := hf; exact hQ _ s₅ ρ₅ fp₅ (.ret r) hR S₅ ⟨u, rfl, hu⟩ sxf
end
end Mine
end

-- M5
section
open PySem PySem.W PyProof.Rows
set_option maxRecDepth 100000
namespace Mine
section
variable {W : Wd} {n : Nat} {env : Env} {B : Heap} {G fp fp' fp'' : List Addr} {s s' s'' : Shared} {ρ : Rho} {A : Around} {E : Value → Shared → Prop} {R R' : Rho → Fl → Prop}

theorem call_cells {prog : Program} {w : World} {R : Result → Shared → Prop} {a : Addr} {o : Obj} {fd : FuncData} {body : List Stmt} {args : Args} {binds : List (Str × Value)}
    (hroom : A.depth < recursionLimit) (ho : s.heap.get? a = some o) (hdata : o.data = .func fd) (hlim : s.heap.NoLimit) (hcd : s.heap.CodeRec fd.code fd.qualname)
    (hbody : fd.body = .stmts body) (hbind : BindsTo s fd args binds) (hclo : fd.closure = [])
    (hkind : ∀ x ∈ binds, fd.scope.names.lookup x.1 = some .local ∨ (fd.scope.names.lookup x.1 = some .cell ∧ ((cellsFrom (s.heap.objs.size + 1) fd.scope.names []).lookup x.1).isSome = true))
    (h : ∀ s₁, InCallC s (callEnvC fd s.heap.objs.size a).locals (bindL (callEnvC fd s.heap.objs.size a).kindOf binds fun _ => Option.none) (callEnvC fd s.heap.objs.size a).cells
        (bindC (callEnvC fd s.heap.objs.size a).kindOf binds fun _ => Option.none) s₁ →
      wpAny (model prog w) (A.deeper (callEnvC fd s.heap.objs.size a)) (execs body (callEnvC fd s.heap.objs.size a)) (fun f s' => R (.ok (.ret (match f with | .ret v => v | _ => .none))) s')
        (fun e s' => wpAny (model prog w) (A.deeper (callEnvC fd s.heap.objs.size a)) (leaving (callEnvC fd s.heap.objs.size a) e) (fun _ s'' => R (.error e) s'') (fun e' s'' => R (.error e') s'') s') s₁)
    (hco : fd.scope.isCoroutine = false) (hgen : fd.scope.isGenerator = false) (hk : fd.scope.kind = .function) :
    codeAny (model prog w) A (.call (.ref a) args) R s := by
  refine codeAny_call_function hroom ho hdata hco hgen hbody hcd (hbind _ _ _ _ ?_)
  rw [hclo]
  refine wpAny_newFunctionEnv_cells hk hkind fun env he s' x => ?_
  subst he
  exact ⟨hlim.keeps x.toInCall.keep, codeAny_func (h s' x)⟩

/-- how the parameters stand -/
theorem bindL_other {kf : Str → Option NameKind} {x : Str} : ∀ (binds : List (Str × Value)) (m : Str → Option Value), x ∉ binds.map (·.1) → bindL kf binds m x = m x
  | [], _, _ => rfl
  | (y, v) :: r, m, h => by
    unfold bindL
    rw [bindL_other r _ fun q => h (.tail _ q)]
    have : x ≠ y := fun e => h (e ▸ .head _)
    split <;> simp [this]
theorem bindC_other {kf : Str → Option NameKind} {x : Str} : ∀ (binds : List (Str × Value)) (m : Str → Option Value), x ∉ binds.map (·.1) → bindC kf binds m x = m x
  | [], _, _ => rfl
  | (y, v) :: r, m, h => by
    unfold bindC
    rw [bindC_other r _ fun q => h (.tail _ q)]
    have : x ≠ y := fun e => h (e ▸ .head _)
    split <;> simp [this]
theorem bindL_at {kf : Str → Option NameKind} {x : Str} {v : Value} : ∀ (binds : List (Str × Value)) (m : Str → Option Value), (binds.map (·.1)).Nodup → (x, v) ∈ binds → kf x = some .local → bindL kf binds m x = some v
  | (y, u) :: r, m, hn, h, hk => by
    have hn' := List.nodup_cons.mp (show (y :: r.map (·.1)).Nodup from hn)
    unfold bindL
    rcases List.mem_cons.mp h with e | h
    · cases e
      rw [bindL_other r _ hn'.1, if_pos hk]; simp
    · exact bindL_at r _ hn'.2 h hk
theorem bindC_at {kf : Str → Option NameKind} {x : Str} {v : Value} : ∀ (binds : List (Str × Value)) (m : Str → Option Value), (binds.map (·.1)).Nodup → (x, v) ∈ binds → kf x ≠ some .local → bindC kf binds m x = some v
  | (y, u) :: r, m, hn, h, hk => by
    have hn' := List.nodup_cons.mp (show (y :: r.map (·.1)).Nodup from hn)
    unfold bindC
    rcases List.mem_cons.mp h with e | h
    · cases e
      rw [bindC_other r _ hn'.1, if_neg hk]; simp
    · exact bindC_at r _ hn'.2 h hk

noncomputable def shs : List Str → List D → Rho
  | x :: xs, d :: ds => (x, .sh d) :: shs xs ds
  | _, _ => []
theorem EnvOk.shs {look : Str → Option Value} {h : Heap} {V : List Addr} : ∀ {binds : List (Str × Value)} {ds : List D}, (∀ x v, (x, v) ∈ binds → look x = some v) → RdL h V ds (binds.map (·.2)) → EnvOk look h V (Mine.shs (binds.map (·.1)) ds) []
  | [], [], _, _ => rfl
  | [], _ :: _, _, _ => rfl
  | _ :: _, [], _, hr => by cases hr
  | (x, v) :: r, d :: ds, hl, hr => by
    obtain ⟨v', vs', e, h1, h2⟩ := hr
    simp only [List.map_cons, List.cons.injEq] at e
    obtain ⟨rfl, rfl⟩ := e
    exact ⟨v, [], [], hl x v (.head _), ⟨h1, rfl⟩, EnvOk.shs (fun y u h => hl y u (.tail _ h)) h2, rfl⟩
theorem shs_names : ∀ (xs : List Str) (ds : List D), ((shs xs ds).map (·.1)).Sublist xs
  | [], _ => by simp [shs]
  | _ :: _, [] => by simp [shs]
  | x :: xs, d :: ds => by simp only [shs, List.map_cons]; exact (shs_names xs ds).cons_cons x

/-- what is asked of a def -/
structure DefOk (W : Wd) (a : Addr) (fd : FuncData) (body : List Stmt) (params : List Str) : Prop where
  obj : ∃ oc od osl, W.K.lookup a = some ⟨oc, od, .func fd, osl⟩
  code : codeIn W.K fd.code fd.qualname = true
  body : fd.body = .stmts body
  clo : fd.closure = []
  gl : fd.globals = mainGlobals
  bu : fd.builtins = builtinsNs
  co : fd.scope.isCoroutine = false
  kind : fd.scope.kind = .function
  nodup : params.Nodup
  kinds : (params.all fun x => !((x == ("__debug__" : Str)) || (x == ("__classdict__" : Str))) && (fd.scope.names.lookup x == some .local || fd.scope.names.lookup x == some .cell)) = true

theorem run_def {a : Addr} {fd : FuncData} {body : List Stmt} {args : Args} {binds : List (Str × Value)} {ds : List D} {d : D} {V : List Addr} {Q : Value → Shared → Prop} (H : DefOk W a fd body (binds.map (·.1)))
    (hgen : fd.scope.isGenerator = false) (hbind : BindsTo s fd args binds) (hg : Gl W s.heap) (hA : AOk (n + 1) A) (hr : RdL s.heap V ds (binds.map (·.2))) (hV : VOk W s.heap V)
    (h : ∀ L, Bx W n (callEnvC fd L a) (shs (binds.map (·.1)) ds) body (fun _ fl => fl = .ret d)) (hQ : ∀ v s', Rd s'.heap V d v → Ext s s' → Q v s') : wpAny W.M A (call (.ref a) args.pos args.kw) Q E s := by
  obtain ⟨oc, od, osl, hobj⟩ := H.obj
  have hkk : ∀ x v, (x, v) ∈ binds → ((x == ("__debug__" : Str)) || (x == ("__classdict__" : Str))) = false ∧ (fd.scope.names.lookup x = some .local ∨ fd.scope.names.lookup x = some .cell) := fun x v hx => by
    have q := List.all_eq_true.mp H.kinds x (List.mem_map_of_mem (f := (·.1)) hx)
    obtain ⟨q1, q2⟩ := Bool.and_eq_true_iff.mp q
    exact ⟨by simpa using q1, (Bool.or_eq_true_iff.mp q2).imp (fun e => beq_iff_eq.mp e) fun e => beq_iff_eq.mp e⟩
  have hA' := hA.dp
  have hU' := hA.un
  refine wpAny_call (call_cells (by show A.depth < 1000; omega) (hg.k a _ hobj) rfl hg.nl (codeRec_of hg.k H.code) H.body hbind H.clo (fun x hx => (hkk x.1 x.2 hx).2.imp id fun e => ⟨e, cellsFrom_some _ _ _ (.inl e)⟩) (fun s₁ x => ?_) H.co hgen H.kind)
  refine (h s.heap.objs.size).r s.heap V [] s₁ _ _ _ ?_ ⟨hA.hd, by show A.depth + 1 + n ≤ 900; omega, by show A.units + 3 + 100 * n ≤ 9000; omega⟩ ?_
  · refine ⟨hg, x.toInCall.keep, H.kind, H.gl, H.bu, ⟨_, _, x.toInCall.ns, x.cell, ?_⟩, (shs_names _ _).nodup H.nodup, .nil, (fun _ h => nomatch h), (fun _ h => nomatch h), (fun a ha => let ⟨⟨o, ho⟩, hk'⟩ := hV a ha; ⟨⟨o, x.toInCall.keep a o ho⟩, hk'⟩), ?_, fun k c _ hk hc => ?_, fun k k' c hc hc' => name_of_addr x.apart (mem_of_lookup hc) (mem_of_lookup hc')⟩
    · refine EnvOk.shs (fun y v hy => ?_) (RdL.mono (fun b o xs k ho _ hn => ⟨x.toInCall.keep b o ho, by simpa using hn⟩) _ _ hr)
      obtain ⟨q1, q2⟩ := hkk y v hy
      have ek : (callEnvC fd s.heap.objs.size a).kindOf y = fd.scope.names.lookup y := rfl
      unfold lookIn
      rw [q1, if_neg Bool.false_ne_true]
      rcases q2 with q | q
      · rw [ek, q]
        exact bindL_at binds _ H.nodup hy (ek.trans q)
      · rw [ek, q]
        have : ((callEnvC fd s.heap.objs.size a).cells.lookup y).isSome = true := cellsFrom_some _ _ _ (.inl q)
        obtain ⟨c, hc⟩ := Option.isSome_iff_exists.mp this
        simp only [hc, Option.bind_some]
        exact bindC_at binds _ H.nodup hy (by rw [ek, q]; decide)
    · cases q : s.heap.get? (callEnvC fd s.heap.objs.size a).locals with
      | none => rfl
      | some o => exact absurd (Heap.lt_size q) (Nat.lt_irrefl _)
    · cases q : s.heap.get? c with
      | none => rfl
      | some o =>
        have h1 := x.above k c (mem_of_lookup hc)
        have h2 := Heap.lt_size q
        exact absurd (Nat.lt_trans h1 h2) (Nat.lt_irrefl _)
  · intro f s₂ ρ₂ fp₂ fl hR S₂ hf sx
    subst hR
    obtain ⟨v, rfl, hv⟩ := hf
    obtain ⟨h₁, tk, rfl⟩ := x.toInCall.same
    obtain ⟨more, g1, g2⟩ := sx.gens
    exact hQ v s₂ (Rd.mono (fun b o xs k ho _ hn => ⟨ho, fun hb => hn (List.mem_append_right _ hb)⟩) _ _ hv) ⟨S₂.keep, sx.os, more, g1, g2⟩

theorem Fn.of_def {a : Addr} {fd : FuncData} {body : List Stmt} {params : List Str} {ds : List D} {d : D} (H : DefOk W a fd body params) (hgen : fd.scope.isGenerator = false) (hl : ds.length = params.length)
    (hb : ∀ vs : List Value, vs.length = params.length → bindArgs fd ⟨vs, []⟩ = pure (params.zip vs))
    (h : ∀ L, Bx W n (callEnvC fd L a) (shs params ds) body (fun _ fl => fl = .ret d)) : Fn W (n + 1) (.ref a) ds d := .mk fun s A vs V E Q hg hA hr hV hQ => by
  have hvl : vs.length = params.length := by rw [RdL.length hr, hl]
  have e1 : (params.zip vs).map (·.1) = params := by rw [List.map_fst_zip (by omega)]
  have e2 : (params.zip vs).map (·.2) = vs := by rw [List.map_snd_zip (by omega)]
  exact run_def (args := ⟨vs, []⟩) (binds := params.zip vs) (by rw [e1]; exact H) hgen (BindsTo.of_eq (hb vs hvl)) hg hA (by rw [e2]; exact hr) hV (by rw [e1]; exact h) hQ
/-- the arguments of a def of one, of two parameters -/
theorem bind1 {fd : FuncData} {x : Str} (h : ∀ a, bindArgs fd ⟨[a], []⟩ = pure [(x, a)]) : ∀ vs : List Value, vs.length = [x].length → bindArgs fd ⟨vs, []⟩ = pure ([x].zip vs) := fun vs hv => by
  obtain ⟨a, rfl⟩ := List.length_eq_one_iff.mp (show vs.length = 1 from hv)
  exact h a
theorem bind2 {fd : FuncData} {x y : Str} (h : ∀ a b, bindArgs fd ⟨[a, b], []⟩ = pure [(x, a), (y, b)]) : ∀ vs : List Value, vs.length = [x, y].length → bindArgs fd ⟨vs, []⟩ = pure ([x, y].zip vs) := fun vs hv => by
  cases vs with
  | nil => cases hv
  | cons a r =>
    obtain ⟨b, rfl⟩ := List.length_eq_one_iff.mp (show r.length = 1 from Nat.succ.inj hv)
    exact h a b
end
end Mine
end

-- M6
section
open PySem PySem.W PyProof.Rows
set_option maxRecDepth 100000
namespace Mine
section
variable {W : Wd} {n m : Nat} {env : Env} {B : Heap} {G fp fp' fp'' : List Addr} {s s' s'' : Shared} {ρ : Rho} {A : Around} {E : Value → Shared → Prop} {R R' : Rho → Fl → Prop}

/-- several expressions, one behind the other -/
structure Exs (W : Wd) (n : Nat) (env : Env) (ρ : Rho) (es : List Expr) (ds : List D) : Prop where
  r : ∀ (B : Heap) (G fp : List Addr) (s : Shared) (A : Around) (E : Value → Shared → Prop) (Q : List Value → Shared → Prop), St W env B G fp s ρ → AOk n A →
    (∀ vs s', RdL s'.heap (fp ++ G) ds vs → Ext s s' → Q vs s') → wpAny W.M A (spliced (es.map fun e => (false, eval e env))) Q E s
theorem Exs.nil : Exs W n env ρ [] [] := .mk fun B G fp s A E Q S hA h => Calls.spliced_nil (h [] s rfl (Ext.refl s))
theorem Exs.cons {e : Expr} {es : List Expr} {d : D} {ds : List D} (h1 : Ex W n env ρ e d) (h2 : Exs W n env ρ es ds) : Exs W n env ρ (e :: es) (d :: ds) := .mk fun B G fp s A E Q S hA h =>
  Calls.spliced_cons (h1.r B G fp s A E _ S hA fun v s₁ rv e₁ => h2.r B G fp s₁ A E _ (S.ext e₁) hA fun vs s₂ rvs e₂ => h (v :: vs) s₂ ⟨v, vs, rfl, rv.ext e₂, rvs⟩ (e₁.trans e₂))
noncomputable def plainArgs : List Expr → Bool
  | [] => true
  | .Starred _ _ :: _ => false
  | _ :: r => plainArgs r
theorem starEach_plain {env : Env} : ∀ {es : List Expr}, plainArgs es = true → starEach es env = es.map fun e => (false, eval e env)
  | [], _ => rfl
  | e :: r, h => by
    unfold plainArgs at h
    split at h
    · rename_i q; cases q
    · cases h
    · rename_i hx q
      cases q
      rw [List.map_cons, ← starEach_plain h]
      cases e <;> first | rfl | exact (hx _ _ rfl).elim
theorem backTo_plain {pos : Pos} {es : List Expr} (h : plainArgs es = true) : backTo pos (starEach es env) = es.map fun e => (false, eval e env) := by
  rw [starEach_plain h]
  unfold backTo
  rw [List.map_map]
  exact List.map_congr_left fun e _ => rfl

/-- a name of the module's or a built-in one -/
structure Gv (W : Wd) (env : Env) (f : Str) (fv : Value) : Prop where
  kind : env.kindOf f = some .globalImplicit
  dbg : (f == ("__debug__" : Str)) = false
  val : W.mg f = some fv ∨ (W.mg f = Option.none ∧ W.mb f = some fv)
theorem Gv.load {f : Str} {fv : Value} {pos : Pos} {Q : Value → Shared → Prop} (g : Gv W env f fv) (S : St W env B G fp s ρ) (h : Q fv s) : wpAny W.M A (eval (.Name f pos) env) Q E s := by
  refine Calls.Name_function_global S.kind g.kind ?_ g.dbg
  have hg := S.gl'.g
  have hb := S.gl'.b
  rw [← S.eg] at hg
  rw [← S.eb] at hb
  rcases g.val with h1 | ⟨h1, h2⟩
  · exact Calls.loadGlobal_global hg h1 h
  · exact Calls.loadGlobal_builtin hg h1 hb h2 h

theorem keeper_plain {f : Value} (hf : ∀ a, f ≠ .ref a) : keeperOf f = pure .machine := by
  cases f <;> first | rfl | exact absurd rfl (hf _)
theorem callWith_any {M : Model} {pos : Pos} {f : Value} {first : List Value} {args : List (Bool × Sem Value)} {Q : Value → Shared → Prop} (hstar : args.any (·.1) = false)
    (h : wpAny M A (evalArgs f true args []) (fun x s₁ => (∀ a, f = .ref a → ∃ o fd, s₁.heap.get? a = some o ∧ o.data = .func fd) ∧ wpAny M A (call f (first ++ x.pos) x.kw) Q E s₁) E s) :
    wpAny M A (callWith pos f first args []) Q E s := by
  unfold callWith
  refine wpAny_bind (wpAny_holding (wpAny_mono h (fun x s₁ h₁ => wpAny_bind (wpAny_standAt ?_)) fun _ _ x => x))
  obtain ⟨h1, h2⟩ := h₁
  have tail : ∀ {t : Sem Value}, wpAny M A t Q E s₁ → wpAny M A (t >>= fun r => holding [r] point >>= fun _ => pure r) Q E s₁ :=
    fun ht => wpAny_bind (wpAny_mono ht (fun r s₂ hr => wpAny_bind (wpAny_holding (wpAny_point (wpAny_pure hr)))) fun _ _ x => x)
  simp only [hstar, List.any_nil, Bool.or_false]
  generalize first ++ x.pos = as at h2 ⊢
  generalize x.kw = kw at h2 ⊢
  by_cases hf : ∃ a, f = .ref a
  · obtain ⟨a, rfl⟩ := hf
    obtain ⟨o, fd, ho, hd⟩ := h1 a rfl
    refine wpAny_bind (m := keeperOf (.ref a)) ?_
    unfold keeperOf
    refine wpAny_bind (wpAny_load ho ?_)
    rw [hd]
    refine wpAny_pure ?_
    dsimp only
    split
    · exact tail h2
    · exact tail (by unfold callMarked; exact Calls.wpAny_keep h2)
  · rw [keeper_plain fun a e => hf ⟨a, e⟩]
    refine wpAny_bind (wpAny_pure ?_)
    exact tail h2

/-- a value that can be called as it lies -/
noncomputable def Callee (W : Wd) (fv : Value) : Prop := ∀ a, fv = .ref a → ∃ oc od fd osl, W.K.lookup a = some ⟨oc, od, .func fd, osl⟩
theorem Callee.fn {fv : Value} (c : Callee W fv) (h : Gl W s.heap) : ∀ a, fv = .ref a → ∃ o fd, s.heap.get? a = some o ∧ o.data = .func fd := fun a e => by
  obtain ⟨oc, od, fd, osl, hk⟩ := c a e
  exact ⟨_, fd, h.k a _ hk, rfl⟩
theorem Fn.mono {f : Value} {ds : List D} {d : D} (h : Fn W n f ds d) (hn : n ≤ m) : Fn W m f ds d := .mk fun s A vs V E Q hg hA => h.r s A vs V E Q hg (hA.mono hn)

theorem any_false_map (es : List Expr) : (es.map fun e => (false, eval e env)).any (·.1) = false := by
  induction es with
  | nil => rfl
  | cons e r ih => simp [ih]
theorem evalArgs_exs {f : Value} {e : Expr} {es : List Expr} {ds : List D} {Q : Args → Shared → Prop} (hs : Exs W n env ρ (e :: es) ds) (S : St W env B G fp s ρ) (hA : AOk n A)
    (h : ∀ vs s', RdL s'.heap (fp ++ G) ds vs → Ext s s' → Q ⟨vs, []⟩ s') : wpAny W.M A (evalArgs f true ((e :: es).map fun e => (false, eval e env)) []) Q E s :=
  Calls.evalArgs_plain (hs.r B G fp s A E _ S hA h)

theorem Ex.call {f : Str} {fv : Value} {p pos : Pos} {e : Expr} {es : List Expr} {ds : List D} {d : D} (hf : Gv W env f fv) (hc : Callee W fv) (ha : Exs W n env ρ (e :: es) ds) (hF : Fn W m fv ds d) (hm : m ≤ n)
    (hp : plainArgs (e :: es) = true) : Ex W n env ρ (.Call (.Name f p) (e :: es) [] pos) d := .mk fun B G fp s A E Q S hA h => by
  refine wpAny_Call_Name_kw (hf.load S ?_)
  rw [backTo_plain hp]
  refine callWith_any (any_false_map _) (evalArgs_exs ha S hA fun vs s₁ rvs e₁ => ⟨hc.fn (S.ext e₁).gl', ?_⟩)
  exact hF.r s₁ A vs (fp ++ G) E Q (S.ext e₁).gl' (hA.mono hm) rvs (S.ext e₁).valloc fun v s₂ rv e₂ => h v s₂ rv (e₁.trans e₂)

theorem Ex.ifexp {t b o : Expr} {pos : Pos} {c : Bool} {d : D} (ht : Tr W n env ρ t c) (h1 : c = true → Ex W n env ρ b d) (h2 : c = false → Ex W n env ρ o d) : Ex W n env ρ (.IfExp t b o pos) d := .mk fun B G fp s A E Q S hA h => by
  show wpAny W.M A (isTrue t env (eval t env) >>= fun q => if q = true then eval b env else eval o env) Q E s
  refine wpAny_bind (ht.r B G fp s A E _ S hA fun s₁ e₁ => ?_)
  cases c with
  | true => rw [if_pos rfl]; exact (h1 rfl).r B G fp s₁ A E Q (S.ext e₁) hA fun v s₂ rv e₂ => h v s₂ rv (e₁.trans e₂)
  | false => rw [if_neg Bool.false_ne_true]; exact (h2 rfl).r B G fp s₁ A E Q (S.ext e₁) hA fun v s₂ rv e₂ => h v s₂ rv (e₁.trans e₂)

theorem Tr.not {x : Expr} {pos : Pos} {b : Bool} (h : Tr W n env ρ x b) : Tr W n env ρ (.UnaryOp .Not x pos) (!b) := .mk fun B G fp s A E Q S hA hq => by
  show wpAny W.M A (isTrue x env (eval x env) >>= fun c => pure (!c)) Q E s
  exact wpAny_bind (h.r B G fp s A E _ S hA fun s₁ e₁ => wpAny_pure (hq s₁ e₁))

/-- tests joined -/
structure Trs (W : Wd) (n : Nat) (env : Env) (ρ : Rho) (op : BoolOp) (es : List Expr) (b : Bool) : Prop where
  r : ∀ (B : Heap) (G fp : List Addr) (s : Shared) (A : Around) (E : Value → Shared → Prop) (Q : Bool → Shared → Prop), St W env B G fp s ρ → AOk n A →
    (∀ s', Ext s s' → Q b s') → wpAny W.M A (allTrue op es env) Q E s
theorem Tr.bool {op : BoolOp} {es : List Expr} {pos : Pos} {b : Bool} (h : Trs W n env ρ op es b) : Tr W n env ρ (.BoolOp op es pos) b := ⟨h.r⟩
theorem Trs.nil {op : BoolOp} : Trs W n env ρ op [] (op == .And) := .mk fun B G fp s A E Q S hA h => wpAny_pure (h s (Ext.refl s))
theorem Trs.and {x : Expr} {es : List Expr} {b c : Bool} (h1 : Tr W n env ρ x b) (h2 : b = true → Trs W n env ρ .And es c) : Trs W n env ρ .And (x :: es) (b && c) := .mk fun B G fp s A E Q S hA h => by
  unfold allTrue
  refine wpAny_bind (h1.r B G fp s A E _ S hA fun s₁ e₁ => ?_)
  cases b with
  | true => exact (h2 rfl).r B G fp s₁ A E Q (S.ext e₁) hA fun s₂ e₂ => h s₂ (e₁.trans e₂)
  | false => exact wpAny_pure (h s₁ e₁)
theorem Trs.or {x : Expr} {es : List Expr} {b c : Bool} (h1 : Tr W n env ρ x b) (h2 : b = false → Trs W n env ρ .Or es c) : Trs W n env ρ .Or (x :: es) (b || c) := .mk fun B G fp s A E Q S hA h => by
  unfold allTrue
  refine wpAny_bind (h1.r B G fp s A E _ S hA fun s₁ e₁ => ?_)
  cases b with
  | false => exact (h2 rfl).r B G fp s₁ A E Q (S.ext e₁) hA fun s₂ e₂ => h s₂ (e₁.trans e₂)
  | true => exact wpAny_pure (h s₁ e₁)
/-- a test that is a plain expression -/
noncomputable def plainTest : Expr → Bool
  | .UnaryOp .Not _ _ => false
  | .BoolOp .. => false
  | .IfExp .. => false
  | .Compare .. => false
  | _ => true
theorem Tr.plain {e : Expr} {b : Bool} (he : Ex W n env ρ e (.bool b)) (hp : plainTest e = true) : Tr W n env ρ e b := .mk fun B G fp s A E Q S hA h => by
  have key : isTrue e env (eval e env) = (do let v ← eval e env; standAt e.pos; holding [v] (truthy v)) := by
    cases e with
    | UnaryOp op x p => cases op <;> first | rfl | exact Bool.noConfusion hp
    | _ => first | rfl | exact Bool.noConfusion hp
  rw [key]
  refine wpAny_bind (he.r B G fp s A E _ S hA fun v s₁ rv e₁ => wpAny_bind (wpAny_standAt (wpAny_holding ?_)))
  rw [show v = .bool b from rv]
  exact wpAny_truthy_bool (h s₁ e₁)

theorem newList_rd {vs : List Value} {ds : List D} {V : List Addr} {Q : Value → Shared → Prop} (hr : RdL s.heap V ds vs) (hV : VOk W s.heap V) (hsz : vs.length ≤ sizeLine)
    (h : ∀ s', PL s'.heap s.heap.objs.size vs.toArray → s.heap.get? s.heap.objs.size = Option.none → Rd s'.heap V (.list ds) (.ref s.heap.objs.size) → Ext s s' → Q (.ref s.heap.objs.size) s') : wpAny W.M A (newList vs) Q E s := by
  have hk : ∀ b o, s.heap.get? b = some o → (s.heap.push { cls := .type "list", data := .seq vs.toArray }).get? b = some o := fun b o e => Heap.get?_push_of_some _ e
  have hn : s.heap.get? s.heap.objs.size = Option.none := by
    cases q : s.heap.get? s.heap.objs.size with
    | none => rfl
    | some o => exact absurd (Heap.lt_size q) (Nat.lt_irrefl _)
  have hp : PL (s.heap.push { cls := .type "list", data := .seq vs.toArray }) s.heap.objs.size vs.toArray := ⟨_, _, Heap.get?_push_size _ rfl, rfl, ⟨rfl, rfl⟩, rfl⟩
  have hx : Ext s { s with heap := s.heap.push { cls := .type "list", data := .seq vs.toArray } } := ⟨hk, rfl, #[], by simp, fun _ h => by simp at h⟩
  refine wpAny_newObj_type (h _ hp hn ⟨_, _, rfl, hp, fun hv => ?_, ?_⟩ hx) (by show vs.toArray.size ≤ sizeLine; rw [List.size_toArray]; exact hsz)
  · obtain ⟨⟨o, ho⟩, _⟩ := hV _ hv
    rw [hn] at ho; cases ho
  · simpa using hr.ext hx
theorem Ex.list {es : List Expr} {ds : List D} {pos : Pos} (h : Exs W n env ρ es ds) (hp : plainArgs es = true) (hsz : ds.length ≤ 1000000) : Ex W n env ρ (.List es pos) (.list ds) := .mk fun B G fp s A E Q S hA hQ => by
  refine List_ ?_
  rw [backTo_plain hp]
  exact h.r B G fp s A E _ S hA fun vs s₁ rvs e₁ => newList_rd rvs (S.ext e₁).valloc (by rw [RdL.length rvs, sizeLine_eq]; omega) fun s₂ _ _ rv e₂ => hQ _ s₂ rv (e₁.trans e₂)
theorem newTuple_rd {vs : List Value} {ds : List D} {V : List Addr} {Q : Value → Shared → Prop} (hr : RdL s.heap V ds vs) (hV : VOk W s.heap V) (hsz : vs.length ≤ sizeLine)
    (h : ∀ s', Rd s'.heap V (.tup ds) (.ref s.heap.objs.size) → Ext s s' → Q (.ref s.heap.objs.size) s') : wpAny W.M A (newTuple vs) Q E s := by
  have hk : ∀ b o, s.heap.get? b = some o → (s.heap.push { cls := .type "tuple", data := .seq vs.toArray }).get? b = some o := fun b o e => Heap.get?_push_of_some _ e
  have hn : s.heap.get? s.heap.objs.size = Option.none := by
    cases q : s.heap.get? s.heap.objs.size with
    | none => rfl
    | some o => exact absurd (Heap.lt_size q) (Nat.lt_irrefl _)
  have hx : Ext s { s with heap := s.heap.push { cls := .type "tuple", data := .seq vs.toArray } } := ⟨hk, rfl, #[], by simp, fun _ h => by simp at h⟩
  refine wpAny_newObj_type (h _ ⟨_, _, rfl, ⟨_, Heap.get?_push_size _ rfl, rfl, _, rfl⟩, fun hv => ?_, ?_⟩ hx) (by show vs.toArray.size ≤ sizeLine; rw [List.size_toArray]; exact hsz)
  · obtain ⟨⟨o, ho⟩, _⟩ := hV _ hv
    rw [hn] at ho; cases ho
  · simpa using hr.ext hx
theorem Ex.tuple {es : List Expr} {ds : List D} {k : Nat} {pos : Pos} (h : Exs W n env ρ es ds) (hp : plainArgs es = true) (hsz : ds.length ≤ 1000000) : Ex W n env ρ (.Tuple es k pos) (.tup ds) := .mk fun B G fp s A E Q S hA hQ => by
  refine Tuple_ ?_
  rw [backTo_plain hp]
  exact h.r B G fp s A E _ S hA fun vs s₁ rvs e₁ => newTuple_rd rvs (S.ext e₁).valloc (by rw [RdL.length rvs, sizeLine_eq]; omega) fun s₂ rv e₂ => hQ _ s₂ rv (e₁.trans e₂)

theorem Ex.glob {f : Str} {fv : Value} {p : Pos} {d : D} (hf : Gv W env f fv) (hd : ∀ h V, Gl W h → VOk W h V → Rd h V d fv) : Ex W n env ρ (.Name f p) d := .mk fun B G fp s A E Q S hA h =>
  hf.load S (h fv s (hd _ _ S.gl' S.valloc) (Ext.refl s))
end
end Mine
end

-- M7
section
open PySem PySem.W PyProof.Rows
set_option maxRecDepth 100000
namespace Mine

noncomputable def closureOf (env : Env) : List (Str × NameKind) → List (Str × Addr) → List (Str × Addr)
  | [], acc => acc
  | (n, k) :: r, acc => if k == .free then closureOf env r ((n, (env.cells.lookup n).getD 0) :: acc) else closureOf env r acc
noncomputable def freesOk (env : Env) (names : List (Str × NameKind)) : Bool := names.all fun (n, k) => k != .free || (env.cells.lookup n).isSome
theorem closure_loop {env : Env} (f : Str × NameKind → List (Str × Addr) → Sem (ForInStep (List (Str × Addr))))
    (hf : ∀ n k c, f (n, k) c = if k == .free then (do let a ← cellOf env n; pure (.yield ((n, a) :: c))) else pure (.yield c)) :
    ∀ (names : List (Str × NameKind)) (acc : List (Str × Addr)), freesOk env names = true → forIn names acc f = pure (closureOf env names acc)
  | [], acc, _ => rfl
  | (n, k) :: r, acc, h => by
    unfold freesOk at h
    rw [List.all_cons] at h
    obtain ⟨h1, h2⟩ := Bool.and_eq_true_iff.mp h
    rw [List.forIn_cons, hf]
    unfold closureOf
    by_cases hk : (k == NameKind.free) = true
    · rw [if_pos hk, if_pos hk]
      have hc : (env.cells.lookup n).isSome = true := by
        have hk' := beq_iff_eq.mp hk
        subst hk'
        simpa using h1
      obtain ⟨c, hc⟩ := Option.isSome_iff_exists.mp hc
      have : cellOf env n = pure c := by unfold cellOf; rw [hc]
      rw [this, hc, pure_bind, pure_bind]
      exact closure_loop f hf r _ h2
    · rw [if_neg hk, if_neg hk, pure_bind]
      exact closure_loop f hf r _ h2
theorem closureFor_eq {env : Env} {scope : Scope} (h : freesOk env scope.names = true) : closureFor scope env = pure (closureOf env scope.names []) := by
  unfold closureFor
  dsimp only
  rw [closure_loop _ (fun n k c => ?_) scope.names [] h]
  · rfl
  · by_cases hk : (k == NameKind.free) = true <;> simp [hk]

section
variable {W : Wd} {n m : Nat} {env : Env} {B : Heap} {G fp fp' fp'' : List Addr} {s s' s'' : Shared} {ρ : Rho} {A : Around} {E : Value → Shared → Prop}

/-- the tests of a clause: none or one -/
noncomputable def Ifs (W : Wd) (n : Nat) (env : Env) (ρ : Rho) : List Expr → Bool → Prop
  | [], b => b = true
  | [c], b => Tr W n env ρ c b
  | _ :: _ :: _, _ => False
noncomputable def CompP (W : Wd) (n : Nat) (cenv : Env) (t : Str) (ifs : List Expr) (elt : Expr) (cap : Rho) : List D → List D → Prop
  | [], rs => rs = []
  | d :: ds, rs => ∃ b, Ifs W n cenv ((t, .sh d) :: cap) ifs b ∧ (b = true → ∃ r rs', rs = r :: rs' ∧ Ex W n cenv ((t, .sh d) :: cap) elt r ∧ CompP W n cenv t ifs elt cap ds rs') ∧ (b = false → CompP W n cenv t ifs elt cap ds rs)

/-- what the block takes from the frame around it -/
noncomputable def CapOk (env cenv : Env) (ρ : Rho) : Rho → Prop
  | [] => True
  | (x, b) :: r => (∃ d, b = .sh d ∧ ρ.lookup x = some (.sh d)) ∧ (env.kindOf x = some .cell ∨ env.kindOf x = some .free) ∧ (cenv.kindOf x = some .cell ∨ cenv.kindOf x = some .free) ∧
      cenv.cells.lookup x = env.cells.lookup x ∧ CapOk env cenv ρ r

theorem CapOk.envOk {cenv : Env} {m cm m' : Str → Option Value} {h : Heap} {V : List Addr} : ∀ {cap : Rho}, CapOk env cenv ρ cap → EnvOk (lookIn env m cm) h V ρ fp → EnvOk (lookIn cenv m' cm) h V cap []
  | [], _, _ => rfl
  | (x, b) :: r, c, hE => by
    obtain ⟨⟨d, rfl, hl⟩, hk, hk', hc, hr⟩ := c
    obtain ⟨v, f, hv, hb⟩ := EnvOk.find hE hl
    refine ⟨v, [], [], ?_, ⟨hb.1, rfl⟩, CapOk.envOk hr hE, rfl⟩
    unfold lookIn at hv ⊢
    split at hv
    · cases hv
    · rename_i hq
      rw [if_neg hq]
      rcases hk with e | e <;> rw [e] at hv <;> rcases hk' with e' | e' <;> rw [e', hc] <;> exact hv

theorem CapOk.kinds {cenv : Env} : ∀ {cap : Rho}, CapOk env cenv ρ cap → ∀ p ∈ cap, cenv.kindOf p.1 = some .cell ∨ cenv.kindOf p.1 = some .free
  | (x, b) :: r, c, p, hp => by
    obtain ⟨_, _, hk', _, hr⟩ := c
    rcases List.mem_cons.mp hp with rfl | hp
    · exact hk'
    · exact CapOk.kinds hr p hp
theorem EnvOk.lookEq {look look' : Str → Option Value} {h : Heap} {V : List Addr} {ρ : Rho} {fp : List Addr} (e : ∀ y ∈ ρ.map (·.1), look' y = look y) (x : EnvOk look h V ρ fp) : EnvOk look' h V ρ fp := EnvOk.look e x

structure CompOk (env : Env) (scope : Scope) (t : Str) (ρ cap : Rho) : Prop where
  kind : scope.kind = .function
  cell : ∀ y ∈ scope.names, y.2 ≠ .cell
  names : ∀ x ∈ scope.names, x.2 = .local → scope.names.lookup x.1 = some .local
  loc : scope.names.lookup t = some .local
  tq : ((t == ("__debug__" : Str)) || (t == ("__classdict__" : Str))) = false
  free : freesOk env scope.names = true
  capt : ∀ C, CapOk env (compEnvC scope (closureOf env scope.names []) C env) ρ cap
  nodup : (t :: cap.map (·.1)).Nodup

theorem closureOf_lookup : ∀ {names : List (Str × NameKind)} {acc : List (Str × Addr)} {x : Str} {c : Addr}, freesOk env names = true → (∀ x c, acc.lookup x = some c → env.cells.lookup x = some c) → (closureOf env names acc).lookup x = some c → env.cells.lookup x = some c
  | [], acc, x, c, _, ha, h => ha x c h
  | (n, k) :: r, acc, x, c, hf, ha, h => by
    unfold freesOk at hf
    rw [List.all_cons] at hf
    obtain ⟨h1, h2⟩ := Bool.and_eq_true_iff.mp hf
    unfold closureOf at h
    by_cases hk : (k == NameKind.free) = true
    · rw [if_pos hk] at h
      refine closureOf_lookup h2 (fun y c' hy => ?_) h
      rw [List.lookup_cons] at hy
      by_cases hyn : (y == n) = true
      · rw [hyn] at hy
        cases hy
        have hk' := beq_iff_eq.mp hk
        subst hk'
        have hc : (env.cells.lookup n).isSome = true := by simpa using h1
        obtain ⟨c, hc⟩ := Option.isSome_iff_exists.mp hc
        rw [beq_iff_eq.mp hyn, hc]; rfl
      · rw [Bool.not_eq_true] at hyn
        rw [hyn] at hy
        exact ha y c' hy
    · rw [if_neg hk] at h
      exact closureOf_lookup h2 ha h

theorem comp_core {elt iter : Expr} {t : Str} {px pos : Pos} {ifs : List Expr} {scope : Scope} {cap : Rho} {ds rs : List D} {RR : Value → Addr → Result → Shared → Prop}
    (S : St W env B G fp s ρ) (hA : AOk n A) (hi : Itx W n env ρ iter ds) (H : CompOk env scope t ρ cap) (hsz : rs.length ≤ 1000000)
    (hc : ∀ C, CompP W n (compEnvC scope (closureOf env scope.names []) C env) t ifs elt cap ds rs)
    (hQ : ∀ D C s', Rd s'.heap (fp ++ G) (.list rs) (.ref D) → s.heap.get? D = Option.none → s.heap.get? C = Option.none → D ≠ C → (∃ m, s'.heap.Ns C m) → Ext s s' → RR (.ref D) C (.ok .next) s') :
    wpAny W.M A (eval iter env) (fun x s₁ => wpAny W.M A (pyIter x) (fun it s₂ => wpAny W.M A (newList []) (fun acc s₃ =>
      wpAny W.M A (newFunctionEnv scope env.globals (closureOf env scope.names []) [] env.qual Option.none .none (some env)) (fun cenv s₄ =>
        codeAny W.M A (.compStart (.ListComp elt [⟨.Name t px, iter, ifs, 0⟩] scope pos) 0 it acc { cenv with scope := relabel scope env }) (RR acc cenv.locals) s₄) E s₃) E s₂) E s₁) E s := by
  refine hi.r B G fp s A E _ S hA fun it its P Pm s₂ hI hplain hP hfr e₂ => ?_
  have S₂ := S.ext e₂
  refine newList_rd (ds := []) (V := fp ++ G) rfl S₂.valloc (by rw [sizeLine_eq]; exact Nat.zero_le _) fun s₃ hD₃ hDn hrd₃ e₃ => ?_
  generalize hD : s₂.heap.objs.size = D at hD₃ hDn hrd₃
  have S₃ := S₂.ext e₃
  refine wpAny_newFunctionEnv H.cell (by intro y hy; simp at hy) (fun h₁ hns₁ hsb₁ => ?_) H.kind
  generalize hC : s₃.heap.objs.size = C at hns₁ hsb₁ ⊢
  have hCn : s₃.heap.get? C = Option.none := by
    cases q : s₃.heap.get? C with
    | none => rfl
    | some o => exact absurd (Heap.lt_size q) (by rw [hC]; exact Nat.lt_irrefl _)
  have hDs : s.heap.get? D = Option.none := by
    cases q : s.heap.get? D with
    | none => rfl
    | some o => have := e₂.keep D o q; rw [hDn] at this; cases this
  have hCs : s.heap.get? C = Option.none := by
    cases q : s.heap.get? C with
    | none => rfl
    | some o => have := e₃.keep C o (e₂.keep C o q); rw [hCn] at this; cases this
  have hDC : D ≠ C := fun e => by obtain ⟨o, _, ho, _⟩ := hD₃; rw [e, hCn] at ho; cases ho
  have hkC : ∀ b o, s₃.heap.get? b = some o → h₁.get? b = some o := fun b o e => hsb₁.extBut b o (fun q => by rw [q, hCn] at e; cases e) (Heap.get?_push_of_some _ e)
  have hDK : W.K.lookup D = Option.none := by
    cases q : W.K.lookup D with
    | none => rfl
    | some o => have := S.gl'.k D o q; rw [hDs] at this; cases this
  -- the state at the turns
  let cenv := compEnvC scope (closureOf env scope.names []) C env
  let V' := D :: (fp ++ G)
  have hsame : ({ s₃ with heap := h₁, toks := s₃.toks + ([] : List (Str × Value)).length } : Shared) = { s₃ with heap := h₁ } := rfl
  have ext₄ : Ext s { s₃ with heap := h₁ } := by
    have := e₂.trans e₃
    exact ⟨fun b o e => hkC b o (this.keep b o e), this.os, this.gens⟩
  have kp₀ : Kp s₂.heap (fp ++ G) h₁ V' := fun b o xs k ho hd hn => ⟨hkC b o (e₃.keep b o ho), fun hm => by
    rcases List.mem_cons.mp hm with h | h
    · rw [h, hDn] at ho; cases ho
    · exact hn h⟩
  have hitsD : D ∉ its := fun hm => by
    obtain ⟨o, vs, h1, _⟩ := hI.flds hP D hm
    rw [hDn] at h1; cases h1
  have hitsC : C ∉ its := fun hm => by
    obtain ⟨o, vs, h1, _⟩ := hI.flds hP C hm
    have := e₃.keep C o h1
    rw [hCn] at this; cases this
  have hP₄ : P h₁ V' ds := hI.stable hP kp₀ fun a ha o ho => hkC a o (e₃.keep a o ho)
  obtain ⟨m₀, cm₀, hns₀, hcl₀, hE₀⟩ := S₂.frame
  -- the invariant
  let Inv : Nat → Shared → Prop := fun k s' => ∃ ds' rs' done items, ds'.length = k ∧ rs = done ++ rs' ∧ CompP W n cenv t ifs elt cap ds' rs' ∧ P s'.heap V' ds' ∧ PL s'.heap D items ∧ RdL s'.heap V' done items.toList ∧
    (∃ m, s'.heap.Ns C m) ∧ EnvOk (lookIn cenv (fun _ => Option.none) cm₀) s'.heap V' cap [] ∧ (∀ k c, cenv.cells.lookup k = some c → s'.heap.IsCell c (cm₀ k)) ∧ Ext s s' ∧ VOk W s'.heap V'
  have hcapE : ∀ {h m'} , EnvOk (lookIn env m₀ cm₀) h V' ρ fp → EnvOk (lookIn cenv m' cm₀) h V' cap [] := fun {h m'} q => CapOk.envOk (H.capt C) q
  have hE₁ : EnvOk (lookIn env m₀ cm₀) h₁ V' ρ fp := EnvOk.mono kp₀ (fun a o _ ho => hkC a o (e₃.keep a o ho)) hE₀
  have hinv : Inv ds.length { s₃ with heap := h₁ } := by
    refine ⟨ds, rs, [], #[], rfl, rfl, hc C, hP₄, ?_, rfl, ⟨_, hns₁⟩, hcapE hE₁, fun k c q => ?_, ext₄, fun a ha => ?_⟩
    · obtain ⟨o, k, ho, r⟩ := hD₃
      exact ⟨o, k, hkC D o ho, r⟩
    · exact ((hcl₀ k c (closureOf_lookup H.free (fun x c h => by cases h) q)).keeps e₃.keep).keeps hkC
    · rcases List.mem_cons.mp ha with h | h
      · subst h
        obtain ⟨o, k, ho, r⟩ := hD₃
        exact ⟨⟨o, hkC _ o ho⟩, hDK⟩
      · obtain ⟨⟨o, ho⟩, hk⟩ := S₃.valloc a h
        exact ⟨⟨o, hkC a o ho⟩, hk⟩
  have loop : ∀ s₄ : Shared, Inv ds.length s₄ → codeAny W.M A (.compLoop (.ListComp elt [⟨.Name t px, iter, ifs, 0⟩] scope pos) 0 (.ref it) (.ref D) cenv) (RR (.ref D) C) s₄ := by
    intro s₄ hinv
    refine codeAny_compLoop_tests Inv (fun k s₅ hk => ?_) ds.length hinv
    obtain ⟨ds', rs', done, items, rfl, hrs, hcp, hP₅, hDl, hdone, ⟨mC, hnsC⟩, hcap₅, hcl₅, ext₅, hV₅⟩ := hk
    have notC : ∀ b o, s₅.heap.get? b = some o → (∀ es ep, o.data ≠ .dict es ep) → b ≠ C := fun b o ho hd e => by
      obtain ⟨oC, es, ep, hoC, hdC, _⟩ := hnsC
      rw [e, hoC] at ho; cases ho
      exact hd _ _ hdC
    cases ds' with
    | nil =>
      refine hI.nextN hP₅ hA fun s₆ x₆ => ?_
      have hrs' : rs' = [] := hcp
      subst hrs'
      rw [List.append_nil] at hrs
      subst hrs
      have hkeep : ∀ b o, s₅.heap.get? b = some o → (∀ vs, o.data ≠ .fields vs) → s₆.heap.get? b = some o := fun b o ho hd => x₆.keep b o (fun hb => by
        obtain ⟨o', vs, h1, h2⟩ := hI.flds hP₅ b hb
        rw [ho] at h1; cases h1; exact hd vs h2) ho
      refine hQ D C s₆ ⟨D, items, rfl, ?_, fun hm => ?_, ?_⟩ hDs hCs hDC ⟨mC, ?_⟩ ⟨fun b o ho => x₆.keep b o (fun hb => by rw [hfr b hb] at ho; cases ho) (ext₅.keep b o ho), x₆.os.trans ext₅.os, ?_⟩
      · obtain ⟨o, k, ho, hc, hq, hd⟩ := hDl
        exact ⟨o, k, hkeep D o ho (fun vs e => by rw [hd] at e; cases e), hc, hq, hd⟩
      · obtain ⟨⟨o, ho⟩, _⟩ := S₂.valloc D hm
        rw [hDn] at ho; cases ho
      · exact RdL.mono (fun b o xs k ho hd hn => ⟨hkeep b o ho (fun vs e => by rw [hd] at e; cases e), fun h => hn (.tail _ h)⟩) _ _ hdone
      · obtain ⟨oC, es, ep, hoC, hdC, r⟩ := hnsC
        exact ⟨oC, es, ep, hkeep C oC hoC (fun vs e => by rw [hdC] at e; cases e), hdC, r⟩
      · obtain ⟨more, g1, g2⟩ := ext₅.gens
        exact ⟨more, x₆.gens.trans g1, g2⟩
    | cons d ds' =>
      refine hI.nextS hP₅ (fun a ha => (hV₅ a ha).1) hA fun v s₆ rv hPm₆ x₆ => ?_
      have hP₆ := hplain _ _ _ _ hPm₆
      have hkeep : ∀ b o, s₅.heap.get? b = some o → (∀ vs, o.data ≠ .fields vs) → s₆.heap.get? b = some o := fun b o ho hd => x₆.keep b o (fun hb => by
        obtain ⟨o', vs, h1, h2⟩ := hI.flds hP₅ b hb
        rw [ho] at h1; cases h1; exact hd vs h2) ho
      have kp₆ : Kp s₅.heap V' s₆.heap V' := fun b o xs k ho hd hn => ⟨hkeep b o ho (fun vs e => by rw [hd] at e; cases e), hn⟩
      have hns₆ : s₆.heap.Ns C mC := by
        obtain ⟨oC, es, ep, hoC, hdC, r⟩ := hnsC
        exact ⟨oC, es, ep, hkeep C oC hoC (fun vs e => by rw [hdC] at e; cases e), hdC, r⟩
      have hcl₆ : ∀ k c, cenv.cells.lookup k = some c → s₆.heap.IsCell c (cm₀ k) := fun k c q => by
        obtain ⟨oc, hoc, hcd⟩ := hcl₅ k c q
        exact ⟨oc, hkeep c oc hoc (fun vs e => by rw [hcd] at e; cases e), hcd⟩
      -- the target
      have hcap₆ : EnvOk (lookIn cenv (fun _ => Option.none) cm₀) s₆.heap V' cap [] := EnvOk.mono kp₆ (fun a o h => nomatch h) hcap₅
      have htloc : cenv.kindOf t = some .local := lookup_relabel_local H.loc
      refine wpAny_assign_Name (wpAny_storeName_local htloc hns₆ (fun h₇ hns₇ hsb₇ => ?_) (by show ((relabel scope env).kind == .class || ((relabel scope env).kind == .module && _)) = false; simp [relabel, H.kind]))
      have hns₇ : h₇.Ns C (fun y => if y = t then some v else mC y) := hns₇
      have hsb₇ : Heap.SameBut C s₆.heap h₇ := hsb₇
      have ext₆ : Ext s s₆ := by
        obtain ⟨more, g1, g2⟩ := ext₅.gens
        exact ⟨fun b o ho => x₆.keep b o (fun hb => by rw [hfr b hb] at ho; cases ho) (ext₅.keep b o ho), x₆.os.trans ext₅.os, more, x₆.gens.trans g1, g2⟩
      have ext₇ : Ext s { s₆ with heap := h₇, toks := s₆.toks + 1 } := ⟨fun b o ho => hsb₇.extBut b o (fun e => by rw [e, hCs] at ho; cases ho) (ext₆.keep b o ho), ext₆.os, ext₆.gens⟩
      have hk₇ : ∀ b o, s₆.heap.get? b = some o → (∀ es ep, o.data ≠ .dict es ep) → h₇.get? b = some o := fun b o ho hd => hsb₇.extBut b o (fun e => by
        obtain ⟨oC, es, ep, hoC, hdC, _⟩ := hns₆
        rw [e] at ho; rw [hoC] at ho; cases ho; exact hd _ _ hdC) ho
      have kp₇ : Kp s₆.heap V' h₇ V' := fun b o xs k ho hd hn => ⟨hk₇ b o ho (fun es ep e => by rw [hd] at e; cases e), hn⟩
      have hcl₇ : ∀ k c, cenv.cells.lookup k = some c → h₇.IsCell c (cm₀ k) := fun k c q => by
        obtain ⟨oc, hoc, hcd⟩ := hcl₆ k c q
        exact ⟨oc, hk₇ c oc hoc (fun es ep e => by rw [hcd] at e; cases e), hcd⟩
      have hVth : ∀ a ∈ V', (∃ o, h₇.get? a = some o) ∧ W.K.lookup a = Option.none := fun a ha => by
        obtain ⟨⟨o, ho⟩, hk⟩ := hV₅ a ha
        have hai : a ∉ its := fun hm => by
          rcases List.mem_cons.mp ha with h | h
          · exact hitsD (h ▸ hm)
          · obtain ⟨⟨o₀, ho₀⟩, _⟩ := S.valloc a h
            rw [hfr a hm] at ho₀; cases ho₀
        have ho' := x₆.keep a o hai ho
        by_cases e : a = C
        · obtain ⟨oC, _, _, hoC, _⟩ := hns₇
          exact ⟨⟨oC, by rw [e]; exact hoC⟩, hk⟩
        · exact ⟨⟨o, (hsb₇.2 a e).trans ho'⟩, hk⟩
      have hEc : ∀ {h : Heap} {m' : Str → Option Value}, Kp s₆.heap V' h V' → m' t = some v → EnvOk (lookIn cenv m' cm₀) h V' ((t, .sh d) :: cap) [] := fun {h m'} kp hm => by
        refine ⟨v, [], [], ?_, ⟨Rd.mono kp _ _ rv, rfl⟩, ?_, rfl⟩
        · unfold lookIn
          rw [H.tq, if_neg Bool.false_ne_true, htloc]
          exact hm
        · refine EnvOk.look (fun y hy => ?_) (EnvOk.mono kp (fun a o h => nomatch h) hcap₆)
          obtain ⟨p, hp, rfl⟩ := List.mem_map.mp hy
          have : cenv.kindOf p.1 = some .cell ∨ cenv.kindOf p.1 = some .free := CapOk.kinds (H.capt C) p hp
          unfold lookIn
          split
          · rfl
          · rcases this with e | e <;> rw [e]
      have S₇ : St W cenv s.heap V' [] { s₆ with heap := h₇, toks := s₆.toks + 1 } ((t, .sh d) :: cap) := by
        refine ⟨S.gl', ext₇.keep, (by show (relabel scope env).kind = .function; exact H.kind), S.eg, S.eb, ⟨_, cm₀, hns₇, hcl₇, hEc kp₇ (by simp)⟩, H.nodup, .nil, (fun a h => nomatch h), (fun a h => nomatch h), hVth, hCs, (fun k c h => by cases h), fun k k' c q q' => ?_⟩
        exact S.apart k k' c (closureOf_lookup H.free (fun x c h => by cases h) q) (closureOf_lookup H.free (fun x c h => by cases h) q')
      have hP₇ : P h₇ V' ds' := hI.stable hP₆ kp₇ fun a ha o ho => by
        obtain ⟨o', vs, h1, h2⟩ := hI.flds hP₆ a ha
        rw [ho] at h1; cases h1
        exact hk₇ a o ho (fun es ep e => by rw [h2] at e; cases e)
      have hD₇ : PL h₇ D items := by
        obtain ⟨o, k, ho, hc, hq, hd⟩ := hDl
        exact ⟨o, k, hk₇ D o (hkeep D o ho (fun vs e => by rw [hd] at e; cases e)) (fun es ep e => by rw [hd] at e; cases e), hc, hq, hd⟩
      have hdone₇ : RdL h₇ V' done items.toList := RdL.mono kp₇ _ _ (RdL.mono kp₆ _ _ hdone)
      -- what follows, for a state further on
      have back : ∀ s₈ : Shared, Ext { s₆ with heap := h₇, toks := s₆.toks + 1 } s₈ → ∀ rs'', rs = done ++ rs'' → CompP W n cenv t ifs elt cap ds' rs'' → Inv ds'.length s₈ := fun s₈ e₈ rs'' hrs'' hcp'' => by
        refine ⟨ds', rs'', done, items, rfl, hrs'', hcp'', hI.stable hP₇ (e₈.kp V') (fun a ha o ho => e₈.keep a o ho), ?_, hdone₇.ext e₈, ⟨_, hns₇.keeps e₈.keep⟩, EnvOk.mono (e₈.kp V') (fun a o h => nomatch h) (EnvOk.mono kp₇ (fun a o h => nomatch h) hcap₆), fun k c q => (hcl₇ k c q).keeps e₈.keep, ext₇.trans e₈, fun a ha => ?_⟩
        · obtain ⟨o, k, ho, r⟩ := hD₇
          exact ⟨o, k, e₈.keep D o ho, r⟩
        · obtain ⟨⟨o, ho⟩, hk⟩ := hVth a ha
          exact ⟨⟨o, e₈.keep a o ho⟩, hk⟩
      obtain ⟨b, hifs, hb1, hb2⟩ := hcp
      have tests : ∀ {E' : Value → Shared → Prop} {Q' : Bool → Shared → Prop}, (∀ s₈, Ext { s₆ with heap := h₇, toks := s₆.toks + 1 } s₈ → Q' b s₈) →
          wpAny W.M A (forIn ifs true fun c r => if r = true then do let ok ← isTrue c cenv (eval c cenv); pure (ForInStep.yield ok) else pure (ForInStep.yield r)) Q' E' { s₆ with heap := h₇, toks := s₆.toks + 1 } := by
        intro E' Q' hq
        match ifs, hifs with
        | [], hb => rw [show b = true from hb] at hq; exact wpAny_tests_nil (hq _ (Ext.refl _))
        | [c], ht => exact wpAny_tests_one ((show Tr _ _ _ _ _ _ from ht).r s.heap V' [] _ A _ _ S₇ hA hq)
        | _ :: _ :: _, f => exact f.elim
      refine tests fun s₈ e₈ => ?_
      cases b with
      | false =>
        rw [if_neg Bool.false_ne_true]
        exact ⟨ds'.length, by simp, back s₈ e₈ rs' hrs (hb2 rfl)⟩
      | true =>
        rw [if_pos rfl]
        obtain ⟨r, rs'', rfl, helt, hcp''⟩ := hb1 rfl
        refine helt.r s.heap V' [] s₈ A _ _ (S₇.ext e₈) hA fun y s₉ ry e₉ => ?_
        have hinv₉ := back s₉ (e₈.trans e₉) (r :: rs'') hrs
        have hD₉ : PL s₉.heap D items := by
          obtain ⟨o, k, ho, rr⟩ := hD₇
          exact ⟨o, k, e₉.keep D o (e₈.keep D o ho), rr⟩
        have hlen : items.size ≤ sizeLine := by
          have h1 := RdL.length hdone
          have h2 : rs.length = done.length + (r :: rs'').length := by rw [hrs, List.length_append]
          rw [sizeLine_eq]
          simp only [Array.length_toList, List.length_cons] at h1 h2
          omega
        refine list_append_PL (hsz := hlen) hD₉ fun h₁₀ hD₁₀ hsb₁₀ => ?_
        have hk₁₀ : ∀ b o, s₉.heap.get? b = some o → b ≠ D → h₁₀.get? b = some o := fun b o ho hb => (hsb₁₀.2 b hb).trans ho
        have e₇₉ := e₈.trans e₉
        have kp₁₀ : Kp s₉.heap V' h₁₀ V' := fun b o xs k ho hd hn => ⟨hk₁₀ b o ho (fun e => hn (e ▸ .head _)), hn⟩
        refine ⟨ds'.length, by simp, ds', rs'', done ++ [r], items.push y, rfl, by rw [hrs, List.append_assoc]; rfl, hcp'', ?_, hD₁₀, ?_, ⟨_, (hns₇.keeps e₇₉.keep).sameBut hsb₁₀ (Ne.symm hDC)⟩, EnvOk.mono kp₁₀ (fun a o h => nomatch h) (EnvOk.mono (e₇₉.kp V') (fun a o h => nomatch h) (EnvOk.mono kp₇ (fun a o h => nomatch h) hcap₆)), fun k c q => ?_, ⟨fun b o ho => hk₁₀ b o (e₇₉.keep b o (ext₇.keep b o ho)) (fun e => by rw [e, hDs] at ho; cases ho), e₇₉.os.trans ext₇.os, (ext₇.trans e₇₉).gens⟩, fun a ha => ?_⟩
        · refine hI.stable (hI.stable hP₇ (e₇₉.kp V') (fun a ha o ho => e₇₉.keep a o ho)) kp₁₀ fun a ha o ho => hk₁₀ a o ho (fun e => hitsD (e ▸ ha))
        · rw [Array.toList_push]
          exact RdL.append (RdL.mono kp₁₀ _ _ (hdone₇.ext e₇₉)) ⟨y, [], rfl, Rd.mono (fun b o xs k ho hd hn => kp₁₀ b o xs k ho hd (by simpa using hn)) _ _ (by simpa using ry), rfl⟩
        · refine ((hcl₇ k c q).keeps e₇₉.keep).sameBut hsb₁₀ (fun e => ?_)
          obtain ⟨oc, hoc, hcd⟩ := (hcl₇ k c q).keeps e₇₉.keep
          obtain ⟨oD, _, hoD, _, _, hdD⟩ := hD₉
          rw [e] at hoc; rw [hoD] at hoc; cases hoc
          rw [hcd] at hdD; cases hdD
        · obtain ⟨⟨o, ho⟩, hk⟩ := hVth a ha
          by_cases e : a = D
          · obtain ⟨oD, _, hoD, _⟩ := hD₁₀
            exact ⟨⟨oD, e ▸ hoD⟩, hk⟩
          · exact ⟨⟨o, hk₁₀ a o (e₇₉.keep a o ho) e⟩, hk⟩
  exact codeAny_compStart_list (loop _ hinv) (hI.again hP₄ hA (loop _ hinv))
end
end Mine
end

-- M8
section
open PySem PySem.W PyProof.Rows
set_option maxRecDepth 100000
namespace Mine
section
variable {W : Wd} {n m : Nat} {env : Env} {B : Heap} {G fp fp' fp'' : List Addr} {s s' s'' : Shared} {ρ : Rho} {A : Around} {E : Value → Shared → Prop}

theorem Ex.comp {elt iter : Expr} {t : Str} {px pos : Pos} {ifs : List Expr} {scope : Scope} {cap : Rho} {ds rs : List D} (hi : Itx W n env ρ iter ds) (H : CompOk env scope t ρ cap) (hsz : rs.length ≤ 1000000)
    (hc : ∀ C, CompP W n (compEnvC scope (closureOf env scope.names []) C env) t ifs elt cap ds rs) (hs : ∀ x, foldedSetIterable iter env x = pure x) :
    Ex W n env ρ (.ListComp elt [⟨.Name t px, iter, ifs, 0⟩] scope pos) (.list rs) := .mk fun B G fp s A E Q S hA hQ => by
  rw [eval_ListComp]
  refine wpAny_comprehension_free (use := Option.none) rfl hs (closureFor_eq H.free) H.kind H.names ?_
  refine comp_core (RR := fun acc C => compPost W.M A E Option.none Q acc C) S hA hi H hsz hc fun D C s' rv hD hC hDC hns e => ?_
  obtain ⟨m, hns⟩ := hns
  refine ⟨m, hns, fun h' hsb => hQ _ _ ?_ ?_⟩
  · refine Rd.mono (fun b o xs k ho hd hn => ⟨(hsb.2 b fun eb => ?_).trans ho, hn⟩) _ _ rv
    obtain ⟨oC, es, ep, hoC, hdC, _⟩ := hns
    rw [eb, hoC] at ho; cases ho
    rw [hd] at hdC; cases hdC
  · exact ⟨fun b o ho => (hsb.2 b fun eb => by rw [eb, hC] at ho; cases ho).trans (e.keep b o ho), e.os, e.gens⟩

theorem Sx.assignComp {elt iter : Expr} {t y : Str} {px py pos spos : Pos} {ifs : List Expr} {scope : Scope} {cap : Rho} {ds rs : List D}
    (hsw : swapsWith (.ListComp elt [⟨.Name t px, iter, ifs, 0⟩] scope pos) (some (.Name y py)) spos.line env = pure true) (hy : storable env y = true)
    (hi : Itx W n env ρ iter ds) (H : CompOk env scope t ρ cap) (hsz : rs.length ≤ 1000000)
    (hc : ∀ C, CompP W n (compEnvC scope (closureOf env scope.names []) C env) t ifs elt cap ds rs) (hs : ∀ x, foldedSetIterable iter env x = pure x) :
    Sx W n env ρ (.Assign [.Name y py] (.ListComp elt [⟨.Name t px, iter, ifs, 0⟩] scope pos) spos) (fun r fl => r = put ρ y (.sh (.list rs)) ∧ fl = .next) := .mk fun B G fp s A E Q S hA hQ => by
  rw [exec_Assign_Name_used _ _ _ _ hsw]
  refine wpAny_bind (wpAny_standAt (wpAny_bind ?_))
  show wpAny _ A (do let _ ← comprehension (.ListComp elt [⟨.Name t px, iter, ifs, 0⟩] scope pos) scope env _ (newList []) false (eval iter env) (some (PySem.assign (.Name y py) env))) _ _ s
  refine wpAny_bind (wpAny_mono (wpAny_comprehension_free (use := some (PySem.assign (.Name y py) env)) (Q := fun _ s' => Q .next s') rfl hs (closureFor_eq H.free) H.kind H.names ?_) (fun _ s' hq => wpAny_pure (wpAny_pure hq)) fun _ _ e => e)
  refine comp_core (RR := fun acc C => compPost W.M A E (some (PySem.assign (.Name y py) env)) (fun _ s' => Q .next s') acc C) S hA hi H hsz hc fun D C s' rv hD hC hDC hns e => ?_
  obtain ⟨mC, hnsC⟩ := hns
  show wpAny _ A (PySem.assign (.Name y py) env (.ref D)) _ _ _
  have hB : B.get? C = Option.none := by
    cases q : B.get? C with
    | none => rfl
    | some o => have := S.keep C o q; rw [hC] at this; cases this
  refine wpAny_assign_Name ((S.ext e).store (b := .sh (.list rs)) (f := []) (Ext.refl s') hy .nil (fun _ h => nomatch h) (fun h' V' kp _ => ⟨Rd.mono kp _ _ rv, rfl⟩) fun s₂ fp₂ S₂ sx₂ => ?_)
  have hLC : env.locals ≠ C := fun eq => by
    obtain ⟨_, _, ⟨oL, _, _, hL, _⟩, _⟩ := S.frame
    rw [eq, hC] at hL; cases hL
  have hcell : ∀ k c, env.cells.lookup k = some c → c ≠ C := fun k c q eq => by
    obtain ⟨_, _, _, h2, _⟩ := S.frame
    obtain ⟨oc, hoc, _⟩ := h2 k c q
    rw [eq, hC] at hoc; cases hoc
  have notOwn : ¬ OwnP env fp C := fun hq => by
    rcases hq with h | ⟨_, k', _, hl⟩ | h
    · exact hLC h.symm
    · exact hcell k' C hl rfl
    · obtain ⟨⟨o, ho⟩, _⟩ := S.valloc C (List.mem_append_left _ h)
      rw [hC] at ho; cases ho
  have hnsC₂ : s₂.heap.Ns C mC := by
    obtain ⟨oC, es, ep, hoC, r⟩ := hnsC
    exact ⟨oC, es, ep, sx₂.keep C oC hoC notOwn, r⟩
  refine ⟨mC, hnsC₂, fun h' hsb => ?_⟩
  have hk : ∀ b o, s₂.heap.get? b = some o → b ≠ C → h'.get? b = some o := fun b o ho hb => (hsb.2 b hb).trans ho
  have hseq : ∀ b o xs k, s₂.heap.get? b = some o → o.data = .seq xs k → b ≠ C := fun b o xs k ho hd eq => by
    obtain ⟨oC, es, ep, hoC, hdC, _⟩ := hnsC₂
    rw [eq, hoC] at ho; cases ho
    rw [hd] at hdC; cases hdC
  have hsx : SExt env fp s fp₂ { s₂ with heap := h' } := by
    have sx := (e.sext (env := env) (fp := fp)).trans sx₂
    refine ⟨fun b o ho hn => hk b o (sx.keep b o ho hn) (fun eq => by rw [eq, hC] at ho; cases ho), fun b o ho => ?_, sx.new, sx.os, sx.gens⟩
    obtain ⟨o', ho'⟩ := sx.there b o ho
    exact ⟨o', hk b o' ho' (fun eq => by rw [eq, hC] at ho; cases ho)⟩
  refine hQ _ _ _ fp₂ .next ⟨rfl, rfl⟩ ?_ rfl hsx
  obtain ⟨m₂, cm₂, ⟨oL, es, ep, hL, r⟩, h2, h3⟩ := S₂.frame
  refine ⟨S₂.gl, fun b o ho => hk b o (S₂.keep b o ho) (fun eq => by rw [eq, hB] at ho; cases ho), S₂.kind, S₂.eg, S₂.eb, ⟨m₂, cm₂, ⟨oL, es, ep, hk _ _ hL hLC, r⟩, fun k c q => ?_, EnvOk.mono (fun b o xs k ho hd hn => ⟨hk b o ho (hseq b o xs k ho hd), hn⟩) (fun a o ha ho => ?_) h3⟩, S₂.names, S₂.fpn, S₂.fpB, S₂.fpG, (fun a ha => ?_), S₂.freshL, S₂.freshC, S₂.apart⟩
  · obtain ⟨oc, hoc, hcd⟩ := h2 k c q
    exact ⟨oc, hk c oc hoc (hcell k c q), hcd⟩
  · obtain ⟨o', xs, k, ho', hd⟩ := EnvOk.seqs h3 a ha
    rw [ho] at ho'; cases ho'
    exact hk a o ho (hseq a o xs k ho hd)
  · obtain ⟨⟨o, ho⟩, hkk⟩ := S.GB a ha
    obtain ⟨⟨o₂, ho₂⟩, _⟩ := S₂.GB a ha
    exact ⟨⟨o₂, hk a o₂ ho₂ (fun eq => by rw [eq, hC] at ho; cases ho)⟩, hkk⟩
end
end Mine
end

-- M9
section
open PySem PySem.W PyProof.Rows
set_option maxRecDepth 100000
namespace Mine
section
variable {W : Wd} {n m : Nat} {env : Env} {B : Heap} {G fp fp' fp'' : List Addr} {s s' s'' : Shared} {ρ : Rho} {A : Around} {E : Value → Shared → Prop} {R : Rho → Fl → Prop}

/-- the place of a name's binding among the others -/
theorem EnvOk.at {look : Str → Option Value} {h : Heap} {V : List Addr} {x : Str} {b : Bd} :
    ∀ {ρ : Rho} {fp : List Addr}, (ρ.map (·.1)).Nodup → EnvOk look h V ρ fp → ρ.lookup x = some b →
      ∃ v pre f post, look x = some v ∧ BdOk h V b v f ∧ fp = pre ++ (f ++ post) ∧ ∀ look' h' V' b' v' f', look' x = some v' → (∀ y, y ≠ x → look' y = look y) → Kp h V h' V' →
        (∀ a o, a ∈ pre ∨ a ∈ post → h.get? a = some o → h'.get? a = some o) → BdOk h' V' b' v' f' → EnvOk look' h' V' (Mine.put ρ x b') (pre ++ (f' ++ post))
  | [], _, _, _, e => by cases e
  | (z, c) :: r, _, hn, q, e => by
    obtain ⟨u, f1, f2, h1, h2, h3, rfl⟩ := q
    have hn' := List.nodup_cons.mp (show (z :: r.map (·.1)).Nodup from hn)
    rw [List.lookup_cons] at e
    by_cases hz : (x == z) = true
    · rw [hz] at e
      cases e
      have ez := beq_iff_eq.mp hz
      subst ez
      refine ⟨u, [], f1, f2, h1, h2, rfl, fun look' h' V' b' v' f' hx hy kp hf hb => ?_⟩
      unfold Mine.put
      rw [if_pos (by simp)]
      exact ⟨v', f', f2, hx, hb, EnvOk.look (fun y hy' => hy y fun e => hn'.1 (e ▸ hy')) (EnvOk.mono kp (fun a o ha => hf a o (.inr ha)) h3), rfl⟩
    · rw [Bool.not_eq_true] at hz
      rw [hz] at e
      obtain ⟨v, pre, f, post, i1, i2, rfl, i3⟩ := EnvOk.at hn'.2 h3 e
      have hzx : z ≠ x := fun e => by rw [e] at hz; simp at hz
      refine ⟨v, f1 ++ pre, f, post, i1, i2, by simp, fun look' h' V' b' v' f' hx hy kp hf hb => ?_⟩
      unfold Mine.put
      rw [if_neg (by simpa using hzx)]
      refine ⟨u, f1, pre ++ (f' ++ post), (hy z hzx).trans h1, BdOk.mono kp (fun a o ha => hf a o (.inl (List.mem_append_left _ ha))) h2, i3 look' h' V' b' v' f' hx hy kp (fun a o ha => hf a o (ha.imp (List.mem_append_right _) id)) hb, by simp⟩

/-- an own list (at a) changes: what stands of the frame -/
theorem St.changed {x : Str} {b' : Bd} {v : Value} {h' : Heap} {a : Addr} {pre f f' post : List Addr} {mm cm : Str → Option Value} {s₁ : Shared} (S : St W env B G fp s ρ) (e : Ext s s₁)
    (hns : s.heap.Ns env.locals mm) (hcl : ∀ n c, env.cells.lookup n = some c → s.heap.IsCell c (cm n)) (hx : lookIn env mm cm x = some v) (hfp : fp = pre ++ (f ++ post))
    (hE : ∀ look' h' V' b' v' f', look' x = some v' → (∀ y, y ≠ x → look' y = lookIn env mm cm y) → Kp s.heap (fp ++ G) h' V' →
        (∀ a o, a ∈ pre ∨ a ∈ post → s.heap.get? a = some o → h'.get? a = some o) → BdOk h' V' b' v' f' → EnvOk look' h' V' (put ρ x b') (pre ++ (f' ++ post)))
    (ha : a ∈ f) (hsb : Heap.SameBut a s₁.heap h') (hex : ∃ o xs k, h'.get? a = some o ∧ o.data = .seq xs k)
    (hf' : ∀ c ∈ f', c ∈ f ∨ s.heap.get? c = Option.none) (hfn : f'.Nodup)
    (hb : Kp s.heap (fp ++ G) h' ((pre ++ (f' ++ post)) ++ G) → (∀ c o, s₁.heap.get? c = some o → c ≠ a → h'.get? c = some o) → BdOk h' ((pre ++ (f' ++ post)) ++ G) b' v f') :
    St W env B G (pre ++ (f' ++ post)) { s₁ with heap := h' } (put ρ x b') ∧ SExt env fp s (pre ++ (f' ++ post)) { s₁ with heap := h' } := by
  have afp : a ∈ fp := by rw [hfp]; exact List.mem_append_right _ (List.mem_append_left _ ha)
  have hk : ∀ c o, s₁.heap.get? c = some o → c ≠ a → h'.get? c = some o := fun c o ho hc => (hsb.2 c hc).trans ho
  have hnd := S.fpn
  rw [hfp] at hnd
  obtain ⟨n1, n2, n3⟩ := List.nodup_append.mp hnd
  obtain ⟨n4, n5, n6⟩ := List.nodup_append.mp n2
  have hmem : ∀ c ∈ pre ++ (f' ++ post), c ∈ fp ∨ s.heap.get? c = Option.none := fun c hc => by
    rw [hfp]
    rcases List.mem_append.mp hc with h | h
    · exact .inl (List.mem_append_left _ h)
    · rcases List.mem_append.mp h with h | h
      · exact (hf' c h).imp (fun h => List.mem_append_right _ (List.mem_append_left _ h)) id
      · exact .inl (List.mem_append_right _ (List.mem_append_right _ h))
  have hal := S.valloc
  have afr : ∀ c, s.heap.get? c = Option.none → c ∉ fp := fun c hc h => by
    obtain ⟨⟨o, ho⟩, _⟩ := hal c (List.mem_append_left _ h)
    rw [hc] at ho; cases ho
  have hnL : env.locals ≠ a := fun eq => by
    obtain ⟨oL, es, ep, hL, hLd, _⟩ := hns
    obtain ⟨m₀, cm₀, _, _, hE₀⟩ := S.frame
    obtain ⟨o, xs, k, ho, hd⟩ := EnvOk.seqs hE₀ a afp
    rw [← eq, hL] at ho; cases ho; rw [hd] at hLd; cases hLd
  have hnC : ∀ k c, env.cells.lookup k = some c → c ≠ a := fun k c q eq => by
    obtain ⟨oc, hoc, hcd⟩ := hcl k c q
    obtain ⟨m₀, cm₀, _, _, hE₀⟩ := S.frame
    obtain ⟨o, xs, k', ho, hd⟩ := EnvOk.seqs hE₀ a afp
    rw [eq] at hoc; rw [hoc] at ho; cases ho; rw [hd] at hcd; cases hcd
  have kp : Kp s.heap (fp ++ G) h' ((pre ++ (f' ++ post)) ++ G) := fun c o xs k ho hd hn => by
    have hca : c ≠ a := fun eq => hn (List.mem_append_left _ (eq ▸ afp))
    refine ⟨hk c o (e.keep c o ho) hca, fun hm => ?_⟩
    rcases List.mem_append.mp hm with h | h
    · rcases hmem c h with h | h
      · exact hn (List.mem_append_left _ h)
      · rw [ho] at h; cases h
    · exact hn (List.mem_append_right _ h)
  have sx : SExt env fp s (pre ++ (f' ++ post)) { s₁ with heap := h' } := by
    refine ⟨fun c o ho hn => hk c o (e.keep c o ho) (fun eq => hn (.inr (.inr (eq ▸ afp)))), fun c o ho => ?_, fun c hc => hmem c hc, e.os, e.gens⟩
    by_cases eq : c = a
    · obtain ⟨o', _, _, ho', _⟩ := hex
      exact ⟨o', eq ▸ ho'⟩
    · exact ⟨o, hk c o (e.keep c o ho) eq⟩
  refine ⟨⟨S.gl, fun c o ho => hk c o (e.keep c o (S.keep c o ho)) (fun eq => by rw [eq, S.fpB a afp] at ho; cases ho), S.kind, S.eg, S.eb,
    ⟨mm, cm, ?_, fun k c q => ?_, hE _ h' _ b' v f' hx (fun _ _ => rfl) kp (fun c o hc ho => hk c o (e.keep c o ho) (fun eq => ?_)) (hb kp hk)⟩, put_nodup S.names, ?_, fun c hc => ?_, fun c hc hG => ?_, (fun c hc => ?_), S.freshL, S.freshC, S.apart⟩, sx⟩
  · obtain ⟨oL, es, ep, hL, r⟩ := hns
    exact ⟨oL, es, ep, hk _ _ (e.keep _ _ hL) hnL, r⟩
  · obtain ⟨oc, hoc, hcd⟩ := hcl k c q
    exact ⟨oc, hk c oc (e.keep c oc hoc) (hnC k c q), hcd⟩
  · subst eq
    rcases hc with h | h
    · exact n3 c h c (List.mem_append_left _ ha) rfl
    · exact n6 c ha c h rfl
  · refine List.nodup_append.mpr ⟨n1, List.nodup_append.mpr ⟨hfn, n5, fun c hc d hd eq => ?_⟩, fun c hc d hd eq => ?_⟩
    · subst eq
      rcases hf' c hc with h | h
      · exact n6 c h c hd rfl
      · exact afr c h (by rw [hfp]; exact List.mem_append_right _ (List.mem_append_right _ hd))
    · subst eq
      rcases List.mem_append.mp hd with h | h
      · rcases hf' c h with h | h
        · exact n3 c hc c (List.mem_append_left _ h) rfl
        · exact afr c h (by rw [hfp]; exact List.mem_append_left _ hc)
      · exact n3 c hc c (List.mem_append_right _ h) rfl
  · rcases hmem c hc with h | h
    · exact S.fpB c h
    · cases q : B.get? c with
      | none => rfl
      | some o => have := S.keep c o q; rw [h] at this; cases this
  · rcases hmem c hc with h | h
    · exact S.fpG c h hG
    · obtain ⟨⟨o, ho⟩, _⟩ := S.GB c hG
      rw [h] at ho; cases ho
  · obtain ⟨⟨o, ho⟩, hkk⟩ := S.GB c hc
    obtain ⟨o', ho'⟩ := sx.there c o ho
    exact ⟨⟨o', ho'⟩, hkk⟩

theorem ElsOk.snoc {h : Heap} {V : List Addr} {d : D} {v : Value} (hv : Rd h V d v) : ∀ {es : List El} {vs : List Value} {fp : List Addr}, ElsOk h V es vs fp → ElsOk h V (es ++ [.sh d]) (vs ++ [v]) fp
  | [], _, _, x => by obtain ⟨rfl, rfl⟩ := x; exact ⟨v, [], rfl, hv, rfl, rfl⟩
  | .sh d' :: es, _, _, x => by
    obtain ⟨v', vs, rfl, h1, h2⟩ := x
    exact ⟨v', vs ++ [v], rfl, h1, ElsOk.snoc hv h2⟩
  | .ow ds :: es, _, _, x => by
    obtain ⟨a, ws, vs, fp, rfl, h0, h1, rfl, h2⟩ := x
    exact ⟨a, ws, vs ++ [v], fp, rfl, h0, h1, rfl, ElsOk.snoc hv h2⟩
theorem ElsOk.length {h : Heap} {V : List Addr} : ∀ {es : List El} {vs : List Value} {fp : List Addr}, ElsOk h V es vs fp → vs.length = es.length
  | [], _, _, x => by obtain ⟨rfl, rfl⟩ := x; rfl
  | .sh d' :: es, _, _, x => by
    obtain ⟨v', vs, rfl, h1, h2⟩ := x
    simp [ElsOk.length h2]
  | .ow ds :: es, _, _, x => by
    obtain ⟨a, ws, vs, fp, rfl, h0, h1, rfl, h2⟩ := x
    simp [ElsOk.length h2]

theorem St.find {x : Str} {b : Bd} (S : St W env B G fp s ρ) (hx : ρ.lookup x = some b) : ∃ mm cm v pre f post, s.heap.Ns env.locals mm ∧ (∀ n c, env.cells.lookup n = some c → s.heap.IsCell c (cm n)) ∧ lookIn env mm cm x = some v ∧ BdOk s.heap (fp ++ G) b v f ∧ fp = pre ++ (f ++ post) ∧
    ∀ look' h' V' b' v' f', look' x = some v' → (∀ y, y ≠ x → look' y = lookIn env mm cm y) → Kp s.heap (fp ++ G) h' V' →
        (∀ a o, a ∈ pre ∨ a ∈ post → s.heap.get? a = some o → h'.get? a = some o) → BdOk h' V' b' v' f' → EnvOk look' h' V' (put ρ x b') (pre ++ (f' ++ post)) := by
  obtain ⟨mm, cm, h1, h2, h3⟩ := S.frame
  obtain ⟨v, pre, f, post, i1, i2, i3, i4⟩ := EnvOk.at S.names h3 hx
  exact ⟨mm, cm, v, pre, f, post, h1, h2, i1, i2, i3, i4⟩

/-- the name's value is loaded as it stands in the frame's map -/
theorem St.nameV {x : Str} {v : Value} {pos : Pos} {Q : Value → Shared → Prop} {mm cm : Str → Option Value} (S : St W env B G fp s ρ) (hns : s.heap.Ns env.locals mm) (hcl : ∀ n c, env.cells.lookup n = some c → s.heap.IsCell c (cm n))
    (hv : lookIn env mm cm x = some v) (h : Q v s) : wpAny W.M A (eval (.Name x pos) env) Q E s := by
  unfold lookIn at hv
  split at hv
  · cases hv
  · rename_i hq
    have hq : ((x == ("__debug__" : Str)) || (x == ("__classdict__" : Str))) = false := by simpa using hq
    obtain ⟨q1, q2⟩ := Bool.or_eq_false_iff.mp hq
    split at hv
    · rename_i hk
      exact wpAny_Name (wpAny_loadName_local S.kind hk hns hv h) q1
    · rename_i hk
      cases hc : env.cells.lookup x with
      | none => rw [hc] at hv; cases hv
      | some c =>
        rw [hc] at hv
        have hv : cm x = some v := hv
        exact wpAny_Name (wpAny_loadName_cell S.kind hk hc (hv ▸ hcl x c hc) h) q1
    · rename_i hk
      cases hc : env.cells.lookup x with
      | none => rw [hc] at hv; cases hv
      | some c =>
        rw [hc] at hv
        have hv : cm x = some v := hv
        exact wpAny_Name (wpAny_loadName_free S.kind hk hc (hv ▸ hcl x c hc) h q2) q1
    · cases hv

theorem St.interactive (S : St W env B G fp s ρ) : interactive env = false := by unfold PySem.interactive; rw [S.kind]; rfl

theorem Sx.append {x : Str} {p apos pos spos : Pos} {e : Expr} {d : D} {els : List El} (hx : ρ.lookup x = some (.own els)) (he : Ex W n env ρ e d) (hl : els.length ≤ 1000000) (hline : (apos.endLine == pos.line) = true)
    (hp : plainArgs [e] = true) : Sx W n env ρ (.Expr (.Call (.Attribute (.Name x p) "append" apos) [e] [] pos) spos) (fun r fl => r = put ρ x (.own (els ++ [.sh d])) ∧ fl = .next) := .mk fun B G fp s A E Q S hA hQ => by
  have ht := backTo_plain (env := env) (pos := pos) hp
  obtain ⟨mm, cm, v, pre, f, post, hns, hcl, hv, hb, hfp, hE⟩ := S.find hx
  obtain ⟨a, vs, f₂, rfl, hpl, hels, rfl⟩ := hb
  refine wpAny_Expr ?_ S.interactive rfl
  refine wpAny_Call_append rfl (by rw [ht]; rfl) hline ht (S.nameV hns hcl hv ⟨a, vs, rfl, hpl.plain, ?_⟩)
  refine he.r B G fp s A E _ S hA fun y s₁ ry e₁ => ?_
  have hsz : vs.size ≤ sizeLine := by have := ElsOk.length hels; rw [Array.length_toList] at this; rw [sizeLine_eq]; omega
  have hpl₁ : PL s₁.heap a vs := by obtain ⟨o, k, ho, r⟩ := hpl; exact ⟨o, k, e₁.keep a o ho, r⟩
  refine list_append_PL (hsz := hsz) hpl₁ fun h' hpl' hsb => ?_
  have hnd := S.fpn
  rw [hfp] at hnd
  obtain ⟨_, n2, _⟩ := List.nodup_append.mp hnd
  obtain ⟨n4, _, _⟩ := List.nodup_append.mp n2
  have n5 := List.nodup_cons.mp n4
  obtain ⟨S', sx⟩ := S.changed (b' := .own (els ++ [.sh d])) (f' := a :: f₂) e₁ hns hcl hv hfp hE (.head _) hsb (by obtain ⟨o, k, ho, _, _, hd⟩ := hpl'; exact ⟨o, _, _, ho, hd⟩) (fun c hc => .inl hc) n4 fun kp hk => by
    refine ⟨a, vs.push y, f₂, rfl, hpl', ?_, rfl⟩
    rw [Array.toList_push]
    refine ElsOk.snoc (Rd.mono (h := s₁.heap) (V := fp ++ G) (fun c o xs k ho hd hn => ⟨hk c o ho (fun eq => hn (eq ▸ ?_)), hfp ▸ hn⟩) _ _ ry) (ElsOk.mono kp (fun c o hc ho => hk c o (e₁.keep c o ho) (fun eq => n5.1 (eq ▸ hc))) hels)
    rw [hfp]
    simp
  exact hQ _ _ _ _ .next ⟨rfl, rfl⟩ S' rfl sx

theorem ElsOk.snocO {h : Heap} {V : List Addr} {ds : List D} {a' : Addr} {ws : Array Value} (hp : PL h a' ws) (hv : RdL h V ds ws.toList) : ∀ {es : List El} {vs : List Value} {fp : List Addr}, ElsOk h V es vs fp → ElsOk h V (es ++ [.ow ds]) (vs ++ [.ref a']) (fp ++ [a'])
  | [], _, _, x => by obtain ⟨rfl, rfl⟩ := x; exact ⟨a', ws, [], [], rfl, hp, hv, rfl, rfl, rfl⟩
  | .sh d' :: es, _, _, x => by
    obtain ⟨v', vs, rfl, h1, h2⟩ := x
    exact ⟨v', vs ++ [.ref a'], rfl, h1, ElsOk.snocO hp hv h2⟩
  | .ow ds' :: es, _, _, x => by
    obtain ⟨b, ws', vs, fp, rfl, h0, h1, rfl, h2⟩ := x
    exact ⟨b, ws', vs ++ [.ref a'], fp ++ [a'], rfl, h0, h1, rfl, ElsOk.snocO hp hv h2⟩

/-- x.append([..]): the new list is the frame's own too -/
theorem Sx.appendO {x : Str} {p apos pos spos lpos : Pos} {es : List Expr} {ds : List D} {els : List El} (hx : ρ.lookup x = some (.own els)) (he : Exs W n env ρ es ds) (hl : els.length ≤ 1000000) (hd : ds.length ≤ 1000000) (hline : (apos.endLine == pos.line) = true)
    (hp : plainArgs es = true) : Sx W n env ρ (.Expr (.Call (.Attribute (.Name x p) "append" apos) [.List es lpos] [] pos) spos) (fun r fl => r = put ρ x (.own (els ++ [.ow ds])) ∧ fl = .next) := .mk fun B G fp s A E Q S hA hQ => by
  have ht := backTo_plain (env := env) (pos := pos) (es := [.List es lpos]) rfl
  obtain ⟨mm, cm, v, pre, f, post, hns, hcl, hv, hb, hfp, hE⟩ := S.find hx
  obtain ⟨a, vs, f₂, rfl, hpl, hels, rfl⟩ := hb
  refine wpAny_Expr ?_ S.interactive rfl
  refine wpAny_Call_append rfl (by rw [ht]; rfl) hline ht (S.nameV hns hcl hv ⟨a, vs, rfl, hpl.plain, ?_⟩)
  refine List_ ?_
  rw [backTo_plain hp]
  refine he.r B G fp s A E _ S hA fun ys s₀ rys e₀ => ?_
  refine newList_rd rys (S.ext e₀).valloc (by rw [RdL.length rys, sizeLine_eq]; omega) fun s₁ hpn hnn rv e₁ => ?_
  generalize ha' : s₀.heap.objs.size = a' at hpn hnn rv
  have e₀₁ := e₀.trans e₁
  have ha's : s.heap.get? a' = Option.none := by
    cases q : s.heap.get? a' with
    | none => rfl
    | some o => have := e₀.keep a' o q; rw [hnn] at this; cases this
  have hsz : vs.size ≤ sizeLine := by have := ElsOk.length hels; rw [Array.length_toList] at this; rw [sizeLine_eq]; omega
  have hpl₁ : PL s₁.heap a vs := by obtain ⟨o, k, ho, r⟩ := hpl; exact ⟨o, k, e₀₁.keep a o ho, r⟩
  have haa' : a' ≠ a := fun eq => by obtain ⟨o, k, ho, r⟩ := hpl; rw [← eq, ha's] at ho; cases ho
  refine list_append_PL (hsz := hsz) hpl₁ fun h' hpl' hsb => ?_
  have hnd := S.fpn
  rw [hfp] at hnd
  obtain ⟨_, n2, _⟩ := List.nodup_append.mp hnd
  obtain ⟨n4, _, _⟩ := List.nodup_append.mp n2
  have n5 := List.nodup_cons.mp n4
  have ha'f : a' ∉ a :: f₂ := fun hm => by
    obtain ⟨⟨o, ho⟩, _⟩ := S.valloc a' (List.mem_append_left _ (by rw [hfp]; exact List.mem_append_right _ (List.mem_append_left _ hm)))
    rw [ha's] at ho; cases ho
  obtain ⟨S', sx⟩ := S.changed (b' := .own (els ++ [.ow ds])) (f' := a :: (f₂ ++ [a'])) e₀₁ hns hcl hv hfp hE (.head _) hsb (by obtain ⟨o, k, ho, _, _, hd⟩ := hpl'; exact ⟨o, _, _, ho, hd⟩)
    (fun c hc => by
      rcases List.mem_cons.mp hc with h | h
      · exact .inl (h ▸ .head _)
      · rcases List.mem_append.mp h with h | h
        · exact .inl (.tail _ h)
        · rw [List.mem_singleton.mp h]; exact .inr ha's)
    (List.nodup_cons.mpr ⟨fun hm => by
        rcases List.mem_append.mp hm with h | h
        · exact n5.1 h
        · exact haa' (List.mem_singleton.mp h).symm, List.nodup_append.mpr ⟨n5.2, by simp, fun c hc d hd eq => by
        rw [List.mem_singleton.mp hd] at eq
        exact ha'f (eq ▸ .tail _ hc)⟩⟩) fun kp hk => by
    refine ⟨a, vs.push (.ref a'), f₂ ++ [a'], rfl, hpl', ?_, rfl⟩
    rw [Array.toList_push]
    refine ElsOk.snocO (ws := ys.toArray) (by obtain ⟨o, k, ho, r⟩ := hpn; exact ⟨o, k, hk a' o ho haa', r⟩) ?_ (ElsOk.mono kp (fun c o hc ho => hk c o (e₀₁.keep c o ho) (fun eq => n5.1 (eq ▸ hc))) hels)
    refine RdL.mono (h := s₀.heap) (V := fp ++ G) (fun c o xs k ho hd hn => ⟨hk c o (e₁.keep c o ho) (fun eq => hn (eq ▸ ?_)), fun hm => ?_⟩) _ _ (by simpa using rys)
    · rw [hfp]; simp
    · have hca' : c ≠ a' := fun eq => by rw [eq, hnn] at ho; cases ho
      refine hn ?_
      rw [hfp]
      simp only [List.mem_append, List.mem_cons] at hm ⊢
      rcases hm with (h | (h | h | h) | h) | h
      · exact .inl (.inl h)
      · exact .inl (.inr (.inl (.inl h)))
      · exact .inl (.inr (.inl (.inr h)))
      · exact (hca' (by simpa using h)).elim
      · exact .inl (.inr (.inr h))
      · exact .inr h
  exact hQ _ _ _ _ .next ⟨rfl, rfl⟩ S' rfl sx

theorem ElsOk.last {h : Heap} {V : List Addr} {ds : List D} : ∀ {es : List El} {vs : List Value} {fp : List Addr}, ElsOk h V (es ++ [.ow ds]) vs fp →
    ∃ vs' fp' a' ws, vs = vs' ++ [.ref a'] ∧ fp = fp' ++ [a'] ∧ PL h a' ws ∧ RdL h V ds ws.toList ∧ ∀ h' V' ds' ws', Kp h V h' V' → (∀ c o, c ∈ fp' → h.get? c = some o → h'.get? c = some o) → PL h' a' ws' → RdL h' V' ds' ws'.toList → ElsOk h' V' (es ++ [.ow ds']) vs fp
  | [], _, _, x => by
    obtain ⟨a', ws, vs', fp', rfl, h0, h1, rfl, h2⟩ := x
    obtain ⟨rfl, rfl⟩ := h2
    exact ⟨[], [], a', ws, rfl, rfl, h0, h1, fun h' V' ds' ws' kp hf hp hr => ⟨a', ws', [], [], rfl, hp, hr, rfl, rfl, rfl⟩⟩
  | .sh d' :: es, _, _, x => by
    obtain ⟨v', vs, rfl, h1, h2⟩ := x
    obtain ⟨vs', fp', a', ws, rfl, rfl, i1, i2, i3⟩ := ElsOk.last h2
    exact ⟨v' :: vs', fp', a', ws, rfl, rfl, i1, i2, fun h' V' ds' ws' kp hf hp hr => ⟨v', _, rfl, Rd.mono kp _ _ h1, i3 h' V' ds' ws' kp hf hp hr⟩⟩
  | .ow ds₂ :: es, _, _, x => by
    obtain ⟨b, ws₂, vs, fp, rfl, ⟨o, k, ho, r⟩, h1, rfl, h2⟩ := x
    obtain ⟨vs', fp', a', ws, rfl, rfl, i1, i2, i3⟩ := ElsOk.last h2
    exact ⟨.ref b :: vs', b :: fp', a', ws, rfl, rfl, i1, i2, fun h' V' ds' ws' kp hf hp hr => ⟨b, ws₂, _, _, rfl, ⟨o, k, hf b o (.head _) ho, r⟩, RdL.mono kp _ _ h1, rfl, i3 h' V' ds' ws' kp (fun c o hc => hf c o (.tail _ hc)) hp hr⟩⟩

/-- x[-1].append(e) -/
theorem Sx.appendLast {x : Str} {p p₁ p₂ p₃ apos pos spos : Pos} {k₁ : Nat} {e : Expr} {d : D} {els : List El} {ds : List D} (hx : ρ.lookup x = some (.own (els ++ [.ow ds]))) (he : Ex W n env ρ e d) (hl : els.length ≤ 1000000) (hd : ds.length ≤ 1000000)
    (hneg : ∀ {s : Shared} {A : Around} {E : Value → Shared → Prop} {Q : Value → Shared → Prop}, (∀ t tk, Q (.int (-1) t) { s with toks := tk }) → wpAny W.M A (eval (.UnaryOp .USub (.Constant (.int 1) k₁ p₁) p₂) env) Q E s)
    (hline : (apos.endLine == pos.line) = true) (hp : plainArgs [e] = true) :
    Sx W n env ρ (.Expr (.Call (.Attribute (.Subscript (.Name x p) (.UnaryOp .USub (.Constant (.int 1) k₁ p₁) p₂) p₃) "append" apos) [e] [] pos) spos) (fun r fl => r = put ρ x (.own (els ++ [.ow (ds ++ [d])])) ∧ fl = .next) := .mk fun B G fp s A E Q S hA hQ => by
  have ht := backTo_plain (env := env) (pos := pos) hp
  obtain ⟨mm, cm, v, pre, f, post, hns, hcl, hv, hb, hfp, hE⟩ := S.find hx
  obtain ⟨a, vs, f₂, rfl, hpl, hels, rfl⟩ := hb
  obtain ⟨vs', fp', a', ws, hvs, rfl, hpl', hrd, hlast⟩ := ElsOk.last hels
  have hsz := ElsOk.length hels
  rw [Array.length_toList, List.length_append, List.length_singleton] at hsz
  refine wpAny_Expr ?_ S.interactive rfl
  refine wpAny_Call_append rfl (by rw [ht]; rfl) hline ht (Subscript_ (S.nameV hns hcl hv (hneg fun t tk => ?_)))
  have e₀ : Ext s { s with toks := tk } := Ext.toks
  refine tail_any (ops := [.ref a, .int (-1) t]) (hpl.isList.typeIs (s := { s with toks := tk })) list_getitem_lookup ?_ rfl
  have hgl : vs[vs'.length]? = some (.ref a') := by
    rw [← Array.getElem?_toList, hvs]; simp
  have hlen : vs.size = vs'.length + 1 := by rw [← Array.length_toList, hvs]; simp
  refine wpAny_getItem_list_neg (s := { s with toks := tk }) hpl.isList (by decide) (by omega) (by decide) (x := .ref a') ?_ ?_
  · rw [show ((-1 : Int) + vs.size).toNat = vs'.length by omega]; exact hgl
  refine ⟨a', ws, rfl, hpl'.plain, ?_⟩
  refine he.r B G fp _ A E _ (S.ext e₀) hA fun y s₁ ry e₁ => ?_
  have e₀₁ := e₀.trans e₁
  have hwsz : ws.size ≤ sizeLine := by have := RdL.length hrd; rw [Array.length_toList] at this; rw [sizeLine_eq]; omega
  have hpl₁ : PL s₁.heap a' ws := by obtain ⟨o, k, ho, r⟩ := hpl'; exact ⟨o, k, e₀₁.keep a' o ho, r⟩
  refine list_append_PL (hsz := hwsz) hpl₁ fun h' hpl₂ hsb => ?_
  have hnd := S.fpn
  rw [hfp] at hnd
  obtain ⟨_, n2, _⟩ := List.nodup_append.mp hnd
  obtain ⟨n4, _, _⟩ := List.nodup_append.mp n2
  have n5 := List.nodup_cons.mp n4
  have haa' : a ≠ a' := fun eq => n5.1 (eq ▸ List.mem_append_right _ (.head _))
  have hfa' : ∀ c ∈ fp', c ≠ a' := fun c hc eq => by
    obtain ⟨_, _, h3⟩ := List.nodup_append.mp n5.2
    exact h3 c hc a' (.head _) eq
  obtain ⟨S', sx⟩ := S.changed (a := a') (b' := .own (els ++ [.ow (ds ++ [d])])) (f' := a :: (fp' ++ [a'])) e₀₁ hns hcl hv hfp hE (.tail _ (List.mem_append_right _ (.head _))) hsb (by obtain ⟨o, k, ho, _, _, hd⟩ := hpl₂; exact ⟨o, _, _, ho, hd⟩) (fun c hc => .inl hc) n4 fun kp hk => by
    refine ⟨a, vs, fp' ++ [a'], rfl, by obtain ⟨o, k, ho, r⟩ := hpl; exact ⟨o, k, hk a o (e₀₁.keep a o ho) haa', r⟩, ?_, rfl⟩
    refine hlast h' _ (ds ++ [d]) (ws.push y) kp (fun c o hc ho => hk c o (e₀₁.keep c o ho) (hfa' c hc)) hpl₂ ?_
    rw [Array.toList_push]
    refine RdL.append (RdL.mono kp _ _ hrd) ⟨y, [], rfl, Rd.mono (h := s₁.heap) (V := fp ++ G) (fun c o xs k ho hd hn => ⟨hk c o ho (fun eq => hn (eq ▸ ?_)), hfp ▸ hn⟩) _ _ ry, rfl⟩
    rw [hfp]; simp
  exact hQ _ _ _ _ .next ⟨rfl, rfl⟩ S' rfl sx

/-- x = [..]: a list of the frame's own -/
theorem ElsOk.ofRdL {h : Heap} {V : List Addr} : ∀ {ds : List D} {vs : List Value}, RdL h V ds vs → ElsOk h V (ds.map .sh) vs []
  | [], _, x => ⟨x, rfl⟩
  | d :: ds, _, x => by obtain ⟨v, vs, rfl, h1, h2⟩ := x; exact ⟨v, vs, rfl, h1, ElsOk.ofRdL h2⟩
theorem Sx.assignOwn {x : Str} {p pos lpos : Pos} {es : List Expr} {ds : List D} (he : Exs W n env ρ es ds) (hx : storable env x = true) (hp : plainArgs es = true) (hd : ds.length ≤ 1000000) :
    Sx W n env ρ (.Assign [.Name x p] (.List es lpos) pos) (fun r fl => r = put ρ x (.own (ds.map .sh)) ∧ fl = .next) := .mk fun B G fp s A E Q S hA hQ => by
  refine wpAny_Assign_Name (List_ ?_) rfl
  rw [backTo_plain hp]
  refine he.r B G fp s A E _ S hA fun ys s₀ rys e₀ => ?_
  refine newList_rd rys (S.ext e₀).valloc (by rw [RdL.length rys, sizeLine_eq]; omega) fun s₁ hpn hnn rv e₁ => ?_
  generalize ha' : s₀.heap.objs.size = a' at hpn hnn rv
  refine (S.ext e₀).store (b := .own (ds.map .sh)) (f := [a']) e₁ hx (by simp) (fun c hc => by rw [List.mem_singleton.mp hc]; exact hnn) (fun h' V' kp hk => ?_) fun s₂ fp₂ S₂ sx => hQ _ s₂ _ fp₂ .next ⟨rfl, rfl⟩ S₂ rfl (e₀.sext.trans sx)
  refine ⟨a', ys.toArray, [], rfl, ?_, ElsOk.ofRdL (RdL.mono kp _ _ (by simpa using rys)), rfl⟩
  obtain ⟨o, k, ho, h1, h2, hd⟩ := hpn
  exact ⟨o, k, hk a' o _ _ ho hd, h1, h2, hd⟩
/-- x = [[..]] -/
theorem Sx.assignOwn2 {x : Str} {p pos lpos lpos' : Pos} {es : List Expr} {ds : List D} (he : Exs W n env ρ es ds) (hx : storable env x = true) (hp : plainArgs es = true) (hd : ds.length ≤ 1000000) :
    Sx W n env ρ (.Assign [.Name x p] (.List [.List es lpos'] lpos) pos) (fun r fl => r = put ρ x (.own [.ow ds]) ∧ fl = .next) := .mk fun B G fp s A E Q S hA hQ => by
  refine wpAny_Assign_Name (List_ ?_) rfl
  rw [backTo_plain (es := [.List es lpos']) rfl]
  refine Calls.spliced_cons (List_ ?_)
  rw [backTo_plain hp]
  refine he.r B G fp s A E _ S hA fun ys s₀ rys e₀ => ?_
  refine newList_rd rys (S.ext e₀).valloc (by rw [RdL.length rys, sizeLine_eq]; omega) fun s₁ hpn hnn rv e₁ => ?_
  generalize ha' : s₀.heap.objs.size = a' at hpn hnn rv
  refine Calls.spliced_nil ?_
  refine newList_rd (ds := [.list ds]) ⟨.ref a', [], rfl, rv, rfl⟩ ((S.ext e₀).ext e₁).valloc (by rw [sizeLine_eq]; simp) fun s₂ hpn₂ hnn₂ _ e₂ => ?_
  generalize ha₂ : s₁.heap.objs.size = a₂ at hpn₂ hnn₂
  have haa : a₂ ≠ a' := fun eq => by obtain ⟨o, k, ho, _⟩ := hpn; rw [← eq, hnn₂] at ho; cases ho
  have ha₂s : s₀.heap.get? a₂ = Option.none := by
    cases q : s₀.heap.get? a₂ with
    | none => rfl
    | some o => have := e₁.keep a₂ o q; rw [hnn₂] at this; cases this
  refine (S.ext e₀).store (b := .own [.ow ds]) (f := [a₂, a']) (e₁.trans e₂) hx (by simp [haa]) (fun c hc => ?_) (fun h' V' kp hk => ?_) fun s₃ fp₂ S₂ sx => hQ _ s₃ _ fp₂ .next ⟨rfl, rfl⟩ S₂ rfl (e₀.sext.trans sx)
  · rcases List.mem_cons.mp hc with h | h
    · rw [h]; exact ha₂s
    · rw [List.mem_singleton.mp h]; exact hnn
  · obtain ⟨o₂, k₂, ho₂, r₂, r₂', hd₂⟩ := hpn₂
    obtain ⟨o, k, ho, r, r', hd'⟩ := hpn
    exact ⟨a₂, #[.ref a'], [a'], rfl, ⟨o₂, k₂, hk a₂ o₂ _ _ ho₂ hd₂, r₂, r₂', hd₂⟩, ⟨a', ys.toArray, [], [], rfl, ⟨o, k, hk a' o _ _ (e₂.keep a' o ho) hd', r, r', hd'⟩, RdL.mono kp _ _ (by simpa using rys), rfl, rfl, rfl⟩, rfl⟩

/-- the state seen otherwise -/
noncomputable def Conv (W : Wd) (env : Env) (ρ ρ' : Rho) : Prop := ∀ B G fp s, St W env B G fp s ρ → ∃ fp', St W env B G fp' s ρ' ∧ ∀ a ∈ fp', a ∈ fp
theorem Conv.sext (h : ∀ a ∈ fp', a ∈ fp) : SExt env fp s fp' s := ⟨fun _ _ e _ => e, fun _ o e => ⟨o, e⟩, fun a ha => .inl (h a ha), rfl, #[], by simp, fun _ h => by simp at h⟩
theorem Bx.conv {ρ' : Rho} {sts : List Stmt} (c : Conv W env ρ ρ') (h : Bx W n env ρ' sts R) : Bx W n env ρ sts R := .mk fun B G fp s A E Q S hA hQ => by
  obtain ⟨fp', S', hs⟩ := c B G fp s S
  exact h.r B G fp' s A E Q S' hA fun f s' ρ₂ fp₂ fl hR S₂ hf sx => hQ f s' ρ₂ fp₂ fl hR S₂ hf ((Conv.sext hs).trans sx)
theorem Sx.conv {ρ' : Rho} {st : Stmt} (c : Conv W env ρ ρ') (h : Sx W n env ρ' st R) : Sx W n env ρ st R := .mk fun B G fp s A E Q S hA hQ => by
  obtain ⟨fp', S', hs⟩ := c B G fp s S
  exact h.r B G fp' s A E Q S' hA fun f s' ρ₂ fp₂ fl hR S₂ hf sx => hQ f s' ρ₂ fp₂ fl hR S₂ hf ((Conv.sext hs).trans sx)

noncomputable def El.d : El → D
  | .sh d => d
  | .ow ds => .list ds
theorem ElsOk.freeze {h : Heap} {V V' : List Addr} (kp : Kp h V h V') : ∀ {es : List El} {vs : List Value} {fp : List Addr}, ElsOk h V es vs fp → (∀ a ∈ fp, a ∉ V') → RdL h V' (es.map El.d) vs
  | [], _, _, x, _ => x.1
  | .sh d :: es, _, _, x, hf => by
    obtain ⟨v, vs, rfl, h1, h2⟩ := x
    exact ⟨v, vs, rfl, Rd.mono kp _ _ h1, ElsOk.freeze kp h2 hf⟩
  | .ow ds :: es, _, _, x, hf => by
    obtain ⟨a, ws, vs, fp, rfl, h0, h1, rfl, h2⟩ := x
    exact ⟨.ref a, vs, rfl, ⟨a, ws, rfl, h0, hf a (.head _), RdL.mono kp _ _ h1⟩, ElsOk.freeze kp h2 fun b hb => hf b (.tail _ hb)⟩
theorem Conv.freeze {x : Str} {els : List El} (hx : ρ.lookup x = some (.own els)) : Conv W env ρ (put ρ x (.sh (.list (els.map El.d)))) := fun B G fp s S => by
  obtain ⟨mm, cm, v, pre, f, post, hns, hcl, hv, hb, hfp, hE⟩ := S.find hx
  obtain ⟨a, vs, f₂, rfl, hpl, hels, rfl⟩ := hb
  have hnd := S.fpn
  rw [hfp] at hnd
  obtain ⟨n1, n2, n3⟩ := List.nodup_append.mp hnd
  obtain ⟨n4, n5, n6⟩ := List.nodup_append.mp n2
  have hsub : ∀ c ∈ pre ++ ([] ++ post), c ∈ fp := fun c hc => by
    rw [hfp]
    rcases List.mem_append.mp hc with h | h
    · exact List.mem_append_left _ h
    · exact List.mem_append_right _ (List.mem_append_right _ h)
  have kp : Kp s.heap (fp ++ G) s.heap ((pre ++ ([] ++ post)) ++ G) := fun c o xs k ho hd hn => ⟨ho, fun hm => hn (by
    rcases List.mem_append.mp hm with h | h
    · exact List.mem_append_left _ (hsub c h)
    · exact List.mem_append_right _ h)⟩
  have out : ∀ c ∈ a :: f₂, c ∉ (pre ++ ([] ++ post)) ++ G := fun c hc hm => by
    rcases List.mem_append.mp hm with h | h
    · rcases List.mem_append.mp h with h | h
      · exact n3 c h c (List.mem_append_left _ hc) rfl
      · exact n6 c hc c h rfl
    · exact S.fpG c (by rw [hfp]; exact List.mem_append_right _ (List.mem_append_left _ hc)) h
  refine ⟨pre ++ ([] ++ post), ⟨S.gl, S.keep, S.kind, S.eg, S.eb, ⟨mm, cm, hns, hcl, hE _ s.heap _ _ (.ref a) [] hv (fun _ _ => rfl) kp (fun _ _ _ h => h) ⟨⟨a, vs, rfl, hpl, out a (.head _), ElsOk.freeze kp hels fun c hc => out c (.tail _ hc)⟩, rfl⟩⟩, put_nodup S.names, ?_, fun c hc => S.fpB c (hsub c hc), fun c hc => S.fpG c (hsub c hc), S.GB, S.freshL, S.freshC, S.apart⟩, hsub⟩
  exact List.nodup_append.mpr ⟨n1, n5, fun c hc d hd => n3 c hc d (List.mem_append_right _ hd)⟩

/-- names forgotten -/
noncomputable def keepOnly (xs : List Str) (ρ : Rho) : Rho := ρ.filter fun p => xs.contains p.1
theorem EnvOk.keepOnly {look : Str → Option Value} {h : Heap} {V : List Addr} (xs : List Str) : ∀ {ρ : Rho} {fp : List Addr}, EnvOk look h V ρ fp → ∃ fp', EnvOk look h V (Mine.keepOnly xs ρ) fp' ∧ fp'.Sublist fp
  | [], fp, x => ⟨fp, x, List.Sublist.refl _⟩
  | (y, b) :: r, _, x => by
    obtain ⟨v, f1, f2, h1, h2, h3, rfl⟩ := x
    obtain ⟨fp', i1, i2⟩ := EnvOk.keepOnly xs h3
    unfold Mine.keepOnly
    rw [List.filter_cons]
    split
    · exact ⟨f1 ++ fp', ⟨v, f1, fp', h1, h2, i1, rfl⟩, (List.Sublist.refl f1).append i2⟩
    · exact ⟨fp', i1, i2.trans (List.sublist_append_right f1 f2)⟩
theorem Conv.keepOnly (xs : List Str) : Conv W env ρ (Mine.keepOnly xs ρ) := fun B G fp s S => by
  obtain ⟨mm, cm, hns, hcl, hE⟩ := S.frame
  obtain ⟨fp', i1, i2⟩ := EnvOk.keepOnly xs hE
  have hsub : ∀ c ∈ fp', c ∈ fp := fun c hc => i2.subset hc
  refine ⟨fp', ⟨S.gl, S.keep, S.kind, S.eg, S.eb, ⟨mm, cm, hns, hcl, EnvOk.mono (fun c o xs k ho hd hn => ⟨ho, fun hm => hn ?_⟩) (fun _ _ _ h => h) i1⟩, ?_, i2.nodup S.fpn, fun c hc => S.fpB c (hsub c hc), fun c hc => S.fpG c (hsub c hc), S.GB, S.freshL, S.freshC, S.apart⟩, hsub⟩
  · rcases List.mem_append.mp hm with h | h
    · exact List.mem_append_left _ (hsub c h)
    · exact List.mem_append_right _ h
  · exact (List.Sublist.map _ List.filter_sublist).nodup S.names
theorem Conv.trans {ρ' ρ'' : Rho} (h1 : Conv W env ρ ρ') (h2 : Conv W env ρ' ρ'') : Conv W env ρ ρ'' := fun B G fp s S => by
  obtain ⟨fp', S', h'⟩ := h1 B G fp s S
  obtain ⟨fp'', S'', h''⟩ := h2 B G fp' s S'
  exact ⟨fp'', S'', fun a ha => h' a (h'' a ha)⟩
end
end Mine
end

-- M10
section
open PySem PySem.W PyProof.Rows
set_option maxRecDepth 100000
namespace Mine
section
variable {W : Wd} {n m : Nat} {env : Env} {B : Heap} {G fp : List Addr} {s s' : Shared} {ρ : Rho} {A : Around} {E : Value → Shared → Prop}

theorem go_plain {T : String} {it : Addr} {o : Obj} {fs : Array Value} {Q : Unit → Shared → Prop} (target : Expr) (v : Value) (ho : s.heap.get? it = some o) (hc : o.cls = .type T) (hd : o.data = .fields fs)
    (hT : (["enumerate", "zip", "dict_itemiterator", "dict_reverseitemiterator", "odict_iterator", "itertools.zip_longest", "itertools.pairwise"].contains T) = false) (h : Q () s) :
    wpAny W.M A (letOwnedTupleGo target (.ref it) v) Q E s := by
  have key : ∀ a, wpAny W.M A (do
      let o ← load it
      match o.cls, o.data with
      | .type n, .fields vs =>
        if ["enumerate", "zip", "dict_itemiterator", "dict_reverseitemiterator", "odict_iterator", "itertools.zip_longest", "itertools.pairwise"].contains n && vs[0]? == some (rawInt a) then
          rule "for.unpacks-the-owned-tuple"
          updateField it 0 .none
      | _, _ => pure ()) Q E s := fun a => by
    refine wpAny_bind (wpAny_load ho ?_)
    rw [hc, hd]
    dsimp only
    rw [hT, Bool.false_and, if_neg Bool.false_ne_true]
    exact wpAny_pure h
  unfold letOwnedTupleGo
  cases target <;> first
    | exact wpAny_pure h
    | (cases v <;> first
        | exact wpAny_pure h
        | exact key _)

theorem drop_cons {ds all : List D} {d : D} {i : Nat} (h : all.drop i = d :: ds) : all[i]? = some d ∧ all.drop (i + 1) = ds := by
  constructor
  · have := congrArg (·[0]?) h
    simpa using this
  · have := congrArg (·.drop 1) h
    simpa [List.drop_drop, Nat.add_comm] using this
theorem kp_same {it : Addr} {h h' : Heap} {o : Obj} {fs : Array Value} (V : List Addr) (ho : h.get? it = some o) (hd : o.data = .fields fs) (hs : Heap.ExtBut it h h') : Kp h V h' V := fun b ob xs k hb hdb hn => ⟨hs b ob (fun e => by
  rw [e, ho] at hb; cases hb; rw [hd] at hdb; cases hdb) hb, hn⟩
theorem iext_same {it : Addr} {h' : Heap} (hs : Heap.ExtBut it s.heap h') {tk : Nat} : IExt [it] s { s with heap := h', toks := tk } := ⟨fun b o hb ho => hs b o (fun e => hb (by simp [e])) ho, rfl, rfl⟩

noncomputable def ListIt (it : Addr) (h : Heap) (V : List Addr) (ds : List D) : Prop := ∃ l items i all, h.IsListIter it l i ∧ PL h l items ∧ l ∉ V ∧ RdL h V all items.toList ∧ all.drop i = ds
theorem isIter_list (it : Addr) : IsIter W n it [it] (ListIt it) (fun h V ds _ => ListIt it h V ds) where
  nextS := fun {s A E Q V d ds} hP hVa hA hQ => by
    obtain ⟨l, items, i, all, hit, hpl, hl, hr, hd⟩ := hP
    obtain ⟨h1, h2⟩ := drop_cons hd
    obtain ⟨v, hv, rv⟩ := RdL.get hr h1
    have hv' : items[i]? = some v := by rw [← Array.getElem?_toList]; exact hv
    refine wpAny_pyNext_list_item hit hpl.isList hv' fun h' hit' hsb => ?_
    obtain ⟨o, ho, hc, hf⟩ := id hit
    have kp := kp_same V ho hf hsb.extBut
    refine hQ v _ (Rd.mono kp _ _ rv) ⟨l, items, i + 1, all, hit', ?_, hl, RdL.mono kp _ _ hr, h2⟩ (iext_same (tk := s.toks) hsb.extBut)
    obtain ⟨ol, k, hol, r1, r2, r3⟩ := hpl
    exact ⟨ol, k, (kp l ol _ _ hol r3 hl).1, r1, r2, r3⟩
  nextN := fun {s A E Q V} hP hA hQ => by
    obtain ⟨l, items, i, all, hit, hpl, hl, hr, hd⟩ := hP
    have hn : items[i]? = Option.none := by
      have h1 := RdL.length hr
      rw [List.drop_eq_nil_iff] at hd
      rw [Array.getElem?_eq_none_iff]
      rw [Array.length_toList] at h1
      omega
    exact wpAny_pyNext_list_end hA.hd hit hpl.isList hn fun h' hx => hQ _ (iext_same (tk := s.toks) hx)
  go := fun {s A E Q V ds} target v _ hP hQ => by
    obtain ⟨l, items, i, all, ⟨o, ho, hc, hf⟩, r⟩ := id hP
    exact go_plain target v ho hc hf (by decide) (hQ s hP ⟨fun _ _ _ e => e, rfl, rfl⟩)
  again := fun {s A E Q V ds} hP hA hQ => by
    obtain ⟨l, items, i, all, hit, r⟩ := hP
    exact wpAny_pyIter_listiter hit hQ
  stable := fun {h h' V V' ds} hP kp hk => by
    obtain ⟨l, items, i, all, ⟨o, ho, hc, hf⟩, ⟨ol, k, hol, r1, r2, r3⟩, hl, hr, hd⟩ := hP
    obtain ⟨q1, q2⟩ := kp l ol _ _ hol r3 hl
    exact ⟨l, items, i, all, ⟨o, hk it (by simp) o ho, hc, hf⟩, ⟨ol, k, q1, r1, r2, r3⟩, q2, RdL.mono kp _ _ hr, hd⟩
  fldsM := fun {h V ds v} hP a ha => by
    obtain ⟨l, items, i, all, ⟨o, ho, hc, hf⟩, r⟩ := hP
    rw [List.mem_singleton.mp ha]
    exact ⟨o, _, ho, hf⟩
  flds := fun {h V ds} hP a ha => by
    obtain ⟨l, items, i, all, ⟨o, ho, hc, hf⟩, r⟩ := hP
    rw [List.mem_singleton.mp ha]
    exact ⟨o, _, ho, hf⟩
theorem new_none (h : Heap) : h.get? h.objs.size = Option.none := by
  cases q : h.get? h.objs.size with
  | none => rfl
  | some o => exact absurd (Heap.lt_size q) (Nat.lt_irrefl _)
theorem Ext.push {o : Obj} : Ext s { s with heap := s.heap.push o } := ⟨fun _ _ e => Heap.get?_push_of_some _ e, rfl, #[], by simp, fun _ h => by simp at h⟩
theorem iterOf_list {ds : List D} : IterOf W n (.list ds) ds := .mk fun s A v V E Q hg hA hr hV hQ => by
  obtain ⟨a, vs, rfl, hpl, ha, hrl⟩ := hr
  refine wpAny_pyIter_list hpl.isList (hQ _ [s.heap.objs.size] _ _ _ (isIter_list _) (fun _ _ _ _ h => h) ⟨a, vs, 0, ds, ⟨_, Heap.get?_push_size _ rfl, rfl, rfl⟩, ?_, ha, hrl.ext Ext.push, rfl⟩ (fun c hc => by rw [List.mem_singleton.mp hc]; exact new_none _) Ext.push)
  obtain ⟨o, k, ho, r⟩ := hpl
  exact ⟨o, k, Heap.get?_push_of_some _ ho, r⟩

noncomputable def TupIt (it : Addr) (h : Heap) (V : List Addr) (ds : List D) : Prop := ∃ l items i all, h.IsTupleIter it l i ∧ h.IsTuple l items ∧ l ∉ V ∧ RdL h V all items.toList ∧ all.drop i = ds
theorem isIter_tup (it : Addr) : IsIter W n it [it] (TupIt it) (fun h V ds _ => TupIt it h V ds) where
  nextS := fun {s A E Q V d ds} hP hVa hA hQ => by
    obtain ⟨l, items, i, all, hit, hpl, hl, hr, hd⟩ := hP
    obtain ⟨h1, h2⟩ := drop_cons hd
    obtain ⟨v, hv, rv⟩ := RdL.get hr h1
    have hv' : items[i]? = some v := by rw [← Array.getElem?_toList]; exact hv
    refine wpAny_pyNext_tuple_item hit hpl hv' fun h' hit' hsb => ?_
    obtain ⟨o, ho, hc, hf⟩ := id hit
    have kp := kp_same V ho hf hsb.extBut
    refine hQ v _ (Rd.mono kp _ _ rv) ⟨l, items, i + 1, all, hit', ?_, hl, RdL.mono kp _ _ hr, h2⟩ (iext_same (tk := s.toks) hsb.extBut)
    obtain ⟨ol, hol, r1, k, r3⟩ := hpl
    exact ⟨ol, (kp l ol _ _ hol r3 hl).1, r1, k, r3⟩
  nextN := fun {s A E Q V} hP hA hQ => by
    obtain ⟨l, items, i, all, hit, hpl, hl, hr, hd⟩ := hP
    have hn : items[i]? = Option.none := by
      have h1 := RdL.length hr
      rw [List.drop_eq_nil_iff] at hd
      rw [Array.getElem?_eq_none_iff]
      rw [Array.length_toList] at h1
      omega
    exact wpAny_pyNext_tuple_end hA.hd hit hpl hn fun h' hx => hQ _ (iext_same (tk := s.toks) hx)
  go := fun {s A E Q V ds} target v _ hP hQ => by
    obtain ⟨l, items, i, all, ⟨o, ho, hc, hf⟩, r⟩ := id hP
    exact go_plain target v ho hc hf (by decide) (hQ s hP ⟨fun _ _ _ e => e, rfl, rfl⟩)
  again := fun {s A E Q V ds} hP hA hQ => by
    obtain ⟨l, items, i, all, hit, r⟩ := hP
    exact wpAny_pyIter_tupleiter hit hQ
  stable := fun {h h' V V' ds} hP kp hk => by
    obtain ⟨l, items, i, all, ⟨o, ho, hc, hf⟩, ⟨ol, hol, r1, k, r3⟩, hl, hr, hd⟩ := hP
    obtain ⟨q1, q2⟩ := kp l ol _ _ hol r3 hl
    exact ⟨l, items, i, all, ⟨o, hk it (by simp) o ho, hc, hf⟩, ⟨ol, q1, r1, k, r3⟩, q2, RdL.mono kp _ _ hr, hd⟩
  fldsM := fun {h V ds v} hP a ha => by
    obtain ⟨l, items, i, all, ⟨o, ho, hc, hf⟩, r⟩ := hP
    rw [List.mem_singleton.mp ha]
    exact ⟨o, _, ho, hf⟩
  flds := fun {h V ds} hP a ha => by
    obtain ⟨l, items, i, all, ⟨o, ho, hc, hf⟩, r⟩ := hP
    rw [List.mem_singleton.mp ha]
    exact ⟨o, _, ho, hf⟩
theorem iterOf_tup {ds : List D} : IterOf W n (.tup ds) ds := .mk fun s A v V E Q hg hA hr hV hQ => by
  obtain ⟨a, vs, rfl, hpl, ha, hrl⟩ := hr
  refine wpAny_pyIter_tuple hpl (hQ _ [s.heap.objs.size] _ _ _ (isIter_tup _) (fun _ _ _ _ h => h) ⟨a, vs, 0, ds, ⟨_, Heap.get?_push_size _ rfl, rfl, rfl⟩, ?_, ha, hrl.ext Ext.push, rfl⟩ (fun c hc => by rw [List.mem_singleton.mp hc]; exact new_none _) Ext.push)
  obtain ⟨o, ho, r⟩ := hpl
  exact ⟨o, Heap.get?_push_of_some _ ho, r⟩

noncomputable def rngD (x : Int) : Nat → List D
  | 0 => []
  | k + 1 => .int x :: rngD (x + 1) k
noncomputable def RngIt (it : Addr) (h : Heap) (V : List Addr) (ds : List D) : Prop := ∃ x left, IsRangeIter h it x ((left : Nat) : Int) 1 ∧ ds = rngD x left
theorem isIter_rng (it : Addr) : IsIter W n it [it] (RngIt it) (fun h V ds _ => RngIt it h V ds) where
  nextS := fun {s A E Q V d ds} hP hVa hA hQ => by
    obtain ⟨x, left, hit, hd⟩ := hP
    cases left with
    | zero => cases hd
    | succ k =>
      simp only [rngD, List.cons.injEq] at hd
      obtain ⟨rfl, rfl⟩ := hd
      refine wpAny_pyNext_range_item hit (by omega) fun h' hit' hsb => ?_
      refine hQ _ _ ⟨_, rfl⟩ ⟨x + 1, k, ?_, rfl⟩ (iext_same hsb.extBut)
      have : ((k + 1 : Nat) : Int) - 1 = (k : Int) := by omega
      rw [this] at hit'
      exact hit'
  nextN := fun {s A E Q V} hP hA hQ => by
    obtain ⟨x, left, hit, hd⟩ := hP
    cases left with
    | zero => exact wpAny_pyNext_range_end hA.hd hit (by omega) fun h' hx => hQ _ (iext_same (tk := s.toks) hx)
    | succ k => cases hd
  go := fun {s A E Q V ds} target v _ hP hQ => by
    obtain ⟨x, left, hit, hd⟩ := id hP
    exact go_plain target v hit rfl rfl (by decide) (hQ s hP ⟨fun _ _ _ e => e, rfl, rfl⟩)
  again := fun {s A E Q V ds} hP hA hQ => by
    obtain ⟨x, left, hit, hd⟩ := hP
    exact wpAny_pyIter_rangeiter hit hQ
  stable := fun {h h' V V' ds} hP kp hk => by
    obtain ⟨x, left, hit, hd⟩ := hP
    exact ⟨x, left, hk it (by simp) _ hit, hd⟩
  fldsM := fun {h V ds v} hP a ha => by
    obtain ⟨x, left, hit, hd⟩ := hP
    rw [List.mem_singleton.mp ha]
    exact ⟨_, _, hit, rfl⟩
  flds := fun {h V ds} hP a ha => by
    obtain ⟨x, left, hit, hd⟩ := hP
    rw [List.mem_singleton.mp ha]
    exact ⟨_, _, hit, rfl⟩

noncomputable def byteDs (b : Array UInt8) : List D := b.toList.map fun c => .int (c.toNat : Int)
noncomputable def BytIt (it : Addr) (h : Heap) (V : List Addr) (ds : List D) : Prop := ∃ b t i, KBw.IsBytesIter h it b t i ∧ ds = (byteDs b).drop i
theorem isIter_byt (it : Addr) : IsIter W n it [it] (BytIt it) (fun h V ds _ => BytIt it h V ds) where
  nextS := fun {s A E Q V d ds} hP hVa hA hQ => by
    obtain ⟨b, t, i, hit, hd⟩ := hP
    obtain ⟨h1, h2⟩ := drop_cons hd.symm
    unfold byteDs at h1
    rw [List.getElem?_map] at h1
    obtain ⟨c, hc, rfl⟩ := Option.map_eq_some_iff.mp h1
    have hc' : b[i]? = some c := by rw [← Array.getElem?_toList]; exact hc
    refine KBw.next_item hit hc' fun h' hit' hsb => ?_
    exact hQ _ _ ⟨_, rfl⟩ ⟨b, t, i + 1, hit', h2.symm⟩ (iext_same hsb.extBut)
  nextN := fun {s A E Q V} hP hA hQ => by
    obtain ⟨b, t, i, hit, hd⟩ := hP
    have hn : b[i]? = Option.none := by
      have := List.drop_eq_nil_iff.mp hd.symm
      unfold byteDs at this
      rw [List.length_map, Array.length_toList] at this
      rw [Array.getElem?_eq_none_iff]; exact this
    exact KBw.next_end hA.hd hit hn fun h' hx => hQ _ (iext_same (tk := s.toks) hx)
  go := fun {s A E Q V ds} target v _ hP hQ => by
    obtain ⟨b, t, i, ⟨o, ho, hc, hf⟩, hd⟩ := id hP
    exact go_plain target v ho hc hf (by decide) (hQ s hP ⟨fun _ _ _ e => e, rfl, rfl⟩)
  again := fun {s A E Q V ds} hP hA hQ => by
    obtain ⟨b, t, i, hit, hd⟩ := hP
    exact KBw.pyIter_self hit hQ
  stable := fun {h h' V V' ds} hP kp hk => by
    obtain ⟨b, t, i, ⟨o, ho, hc, hf⟩, hd⟩ := hP
    exact ⟨b, t, i, ⟨o, hk it (by simp) o ho, hc, hf⟩, hd⟩
  fldsM := fun {h V ds v} hP a ha => by
    obtain ⟨b, t, i, ⟨o, ho, hc, hf⟩, hd⟩ := hP
    rw [List.mem_singleton.mp ha]
    exact ⟨o, _, ho, hf⟩
  flds := fun {h V ds} hP a ha => by
    obtain ⟨b, t, i, ⟨o, ho, hc, hf⟩, hd⟩ := hP
    rw [List.mem_singleton.mp ha]
    exact ⟨o, _, ho, hf⟩
theorem iterOf_byt {b : Array UInt8} : IterOf W n (.bytes b) (byteDs b) := .mk fun s A v V E Q hg hA hr hV hQ => by
  obtain ⟨t, rfl⟩ := hr
  exact KBw.pyIter_bytes (hQ _ [s.heap.objs.size] _ _ _ (isIter_byt _) (fun _ _ _ _ h => h) ⟨b, t, 0, ⟨_, Heap.get?_push_size _ rfl, rfl, rfl⟩, rfl⟩ (fun c hc => by rw [List.mem_singleton.mp hc]; exact new_none _) Ext.push)
end
end Mine
end

-- M11
section
open PySem PySem.W PyProof.Rows
set_option maxRecDepth 100000
namespace Mine
section
variable {W : Wd} {n m : Nat} {env : Env} {ρ : Rho} {s : Shared} {A : Around} {E : Value → Shared → Prop} {a b : Int} {x y : Str}

theorem op_add : Op2 W n (binaryOp .Add) (.int a) (.int b) (.int (a + b)) := .mk fun s A va vb V E Q hg hA ra rb hV h => by
  obtain ⟨t, rfl⟩ := ra; obtain ⟨u, rfl⟩ := rb
  exact wpAny_add_int (h _ _ ⟨_, rfl⟩ Ext.toks)
theorem op_sub : Op2 W n (binaryOp .Sub) (.int a) (.int b) (.int (a - b)) := .mk fun s A va vb V E Q hg hA ra rb hV h => by
  obtain ⟨t, rfl⟩ := ra; obtain ⟨u, rfl⟩ := rb
  exact AutoIntOps.sub_0 (h _ _ ⟨_, rfl⟩ Ext.toks)
theorem mulOk_left (h : a.natAbs < 2 ^ 64) : IntMulOk a b := IntMulOk.of_left (intBits_le_64 (by omega) (by omega))
theorem mulOk_right (h : b.natAbs < 2 ^ 64) : IntMulOk a b := IntMulOk.of_right (intBits_le_64 (by omega) (by omega))
theorem op_mul (hm : IntMulOk a b) : Op2 W n (binaryOp .Mult) (.int a) (.int b) (.int (a * b)) := .mk fun s A va vb V E Q hg hA ra rb hV h => by
  obtain ⟨t, rfl⟩ := ra; obtain ⟨u, rfl⟩ := rb
  exact AutoIntOps.mul_0 (h _ _ ⟨_, rfl⟩ Ext.toks) hm
theorem op_fdiv (hb : b ≠ 0) (hs : b.natAbs < 1073741824) : Op2 W n (binaryOp .FloorDiv) (.int a) (.int b) (.int (a.fdiv b)) := .mk fun s A va vb V E Q hg hA ra rb hV h => by
  obtain ⟨t, rfl⟩ := ra; obtain ⟨u, rfl⟩ := rb
  exact AutoIntOps.floordiv_1 (by simpa using hb) (by rw [PyProof.noPylong_small hs]; exact Bool.false_ne_true) (h _ _ ⟨_, rfl⟩ Ext.toks)
theorem op_mod (hb : b ≠ 0) : Op2 W n (binaryOp .Mod) (.int a) (.int b) (.int (a.fmod b)) := .mk fun s A va vb V E Q hg hA ra rb hV h => by
  obtain ⟨t, rfl⟩ := ra; obtain ⟨u, rfl⟩ := rb
  exact AutoIntOps.mod_1 (by simpa using hb) (h _ _ ⟨_, rfl⟩ Ext.toks)
theorem op_pow (h0 : 0 ≤ b) (h1 : b ≤ 1000000) (ha : a.natAbs < 2 ^ 64) : Op2 W n (binaryOp .Pow) (.int a) (.int b) (.int (a ^ b.toNat)) := .mk fun s A va vb V E Q hg hA ra rb hV h => by
  obtain ⟨t, rfl⟩ := ra; obtain ⟨u, rfl⟩ := rb
  exact pow_int h0 (bits_mul_le ha h0 h1) (h _ _ ⟨_, rfl⟩ Ext.toks)
theorem op_shl (h0 : 0 ≤ b) (h1 : b ≤ 1000000) (ha : a.natAbs < 2 ^ 64) : Op2 W n (binaryOp .LShift) (.int a) (.int b) (.int (a * 2 ^ b.toNat)) := .mk fun s A va vb V E Q hg hA ra rb hV h => by
  obtain ⟨t, rfl⟩ := ra; obtain ⟨u, rfl⟩ := rb
  exact lshift_int h0 (bits_add_le ha h1) (h _ _ ⟨_, rfl⟩ Ext.toks)
theorem op_shr (h0 : 0 ≤ b) : Op2 W n (binaryOp .RShift) (.int a) (.int b) (.int (a.fdiv (2 ^ b.toNat))) := .mk fun s A va vb V E Q hg hA ra rb hV h => by
  obtain ⟨t, rfl⟩ := ra; obtain ⟨u, rfl⟩ := rb
  exact rshift_int h0 (h _ _ ⟨_, rfl⟩ Ext.toks)
theorem op_and : Op2 W n (binaryOp .BitAnd) (.int a) (.int b) (.int (Builtin.bitAnd a b)) := .mk fun s A va vb V E Q hg hA ra rb hV h => by
  obtain ⟨t, rfl⟩ := ra; obtain ⟨u, rfl⟩ := rb
  exact and_int (h _ _ ⟨_, rfl⟩ Ext.toks)
theorem op_or : Op2 W n (binaryOp .BitOr) (.int a) (.int b) (.int (Builtin.bitOr a b)) := .mk fun s A va vb V E Q hg hA ra rb hV h => by
  obtain ⟨t, rfl⟩ := ra; obtain ⟨u, rfl⟩ := rb
  exact or_int (h _ _ ⟨_, rfl⟩ Ext.toks)
theorem op_subB {p q : Bool} : Op2 W n (binaryOp .Sub) (.bool p) (.bool q) (.int (b2i p - b2i q)) := .mk fun s A va vb V E Q hg hA ra rb hV h => by
  cases ra; cases rb
  exact sub_bool (h _ _ ⟨_, rfl⟩ Ext.toks)
theorem op_eq : Op2 W n (compareOp .Eq) (.int a) (.int b) (.bool (a == b)) := .mk fun s A va vb V E Q hg hA ra rb hV h => by
  obtain ⟨t, rfl⟩ := ra; obtain ⟨u, rfl⟩ := rb
  exact P.eq_int (h _ _ rfl (Ext.refl s))
theorem op_ne : Op2 W n (compareOp .NotEq) (.int a) (.int b) (.bool (a != b)) := .mk fun s A va vb V E Q hg hA ra rb hV h => by
  obtain ⟨t, rfl⟩ := ra; obtain ⟨u, rfl⟩ := rb
  exact P.ne_int (h _ _ rfl (Ext.refl s))
theorem op_lt : Op2 W n (compareOp .Lt) (.int a) (.int b) (.bool (decide (a < b))) := .mk fun s A va vb V E Q hg hA ra rb hV h => by
  obtain ⟨t, rfl⟩ := ra; obtain ⟨u, rfl⟩ := rb
  exact P.lt_int (h _ _ rfl (Ext.refl s))
theorem op_gt : Op2 W n (compareOp .Gt) (.int a) (.int b) (.bool (decide (b < a))) := .mk fun s A va vb V E Q hg hA ra rb hV h => by
  obtain ⟨t, rfl⟩ := ra; obtain ⟨u, rfl⟩ := rb
  exact P.gt_int (h _ _ rfl (Ext.refl s))
theorem op_le : Op2 W n (compareOp .LtE) (.int a) (.int b) (.bool (decide (a ≤ b))) := .mk fun s A va vb V E Q hg hA ra rb hV h => by
  obtain ⟨t, rfl⟩ := ra; obtain ⟨u, rfl⟩ := rb
  exact le_int (h _ _ rfl (Ext.refl s))
theorem op_ge : Op2 W n (compareOp .GtE) (.int a) (.int b) (.bool (decide (b ≤ a))) := .mk fun s A va vb V E Q hg hA ra rb hV h => by
  obtain ⟨t, rfl⟩ := ra; obtain ⟨u, rfl⟩ := rb
  exact ge_int (h _ _ rfl (Ext.refl s))
theorem op_ltS : Op2 W n (compareOp .Lt) (.str x) (.str y) (.bool (decide (x.cps.toList < y.cps.toList))) := .mk fun s A va vb V E Q hg hA ra rb hV h => by
  obtain ⟨t, rfl⟩ := ra; obtain ⟨u, rfl⟩ := rb
  exact P.lt_str (h _ _ rfl (Ext.refl s))
theorem op_gtS : Op2 W n (compareOp .Gt) (.str x) (.str y) (.bool (decide (y.cps.toList < x.cps.toList))) := .mk fun s A va vb V E Q hg hA ra rb hV h => by
  obtain ⟨t, rfl⟩ := ra; obtain ⟨u, rfl⟩ := rb
  exact P.gt_str (h _ _ rfl (Ext.refl s))
theorem op_eqS : Op2 W n (compareOp .Eq) (.str x) (.str y) (.bool (x.cps.toList == y.cps.toList)) := .mk fun s A va vb V E Q hg hA ra rb hV h => by
  obtain ⟨t, rfl⟩ := ra; obtain ⟨u, rfl⟩ := rb
  exact P.eq_str (h _ _ rfl (Ext.refl s))

/-- data that lie in no heap -/
noncomputable def D.flat : D → Bool
  | .list _ | .tup _ => false
  | _ => true
theorem op_isNone {d : D} (hd : d.flat = true) : Op2 W n (compareOp .Is) d .none (.bool (match d with | .none => true | _ => false)) := .mk fun s A va vb V E Q hg hA ra rb hV h => by
  cases rb
  cases d <;> first
    | (cases hd; done)
    | (obtain ⟨t, rfl⟩ := ra; exact is_none_ne (by intro q; cases q) (h _ _ rfl (Ext.refl s)))
    | (cases ra; first | exact is_none_none (h _ _ rfl (Ext.refl s)) | exact is_none_ne (by intro q; cases q) (h _ _ rfl (Ext.refl s)))
theorem op_isNotNone {d : D} (hd : d.flat = true) : Op2 W n (compareOp .IsNot) d .none (.bool (match d with | .none => false | _ => true)) := .mk fun s A va vb V E Q hg hA ra rb hV h => by
  cases rb
  cases d <;> first
    | (cases hd; done)
    | (obtain ⟨t, rfl⟩ := ra; exact isnot_none_ne (by intro q; cases q) (h _ _ rfl (Ext.refl s)))
    | (cases ra; first | exact isnot_none_none (h _ _ rfl (Ext.refl s)) | exact isnot_none_ne (by intro q; cases q) (h _ _ rfl (Ext.refl s)))
theorem op_isTy {p q : String} (hp : plainIs (.type p) (.type q) = true) : Op2 W n (compareOp .Is) (.ty p) (.ty q) (.bool (Value.type p == Value.type q)) := .mk fun s A va vb V E Q hg hA ra rb hV h => by
  cases ra; cases rb
  exact wpAny_is_plain hp (h _ _ rfl (Ext.refl s))

theorem Ex.neg {e : Expr} {pos : Pos} {a : Int} (he : Ex W n env ρ e (.int a)) : Ex W n env ρ (.UnaryOp .USub e pos) (.int (-a)) := .mk fun B G fp s A E Q S hA h => by
  show wpAny W.M A (do let v ← eval e env; standAt pos; holding [v] (unaryOp .USub v)) Q E s
  refine wpAny_bind (he.r B G fp s A E _ S hA fun v s₁ rv e₁ => wpAny_bind (wpAny_standAt (wpAny_holding ?_)))
  obtain ⟨t, rfl⟩ := rv
  exact neg_int (h _ _ ⟨_, rfl⟩ (e₁.trans Ext.toks))
theorem neg_one {k₁ : Nat} {p₁ p₂ : Pos} {Q : Value → Shared → Prop} (h : ∀ t tk, Q (.int (-1) t) { s with toks := tk }) : wpAny W.M A (eval (.UnaryOp .USub (.Constant (.int 1) k₁ p₁) p₂) env) Q E s := by
  show wpAny W.M A (do let v ← eval (.Constant (.int 1) k₁ p₁) env; standAt p₂; holding [v] (unaryOp .USub v)) Q E s
  exact wpAny_bind (wpAny_Constant_int (wpAny_bind (wpAny_standAt (wpAny_holding (neg_int (h _ _))))))

/-- range -/
theorem Itx.range1 {p pos : Pos} {e : Expr} {k : Int} (hf : Gv W env "range" (.type "range")) (he : Ex W n env ρ e (.int k)) (h0 : 0 ≤ k) (h1 : k < 2 ^ 62) (hp : plainArgs [e] = true) : Itx W n env ρ (.Call (.Name "range" p) [e] [] pos) (rngD 0 k.toNat) :=
  .mk fun B G fp s A E Q S hA hQ => by
    refine wpAny_Call_Name_kw (hf.load S ?_)
    rw [backTo_plain hp]
    refine callWith_any (any_false_map _) (evalArgs_exs (Exs.cons he Exs.nil) S hA fun vs s₁ rvs e₁ => ⟨(fun a h => by cases h), ?_⟩)
    obtain ⟨v, vs', rfl, ⟨t, rfl⟩, rfl⟩ := rvs
    refine call_range_1 ?_
    refine wpAny_pyIter_range (IsRange.new ..) (small_one (by omega) (by omega) (by omega) h1) ?_
    have e₂ : Ext s₁ { s₁ with heap := s₁.heap.push { cls := .type "range", data := .fields #[.int 0 s₁.toks, .int k t, .int 1 (s₁.toks + 1)] }, toks := s₁.toks + 1 + 1 } := ⟨fun _ _ e => Heap.get?_push_of_some _ e, rfl, #[], by simp, fun _ h => by simp at h⟩
    refine hQ _ [_] _ _ _ (isIter_rng _) (fun _ _ _ _ h => h) ⟨0, k.toNat, ?_, rfl⟩ (fun c hc => ?_) ((e₁.trans e₂).trans Ext.push)
    · have : Builtin.Range.rangeSize 0 k 1 = ((k.toNat : Nat) : Int) := by rw [rangeSize_one]; split <;> omega
      rw [← this]
      exact Heap.get?_push_size _ rfl
    · rw [List.mem_singleton.mp hc]
      cases q : s.heap.get? _ with
      | none => rfl
      | some o => have := (e₁.trans e₂).keep _ o q; rw [new_none] at this; cases this
theorem Itx.range2 {p pos : Pos} {e e' : Expr} {j k : Int} (hf : Gv W env "range" (.type "range")) (he : Ex W n env ρ e (.int j)) (he' : Ex W n env ρ e' (.int k)) (hj : 0 ≤ j) (hj' : j < 2 ^ 62) (h0 : 0 ≤ k) (h1 : k < 2 ^ 62) (hp : plainArgs [e, e'] = true) :
    Itx W n env ρ (.Call (.Name "range" p) [e, e'] [] pos) (rngD j (k - j).toNat) :=
  .mk fun B G fp s A E Q S hA hQ => by
    refine wpAny_Call_Name_kw (hf.load S ?_)
    rw [backTo_plain hp]
    refine callWith_any (any_false_map _) (evalArgs_exs (Exs.cons he (Exs.cons he' Exs.nil)) S hA fun vs s₁ rvs e₁ => ⟨(fun a h => by cases h), ?_⟩)
    obtain ⟨v, vs', rfl, ⟨t, rfl⟩, v', vs'', rfl, ⟨t', rfl⟩, rfl⟩ := rvs
    refine call_range_2 ?_
    refine wpAny_pyIter_range (IsRange.new ..) (small_one (by omega) (by omega) (by omega) h1) ?_
    have e₂ : Ext s₁ { s₁ with heap := s₁.heap.push { cls := .type "range", data := .fields #[.int j t, .int k t', .int 1 s₁.toks] }, toks := s₁.toks + 1 } := ⟨fun _ _ e => Heap.get?_push_of_some _ e, rfl, #[], by simp, fun _ h => by simp at h⟩
    refine hQ _ [_] _ _ _ (isIter_rng _) (fun _ _ _ _ h => h) ⟨j, (k - j).toNat, ?_, rfl⟩ (fun c hc => ?_) ((e₁.trans e₂).trans Ext.push)
    · have : Builtin.Range.rangeSize j k 1 = (((k - j).toNat : Nat) : Int) := by rw [rangeSize_one]; split <;> omega
      rw [← this]
      exact Heap.get?_push_size _ rfl
    · rw [List.mem_singleton.mp hc]
      cases q : s.heap.get? _ with
      | none => rfl
      | some o => have := (e₁.trans e₂).keep _ o q; rw [new_none] at this; cases this
end
end Mine
end

-- M12
section
open PySem PySem.W PyProof.Rows
set_option maxRecDepth 100000
namespace Mine
section
variable {W : Wd} {n m : Nat} {env : Env} {B : Heap} {G fp : List Addr} {ρ : Rho} {s : Shared} {A : Around} {E : Value → Shared → Prop}

/-- an index that may count from the end -/
noncomputable def idxD (k : Int) (len : Nat) : Nat := if k < 0 then (k + len).toNat else k.toNat
theorem Ex.item {v i : Expr} {pos : Pos} {ds : List D} {k : Int} {d : D} (hv : Ex W n env ρ v (.list ds)) (hi : Ex W n env ρ i (.int k)) (hl : -(ds.length : Int) ≤ k) (hk : k < ds.length) (hsz : ds.length ≤ 1000000) (hd : ds[idxD k ds.length]? = some d)
    (hns : ∀ a t, subscripted i false (.ref a) (.int k t) = operate [.ref a, .int k t] (getItem (.ref a) (.int k t))) : Ex W n env ρ (.Subscript v i pos) d := .mk fun B G fp s A E Q S hA h => by
  refine Subscript_ (hv.r B G fp s A E _ S hA fun vv s₁ rv e₁ => hi.r B G fp s₁ A E _ (S.ext e₁) hA fun iv s₂ ri e₂ => ?_)
  obtain ⟨t, rfl⟩ := ri
  have rv₂ := rv.ext e₂
  obtain ⟨a, vs, rfl, hpl, ha, hr⟩ := rv₂
  obtain ⟨x, hx, rx⟩ := RdL.get hr hd
  have hlen : vs.size = ds.length := by rw [← RdL.length hr, Array.length_toList]
  have hx' : vs[idxD k ds.length]? = some x := by rw [← Array.getElem?_toList]; exact hx
  refine tail_any hpl.isList.typeIs list_getitem_lookup ?_ (hns a t)
  unfold idxD at hx'
  by_cases hn : k < 0
  · rw [if_pos hn] at hx'
    exact wpAny_getItem_list_neg hpl.isList hn (by omega) (by omega) (by rw [hlen]; exact hx') (h x s₂ rx (e₁.trans e₂))
  · rw [if_neg hn] at hx'
    exact wpAny_getItem_list hpl.isList (by omega) (by omega) hx' (h x s₂ rx (e₁.trans e₂))

theorem ElsOk.get {h : Heap} {V : List Addr} : ∀ {es : List El} {vs : List Value} {fp : List Addr} {j : Nat} {d : D}, ElsOk h V es vs fp → es[j]? = some (.sh d) → ∃ v, vs[j]? = some v ∧ Rd h V d v
  | [], _, _, _, _, _, e => by simp at e
  | .sh d' :: es, _, _, 0, d, x, e => by
    obtain ⟨v', vs, rfl, h1, h2⟩ := x
    simp at e; subst e
    exact ⟨v', by simp, h1⟩
  | .ow ds :: es, _, _, 0, d, x, e => by simp at e
  | .sh d' :: es, _, _, j + 1, d, x, e => by
    obtain ⟨v', vs, rfl, h1, h2⟩ := x
    obtain ⟨v, h3, h4⟩ := ElsOk.get h2 (by simpa using e)
    exact ⟨v, by simpa using h3, h4⟩
  | .ow ds :: es, _, _, j + 1, d, x, e => by
    obtain ⟨a, ws, vs, fp, rfl, h0, h1, rfl, h2⟩ := x
    obtain ⟨v, h3, h4⟩ := ElsOk.get h2 (by simpa using e)
    exact ⟨v, by simpa using h3, h4⟩
/-- an item of a list of the frame's own -/
theorem Ex.itemOwn {x : Str} {i : Expr} {p pos : Pos} {els : List El} {k : Int} {d : D} (hx : ρ.lookup x = some (.own els)) (hi : Ex W n env ρ i (.int k)) (h0 : 0 ≤ k) (hsz : k < 1000000) (hd : els[k.toNat]? = some (.sh d))
    (hns : ∀ a t, subscripted i false (.ref a) (.int k t) = operate [.ref a, .int k t] (getItem (.ref a) (.int k t))) : Ex W n env ρ (.Subscript (.Name x p) i pos) d := .mk fun B G fp s A E Q S hA h => by
  refine Subscript_ (S.name hx fun vv f hb => hi.r B G fp s A E _ S hA fun iv s₂ ri e₂ => ?_)
  obtain ⟨t, rfl⟩ := ri
  obtain ⟨a, vs, f₂, rfl, hpl, hels, rfl⟩ := hb
  obtain ⟨y, hy, ry⟩ := ElsOk.get hels hd
  have hy' : vs[k.toNat]? = some y := by rw [← Array.getElem?_toList]; exact hy
  have hpl₂ : PL s₂.heap a vs := by obtain ⟨o, k, ho, r⟩ := hpl; exact ⟨o, k, e₂.keep a o ho, r⟩
  exact tail_any hpl₂.isList.typeIs list_getitem_lookup (wpAny_getItem_list hpl₂.isList h0 (by omega) hy' (h y s₂ (ry.ext e₂) e₂)) (hns a t)

theorem Ex.itemStr {v i : Expr} {pos : Pos} {x : Str} {k : Int} {c : Nat} (hv : Ex W n env ρ v (.str x)) (hi : Ex W n env ρ i (.int k)) (h0 : 0 ≤ k) (hk : k < 1000000) (hc : x.cps[k.toNat]? = some c)
    (hns : ∀ t u, subscripted i false (.str x t) (.int k u) = operate [.str x t, .int k u] (getItem (.str x t) (.int k u))) : Ex W n env ρ (.Subscript v i pos) (.str ⟨#[c]⟩) := .mk fun B G fp s A E Q S hA h => by
  refine Subscript_ (hv.r B G fp s A E _ S hA fun vv s₁ rv e₁ => hi.r B G fp s₁ A E _ (S.ext e₁) hA fun iv s₂ ri e₂ => ?_)
  obtain ⟨t, rfl⟩ := rv
  obtain ⟨u, rfl⟩ := ri
  refine tail_any (typeIs_str s₂ x t) F.slot_str_getitem.lookup ?_ (hns t u)
  refine P.getItem_str (by simp; omega) ?_ (h _ _ ⟨_, rfl⟩ ((e₁.trans e₂).trans Ext.toks))
  have hl : k.toNat < x.cps.size := by
    rcases Nat.lt_or_ge k.toNat x.cps.size with h | h
    · exact h
    · rw [Array.getElem?_eq_none h] at hc; cases hc
  have : seqIndex? k x.length = some k.toNat := by
    have hn : ¬ k < 0 := by omega
    have hk' : k < (x.length : Int) := by show k < (x.cps.size : Int); omega
    simp [seqIndex?, hn, h0, hk']
  rw [this]
  exact hc
theorem Ex.itemBytes {v i : Expr} {pos : Pos} {l : List UInt8} {k : Int} (hv : Ex W n env ρ v (.bytes l.toArray)) (hi : Ex W n env ρ i (.int k)) (hl : l.length ≤ 1000000) (h0 : 0 ≤ k) (hk : k < l.length)
    (hns : ∀ t u, subscripted i false (.bytes l.toArray t) (.int k u) = operate [.bytes l.toArray t, .int k u] (getItem (.bytes l.toArray t) (.int k u))) : Ex W n env ρ (.Subscript v i pos) (.int (l.getD k.toNat 0).toNat) := .mk fun B G fp s A E Q S hA h => by
  refine Subscript_ (hv.r B G fp s A E _ S hA fun vv s₁ rv e₁ => hi.r B G fp s₁ A E _ (S.ext e₁) hA fun iv s₂ ri e₂ => ?_)
  obtain ⟨t, rfl⟩ := rv
  obtain ⟨u, rfl⟩ := ri
  exact tail_any (PySem.W.typeIs_bytes s₂ _ t) FB.slot_bytes_getitem.lookup (getItem_bytes (by omega) h0 hk (h _ _ ⟨_, rfl⟩ ((e₁.trans e₂).trans Ext.toks))) (hns t u)

/-- a part of a slice -/
noncomputable def Part (W : Wd) (n : Nat) (env : Env) (ρ : Rho) : Option Expr → Option Int → Prop
  | .none, k => k = .none
  | .some e, k => ∃ i, k = .some i ∧ Ex W n env ρ e (.int i)
theorem Part.ev {o : Option Expr} {k : Option Int} {Q : Value → Shared → Prop} (h : Part W n env ρ o k) (S : St W env B G fp s ρ) (hA : AOk n A) (hQ : ∀ v s', IsPart v k → Ext s s' → Q v s') : wpAny W.M A (valueOrNone (evalOpt o env)) Q E s := by
  cases o with
  | none =>
    rw [show k = Option.none from h] at hQ
    exact wpAny_pure (hQ _ s .none (Ext.refl s))
  | some e =>
    obtain ⟨i, rfl, he⟩ := h
    exact he.r B G fp s A E _ S hA fun v s₁ rv e₁ => by
      obtain ⟨t, rfl⟩ := rv
      exact hQ _ s₁ (.int i t) e₁
theorem slice_ev {lo hi st : Option Expr} {p : Pos} {l u k : Option Int} {Q : Value → Shared → Prop} (h1 : Part W n env ρ lo l) (h2 : Part W n env ρ hi u) (h3 : Part W n env ρ st k) (S : St W env B G fp s ρ) (hA : AOk n A)
    (hQ : ∀ vl vu vk s₁, IsPart vl l → IsPart vu u → IsPart vk k → Ext s s₁ → Q (.ref s₁.heap.objs.size) { s₁ with heap := s₁.heap.push { cls := .type "slice", data := .fields #[vl, vu, vk] } }) : wpAny W.M A (eval (.Slice lo hi st p) env) Q E s := by
  rw [arm_eval_Slice]
  refine wpAny_bind (h1.ev S hA fun vl s₁ p1 e₁ => ?_)
  refine wpAny_bind (wpAny_holding (h2.ev (S.ext e₁) hA fun vu s₂ p2 e₂ => ?_))
  refine wpAny_bind (wpAny_holding (h3.ev ((S.ext e₁).ext e₂) hA fun vk s₃ p3 e₃ => ?_))
  exact wpAny_newObj_type (hQ vl vu vk s₃ p1 p2 p3 ((e₁.trans e₂).trans e₃))

noncomputable def pickD {α : Type} (ds : List α) (lo hi st : Option Int) : List α := (sliceRange (sliceBounds lo hi st ds.length).1 (sliceBounds lo hi st ds.length).2.1 (sliceBounds lo hi st ds.length).2.2).filterMap (ds[·]?)
theorem RdL.none {h : Heap} {V : List Addr} {ds : List D} {vs : List Value} {j : Nat} (hr : RdL h V ds vs) (hd : ds[j]? = Option.none) : vs[j]? = Option.none := by
  have := RdL.length hr
  rw [List.getElem?_eq_none_iff] at hd ⊢
  omega
theorem RdL.places {h : Heap} {V : List Addr} {ds : List D} {vs : List Value} (hr : RdL h V ds vs) : ∀ js : List Nat, RdL h V (js.filterMap (ds[·]?)) (js.filterMap (vs[·]?))
  | [] => rfl
  | j :: js => by
    have ih := RdL.places hr js
    cases hd : ds[j]? with
    | some d =>
      obtain ⟨v, hv, rv⟩ := RdL.get hr hd
      simp only [List.filterMap_cons, hd, hv]
      exact ⟨v, _, rfl, rv, ih⟩
    | none =>
      simp only [List.filterMap_cons, hd, RdL.none hr hd]
      exact ih
theorem Ex.sliceL {v : Expr} {lo hi st : Option Expr} {p pos : Pos} {ds : List D} {l u k : Option Int} (hv : Ex W n env ρ v (.list ds)) (h1 : Part W n env ρ lo l) (h2 : Part W n env ρ hi u) (h3 : Part W n env ρ st k) (h0 : k ≠ some 0) (hsz : ds.length ≤ 1000000) :
    Ex W n env ρ (.Subscript v (.Slice lo hi st p) pos) (.list (pickD ds l u k)) := .mk fun B G fp s A E Q S hA h => by
  refine Subscript_ (hv.r B G fp s A E _ S hA fun vv s₁ rv e₁ => slice_ev h1 h2 h3 (S.ext e₁) hA fun vl vu vk s₂ p1 p2 p3 e₂ => ?_)
  have rv₂ := rv.ext e₂
  obtain ⟨a, vs, rfl, hpl, ha, hr⟩ := rv₂
  have hlen : vs.size = ds.length := by rw [← RdL.length hr, Array.length_toList]
  generalize hsl : s₂.heap.push { cls := .type "slice", data := .fields #[vl, vu, vk] } = h₃
  have e₃ : Ext s₂ { s₂ with heap := h₃ } := hsl ▸ Ext.push
  have hpl₃ : PL h₃ a vs := by obtain ⟨o, k, ho, r⟩ := hpl; exact ⟨o, k, e₃.keep a o ho, r⟩
  have hS : h₃.IsSliceOf s₂.heap.objs.size vl vu vk := hsl ▸ Heap.IsSliceOf.new ..
  have hV := (((S.ext e₁).ext e₂).ext e₃).valloc
  have e₄ : Ext { s₂ with heap := h₃ } { s₂ with heap := h₃.push { cls := .type "list", data := .seq (slicePick vs l u k) } } := ⟨fun _ _ e => Heap.get?_push_of_some _ e, rfl, #[], by simp, fun _ h => by simp at h⟩
  have key : wpAny W.M A (getItem (.ref a) (.ref s₂.heap.objs.size)) Q E { s₂ with heap := h₃ } := by
    refine wpAny_getItem_list_slice (s := { s₂ with heap := h₃ }) hpl₃.isList hS p1 p2 p3 h0 ?_ (by rw [hlen, sizeLine_eq]; omega)
    refine h _ _ ⟨_, _, rfl, ⟨_, _, Heap.get?_push_size _ rfl, rfl, ⟨rfl, rfl⟩, rfl⟩, fun hm => ?_, ?_⟩ (((e₁.trans e₂).trans e₃).trans e₄)
    · obtain ⟨⟨o, ho⟩, _⟩ := hV _ hm
      have : h₃.get? h₃.objs.size = some o := ho
      rw [new_none] at this; cases this
    · have hpick : (slicePick vs l u k).toList = (sliceRange (sliceBounds l u k ds.length).1 (sliceBounds l u k ds.length).2.1 (sliceBounds l u k ds.length).2.2).filterMap (vs.toList[·]?) := by
        simp [slicePick, hlen]
      rw [hpick]
      exact RdL.ext (s := { s₂ with heap := h₃ }) (RdL.places (hr.ext e₃) _) e₄
  cases st with
  | none => exact tail_any (hpl₃.isList.typeIs (s := { s₂ with heap := h₃ })) list_getitem_lookup key (ops := [.ref s₂.heap.objs.size, .ref a]) rfl
  | some q => exact tail_any (hpl₃.isList.typeIs (s := { s₂ with heap := h₃ })) list_getitem_lookup key (ops := [.ref a, .ref s₂.heap.objs.size]) rfl

theorem Ex.sliceS {v : Expr} {lo hi : Option Expr} {p pos : Pos} {x : Str} {l u : Option Int} (hv : Ex W n env ρ v (.str x)) (h1 : Part W n env ρ lo l) (h2 : Part W n env ρ hi u) (hsz : x.length ≤ 1000000) :
    Ex W n env ρ (.Subscript v (.Slice lo hi .none p) pos) (.str (Txt.slice x l u)) := .mk fun B G fp s A E Q S hA h => by
  refine Subscript_ (hv.r B G fp s A E _ S hA fun vv s₁ rv e₁ => slice_ev h1 h2 (k := .none) rfl (S.ext e₁) hA fun vl vu vk s₂ p1 p2 p3 e₂ => ?_)
  obtain ⟨t, rfl⟩ := rv
  have hsz' : x.length ≤ sizeLine := by rw [sizeLine_eq]; omega
  cases p3
  have kb : KeptByPush (fun s' => Ext s s') := fun s ob k h => h.trans ⟨fun _ _ e => Heap.get?_push_of_some _ e, rfl, #[], by simp, fun _ h => by simp at h⟩
  have e₀ : Ext s s₂ := e₁.trans e₂
  have fin : ∀ {i : Value} {s₃ : Shared}, ItemOn W.M A E (.str x t) i Q s₃ → wpAny W.M A (subscriptTail v (.Slice lo hi .none p) (.str x t) i) Q E s₃ := fun {i s₃} hi => by
    obtain ⟨T, id, hl, hT, hg⟩ := hi
    exact tail_any hT hl hg (ops := [i, .str x t]) rfl
  cases p1 with
  | none => cases p2 with
    | none => exact fin (SBG.sliceItem_nn kb e₀ (fun s' t' e => h _ _ ⟨_, rfl⟩ e) hsz')
    | int j tj => exact fin (SBG.sliceItem_ns kb e₀ (fun s' t' e => h _ _ ⟨_, rfl⟩ e) hsz')
  | int i ti => cases p2 with
    | none => exact fin (SBG.sliceItem_sn kb e₀ (fun s' t' e => h _ _ ⟨_, rfl⟩ e) hsz')
    | int j tj => exact fin (SBG.sliceItem_ss kb e₀ (fun s' t' e => h _ _ ⟨_, rfl⟩ e) hsz')
end
end Mine
end

-- M13
section
open PySem PySem.W PyProof.Rows
set_option maxRecDepth 100000
namespace Mine
section
variable {W : Wd} {n m : Nat} {env : Env} {B : Heap} {G fp : List Addr} {ρ : Rho} {s : Shared} {A : Around} {E : Value → Shared → Prop}

theorem Ext.of_kept {h' : Heap} {tk : Nat} (hk : ∀ b o, s.heap.get? b = some o → h'.get? b = some o) : Ext s { s with heap := h', toks := tk } := ⟨hk, rfl, #[], by simp, fun _ h => by simp at h⟩

theorem fn_len {ds : List D} (hl : ds.length ≤ 1000000) : Fn W n (.builtin "len") [.list ds] (.int ds.length) := .mk fun s A vs V E Q hg hA hr hV hQ => by
  obtain ⟨v, vs', rfl, ⟨a, its, rfl, hpl, ha, hrl⟩, rfl⟩ := hr
  have hlen : its.size = ds.length := by rw [← RdL.length hrl, Array.length_toList]
  refine Calls.call_len_list hpl.isList (by omega) (hQ _ _ ⟨s.toks + 1, by rw [hlen]⟩ Ext.toks)

theorem ints_of {h : Heap} {V : List Addr} : ∀ {ns : List Int} {vs : List Value}, RdL h V (ns.map .int) vs → IntsAre vs ns
  | [], _, x => by rw [show _ = [] from x]; exact .nil
  | k :: ns, _, x => by obtain ⟨v, vs, rfl, ⟨t, rfl⟩, h2⟩ := x; exact .cons k t (ints_of h2)
theorem strs_of {h : Heap} {V : List Addr} : ∀ {ns : List Str} {vs : List Value}, RdL h V (ns.map .str) vs → StrsAre vs ns
  | [], _, x => by rw [show _ = [] from x]; exact .nil
  | k :: ns, _, x => by obtain ⟨v, vs, rfl, ⟨t, rfl⟩, h2⟩ := x; exact .cons k t (strs_of h2)

theorem fn_sum {ns : List Int} : Fn W n (.builtin "sum") [.list (ns.map .int)] (.int ns.sum) := .mk fun s A vs V E Q hg hA hr hV hQ => by
  obtain ⟨v, vs', rfl, ⟨a, its, rfl, hpl, ha, hrl⟩, rfl⟩ := hr
  have hi := ints_of hrl
  have hl := hpl.isList
  obtain ⟨xs, hxs⟩ := hi.allInts.items
  have hxs' : its = intItems xs := by rw [← hxs]
  subst hxs'
  refine sum_intListG hA.hd hl fun h' tk t' hk => ?_
  have := hi.numsOf
  rw [nums_intItems] at this
  rw [preSum_eq, List.take_of_length_le (by simp), this]
  exact hQ _ _ ⟨t', rfl⟩ (Ext.of_kept hk)

theorem fn_isi_int {k : Int} : Fn W n (.builtin "isinstance") [.int k, .ty "int"] (.bool true) := .mk fun s A vs V E Q hg hA hr hV hQ => by
  obtain ⟨v, vs', rfl, ⟨t, rfl⟩, v', vs'', rfl, rfl, rfl⟩ := hr
  exact IsiPair.int_int (hQ _ _ rfl (Ext.refl s))
theorem fn_isi_bool {k : Int} : Fn W n (.builtin "isinstance") [.int k, .ty "bool"] (.bool false) := .mk fun s A vs V E Q hg hA hr hV hQ => by
  obtain ⟨v, vs', rfl, ⟨t, rfl⟩, v', vs'', rfl, rfl, rfl⟩ := hr
  exact IsiPair.int_bool (hQ _ _ rfl Ext.toks)
theorem fn_isi_bytes {b : Array UInt8} : Fn W n (.builtin "isinstance") [.bytes b, .ty "bytes"] (.bool true) := .mk fun s A vs V E Q hg hA hr hV hQ => by
  obtain ⟨v, vs', rfl, ⟨t, rfl⟩, v', vs'', rfl, rfl, rfl⟩ := hr
  exact call_isinstance_yes (Tx := "bytes") (PySem.W.typeIs_bytes s _ _) F.isi_meta_bytes PySem.F.bm_sub (hQ _ _ rfl (Ext.refl s)) 
theorem fn_type_bytes {b : Array UInt8} : Fn W n (.type "type") [.bytes b] (.ty "bytes") := .mk fun s A vs V E Q hg hA hr hV hQ => by
  obtain ⟨v, vs', rfl, ⟨t, rfl⟩, rfl⟩ := hr
  exact call_type_of (PySem.W.typeIs_bytes s _ _) (by decide) (hQ _ _ rfl (Ext.refl s))
theorem fn_type_bool {b : Bool} : Fn W n (.type "type") [.bool b] (.ty "bool") := .mk fun s A vs V E Q hg hA hr hV hQ => by
  obtain ⟨v, vs', rfl, rfl, rfl⟩ := hr
  exact call_type_of (PySem.typeIs_bool s _) (by decide) (hQ _ _ rfl (Ext.refl s))
theorem fn_bytes {ns : List Int} (hr : ∀ n ∈ ns, 0 ≤ n ∧ n < 256) (hl : ns.length ≤ 1000000) : Fn W n (.type "bytes") [.list (ns.map .int)] (.bytes (byteArr ns)) := .mk fun s A vs V E Q hg hA hr' hV hQ => by
  obtain ⟨v, vs', rfl, ⟨a, its, rfl, hpl, ha, hrl⟩, rfl⟩ := hr'
  have hi := ints_of hrl
  have e : its.toList.toArray = its := by simp
  refine call_bytes_ints (vs := its.toList) (by rw [e]; exact hpl.isList) hi hr (by rw [hi.length, sizeLine_eq]; omega) hA.hd fun h' t k hk => hQ _ _ ⟨_, rfl⟩ (Ext.of_kept hk)
theorem fn_chr {k : Int} (h0 : 0 ≤ k) (h1 : k < 0x10FFFF) : Fn W n (.builtin "chr") [.int k] (.str ⟨#[k.toNat]⟩) := .mk fun s A vs V E Q hg hA hr hV hQ => by
  obtain ⟨v, vs', rfl, ⟨t, rfl⟩, rfl⟩ := hr
  exact P.chr_of_int (by simp; omega) (hQ _ _ ⟨_, rfl⟩ Ext.toks)
theorem fn_join {x : Str} {ys : List Str} (hok : (ys.map (·.length)).sum + ys.length * x.length ≤ 16777216) : Fn W n (.builtin "str.join") [.str x, .list (ys.map .str)] (.str (Txt.join x ys)) := .mk fun s A vs V E Q hg hA hr hV hQ => by
  obtain ⟨v, vs', rfl, ⟨t, rfl⟩, v', vs'', rfl, ⟨a, its, rfl, hpl, ha, hrl⟩, rfl⟩ := hr
  exact join_list hpl.isList (strs_of hrl) hok fun t' k => hQ _ _ ⟨_, rfl⟩ Ext.toks

/-- a method of a built-in type -/
theorem Ex.method {o e : Expr} {name : Str} {apos pos : Pos} {es : List Expr} {T id : String} {d₀ d : D} {ds : List D}
    (ho : Ex W n env ρ o d₀) (hbase : attributeBase o name env (eval o env) = eval o env) (hlen : (e :: es).length < 30) (hline : (apos.endLine == pos.line) = true) (pa : PlainAttrs T) (slot : Slot T name id)
    (hty : typeOf (.builtin id) = pure (.type "method_descriptor")) (hT : ∀ (s : Shared) V v, Rd s.heap V d₀ v → s.TypeIs v T ∧ (∀ a, v = .ref a → ∃ ob, s.heap.get? a = some ob ∧ ob.dict = Option.none))
    (ha : Exs W n env ρ (e :: es) ds) (hp : plainArgs (e :: es) = true) (hF : Fn W m (.builtin id) (d₀ :: ds) d) (hm : m ≤ n) : Ex W n env ρ (.Call (.Attribute o name apos) (e :: es) [] pos) d := .mk fun B G fp s A E Q S hA h => by
  have ht := backTo_plain (env := env) (pos := pos) hp
  refine wpAny_Call_method hbase ?_ hline pa slot hty ?_
  · rw [ht]
    have h1 : ((e :: es).map fun e => (false, eval e env)).all (fun x => !x.1) = true := by simp
    rw [h1]
    simp [backToKw, keywordEach] at hlen ⊢
    omega
  refine ho.r B G fp s A E _ S hA fun ov s₁ rv e₁ => ⟨(hT s₁ _ _ rv).1, (hT s₁ _ _ rv).2, ?_⟩
  rw [ht]
  refine callWith_any (any_false_map _) (evalArgs_exs ha (S.ext e₁) hA fun vs s₂ rvs e₂ => ⟨(fun a h => by cases h), ?_⟩)
  exact hF.r s₂ A (ov :: vs) (fp ++ G) E Q ((S.ext e₁).ext e₂).gl' (hA.mono hm) ⟨ov, vs, rfl, rv.ext e₂, rvs⟩ ((S.ext e₁).ext e₂).valloc fun v s₃ rv₃ e₃ => h v s₃ rv₃ ((e₁.trans e₂).trans e₃)

theorem Ex.join {o e : Expr} {apos pos : Pos} {x : Str} {ys : List Str} (ho : Ex W n env ρ o (.str x)) (hbase : attributeBase o "join" env (eval o env) = eval o env) (hline : (apos.endLine == pos.line) = true)
    (he : Ex W n env ρ e (.list (ys.map .str))) (hp : plainArgs [e] = true) (hok : (ys.map (·.length)).sum + ys.length * x.length ≤ 16777216) : Ex W n env ρ (.Call (.Attribute o "join" apos) [e] [] pos) (.str (Txt.join x ys)) :=
  Ex.method ho hbase (show 1 < 30 by decide) hline F.plainAttrs_str F.slot_str_join F.type_str_join (fun s V v hv => by obtain ⟨t, rfl⟩ := hv; exact ⟨typeIs_str s x t, fun a h => by cases h⟩) (Exs.cons he Exs.nil) hp (fn_join hok) (Nat.le_refl n)
end
end Mine
end

-- M14
section
open PySem PySem.W PyProof.Rows
set_option maxRecDepth 100000
namespace Mine
section
variable {W : Wd} {n m : Nat} {env : Env} {B : Heap} {G fp : List Addr} {ρ : Rho} {s : Shared} {A : Around} {E : Value → Shared → Prop}

noncomputable def ltAt (xs : List Str) (i j : Nat) : Bool := decide ((xs.getD i ⟨#[]⟩).cps.toList < (xs.getD j ⟨#[]⟩).cps.toList)
theorem cmpStr {prog : Program} {w : World} {y z : Str} {t u : Tok} {Q : Value → Shared → Prop} (h : Q (.bool (y.cps.toList < z.cps.toList)) s) : wpAny (model prog w) A (richCompare .Lt (.str y t) (.str z u)) Q E s := P.lt_str h
theorem fn_min {xs : List Str} {x : Str} (hne : xs ≠ []) (hx : xs[argBest (ltAt xs) (xs.length - 1)]? = some x) : Fn W n (.builtin "min") [.list (xs.map .str)] (.str x) := .mk fun s A vs V E Q hg hA hr hV hQ => by
  obtain ⟨v, vs', rfl, ⟨a, its, rfl, hpl, ha, hrl⟩, rfl⟩ := hr
  have hl := hpl.isList
  have hlen : its.size = xs.length := by have := RdL.length hrl; rw [Array.length_toList, List.length_map] at this; exact this
  have hlt : a < s.heap.objs.size := by obtain ⟨_, e, _⟩ := hl; exact Heap.lt_size e
  have hget : ∀ i v, its[i]? = some v → ∃ (y : Str) (t : Tok), xs[i]? = some y ∧ v = Value.str y t := fun i v hv => by
    have hi : i < xs.length := by
      rcases Nat.lt_or_ge i xs.length with h | h
      · exact h
      · rw [Array.getElem?_eq_none (by omega)] at hv; cases hv
    obtain ⟨v', hv', ⟨t, rfl⟩⟩ := RdL.get (d := .str xs[i]) hrl (i := i) (by rw [List.getElem?_map, List.getElem?_eq_getElem hi]; rfl)
    rw [Array.getElem?_toList, hv] at hv'
    cases hv'
    exact ⟨xs[i], t, by rw [List.getElem?_eq_getElem hi], rfl⟩
  refine call_min_walk (wpAny_pyIter_list hl ?_)
  have e₁ : Ext s { s with heap := s.heap.push { cls := .type "list_iterator", data := .fields #[.ref a, .int 0 0] } } := Ext.push
  refine ⟨_, _, _, _, _, _, ltAt xs, rfl, Walks.list (A := A.in1) hA.hd s.heap.objs.size a (Nat.ne_of_lt hlt) its, ⟨⟨_, Heap.get?_push_size _ rfl, rfl, rfl⟩, hl.push _⟩, ?_, ?_, ?_, fun v h' tk hP hk => ?_⟩
  · intro b hb
    show b < (s.heap.push _).objs.size
    rw [Heap.size_push]
    rcases List.mem_cons.mp hb with rfl | hb
    · exact Nat.lt_succ_self _
    · rcases List.mem_cons.mp hb with rfl | hb
      · exact Nat.lt_succ_of_lt hlt
      · cases hb
  · rw [hlen]; exact List.length_pos_iff.mpr hne
  · intro i j vi vj s Q E hi hj h
    obtain ⟨y, t, hy, rfl⟩ := hget i vi hi
    obtain ⟨z, u, hz, rfl⟩ := hget j vj hj
    have e : ltAt xs i j = decide (y.cps.toList < z.cps.toList) := by unfold ltAt; rw [List.getD_eq_getElem?_getD, List.getD_eq_getElem?_getD, hy, hz]; rfl
    rw [e] at h
    exact cmpStr h
  · rw [hlen] at hP
    obtain ⟨y, t, hy, rfl⟩ := hget _ v hP
    rw [hx] at hy
    cases hy
    exact hQ _ _ ⟨t, rfl⟩ (Ext.of_kept (old_kept hk))

theorem fn_index {xs : List Str} {x : Str} {j : Nat} (hj : xs[j]? = some x) (hno : ∀ m, m < j → xs[m]? ≠ some x) (hlx : xs.length ≤ 1000000) : Fn W n (.builtin "list.index") [.list (xs.map .str), .str x] (.int j) := .mk fun s A vs V E Q hg hA hr hV hQ => by
  obtain ⟨v, vs', rfl, ⟨a, its, rfl, hpl, ha, hrl⟩, v', vs'', rfl, ⟨t, rfl⟩, rfl⟩ := hr
  have hlen : its.size = xs.length := by have := RdL.length hrl; rw [Array.length_toList, List.length_map] at this; exact this
  have hjl : j < xs.length := by
    rcases Nat.lt_or_ge j xs.length with h | h
    · exact h
    · rw [List.getElem?_eq_none h] at hj; cases hj
  have hget : ∀ i (hi : i < its.size), ∃ (y : Str) (t : Tok), xs[i]? = some y ∧ its[i] = Value.str y t := fun i hi => by
    obtain ⟨v', hv', ⟨t, rfl⟩⟩ := RdL.get (d := .str (xs[i]'(by omega))) hrl (i := i) (by rw [List.getElem?_map, List.getElem?_eq_getElem (by omega)]; rfl)
    rw [Array.getElem?_toList, Array.getElem?_eq_getElem hi] at hv'
    exact ⟨xs[i]'(by omega), t, by rw [List.getElem?_eq_getElem], Option.some.inj hv'⟩
  obtain ⟨c, ho⟩ := hpl.obj
  let e : Value → Bool := fun v => match v with | .str y _ => y == x | _ => false
  refine call_meets PySem.F.slot_list_index ⟨_, ho, rfl⟩ PySem.F.entry_list_index (PySem.F.args_list_index_2 _ _) (SeqAt.list_indexAt a its c Option.none #[] (.str x t) e j (by omega) (by omega) ?_ ?_) ⟨ho, ?_, hQ _ _ ⟨_, rfl⟩ Ext.toks⟩
  · obtain ⟨y, u, h1, h2⟩ := hget j (by omega)
    rw [h2]
    rw [hj] at h1; cases h1
    show (x == x) = true
    simp
  · intro m hm hmj
    obtain ⟨y, u, h1, h2⟩ := hget m hm
    rw [h2]
    show (y == x) = false
    rw [beq_eq_false_iff_ne]
    intro h
    exact hno m hmj (h ▸ h1)
  · intro y hy
    obtain ⟨i, hi, rfl⟩ := Array.mem_iff_getElem.mp hy
    obtain ⟨z, u, h1, h2⟩ := hget i hi
    rw [h2]
    exact SeqAt.EqAt.str_str z u x t

theorem op_addL {xs ys : List D} (hl : xs.length + ys.length ≤ 1000000) : Op2 W n (binaryOp .Add) (.list xs) (.list ys) (.list (xs ++ ys)) := .mk fun s A va vb V E Q hg hA ra rb hV h => by
  obtain ⟨a, vs, rfl, hpl, ha, hr⟩ := ra
  obtain ⟨b, ws, rfl, hpl', hb, hr'⟩ := rb
  obtain ⟨c, ho⟩ := hpl.obj
  obtain ⟨c', ho'⟩ := hpl'.obj
  have h1 := RdL.length hr
  have h2 := RdL.length hr'
  rw [Array.length_toList] at h1 h2
  refine P.add_list (n := c) (n2 := c') ho ho' (h _ _ ⟨_, _, rfl, ⟨_, _, Heap.get?_push_size _ rfl, rfl, ⟨rfl, rfl⟩, rfl⟩, fun hm => ?_, ?_⟩ Ext.push) (by rw [sizeLine_eq]; omega)
  · obtain ⟨⟨o, ho⟩, _⟩ := hV _ hm
    rw [new_none] at ho; cases ho
  · rw [Array.toList_append]
    exact RdL.append (RdL.ext hr Ext.push) (RdL.ext hr' Ext.push)

mutual
noncomputable def D.py : D → PyData
  | .none => .none
  | .bool b => .bool b
  | .int i => .int i
  | .str x => .str x
  | .bytes _ => .none
  | .ty _ => .none
  | .list l => .list (D.pys l)
  | .tup l => .tuple (D.pys l)
noncomputable def D.pys : List D → List PyData
  | [] => []
  | d :: ds => D.py d :: D.pys ds
end
theorem pys_eq : ∀ ds : List D, D.pys ds = ds.map D.py
  | [] => rfl
  | d :: ds => by rw [D.pys, pys_eq ds]; rfl
mutual
noncomputable def D.data : D → Bool
  | .bytes _ => false
  | .ty _ => false
  | .list l => D.datas l
  | .tup l => D.datas l
  | _ => true
noncomputable def D.datas : List D → Bool
  | [] => true
  | d :: ds => D.data d && D.datas ds
end
mutual
theorem Rd.reads {h : Heap} {V : List Addr} : ∀ (d : D) (v : Value), d.data = true → Rd h V d v → ∃ as, Reads h v d.py as
  | .none, v, _, x => ⟨[], by rw [show v = .none from x]; exact .none⟩
  | .bool b, v, _, x => ⟨[], by rw [show v = .bool b from x]; exact .bool b⟩
  | .int i, v, _, x => by obtain ⟨t, rfl⟩ := x; exact ⟨[], .int i t⟩
  | .str i, v, _, x => by obtain ⟨t, rfl⟩ := x; exact ⟨[], .str i t⟩
  | .bytes _, _, h, _ => by cases h
  | .ty _, _, h, _ => by cases h
  | .list l, v, h, x => by
    obtain ⟨a, vs, rfl, ⟨o, c, ho, hc, _, hd⟩, ha, hr⟩ := x
    obtain ⟨as, hr'⟩ := RdL.reads l _ h hr
    exact ⟨a :: as, .list ho hc hd hr'⟩
  | .tup l, v, h, x => by
    obtain ⟨a, vs, rfl, ⟨o, ho, hc, c, hd⟩, ha, hr⟩ := x
    obtain ⟨as, hr'⟩ := RdL.reads l _ h hr
    exact ⟨as, .tuple ho hc hd hr'⟩
theorem RdL.reads {h : Heap} {V : List Addr} : ∀ (ds : List D) (vs : List Value), D.datas ds = true → RdL h V ds vs → ∃ as, ReadsAll h vs (D.pys ds) as
  | [], vs, _, x => ⟨[], by rw [show vs = [] from x]; exact .nil⟩
  | d :: ds, _, hd, x => by
    obtain ⟨v, vs, rfl, h1, h2⟩ := x
    obtain ⟨q1, q2⟩ := Bool.and_eq_true_iff.mp (show (D.data d && D.datas ds) = true from hd)
    obtain ⟨as, r1⟩ := Rd.reads d v q1 h1
    obtain ⟨bs, r2⟩ := RdL.reads ds vs q2 h2
    exact ⟨as ++ bs, .cons r1 r2⟩
end
/-- data that can be compared -/
noncomputable def OkD (k : Nat) (d : D) : Prop := d.data = true ∧ d.py.canLay0 = true ∧ d.py.depth ≤ k
theorem OkD.int {k : Nat} {i : Int} : OkD k (.int i) := ⟨rfl, rfl, Nat.zero_le _⟩
theorem OkD.str {k : Nat} {x : Str} (h : PyData.strOk x = true) : OkD k (.str x) := ⟨rfl, by show PyData.canLay0 (.str x) = true; simp only [PyData.canLay0]; exact h, Nat.zero_le _⟩
theorem okDs {k : Nat} : ∀ {ds : List D}, (∀ d ∈ ds, OkD k d) → D.datas ds = true ∧ PyData.canLayAll0 (D.pys ds) = true ∧ PyData.depthAll (D.pys ds) ≤ k
  | [], _ => ⟨rfl, rfl, Nat.zero_le _⟩
  | d :: ds, h => by
    obtain ⟨h1, h2, h3⟩ := h d (.head _)
    obtain ⟨q1, q2, q3⟩ := okDs (ds := ds) fun d hd => h d (.tail _ hd)
    refine ⟨by simp only [D.datas, h1, q1, Bool.and_self], by simp only [D.pys, PyData.canLayAll0, h2, q2, Bool.and_self], ?_⟩
    simp only [D.pys, PyData.depthAll]
    omega
theorem OkD.list {k : Nat} {ds : List D} (h : ∀ d ∈ ds, OkD k d) : OkD (k + 1) (.list ds) := by
  obtain ⟨q1, q2, q3⟩ := okDs h
  refine ⟨q1, by simp only [D.py, PyData.canLay0, q2], ?_⟩
  simp only [D.py, PyData.depth]
  omega
theorem op_eqD {a b : D} {k : Nat} (ha : OkD k a) (hb : OkD k b) (hk : k ≤ 800) : Op2 W n (compareOp .Eq) a b (.bool (PyData.eqv a.py b.py)) := .mk fun s A va vb V E Q hg hA ra rb hV h => by
  obtain ⟨as, r1⟩ := Rd.reads a va ha.1 ra
  obtain ⟨bs, r2⟩ := Rd.reads b vb hb.1 rb
  have := hA.un
  have q := ha.2.2
  have e : cLine = 9900 := rfl
  exact SeqAt.compareEq_reads r1 r2 ha.2.1 hb.2.1 (by rw [e]; omega) (h _ _ rfl (Ext.refl s))
theorem op_neD {a b : D} {k : Nat} (ha : OkD k a) (hb : OkD k b) (hk : k ≤ 800) : Op2 W n (compareOp .NotEq) a b (.bool (!PyData.eqv a.py b.py)) := .mk fun s A va vb V E Q hg hA ra rb hV h => by
  obtain ⟨as, r1⟩ := Rd.reads a va ha.1 ra
  obtain ⟨bs, r2⟩ := Rd.reads b vb hb.1 rb
  have := hA.un
  have q := ha.2.2
  have e : cLine = 9900 := rfl
  exact SeqAt.compareNe_reads r1 r2 ha.2.1 hb.2.1 (by rw [e]; omega) (h _ _ rfl (Ext.refl s))
theorem op_eqSame {a : D} {k : Nat} (ha : OkD k a) (hk : k ≤ 800) : Op2 W n (compareOp .Eq) a a (.bool true) := by
  have := op_eqD (W := W) (n := n) ha ha hk
  rwa [SeqAt.eqv_refl _ ha.2.1] at this
theorem op_neSame {a : D} {k : Nat} (ha : OkD k a) (hk : k ≤ 800) : Op2 W n (compareOp .NotEq) a a (.bool false) := by
  have := op_neD (W := W) (n := n) ha ha hk
  rwa [SeqAt.eqv_refl _ ha.2.1] at this
theorem op_eqNil {ds : List D} {k : Nat} (ha : ∀ d ∈ ds, OkD k d) (hk : k ≤ 799) : Op2 W n (compareOp .Eq) (.list ds) (.list []) (.bool ds.isEmpty) := by
  have := op_eqD (W := W) (n := n) (OkD.list ha) (OkD.list (k := k) (ds := []) (fun _ h => nomatch h)) (by omega)
  cases ds <;> exact this
theorem op_neNil {ds : List D} {k : Nat} (ha : ∀ d ∈ ds, OkD k d) (hk : k ≤ 799) : Op2 W n (compareOp .NotEq) (.list ds) (.list []) (.bool (!ds.isEmpty)) := by
  have := op_neD (W := W) (n := n) (OkD.list ha) (OkD.list (k := k) (ds := []) (fun _ h => nomatch h)) (by omega)
  cases ds <;> exact this
theorem op_inTup {ds : List D} {d : D} {k : Nat} (ha : ∀ d ∈ ds, OkD k d) (hd : OkD k d) (hk : k ≤ 700) : Op2 W n (compareOp .In) d (.tup ds) (.bool (ds.any fun y => PyData.eqv y.py d.py)) := .mk fun s A va vb V E Q hg hA ra rb hV h => by
  obtain ⟨q1, q2, q3⟩ := okDs ha
  obtain ⟨as, r1⟩ := Rd.reads (.tup ds) vb q1 rb
  obtain ⟨bs, r2⟩ := Rd.reads d va hd.1 ra
  have := hA.un
  have q := hd.2.2
  have e : cLine = 9900 := rfl
  refine SeqAt.in_tuple_reads r1 r2 q2 hd.2.1 (by rw [e]; omega) ?_
  have : (D.pys ds).any (fun y => PyData.eqv y d.py) = ds.any fun y => PyData.eqv y.py d.py := by rw [pys_eq, List.any_map]; rfl
  rw [this]
  exact h _ _ rfl (Ext.refl s)
end
end Mine
end

-- M15
section
open PySem PySem.W PyProof.Rows
open PySem.AutoSeq1 (wpAny_loadPart')
open PySem.MeetsSeq PySem.MeetsSeq2 PySem.MeetsSeq3 PySem.SeqRoads2
set_option maxRecDepth 100000
namespace Mine

noncomputable def lexB (strict : Bool) : List Int → List Int → Bool
  | [], [] => !strict
  | [], _ :: _ => true
  | _ :: _, [] => false
  | x :: xs, y :: ys => if x == y then lexB strict xs ys else decide (x < y)
noncomputable def codeB (strict : Bool) : Int := if strict then 0 else 1
theorem cmpLt {prog : Program} {w : World} {A : Around} {E : Value → Shared → Prop} {s : Shared} {y z : Int} {t u : Tok} {Q : Value → Shared → Prop} (h : Q (.bool (decide (y < z))) s) : wpAny (model prog w) A (richCompare .Lt (.int y t) (.int z u)) Q E s := P.lt_int h
theorem cmpLe {prog : Program} {w : World} {A : Around} {E : Value → Shared → Prop} {s : Shared} {y z : Int} {t u : Tok} {Q : Value → Shared → Prop} (h : Q (.bool (decide (y ≤ z))) s) : wpAny (model prog w) A (richCompare .LtE (.int y t) (.int z u)) Q E s := le_int h
set_option maxHeartbeats 1000000 in
theorem lex_loop (strict : Bool) (l b : Addr) (items items2 : Array Value) (n n2 : Nat) (dd dd2 : Option Addr) (sl sl2 : Array (Option Value)) (k : Nat) :
    ∀ (i : Nat) (xs ys : List Int), xs.length = k → IntsAre (items.toList.drop i) xs → IntsAre (items2.toList.drop i) ys → (i ≤ items.size ∧ i ≤ items2.size) → Meets (Builtin.«list.__eq__.loop» ⟨[.ref l, .ref b, rawInt i, rawInt (codeB strict)], []⟩)
      (fun A R s => s.heap.get? l = some { cls := .type "list", dict := dd, data := .seq items n, slots := sl } ∧ s.heap.get? b = some { cls := .type "list", dict := dd2, data := .seq items2 n2, slots := sl2 } ∧
        R (.ok (.ret (.bool (lexB strict xs ys)))) s) := by
  have hn : ∀ (its : Array Value) (i : Nat), IntsAre (its.toList.drop i) [] → its[((i : Nat) : Int).toNat]? = Option.none := fun its i h => by
    have h1 : its.toList.drop i = [] := by cases h' : its.toList.drop i with
      | nil => rfl
      | cons v vs => rw [h'] at h; cases h
    rw [Int.toNat_natCast, ← Array.getElem?_toList]
    rw [List.drop_eq_nil_iff] at h1
    exact List.getElem?_eq_none h1
  have hs : ∀ (its : Array Value) (i : Nat) (x : Int) (xs : List Int), IntsAre (its.toList.drop i) (x :: xs) → ∃ t, its[((i : Nat) : Int).toNat]? = some (.int x t) ∧ IntsAre (its.toList.drop (i + 1)) xs ∧ i < its.size := fun its i x xs h => by
    cases h' : its.toList.drop i with
    | nil => rw [h'] at h; cases h
    | cons v vs =>
      rw [h'] at h
      cases h with
      | cons _ t h2 =>
        refine ⟨t, ?_, ?_, ?_⟩
        · rw [Int.toNat_natCast, ← Array.getElem?_toList]
          have := congrArg (·[0]?) h'
          simpa using this
        · have := congrArg (·.drop 1) h'
          simp [List.drop_drop] at this
          rw [this]; exact h2
        · rcases Nat.lt_or_ge i its.size with q | q
          · exact q
          · rw [List.drop_of_length_le (by simpa using q)] at h'; cases h'
  have sz : ∀ (its : Array Value) (i : Nat) (xs : List Int), IntsAre (its.toList.drop i) xs → its.size - i = xs.length := fun its i xs h => by
    have := h.length
    simpa using this
  induction k with
  | zero =>
    intro i xs ys hk h1 h2 hle prog w A R s h
    have hx : xs = [] := List.length_eq_zero_iff.mp hk
    subst hx
    obtain ⟨hp, g, d, tk, os⟩ := s; obtain ⟨hl, hb, h⟩ := h
    have z1 := sz _ _ _ h1
    have z2 := sz _ _ _ h2
    have hi1 := hn _ _ h1
    cases strict
    · wp_walk using wpAny_loadPart' hl, wpAny_loadPart' hb
      rw [hi1]
      wp_walk using wpAny_loadPart' hl, wpAny_loadPart' hb
      show R (.ok (.ret (.bool (decide (items.size ≤ items2.size))))) _
      have : decide (items.size ≤ items2.size) = lexB false [] ys := by
        cases ys with
        | nil => simp at z1 z2; simp [lexB]; omega
        | cons y ys => simp at z1 z2; simp [lexB]; omega
      rw [this]; exact h
    · wp_walk using wpAny_loadPart' hl, wpAny_loadPart' hb
      rw [hi1]
      wp_walk using wpAny_loadPart' hl, wpAny_loadPart' hb
      show R (.ok (.ret (.bool (decide (items.size < items2.size))))) _
      have : decide (items.size < items2.size) = lexB true [] ys := by
        cases ys with
        | nil => simp at z1 z2; simp [lexB]; omega
        | cons y ys => simp at z1 z2; simp [lexB]; omega
      rw [this]; exact h
  | succ k ih =>
    intro i xs ys hk h1 h2 hle prog w A R s h
    cases xs with
    | nil => cases hk
    | cons x xs =>
    obtain ⟨hp, g, d, tk, os⟩ := s; obtain ⟨hl, hb, h⟩ := h
    have z1 := sz _ _ _ h1
    have z2 := sz _ _ _ h2
    obtain ⟨t, hi1, h1', hlt1⟩ := hs _ _ _ _ h1
    cases ys with
    | nil =>
      have hi2 := hn _ _ h2
      cases strict
      · wp_walk using wpAny_loadPart' hl, wpAny_loadPart' hb
        rw [hi1, hi2]
        wp_walk using wpAny_loadPart' hl, wpAny_loadPart' hb
        show R (.ok (.ret (.bool (decide (items.size ≤ items2.size))))) _
        have : decide (items.size ≤ items2.size) = lexB false (x :: xs) [] := by simp at z1 z2; simp [lexB]; omega
        rw [this]; exact h
      · wp_walk using wpAny_loadPart' hl, wpAny_loadPart' hb
        rw [hi1, hi2]
        wp_walk using wpAny_loadPart' hl, wpAny_loadPart' hb
        show R (.ok (.ret (.bool (decide (items.size < items2.size))))) _
        have : decide (items.size < items2.size) = lexB true (x :: xs) [] := by simp at z1 z2; simp [lexB]; omega
        rw [this]; exact h
    | cons y ys =>
      obtain ⟨u, hi2, h2', hlt2⟩ := hs _ _ _ _ h2
      have hc : ((i : Int) + 1) = ((i + 1 : Nat) : Int) := by push_cast; rfl
      have he : ∀ A, SeqAt.EqAt A ⟨hp, g, d, tk, os⟩ (.int x t) (.int y u) (x == y) := fun A => SeqAt.EqAt.int_int x t y u
      cases strict
      · wp_walk using wpAny_loadPart' hl, wpAny_loadPart' hb
        rw [hi1, hi2]
        refine wpAny_bind (he _ prog w _ _ ?_)
        cases hxy : x == y with
        | true =>
          simp only [lexB, hxy, if_true] at h
          wp_walk
          rw [hc]
          exact ⟨plainId_quiet plain_eq_loop _, codeAny_builtin entry_eq_loop (by
            rw [Around.under_plainId plain_eq_loop _]
            exact ih (i + 1) xs ys (by simpa using hk) h1' h2' (by omega) prog w A R _ ⟨hl, hb, h⟩)⟩
        | false =>
          simp only [lexB, hxy, Bool.false_eq_true, if_false] at h
          wp_walk using wpAny_loadPart' hl, wpAny_loadPart' hb
          rw [hi1, hi2]
          refine wpAny_bind (cmpLe ?_)
          wp_walk
          have hne : x ≠ y := by simpa using hxy
          have e : decide (x ≤ y) = decide (x < y) := by rw [decide_eq_decide]; omega
          rw [e]
          exact h
      · wp_walk using wpAny_loadPart' hl, wpAny_loadPart' hb
        rw [hi1, hi2]
        refine wpAny_bind (he _ prog w _ _ ?_)
        cases hxy : x == y with
        | true =>
          simp only [lexB, hxy, if_true] at h
          wp_walk
          rw [hc]
          exact ⟨plainId_quiet plain_eq_loop _, codeAny_builtin entry_eq_loop (by
            rw [Around.under_plainId plain_eq_loop _]
            exact ih (i + 1) xs ys (by simpa using hk) h1' h2' (by omega) prog w A R _ ⟨hl, hb, h⟩)⟩
        | false =>
          simp only [lexB, hxy, Bool.false_eq_true, if_false] at h
          wp_walk using wpAny_loadPart' hl, wpAny_loadPart' hb
          rw [hi1, hi2]
          refine wpAny_bind (cmpLt ?_)
          wp_walk
          exact h
theorem list_lt_meets (l b : Addr) (items items2 : Array Value) (n n2 : Nat) (dd dd2 : Option Addr) (sl sl2 : Array (Option Value)) (xs ys : List Int) (h1 : IntsAre items.toList xs) (h2 : IntsAre items2.toList ys) :
    Meets (Builtin.«list.__lt__» ⟨[.ref l, .ref b], []⟩)
      (fun A R s => s.heap.get? l = some { cls := .type "list", dict := dd, data := .seq items n, slots := sl } ∧ s.heap.get? b = some { cls := .type "list", dict := dd2, data := .seq items2 n2, slots := sl2 } ∧
        R (.ok (.ret (.bool (lexB true xs ys)))) s) := by
  intro prog w A R s h
  obtain ⟨hp, g, d, tk, os⟩ := s; obtain ⟨hl, hb, h⟩ := h
  have f3 := AutoSeq1.sub_list_list
  wp_walk using wpAny_loadPart' hl, wpAny_loadPart' hb
  exact ⟨plainId_quiet plain_eq_loop _, codeAny_builtin entry_eq_loop (by
    rw [Around.under_plainId plain_eq_loop _]
    exact lex_loop true l b items items2 n n2 dd dd2 sl sl2 _ 0 xs ys rfl h1 h2 ⟨Nat.zero_le _, Nat.zero_le _⟩ prog w A R _ ⟨hl, hb, h⟩)⟩
theorem list_le_meets (l b : Addr) (items items2 : Array Value) (n n2 : Nat) (dd dd2 : Option Addr) (sl sl2 : Array (Option Value)) (xs ys : List Int) (h1 : IntsAre items.toList xs) (h2 : IntsAre items2.toList ys) :
    Meets (Builtin.«list.__le__» ⟨[.ref l, .ref b], []⟩)
      (fun A R s => s.heap.get? l = some { cls := .type "list", dict := dd, data := .seq items n, slots := sl } ∧ s.heap.get? b = some { cls := .type "list", dict := dd2, data := .seq items2 n2, slots := sl2 } ∧
        R (.ok (.ret (.bool (lexB false xs ys)))) s) := by
  intro prog w A R s h
  obtain ⟨hp, g, d, tk, os⟩ := s; obtain ⟨hl, hb, h⟩ := h
  have f3 := AutoSeq1.sub_list_list
  wp_walk using wpAny_loadPart' hl, wpAny_loadPart' hb
  exact ⟨plainId_quiet plain_eq_loop _, codeAny_builtin entry_eq_loop (by
    rw [Around.under_plainId plain_eq_loop _]
    exact lex_loop false l b items items2 n n2 dd dd2 sl sl2 _ 0 xs ys rfl h1 h2 ⟨Nat.zero_le _, Nat.zero_le _⟩ prog w A R _ ⟨hl, hb, h⟩)⟩
section
variable {W : Wd} {n m : Nat}
theorem op_ltL {xs ys : List Int} : Op2 W n (compareOp .Lt) (.list (xs.map .int)) (.list (ys.map .int)) (.bool (lexB true xs ys)) := .mk fun s A va vb V E Q hg hA ra rb hV h => by
  obtain ⟨a, vs, rfl, hpl, ha, hr⟩ := ra
  obtain ⟨b, ws, rfl, hpl', hb, hr'⟩ := rb
  obtain ⟨c, ho⟩ := hpl.obj
  obtain ⟨c', ho'⟩ := hpl'.obj
  have := hA.un
  have e : cLine = 9900 := rfl
  show wpAny _ _ (richCompare .Lt (.ref a) (.ref b)) _ _ s
  exact richCompare_meets_room (op := .Lt) ⟨_, ho, rfl⟩ ⟨_, ho', rfl⟩ PySem.F.slot_list_lt PySem.F.entry_list_lt (PySem.F.args_list_lt_2 _ _) (list_lt_meets a b vs ws c c' Option.none Option.none #[] #[] xs ys (ints_of hr) (ints_of hr'))
    ⟨ho, ho', show Value.bool (lexB true xs ys) ≠ Value.notImplemented ∧ Q (.bool (lexB true xs ys)) s from ⟨(fun x => nomatch x), h _ _ rfl (Ext.refl s)⟩⟩ (by omega)
theorem op_leL {xs ys : List Int} : Op2 W n (compareOp .LtE) (.list (xs.map .int)) (.list (ys.map .int)) (.bool (lexB false xs ys)) := .mk fun s A va vb V E Q hg hA ra rb hV h => by
  obtain ⟨a, vs, rfl, hpl, ha, hr⟩ := ra
  obtain ⟨b, ws, rfl, hpl', hb, hr'⟩ := rb
  obtain ⟨c, ho⟩ := hpl.obj
  obtain ⟨c', ho'⟩ := hpl'.obj
  have := hA.un
  have e : cLine = 9900 := rfl
  show wpAny _ _ (richCompare .LtE (.ref a) (.ref b)) _ _ s
  exact richCompare_meets_room (op := .LtE) ⟨_, ho, rfl⟩ ⟨_, ho', rfl⟩ PySem.F.slot_list_le PySem.F.entry_list_le (PySem.F.args_list_le_2 _ _) (list_le_meets a b vs ws c c' Option.none Option.none #[] #[] xs ys (ints_of hr) (ints_of hr'))
    ⟨ho, ho', show Value.bool (lexB false xs ys) ≠ Value.notImplemented ∧ Q (.bool (lexB false xs ys)) s from ⟨(fun x => nomatch x), h _ _ rfl (Ext.refl s)⟩⟩ (by omega)
end
end Mine
end

-- M16
section
open PySem PySem.W PyProof.Rows
open PySem.AutoSeq1 (wpAny_loadPart')
set_option maxRecDepth 100000
namespace Mine
section
variable {W : Wd} {n m : Nat} {env : Env} {B : Heap} {G fp : List Addr} {ρ : Rho} {s : Shared} {A : Around} {E : Value → Shared → Prop}

-- bytes.translate
theorem slot_translate : Slot "bytes" "translate" "bytes.translate" :=
  .of (owner := "bytes") (n := "translate") (by rw [typeLookup_type, builtinLookup_eq_fast]; kernel_rfl) (by decide +kernel) (by decide +kernel) (by decide +kernel)
    (by first | exact .inl (by decide +kernel) | exact .inr (by decide +kernel)) (by rw [isSubtype_type]; kernel_rfl)
theorem type_translate : typeOf (.builtin "bytes.translate") = pure (.type "method_descriptor") := by show builtinType _ = _; rw [builtinType_eq_fast]; kernel_rfl
theorem entry_translate : entryFor table "bytes.translate" = some Builtin.«bytes.translate» := entryFor_of_tree (by kernel_rfl)
theorem args_translate (a b : Value) : argsOk "bytes.translate" ⟨[a, b], []⟩ := by
  unfold argsOk; rw [signature?_of (id := "bytes.translate") (n := ['e', 't', 'a', 'l', 's', 'n', 'a', 'r', 't']) (o := ['s', 'e', 't', 'y', 'b']) (by kernel_rfl) FB.owner_bytes]; kernel_rfl
noncomputable def trB (tb b : Array UInt8) : Array UInt8 := b.map fun c => tb.getD c.toNat c
theorem filter_none (b : Array UInt8) : b.filter (fun c => !(#[] : Array UInt8).contains c) = b := by
  rw [Array.filter_eq_self]
  intro c _
  simp
theorem meets_translate (b tb : Array UInt8) (t u : Tok) (h256 : tb.size = 256) : Meets (Builtin.«bytes.translate» ⟨[.bytes b t, .bytes tb u], []⟩) (fun _ R s => b.size ≤ sizeLine ∧ ∀ t' k, R (.ok (.ret (.bytes (trB tb b) t'))) { s with toks := k }) := by
  refine .of_wp fun prog w A R s hS => ?_
  obtain ⟨hsz, h⟩ := hS
  unfold Builtin.«bytes.translate» Builtin.Bytes.translateM
  simp only [List.length_cons, List.length_nil]
  rw [if_neg (by decide)]
  refine wpAny_bind (wpAny_of_eq KBd.like_eq ?_)
  rw [if_neg (by simp [h256])]
  refine wpAny_bind (wpAny_pure ?_)
  show wpAny _ _ (pure #[] >>= _) _ _ s
  refine wpAny_bind (wpAny_pure ?_)
  refine wpAny_bind (wpAny_of_eq (a := b) (by rfl) ?_)
  rw [filter_none]
  show wpAny _ _ (if (trB tb b == b) = true then _ else _) _ _ s
  by_cases hq : (trB tb b == b) = true
  · rw [if_pos hq]
    refine wpAny_bind (wpAny_rule ?_)
    refine wpAny_bind (wpAny_of_eq (a := .bytes b t) (by rfl) ?_)
    refine wpAny_pure ⟨_, rfl, ?_⟩
    have := h t s.toks
    rw [eq_of_beq hq] at this
    exact this
  · rw [if_neg hq]
    exact wpAny_bind (wpAny_mkBytes (wpAny_pure ⟨_, rfl, h _ _⟩) (by show (trB tb b).size ≤ _; unfold trB; rw [Array.size_map]; exact hsz))
theorem fn_translate {b tb : Array UInt8} (h256 : tb.size = 256) (hl : b.size ≤ 1000000) : Fn W n (.builtin "bytes.translate") [.bytes b, .bytes tb] (.bytes (trB tb b)) := .mk fun s A vs V E Q hg hA hr hV hQ => by
  obtain ⟨v, vs', rfl, ⟨t, rfl⟩, v', vs'', rfl, ⟨u, rfl⟩, rfl⟩ := hr
  exact call_meets slot_translate (PySem.W.typeIs_bytes _ _ _) entry_translate (args_translate _ _) (meets_translate b tb t u h256) ⟨by rw [sizeLine_eq]; omega, fun t' k => hQ _ _ ⟨_, rfl⟩ Ext.toks⟩
theorem Ex.translate {o e : Expr} {apos pos : Pos} {b tb : Array UInt8} (ho : Ex W n env ρ o (.bytes b)) (hbase : attributeBase o "translate" env (eval o env) = eval o env) (hline : (apos.endLine == pos.line) = true)
    (he : Ex W n env ρ e (.bytes tb)) (hp : plainArgs [e] = true) (h256 : tb.size = 256) (hl : b.size ≤ 1000000) : Ex W n env ρ (.Call (.Attribute o "translate" apos) [e] [] pos) (.bytes (trB tb b)) :=
  Ex.method ho hbase (show 1 < 30 by decide) hline FB.plainAttrs_bytes slot_translate type_translate (fun s V v hv => by obtain ⟨t, rfl⟩ := hv; exact ⟨PySem.W.typeIs_bytes s b t, fun a h => by cases h⟩) (Exs.cons he Exs.nil) hp (fn_translate h256 hl) (Nat.le_refl n)
theorem Ex.index {o e : Expr} {apos pos : Pos} {xs : List Str} {x : Str} {j : Nat} (ho : Ex W n env ρ o (.list (xs.map .str))) (hbase : attributeBase o "index" env (eval o env) = eval o env) (hline : (apos.endLine == pos.line) = true)
    (he : Ex W n env ρ e (.str x)) (hp : plainArgs [e] = true) (hj : xs[j]? = some x) (hno : ∀ m, m < j → xs[m]? ≠ some x) (hlx : xs.length ≤ 1000000) : Ex W n env ρ (.Call (.Attribute o "index" apos) [e] [] pos) (.int j) :=
  Ex.method ho hbase (show 1 < 30 by decide) hline F.plainAttrs_list PySem.F.slot_list_index PySem.F.type_list_index (fun s V v hv => by
    obtain ⟨a, its, rfl, hpl, ha, hrl⟩ := hv
    obtain ⟨c, ho⟩ := hpl.obj
    exact ⟨hpl.isList.typeIs, fun a h => by cases h; exact ⟨_, ho, rfl⟩⟩) (Exs.cons he Exs.nil) hp (fn_index hj hno hlx) (Nat.le_refl n)

theorem ElsOk.app {h : Heap} {V : List Addr} {ds : List D} {ws : List Value} (hv : RdL h V ds ws) : ∀ {es : List El} {vs : List Value} {fp : List Addr}, ElsOk h V es vs fp → ElsOk h V (es ++ ds.map .sh) (vs ++ ws) fp
  | [], _, _, x => by
    obtain ⟨rfl, rfl⟩ := x
    show ElsOk h V (ds.map .sh) ws []
    induction ds generalizing ws with
    | nil => rw [show ws = [] from hv]; exact ⟨rfl, rfl⟩
    | cons d ds ih => obtain ⟨v, vs, rfl, h1, h2⟩ := hv; exact ⟨v, vs, rfl, h1, ih h2⟩
  | .sh d' :: es, _, _, x => by
    obtain ⟨v', vs, rfl, h1, h2⟩ := x
    exact ⟨v', vs ++ ws, rfl, h1, ElsOk.app hv h2⟩
  | .ow ds' :: es, _, _, x => by
    obtain ⟨b, ws', vs, fp, rfl, h0, h1, rfl, h2⟩ := x
    exact ⟨b, ws', vs ++ ws, fp, rfl, h0, h1, rfl, ElsOk.app hv h2⟩
theorem Sx.extend {x : Str} {p apos pos spos : Pos} {e : Expr} {ds : List D} {els : List El} (hx : ρ.lookup x = some (.own els)) (he : Ex W n env ρ e (.list ds)) (hl : els.length + ds.length ≤ 1000000) (hline : (apos.endLine == pos.line) = true)
    (hp : plainArgs [e] = true) : Sx W n env ρ (.Expr (.Call (.Attribute (.Name x p) "extend" apos) [e] [] pos) spos) (fun r fl => r = put ρ x (.own (els ++ ds.map .sh)) ∧ fl = .next) := .mk fun B G fp s A E Q S hA hQ => by
  have ht := backTo_plain (env := env) (pos := pos) hp
  obtain ⟨mm, cm, v, pre, f, post, hns, hcl, hv, hb, hfp, hE⟩ := S.find hx
  obtain ⟨a, vs, f₂, rfl, hpl, hels, rfl⟩ := hb
  obtain ⟨c, ho⟩ := hpl.obj
  refine wpAny_Expr ?_ S.interactive rfl
  refine wpAny_Call_method rfl (by rw [ht]; rfl) hline F.plainAttrs_list PySem.F.slot_list_extend PySem.F.type_list_extend (S.nameV hns hcl hv ⟨hpl.isList.typeIs, (fun b hb => by cases hb; exact ⟨_, ho, rfl⟩), ?_⟩)
  rw [ht]
  refine callWith_any (any_false_map _) (evalArgs_exs (Exs.cons he Exs.nil) S hA fun ws s₁ rvs e₁ => ⟨(fun a h => by cases h), ?_⟩)
  obtain ⟨w, ws', rfl, ⟨b, its, rfl, hplb, hbV, hrl⟩, rfl⟩ := rvs
  obtain ⟨cb, hob⟩ := hplb.obj
  have h1 := ElsOk.length hels
  have h2 := RdL.length hrl
  rw [Array.length_toList] at h1 h2
  have hpl₁ : PL s₁.heap a vs := by obtain ⟨o, k, ho, r⟩ := hpl; exact ⟨o, k, e₁.keep a o ho, r⟩
  obtain ⟨c₁, ho₁⟩ := hpl₁.obj
  have hsz : vs.size + its.size ≤ sizeLine := by rw [sizeLine_eq]; omega
  refine call_meets PySem.F.slot_list_extend ⟨_, ho₁, rfl⟩ PySem.F.entry_list_extend (PySem.F.args_list_extend_2 _ _) (PySem.AutoSeq1.list_extend_list_list_0 a vs c₁ b its cb (extend_door hsz) (by omega) (by omega)) ⟨ho₁, hob, ?_⟩
  show Q _ _
  have hsb : Heap.SameBut a s₁.heap (s₁.heap.update a (Obj.mapSeq fun x => x ++ its)) := Heap.SameBut.update ..
  have hnew : PL (s₁.heap.update a (Obj.mapSeq fun x => x ++ its)) a (vs ++ its) := ⟨_, _, Heap.get?_update_self _ ho₁ (by rw [mapSeq_app]; rfl), rfl, ⟨rfl, rfl⟩, rfl⟩
  generalize s₁.heap.update a (Obj.mapSeq fun x => x ++ its) = h' at hsb hnew
  have hnd := S.fpn
  rw [hfp] at hnd
  obtain ⟨_, n2, _⟩ := List.nodup_append.mp hnd
  obtain ⟨n4, _, _⟩ := List.nodup_append.mp n2
  have n5 := List.nodup_cons.mp n4
  obtain ⟨S', sx⟩ := S.changed (b' := .own (els ++ ds.map .sh)) (f' := a :: f₂) e₁ hns hcl hv hfp hE (.head _) hsb (by obtain ⟨o, k, ho, _, _, hd⟩ := hnew; exact ⟨o, _, _, ho, hd⟩) (fun c hc => .inl hc) n4 fun kp hk => by
    refine ⟨a, vs ++ its, f₂, rfl, hnew, ?_, rfl⟩
    rw [Array.toList_append]
    refine ElsOk.app (RdL.mono (h := s₁.heap) (V := fp ++ G) (fun c o xs k ho hd hn => ⟨hk c o ho (fun eq => hn (eq ▸ ?_)), hfp ▸ hn⟩) _ _ hrl) (ElsOk.mono kp (fun c o hc ho => hk c o (e₁.keep c o ho) (fun eq => n5.1 (eq ▸ hc))) hels)
    rw [hfp]
    simp
  exact hQ _ _ _ _ .next ⟨rfl, rfl⟩ S' rfl sx

/-- a target of two names -/
theorem Ax.tuple2 {x y : Str} {p q pos : Pos} {k : Nat} {d₁ d₂ : D} (hx : storable env x = true) (hy : storable env y = true) :
    Ax W n env ρ (.Tuple [.Name x p, .Name y q] k pos) (.tup [d₁, d₂]) (put (put ρ x (.sh d₁)) y (.sh d₂)) := .mk fun B G fp s A E Q v S hA rv h => by
  obtain ⟨a, vs, rfl, hpl, ha, hr⟩ := rv
  obtain ⟨v₁, vs₁, hvs, r1, v₂, vs₂, rfl, r2, rfl⟩ := hr
  have hvs' : vs = #[v₁, v₂] := by rw [← Array.toArray_toList (xs := vs), hvs]
  subst hvs'
  refine wpAny_assign_Tuple hA.hd hpl rfl rfl fun h' hk => ?_
  have e₁ : Ext s { s with heap := h' } := ⟨fun b o ho => hk b o (fun eq => by rw [eq, new_none] at ho; cases ho) ho, rfl, #[], by simp, fun _ h => by simp at h⟩
  show wpAny _ _ (assignInOrder [PySem.assign (.Name x p) env, PySem.assign (.Name y q) env] [v₁, v₂]) _ _ _
  refine assignInOrder_cons ?_
  refine (Ax.name hx).r B G fp _ A E _ v₁ (S.ext e₁) hA (r1.ext e₁) fun s₂ fp₂ S₂ sx₂ => ?_
  have r2' : Rd s₂.heap (fp₂ ++ G) d₂ v₂ := Rd.mono ((S.ext e₁).kp sx₂) _ _ (r2.ext e₁)
  refine assignInOrder_cons ?_
  exact (Ax.name hy).r B G fp₂ s₂ A E _ v₂ S₂ hA r2' fun s₃ fp₃ S₃ sx₃ => assignInOrder_nil (h s₃ fp₃ S₃ (e₁.sext.trans (sx₂.trans sx₃)))
end
end Mine
end

-- M17
section
open PySem PySem.W PyProof.Rows
open PySem.AutoSeq1 (wpAny_loadPart')
set_option maxRecDepth 100000
namespace Mine
section
variable {prog : Program} {w : World} {A : Around} {E : Value → Shared → Prop} {s : Shared}
theorem nextOf_tuple_item {it l : Addr} {i : Nat} {items} {x : Value} {Q : Value → Shared → Prop} (hit : s.heap.IsTupleIter it l i)
    (hl : s.heap.IsTuple l items) (hx : items[i]? = some x)
    (hQ : ∀ h', h'.IsTupleIter it l (i + 1) → Heap.SameBut it s.heap h' → Q x { s with heap := h' }) :
    wpAny (model prog w) A (Builtin.SmallTypes.nextOf (.ref it)) Q E s := by
  obtain ⟨o, ho, hc, hd⟩ := id hit
  obtain ⟨ol, hol, _, nl, hdl⟩ := hl
  unfold Builtin.SmallTypes.nextOf
  refine wpAny_bind (wpAny_callSpecial?_slot (name := Str.ofString "__next__") hit.typeIs PySem.F.slot_tuple_iterator_next
    (wpAny_call_entry PySem.F.slot_tuple_iterator_next hit.typeIs PySem.F.entry_tuple_iterator_next ?_ (PySem.F.args_tuple_iterator_next_1 _)))
  show wpAny _ _ (field (.ref it) 0 >>= _) _ _ s
  refine wpAny_bind (wpAny_field ho hd (x := .ref l) rfl ?_)
  show wpAny _ _ (if (Value.ref l == Value.none) = true then _ else _) _ _ s
  rw [if_neg (show ¬ ((Value.ref l == Value.none) = true) from Bool.false_ne_true)]
  show wpAny _ _ (field (.ref it) 1 >>= _) _ _ s
  refine wpAny_bind (wpAny_field ho hd (x := .int i 0) rfl ?_)
  show wpAny _ _ (seqItems? (.ref l) >>= _) _ _ s
  refine wpAny_bind (wpAny_seqItems hol hdl ?_)
  simp only [Int.toNat_natCast, hx]
  refine wpAny_bind (wpAny_setField ho hd (by simp) (wpAny_pure ⟨x, rfl, wpAny_pure (hQ _ ?_ (Heap.SameBut.update ..))⟩))
  exact ⟨_, Heap.get?_update_self _ ho (Obj.isFreed_of_fields (Obj.data_mapFields hd _)), (Obj.cls_mapFields ..).trans hc, by
    rw [Obj.data_mapFields hd]; simp [rawInt]⟩
theorem nextOf_tuple_end {it l : Addr} {i : Nat} {items} {Q : Value → Shared → Prop} (hh : A.handled = none)
    (hit : s.heap.IsTupleIter it l i) (hl : s.heap.IsTuple l items) (hx : items[i]? = none)
    (hE : ∀ h' e, Heap.ExtBut it s.heap h' → (∃ o, h'.get? e = some o ∧ o.cls = .type "StopIteration") → E (.ref e) { s with heap := h' }) :
    wpAny (model prog w) A (Builtin.SmallTypes.nextOf (.ref it)) Q E s := by
  obtain ⟨o, ho, hc, hd⟩ := id hit
  obtain ⟨ol, hol, _, nl, hdl⟩ := hl
  unfold Builtin.SmallTypes.nextOf
  refine wpAny_bind (wpAny_callSpecial?_slot (name := Str.ofString "__next__") hit.typeIs PySem.F.slot_tuple_iterator_next
    (wpAny_call_entry PySem.F.slot_tuple_iterator_next hit.typeIs PySem.F.entry_tuple_iterator_next ?_ (PySem.F.args_tuple_iterator_next_1 _)))
  show wpAny _ _ (field (.ref it) 0 >>= _) _ _ s
  refine wpAny_bind (wpAny_field ho hd (x := .ref l) rfl ?_)
  show wpAny _ _ (if (Value.ref l == Value.none) = true then _ else _) _ _ s
  rw [if_neg (show ¬ ((Value.ref l == Value.none) = true) from Bool.false_ne_true)]
  show wpAny _ _ (field (.ref it) 1 >>= _) _ _ s
  refine wpAny_bind (wpAny_field ho hd (x := .int i 0) rfl ?_)
  show wpAny _ _ (seqItems? (.ref l) >>= _) _ _ s
  refine wpAny_bind (wpAny_seqItems hol hdl ?_)
  simp only [Int.toNat_natCast, hx]
  refine wpAny_bind (wpAny_rule (wpAny_bind (wpAny_setField ho hd (by simp) ?_)))
  show wpAny _ _ (newExc (.type "StopIteration") [] >>= _) _ _ _
  refine wpAny_bind ?_
  simp only [newExc, newTuple]
  refine wpAny_bind (wpAny_newObj_type ?_ (by size_fits))
  refine wpAny_bind (m := firstArgMember _ _) (wpAny_of_eq (a := Value.none) (by first | rfl | (simp only [firstArgMember]; rfl)) ?_)
  refine wpAny_newObj_type ?_ (by size_fits)
  simp only [raiseNew]
  refine wpAny_bind (wpAny_handled ?_)
  first | rw [show A.in1.handled = none from hh] | rw [hh]
  refine wpAny_bind (wpAny_pure (wpAny_throw ?_))
  exact hE _ _ (((Heap.SameBut.update ..).extBut.push _).push _) ⟨_, Heap.get?_push_size _ rfl, rfl⟩
end
theorem draws_tuple {prog : Program} {w : World} {A : Around} (hh : A.handled = none) (it l : Addr) (hne : l ≠ it) (items : Array Value) :
    Draws prog w A it [it, l] items.size (fun i v => items[i]? = some v) (fun i h => h.IsTupleIter it l i ∧ h.IsTuple l items) where
  live := fun _ _ st => let ⟨o, ho, _⟩ := st.1; ⟨o, ho⟩
  frame := fun _ _ _ st hk => ⟨let ⟨o, ho, r⟩ := st.1; ⟨o, hk it (by simp) o ho, r⟩, let ⟨o, ho, r⟩ := st.2; ⟨o, hk l (by simp) o ho, r⟩⟩
  item := fun i s Q E hi st hQ => by
    refine nextOf_tuple_item st.1 st.2 (x := items[i]) (by simp [hi]) fun h' hit' hs' => ?_
    exact hQ _ h' s.toks (by simp [hi]) ⟨hit', st.2.extBut hs'.extBut hne⟩ hs'
  done := fun s Q E st hE => nextOf_tuple_end hh st.1 st.2 (by simp) hE

theorem meets_enumerate_newT (l : Addr) (items : Array Value) (n : Nat) (dct : Option Addr) (sl : Array (Option Value)) :
    Meets (Builtin.«enumerate.__new__» ⟨[.type "enumerate", .ref l], []⟩) (fun _ R s => s.heap.get? l = some { cls := .type "tuple", dict := dct, data := .seq items n, slots := sl } ∧
      R (.ok (.ret (.ref (s.heap.push { cls := .type "tuple_iterator", data := .fields #[.ref l, .int 0 0] }).objs.size)))
        { s with heap := (s.heap.push { cls := .type "tuple_iterator", data := .fields #[.ref l, .int 0 0] }).push { cls := .type "enumerate", data := .fields #[.none, .bool false, .ref s.heap.objs.size, rawInt 0, .none, .none] } }) :=
  .of_wp fun prog w A R s h => by
    obtain ⟨hp, g, d, tk, os⟩ := s; obtain ⟨hl, h⟩ := h
    have hsub := sub_enumerate
    have hL : Heap.IsTuple (Shared.heap ⟨hp, g, d, tk, os⟩) l items := ⟨_, hl, rfl, n, rfl⟩
    wp_walk using wpAny_loadPart' hl
    refine wpAny_stack_any fun st => wpAny_pure ?_
    split
    · rename_i c _ _ _ _ _
      cases (c == Value.type "enumerate")
      · wp_walk using wpAny_loadPart' hl, wpAny_pyIter_tuple hL
        exact ⟨_, rfl, h⟩
      · wp_walk using wpAny_loadPart' hl, wpAny_pyIter_tuple hL
        exact ⟨_, rfl, h⟩
    · wp_walk using wpAny_loadPart' hl, wpAny_pyIter_tuple hL
      exact ⟨_, rfl, h⟩
theorem call_enumerate_tuple {prog : Program} {w : World} {A : Around} {E : Value → Shared → Prop} {s : Shared} {l : Addr} {items : Array Value} {Q : Value → Shared → Prop} (hL : s.heap.IsTuple l items)
    (h : ∀ h', IsEnum h' (s.heap.objs.size + 1) s.heap.objs.size 0 .none → h'.IsTupleIter s.heap.objs.size l 0 → h'.objs.size = s.heap.objs.size + 2 →
      (∀ b o, s.heap.get? b = some o → h'.get? b = some o) → Q (.ref (s.heap.objs.size + 1)) { s with heap := h' }) :
    wpAny (model prog w) A (call (.type "enumerate") [.ref l]) Q E s := by
  obtain ⟨⟨c, dct, dt, sl⟩, hl, hc, n, hd⟩ := hL
  replace hc : c = .type "tuple" := hc
  replace hd : dt = .seq items n := hd
  subst hc hd
  refine callType_new PySem.F.called_enumerate (by decide) (PySem.F.typeCall_enumerate_1 _) (PySem.F.newCall_enumerate_1 _) (fun obj => PySem.F.args_object_init_2 obj _) PySem.F.entry_enumerate_new
    (meets_enumerate_newT l items n dct sl) ⟨hl, ?_⟩
  have hz : (s.heap.push { cls := .type "tuple_iterator", data := .fields #[.ref l, .int 0 0] }).objs.size = s.heap.objs.size + 1 := Heap.size_push ..
  show _ ∧ _
  rw [hz]
  have he : IsEnum ((s.heap.push { cls := .type "tuple_iterator", data := .fields #[.ref l, .int 0 0] }).push
      { cls := .type "enumerate", data := .fields #[.none, .bool false, .ref s.heap.objs.size, rawInt 0, .none, .none] }) (s.heap.objs.size + 1) s.heap.objs.size 0 .none := by
    have := Heap.get?_push_size (s.heap.push { cls := .type "tuple_iterator", data := .fields #[.ref l, .int 0 0] })
      (o := { cls := .type "enumerate", data := .fields #[.none, .bool false, .ref s.heap.objs.size, rawInt 0, .none, .none] }) rfl
    rw [hz] at this; exact this
  refine ⟨⟨_, he, rfl⟩, h _ he ⟨_, Heap.get?_push_of_some _ (Heap.get?_push_size _ rfl), rfl, rfl⟩ (by rw [Heap.size_push, hz]) fun b o x => Heap.get?_push_of_some _ (Heap.get?_push_of_some _ x)⟩

noncomputable def enumD : Nat → List D → List D
  | _, [] => []
  | i, d :: ds => .tup [.int i, d] :: enumD (i + 1) ds
noncomputable def EnumIt (e it : Addr) (h : Heap) (V : List Addr) (ds : List D) : Prop := ∃ l items i all old, IsEnum h e it ((i : Nat) : Int) old ∧ h.IsTupleIter it l i ∧ h.IsTuple l items ∧ l ∉ V ∧ RdL h V all items.toList ∧ ds = enumD i (all.drop i)
noncomputable def EnumMid (e it : Addr) (h : Heap) (V : List Addr) (ds : List D) (v : Value) : Prop := ∃ l items i all x T, v = .ref T ∧ IsEnumOut h e it (((i + 1 : Nat)) : Int) x T ∧ h.IsTupleIter it l (i + 1) ∧ h.IsTuple l items ∧ l ∉ V ∧ RdL h V all items.toList ∧ ds = enumD (i + 1) (all.drop (i + 1))
section
variable {W : Wd} {n m : Nat} {env : Env} {B : Heap} {G fp : List Addr} {s s' : Shared} {ρ : Rho} {A : Around} {E : Value → Shared → Prop}
theorem isIter_enum (e it : Addr) (hne : e ≠ it) : IsIter W n e [e, it] (EnumIt e it) (EnumMid e it) where
  nextS := fun {s A E Q V d ds} hP hVa hA hQ => by
    obtain ⟨l, items, i, all, old, he, hit, hl, hlV, hr, hd⟩ := hP
    cases q : all.drop i with
    | nil => rw [q] at hd; cases hd
    | cons d' ds' =>
      rw [q] at hd
      simp only [enumD, List.cons.injEq] at hd
      obtain ⟨rfl, rfl⟩ := hd
      obtain ⟨h1, h2⟩ := drop_cons q
      obtain ⟨v, hv, rv⟩ := RdL.get hr h1
      have hv' : items[i]? = some v := by rw [← Array.getElem?_toList]; exact hv
      obtain ⟨oi, hoi, hci, hdi⟩ := id hit
      obtain ⟨ol, hol, rl1, rl2, rl3⟩ := id hl
      have hli : l ≠ it := fun eq => by rw [← eq, hol] at hoi; cases hoi; rw [rl3] at hdi; cases hdi
      have hle : l ≠ e := fun eq => by rw [← eq] at he; rw [show s.heap.get? l = _ from he] at hol; injection hol with hol; rw [← hol] at rl3; cases rl3
      have hlt : i < items.size := by
        rcases Nat.lt_or_ge i items.size with h | h
        · exact h
        · rw [Array.getElem?_eq_none h] at hv'; cases hv'
      refine wpAny_pyNext_enum_itemD (draws_tuple (A := A.in1) hA.hd it l hli items) he ⟨hit, hl⟩ hlt hne (by
        intro hm
        rcases List.mem_cons.mp hm with h | h
        · exact hne h
        · exact hle (List.mem_singleton.mp h).symm) fun x h' tk hx hout hst hT hsz hk => ?_
      rw [hv'] at hx
      cases hx
      have kp : Kp s.heap V h' V := fun b ob xs k hb hdb hn => ⟨hk b ob (fun eq => by rw [eq, show s.heap.get? e = _ from he] at hb; cases hb; cases hdb) (fun eq => by rw [eq, hoi] at hb; cases hb; rw [hdi] at hdb; cases hdb) hb, hn⟩
      refine hQ _ _ ⟨s.heap.objs.size, #[.int i tk, v], rfl, ⟨_, hT, rfl, _, rfl⟩, fun hm => ?_, ?_⟩ ⟨l, items, i, all, v, s.heap.objs.size, rfl, hout, hst.1, hst.2, hlV, RdL.mono kp _ _ hr, ?_⟩ ⟨fun b o hb ho => hk b o (fun eq => hb (by simp [eq])) (fun eq => hb (by simp [eq])) ho, rfl, rfl⟩
      · obtain ⟨o, ho⟩ := hVa _ hm
        rw [new_none] at ho; cases ho
      · exact ⟨.int i tk, [v], rfl, ⟨tk, rfl⟩, v, [], rfl, Rd.mono kp _ _ rv, rfl⟩
      · rw [h2]
  nextN := fun {s A E Q V} hP hA hQ => by
    obtain ⟨l, items, i, all, old, he, hit, hl, hlV, hr, hd⟩ := hP
    obtain ⟨oi, hoi, hci, hdi⟩ := id hit
    obtain ⟨ol, hol, rl1, rl2, rl3⟩ := id hl
    have hli : l ≠ it := fun eq => by rw [← eq, hol] at hoi; cases hoi; rw [rl3] at hdi; cases hdi
    have hz : all.drop i = [] := by cases q : all.drop i with
      | nil => rfl
      | cons d ds => rw [q] at hd; cases hd
    have h1 := RdL.length hr
    rw [List.drop_eq_nil_iff] at hz
    rw [Array.length_toList] at h1
    have hn : items[i]? = Option.none := by rw [Array.getElem?_eq_none_iff]; omega
    have hT : s.TypeIs (.ref e) "enumerate" := ⟨_, he, rfl⟩
    unfold pyNext
    refine wpAny_bind (wpAny_attempt (wpAny_callSpecial?_slot (name := Str.ofString "__next__") hT PySem.F.slot_enumerate_next
      (wpAny_call_entry PySem.F.slot_enumerate_next hT PySem.F.entry_enumerate_next ?_ (PySem.F.args_enumerate_next_1 _))))
    show wpAny _ _ (field (.ref e) 2 >>= _) _ _ _
    refine wpAny_bind (wpAny_field he rfl (x := .ref it) rfl ?_)
    refine wpAny_bind (nextOf_tuple_end (A := A.in1) hA.hd hit hl hn fun h' x he' hx' => ?_)
    obtain ⟨o, ho, hc⟩ := hx'
    refine wpAny_bind (wpAny_isInstance (T := "StopIteration") (b := true) ⟨o, ho, hc⟩ isSubtype_stop ?_)
    exact wpAny_pure (hQ _ ⟨fun b o hb ho => he' b o (fun eq => hb (by simp [eq])) ho, rfl, rfl⟩)
  go := fun {s A E Q V ds} target v ht hP hQ => by
    obtain ⟨l, items, i, all, x, T, rfl, hout, hit, hl, hlV, hr, hd⟩ := id hP
    rcases ht with ht | ht
    · cases target with
      | Tuple elts x1 pos =>
        refine wpAny_letOwnedTupleGo_enum hout fun h' he' hs => ?_
        obtain ⟨oi, hoi, hci, hdi⟩ := id hit
        obtain ⟨ol, hol, rl1, rl2, rl3⟩ := id hl
        have hle : l ≠ e := fun eq => by rw [← eq] at hout; rw [show s.heap.get? l = _ from hout] at hol; injection hol with hol; rw [← hol] at rl3; cases rl3
        have kp : Kp s.heap V h' V := fun b ob xs k hb hdb hn => ⟨hs.extBut b ob (fun eq => by rw [eq, show s.heap.get? e = _ from hout] at hb; cases hb; cases hdb) hb, hn⟩
        exact hQ _ ⟨l, items, i + 1, all, x, he', hit.extBut hs.extBut hne.symm, hl.extBut hs.extBut hle, hlV, RdL.mono kp _ _ hr, hd⟩ ⟨fun b o hb ho => hs.extBut b o (fun eq => hb (by simp [eq])) ho, rfl, rfl⟩
      | _ => cases ht
    · obtain ⟨_, _, _, _, _, he, _⟩ := ht _ _ _ _ hP
      have h1 : s.heap.get? e = _ := he
      have h2 : s.heap.get? e = _ := hout
      rw [h1] at h2
      cases h2
  again := fun {s A E Q V ds} hP hA hQ => by
    obtain ⟨l, items, i, all, old, he, r⟩ := hP
    exact wpAny_pyIter_enum he hQ
  stable := fun {h h' V V' ds} hP kp hk => by
    obtain ⟨l, items, i, all, old, he, ⟨o, ho, hc, hf⟩, ⟨ol, hol, r1, k, r3⟩, hl, hr, hd⟩ := hP
    obtain ⟨q1, q2⟩ := kp l ol _ _ hol r3 hl
    exact ⟨l, items, i, all, old, hk e (by simp) _ he, ⟨o, hk it (by simp) o ho, hc, hf⟩, ⟨ol, q1, r1, k, r3⟩, q2, RdL.mono kp _ _ hr, hd⟩
  fldsM := fun {h V ds v} hP a ha => by
    obtain ⟨l, items, i, all, x, T, rfl, hout, ⟨o, ho, hc, hf⟩, r⟩ := hP
    rcases List.mem_cons.mp ha with rfl | ha
    · exact ⟨_, _, hout, rfl⟩
    · rw [List.mem_singleton.mp ha]
      exact ⟨o, _, ho, hf⟩
  flds := fun {h V ds} hP a ha => by
    obtain ⟨l, items, i, all, old, he, ⟨o, ho, hc, hf⟩, r⟩ := hP
    rcases List.mem_cons.mp ha with rfl | ha
    · exact ⟨_, _, he, rfl⟩
    · rw [List.mem_singleton.mp ha]
      exact ⟨o, _, ho, hf⟩

theorem ItxT.enum {target e : Expr} {p pos : Pos} {ds : List D} (htg : isTup target = true) (hf : Gv W env "enumerate" (.type "enumerate")) (he : Ex W n env ρ e (.tup ds)) (hp : plainArgs [e] = true) :
    ItxT W n env ρ target (.Call (.Name "enumerate" p) [e] [] pos) (enumD 0 ds) := .mk fun B G fp s A E Q S hA hQ => by
  refine wpAny_Call_Name_kw (hf.load S ?_)
  rw [backTo_plain hp]
  refine callWith_any (any_false_map _) (evalArgs_exs (Exs.cons he Exs.nil) S hA fun vs s₁ rvs e₁ => ⟨(fun a h => by cases h), ?_⟩)
  obtain ⟨v, vs', rfl, ⟨a, its, rfl, hpl, ha, hrl⟩, rfl⟩ := rvs
  refine call_enumerate_tuple hpl fun h' hen hit hsz hk => ?_
  have e₂ : Ext s₁ { s₁ with heap := h' } := ⟨hk, rfl, #[], by simp, fun _ h => by simp at h⟩
  refine wpAny_pyIter_enum hen ?_
  refine hQ _ [_, _] _ _ _ (isIter_enum (s₁.heap.objs.size + 1) s₁.heap.objs.size (Nat.succ_ne_self _)) (.inl htg) ⟨a, its, 0, ds, .none, hen, hit, ?_, ha, hrl.ext e₂, rfl⟩ (fun c hc => ?_) (e₁.trans e₂)
  · obtain ⟨o, ho, r⟩ := hpl
    exact ⟨o, hk a o ho, r⟩
  · cases q : s.heap.get? c with
    | none => rfl
    | some o =>
      have := Heap.lt_size (e₁.keep c o q)
      rcases List.mem_cons.mp hc with rfl | hc
      · exact absurd this (Nat.not_lt.mpr (Nat.le_succ _))
      · rw [List.mem_singleton.mp hc] at this; exact absurd this (Nat.lt_irrefl _)
end
end Mine
end

-- M18
section
open PySem PySem.W PyProof.Rows
set_option maxRecDepth 100000
namespace Mine
section
variable {W : Wd} {n m : Nat} {env : Env} {B : Heap} {G fp fp' fp'' : List Addr} {s s' s'' : Shared} {ρ : Rho} {A : Around} {E : Value → Shared → Prop}

noncomputable abbrev cellObj : Obj := { cls := .type "cell", data := .cell Option.none }
theorem newEnv_one {M : Model} {scope : Scope} {t : Str} {cl : List (Str × Addr)} {Q : Env → Shared → Prop} (hcells : ∀ k acc, cellsFrom k scope.names acc = (t, k) :: acc) (hpush : ∀ h, pushCells h scope.names = h.push cellObj)
    (hQ : Q (newEnv scope s.heap.objs.size env.globals ((t, s.heap.objs.size + 1) :: cl) env.qual Option.none .none (some env) builtinsNs) { s with heap := (s.heap.push { cls := .type "dict", data := .dict #[] }).push cellObj }) :
    wpAny M A (newFunctionEnv scope env.globals cl [] env.qual Option.none .none (some env)) Q E s := by
  simp only [newFunctionEnv, Option.isSome_some, if_true]
  refine wpAny_bind (wpAny_alloc ?_)
  refine wpAny_bind (wpAny_layCells _ (fun name kind cells => by cases hkc : kind == NameKind.cell <;> simp [hkc]) _ _ _ _ ?_)
  rw [hcells, hpush, show ({ s with heap := s.heap.push { cls := .type "dict", data := .dict #[] } } : Shared).heap.objs.size = s.heap.objs.size + 1 from Heap.size_push ..]
  rw [List.forIn_nil]
  exact wpAny_bind (wpAny_pure (wpAny_pure hQ))

structure CompOkC (env : Env) (scope : Scope) (t : Str) (ρ cap : Rho) : Prop where
  kind : scope.kind = .function
  cells : ∀ k acc, cellsFrom k scope.names acc = (t, k) :: acc
  push : ∀ h, pushCells h scope.names = h.push cellObj
  names : ∀ x ∈ scope.names, x.2 = .local → scope.names.lookup x.1 = some .local
  loc : (relabel scope env).names.lookup t = some .cell
  tq : ((t == ("__debug__" : Str)) || (t == ("__classdict__" : Str))) = false
  free : freesOk env scope.names = true
  capt : ∀ C X, CapOk env (compEnvC scope ((t, X) :: closureOf env scope.names []) C env) ρ cap
  nodup : (t :: cap.map (·.1)).Nodup

set_option maxHeartbeats 1000000 in
theorem comp_coreC {elt iter : Expr} {t : Str} {px pos : Pos} {ifs : List Expr} {scope : Scope} {cap : Rho} {ds rs : List D} {RR : Value → Addr → Result → Shared → Prop}
    (S : St W env B G fp s ρ) (hA : AOk n A) (hi : Itx W n env ρ iter ds) (H : CompOkC env scope t ρ cap) (hsz : rs.length ≤ 1000000)
    (hc : ∀ C X, CompP W n (compEnvC scope ((t, X) :: closureOf env scope.names []) C env) t ifs elt cap ds rs)
    (hQ : ∀ D C s', Rd s'.heap (fp ++ G) (.list rs) (.ref D) → s.heap.get? D = Option.none → s.heap.get? C = Option.none → D ≠ C → (∃ m, s'.heap.Ns C m) → Ext s s' → RR (.ref D) C (.ok .next) s') :
    wpAny W.M A (eval iter env) (fun x s₁ => wpAny W.M A (pyIter x) (fun it s₂ => wpAny W.M A (newList []) (fun acc s₃ =>
      wpAny W.M A (newFunctionEnv scope env.globals (closureOf env scope.names []) [] env.qual Option.none .none (some env)) (fun cenv s₄ =>
        codeAny W.M A (.compStart (.ListComp elt [⟨.Name t px, iter, ifs, 0⟩] scope pos) 0 it acc { cenv with scope := relabel scope env }) (RR acc cenv.locals) s₄) E s₃) E s₂) E s₁) E s := by
  refine hi.r B G fp s A E _ S hA fun it its P Pm s₂ hI hplain hP hfr e₂ => ?_
  have S₂ := S.ext e₂
  refine newList_rd (ds := []) (V := fp ++ G) rfl S₂.valloc (by rw [sizeLine_eq]; exact Nat.zero_le _) fun s₃ hD₃ hDn hrd₃ e₃ => ?_
  generalize hD : s₂.heap.objs.size = D at hD₃ hDn hrd₃
  have S₃ := S₂.ext e₃
  refine newEnv_one H.cells H.push ?_
  have hns₁ : ((s₃.heap.push { cls := .type "dict", data := .dict #[] }).push cellObj).Ns s₃.heap.objs.size (fun _ => Option.none) := (Heap.Ns.new s₃.heap (.type "dict")).keeps (fun b o e => Heap.get?_push_of_some _ e)
  have hX₁ : ((s₃.heap.push { cls := .type "dict", data := .dict #[] }).push cellObj).IsCell (s₃.heap.objs.size + 1) Option.none := ⟨cellObj, by
    have := Heap.get?_push_size (s₃.heap.push { cls := .type "dict", data := .dict #[] }) (o := cellObj) rfl
    rw [Heap.size_push] at this
    exact this, rfl⟩
  have hk₁ : ∀ b o, s₃.heap.get? b = some o → ((s₃.heap.push { cls := .type "dict", data := .dict #[] }).push cellObj).get? b = some o := fun b o e => Heap.get?_push_of_some _ (Heap.get?_push_of_some _ e)
  have hXn : s₃.heap.get? (s₃.heap.objs.size + 1) = Option.none := by
    cases q : s₃.heap.get? (s₃.heap.objs.size + 1) with
    | none => rfl
    | some o => exact absurd (Heap.lt_size q) (Nat.not_lt.mpr (Nat.le_succ _))
  have hXC : s₃.heap.objs.size + 1 ≠ s₃.heap.objs.size := Nat.succ_ne_self _
  generalize (s₃.heap.push { cls := .type "dict", data := .dict #[] }).push cellObj = h₁ at hns₁ hX₁ hk₁ ⊢
  generalize hX : s₃.heap.objs.size + 1 = X at hX₁ hXn hXC ⊢
  generalize hC : s₃.heap.objs.size = C at hns₁ hXC ⊢
  have hCn : s₃.heap.get? C = Option.none := by
    cases q : s₃.heap.get? C with
    | none => rfl
    | some o => exact absurd (Heap.lt_size q) (by rw [hC]; exact Nat.lt_irrefl _)
  have hDs : s.heap.get? D = Option.none := by
    cases q : s.heap.get? D with
    | none => rfl
    | some o => have := e₂.keep D o q; rw [hDn] at this; cases this
  have hCs : s.heap.get? C = Option.none := by
    cases q : s.heap.get? C with
    | none => rfl
    | some o => have := e₃.keep C o (e₂.keep C o q); rw [hCn] at this; cases this
  have hDC : D ≠ C := fun e => by obtain ⟨o, _, ho, _⟩ := hD₃; rw [e, hCn] at ho; cases ho
  have hkC : ∀ b o, s₃.heap.get? b = some o → h₁.get? b = some o := hk₁
  have hXs : s.heap.get? X = Option.none := by
    cases q : s.heap.get? X with
    | none => rfl
    | some o => have := e₃.keep X o (e₂.keep X o q); rw [hXn] at this; cases this
  have hDK : W.K.lookup D = Option.none := by
    cases q : W.K.lookup D with
    | none => rfl
    | some o => have := S.gl'.k D o q; rw [hDs] at this; cases this
  -- the state at the turns
  let cenv := compEnvC scope ((t, X) :: closureOf env scope.names []) C env
  let V' := D :: (fp ++ G)
  have ext₄ : Ext s { s₃ with heap := h₁ } := by
    have := e₂.trans e₃
    exact ⟨fun b o e => hkC b o (this.keep b o e), this.os, this.gens⟩
  have kp₀ : Kp s₂.heap (fp ++ G) h₁ V' := fun b o xs k ho hd hn => ⟨hkC b o (e₃.keep b o ho), fun hm => by
    rcases List.mem_cons.mp hm with h | h
    · rw [h, hDn] at ho; cases ho
    · exact hn h⟩
  have hitsD : D ∉ its := fun hm => by
    obtain ⟨o, vs, h1, _⟩ := hI.flds hP D hm
    rw [hDn] at h1; cases h1
  have hitsC : C ∉ its := fun hm => by
    obtain ⟨o, vs, h1, _⟩ := hI.flds hP C hm
    have := e₃.keep C o h1
    rw [hCn] at this; cases this
  have hP₄ : P h₁ V' ds := hI.stable hP kp₀ fun a ha o ho => hkC a o (e₃.keep a o ho)
  obtain ⟨m₀, cm₀, hns₀, hcl₀, hE₀⟩ := S₂.frame
  -- the invariant
  let Inv : Nat → Shared → Prop := fun k s' => ∃ ds' rs' done items, ds'.length = k ∧ rs = done ++ rs' ∧ CompP W n cenv t ifs elt cap ds' rs' ∧ P s'.heap V' ds' ∧ PL s'.heap D items ∧ RdL s'.heap V' done items.toList ∧
    (∃ m, s'.heap.Ns C m) ∧ EnvOk (lookIn cenv (fun _ => Option.none) cm₀) s'.heap V' cap [] ∧ (∀ k c, (closureOf env scope.names []).lookup k = some c → s'.heap.IsCell c (cm₀ k)) ∧ Ext s s' ∧ VOk W s'.heap V' ∧ ∃ v?, s'.heap.IsCell X v?
  have hcapE : ∀ {h m'} , EnvOk (lookIn env m₀ cm₀) h V' ρ fp → EnvOk (lookIn cenv m' cm₀) h V' cap [] := fun {h m'} q => CapOk.envOk (H.capt C X) q
  have hE₁ : EnvOk (lookIn env m₀ cm₀) h₁ V' ρ fp := EnvOk.mono kp₀ (fun a o _ ho => hkC a o (e₃.keep a o ho)) hE₀
  have hinv : Inv ds.length { s₃ with heap := h₁ } := by
    refine ⟨ds, rs, [], #[], rfl, rfl, hc C X, hP₄, ?_, rfl, ⟨_, hns₁⟩, hcapE hE₁, fun k c q => ?_, ext₄, fun a ha => ?_, _, hX₁⟩
    · obtain ⟨o, k, ho, r⟩ := hD₃
      exact ⟨o, k, hkC D o ho, r⟩
    · exact ((hcl₀ k c (closureOf_lookup H.free (fun x c h => by cases h) q)).keeps e₃.keep).keeps hkC
    · rcases List.mem_cons.mp ha with h | h
      · subst h
        obtain ⟨o, k, ho, r⟩ := hD₃
        exact ⟨⟨o, hkC _ o ho⟩, hDK⟩
      · obtain ⟨⟨o, ho⟩, hk⟩ := S₃.valloc a h
        exact ⟨⟨o, hkC a o ho⟩, hk⟩
  have loop : ∀ s₄ : Shared, Inv ds.length s₄ → codeAny W.M A (.compLoop (.ListComp elt [⟨.Name t px, iter, ifs, 0⟩] scope pos) 0 (.ref it) (.ref D) cenv) (RR (.ref D) C) s₄ := by
    intro s₄ hinv
    refine codeAny_compLoop_tests Inv (fun k s₅ hk => ?_) ds.length hinv
    obtain ⟨ds', rs', done, items, rfl, hrs, hcp, hP₅, hDl, hdone, ⟨mC, hnsC⟩, hcap₅, hcl₅, ext₅, hV₅, v?, hX₅⟩ := hk
    have notC : ∀ b o, s₅.heap.get? b = some o → (∀ es ep, o.data ≠ .dict es ep) → b ≠ C := fun b o ho hd e => by
      obtain ⟨oC, es, ep, hoC, hdC, _⟩ := hnsC
      rw [e, hoC] at ho; cases ho
      exact hd _ _ hdC
    cases ds' with
    | nil =>
      refine hI.nextN hP₅ hA fun s₆ x₆ => ?_
      have hrs' : rs' = [] := hcp
      subst hrs'
      rw [List.append_nil] at hrs
      subst hrs
      have hkeep : ∀ b o, s₅.heap.get? b = some o → (∀ vs, o.data ≠ .fields vs) → s₆.heap.get? b = some o := fun b o ho hd => x₆.keep b o (fun hb => by
        obtain ⟨o', vs, h1, h2⟩ := hI.flds hP₅ b hb
        rw [ho] at h1; cases h1; exact hd vs h2) ho
      refine hQ D C s₆ ⟨D, items, rfl, ?_, fun hm => ?_, ?_⟩ hDs hCs hDC ⟨mC, ?_⟩ ⟨fun b o ho => x₆.keep b o (fun hb => by rw [hfr b hb] at ho; cases ho) (ext₅.keep b o ho), x₆.os.trans ext₅.os, ?_⟩
      · obtain ⟨o, k, ho, hc, hq, hd⟩ := hDl
        exact ⟨o, k, hkeep D o ho (fun vs e => by rw [hd] at e; cases e), hc, hq, hd⟩
      · obtain ⟨⟨o, ho⟩, _⟩ := S₂.valloc D hm
        rw [hDn] at ho; cases ho
      · exact RdL.mono (fun b o xs k ho hd hn => ⟨hkeep b o ho (fun vs e => by rw [hd] at e; cases e), fun h => hn (.tail _ h)⟩) _ _ hdone
      · obtain ⟨oC, es, ep, hoC, hdC, r⟩ := hnsC
        exact ⟨oC, es, ep, hkeep C oC hoC (fun vs e => by rw [hdC] at e; cases e), hdC, r⟩
      · obtain ⟨more, g1, g2⟩ := ext₅.gens
        exact ⟨more, x₆.gens.trans g1, g2⟩
    | cons d ds' =>
      refine hI.nextS hP₅ (fun a ha => (hV₅ a ha).1) hA fun v s₆ rv hPm₆ x₆ => ?_
      have hP₆ := hplain _ _ _ _ hPm₆
      have hkeep : ∀ b o, s₅.heap.get? b = some o → (∀ vs, o.data ≠ .fields vs) → s₆.heap.get? b = some o := fun b o ho hd => x₆.keep b o (fun hb => by
        obtain ⟨o', vs, h1, h2⟩ := hI.flds hP₅ b hb
        rw [ho] at h1; cases h1; exact hd vs h2) ho
      have kp₆ : Kp s₅.heap V' s₆.heap V' := fun b o xs k ho hd hn => ⟨hkeep b o ho (fun vs e => by rw [hd] at e; cases e), hn⟩
      have hns₆ : s₆.heap.Ns C mC := by
        obtain ⟨oC, es, ep, hoC, hdC, r⟩ := hnsC
        exact ⟨oC, es, ep, hkeep C oC hoC (fun vs e => by rw [hdC] at e; cases e), hdC, r⟩
      have hcl₆ : ∀ k c, (closureOf env scope.names []).lookup k = some c → s₆.heap.IsCell c (cm₀ k) := fun k c q => by
        obtain ⟨oc, hoc, hcd⟩ := hcl₅ k c q
        exact ⟨oc, hkeep c oc hoc (fun vs e => by rw [hcd] at e; cases e), hcd⟩
      have hX₆ : s₆.heap.IsCell X v? := by
        obtain ⟨oc, hoc, hcd⟩ := hX₅
        exact ⟨oc, hkeep X oc hoc (fun vs e => by rw [hcd] at e; cases e), hcd⟩
      -- the target
      have hcap₆ : EnvOk (lookIn cenv (fun _ => Option.none) cm₀) s₆.heap V' cap [] := EnvOk.mono kp₆ (fun a o h => nomatch h) hcap₅
      have htloc : cenv.kindOf t = some .cell := H.loc
      have hkindc : cenv.scope.kind = .function := by show (relabel scope env).kind = .function; exact H.kind
      have htX : cenv.cells.lookup t = some X := by show List.lookup t ((t, X) :: _) = _; simp
      refine wpAny_assign_Name (wpAny_storeName_cell hkindc htloc htX hX₆ fun h₇ hX₇ hsb₇ => ?_)
      have hX₇ : h₇.IsCell X (some v) := hX₇
      have hsb₇ : Heap.SameBut X s₆.heap h₇ := hsb₇
      have ext₆ : Ext s s₆ := by
        obtain ⟨more, g1, g2⟩ := ext₅.gens
        exact ⟨fun b o ho => x₆.keep b o (fun hb => by rw [hfr b hb] at ho; cases ho) (ext₅.keep b o ho), x₆.os.trans ext₅.os, more, x₆.gens.trans g1, g2⟩
      have ext₇ : Ext s { s₆ with heap := h₇ } := ⟨fun b o ho => hsb₇.extBut b o (fun e => by rw [e, hXs] at ho; cases ho) (ext₆.keep b o ho), ext₆.os, ext₆.gens⟩
      have hk₇ : ∀ b o, s₆.heap.get? b = some o → (∀ v, o.data ≠ .cell v) → h₇.get? b = some o := fun b o ho hd => hsb₇.extBut b o (fun e => by
        obtain ⟨oC, hoC, hdC⟩ := hX₆
        rw [e] at ho; rw [hoC] at ho; cases ho; exact hd _ hdC) ho
      have kp₇ : Kp s₆.heap V' h₇ V' := fun b o xs k ho hd hn => ⟨hk₇ b o ho (fun v e => by rw [hd] at e; cases e), hn⟩
      have hclX : ∀ k c, (closureOf env scope.names []).lookup k = some c → c ≠ X := fun k c q e => by
        obtain ⟨oc, hoc, _⟩ := hcl₀ k c (closureOf_lookup H.free (fun x c h => by cases h) q)
        have := e₃.keep c oc hoc
        rw [e, hXn] at this; cases this
      have hcl₇ : ∀ k c, (closureOf env scope.names []).lookup k = some c → h₇.IsCell c (cm₀ k) := fun k c q => (hcl₆ k c q).sameBut hsb₇ (hclX k c q)
      have hns₇ : h₇.Ns C mC := by
        obtain ⟨oC, es, ep, hoC, hdC, r⟩ := hns₆
        exact ⟨oC, es, ep, hk₇ C oC hoC (fun v e => by rw [hdC] at e; cases e), hdC, r⟩
      have hVth : ∀ a ∈ V', (∃ o, h₇.get? a = some o) ∧ W.K.lookup a = Option.none := fun a ha => by
        obtain ⟨⟨o, ho⟩, hk⟩ := hV₅ a ha
        have hai : a ∉ its := fun hm => by
          rcases List.mem_cons.mp ha with h | h
          · exact hitsD (h ▸ hm)
          · obtain ⟨⟨o₀, ho₀⟩, _⟩ := S.valloc a h
            rw [hfr a hm] at ho₀; cases ho₀
        have ho' := x₆.keep a o hai ho
        by_cases e : a = X
        · obtain ⟨oX, hoX, _⟩ := hX₇
          exact ⟨⟨oX, by rw [e]; exact hoX⟩, hk⟩
        · exact ⟨⟨o, (hsb₇.2 a e).trans ho'⟩, hk⟩
      let cm₁ : Str → Option Value := fun y => if y = t then some v else cm₀ y
      have hnt : ∀ p ∈ cap, p.1 ≠ t := fun p hp e => (List.nodup_cons.mp H.nodup).1 (e ▸ List.mem_map_of_mem hp)
      have hEc : ∀ {h : Heap} {m' : Str → Option Value}, Kp s₆.heap V' h V' → EnvOk (lookIn cenv m' cm₁) h V' ((t, .sh d) :: cap) [] := fun {h m'} kp => by
        refine ⟨v, [], [], ?_, ⟨Rd.mono kp _ _ rv, rfl⟩, ?_, rfl⟩
        · unfold lookIn
          rw [H.tq, if_neg Bool.false_ne_true, htloc]
          show (cenv.cells.lookup t).bind (fun _ => cm₁ t) = some v
          rw [htX]
          simp [cm₁]
        · refine EnvOk.look (fun y hy => ?_) (EnvOk.mono kp (fun a o h => nomatch h) hcap₆)
          obtain ⟨p, hp, rfl⟩ := List.mem_map.mp hy
          have : cenv.kindOf p.1 = some .cell ∨ cenv.kindOf p.1 = some .free := CapOk.kinds (H.capt C X) p hp
          have hcm : cm₁ p.1 = cm₀ p.1 := if_neg (hnt p hp)
          unfold lookIn
          split
          · rfl
          · rcases this with e | e <;> rw [e] <;> simp only [hcm]
      have lk_cases : ∀ k c, cenv.cells.lookup k = some c → (k = t ∧ c = X) ∨ (k ≠ t ∧ (closureOf env scope.names []).lookup k = some c) := fun k c q => by
        have q : List.lookup k ((t, X) :: closureOf env scope.names []) = some c := q
        rw [List.lookup_cons] at q
        by_cases e : (k == t) = true
        · rw [e] at q; cases q; exact .inl ⟨beq_iff_eq.mp e, rfl⟩
        · rw [Bool.not_eq_true] at e
          rw [e] at q
          exact .inr ⟨fun h => by rw [h] at e; simp at e, q⟩
      have S₇ : St W cenv s.heap V' [] { s₆ with heap := h₇ } ((t, .sh d) :: cap) := by
        refine ⟨S.gl', ext₇.keep, hkindc, S.eg, S.eb, ⟨_, cm₁, hns₇, fun k c q => ?_, hEc kp₇⟩, H.nodup, .nil, (fun a h => nomatch h), (fun a h => nomatch h), hVth, hCs, (fun k c h => by cases h), fun k k' c q q' => ?_⟩
        · rcases lk_cases k c q with ⟨rfl, rfl⟩ | ⟨hk, q⟩
          · show h₇.IsCell c (cm₁ k)
            simp only [cm₁, if_true]
            exact hX₇
          · show h₇.IsCell c (cm₁ k)
            simp only [cm₁, if_neg hk]
            exact hcl₇ k c q
        · rcases lk_cases k c q with ⟨rfl, rfl⟩ | ⟨hk, q⟩
          · rcases lk_cases k' c q' with ⟨rfl, _⟩ | ⟨hk', q'⟩
            · rfl
            · exact absurd rfl (hclX k' c q')
          · have q2 := q
            rcases lk_cases k' c q' with ⟨_, e'⟩ | ⟨hk', q'⟩
            · exact absurd e' (hclX k c q2)
            · exact S.apart k k' c (closureOf_lookup H.free (fun x c h => by cases h) q2) (closureOf_lookup H.free (fun x c h => by cases h) q')
      have hP₇ : P h₇ V' ds' := hI.stable hP₆ kp₇ fun a ha o ho => by
        obtain ⟨o', vs, h1, h2⟩ := hI.flds hP₆ a ha
        rw [ho] at h1; cases h1
        exact hk₇ a o ho (fun v e => by rw [h2] at e; cases e)
      have hD₇ : PL h₇ D items := by
        obtain ⟨o, k, ho, hc, hq, hd⟩ := hDl
        exact ⟨o, k, hk₇ D o (hkeep D o ho (fun vs e => by rw [hd] at e; cases e)) (fun v e => by rw [hd] at e; cases e), hc, hq, hd⟩
      have hdone₇ : RdL h₇ V' done items.toList := RdL.mono kp₇ _ _ (RdL.mono kp₆ _ _ hdone)
      -- what follows, for a state further on
      have back : ∀ s₈ : Shared, Ext { s₆ with heap := h₇ } s₈ → ∀ rs'', rs = done ++ rs'' → CompP W n cenv t ifs elt cap ds' rs'' → Inv ds'.length s₈ := fun s₈ e₈ rs'' hrs'' hcp'' => by
        refine ⟨ds', rs'', done, items, rfl, hrs'', hcp'', hI.stable hP₇ (e₈.kp V') (fun a ha o ho => e₈.keep a o ho), ?_, hdone₇.ext e₈, ⟨_, hns₇.keeps e₈.keep⟩, EnvOk.mono (e₈.kp V') (fun a o h => nomatch h) (EnvOk.mono kp₇ (fun a o h => nomatch h) hcap₆), fun k c q => (hcl₇ k c q).keeps e₈.keep, ext₇.trans e₈, fun a ha => ?_, _, hX₇.keeps e₈.keep⟩
        · obtain ⟨o, k, ho, r⟩ := hD₇
          exact ⟨o, k, e₈.keep D o ho, r⟩
        · obtain ⟨⟨o, ho⟩, hk⟩ := hVth a ha
          exact ⟨⟨o, e₈.keep a o ho⟩, hk⟩
      obtain ⟨b, hifs, hb1, hb2⟩ := hcp
      have tests : ∀ {E' : Value → Shared → Prop} {Q' : Bool → Shared → Prop}, (∀ s₈, Ext { s₆ with heap := h₇ } s₈ → Q' b s₈) →
          wpAny W.M A (forIn ifs true fun c r => if r = true then do let ok ← isTrue c cenv (eval c cenv); pure (ForInStep.yield ok) else pure (ForInStep.yield r)) Q' E' { s₆ with heap := h₇ } := by
        intro E' Q' hq
        match ifs, hifs with
        | [], hb => rw [show b = true from hb] at hq; exact wpAny_tests_nil (hq _ (Ext.refl _))
        | [c], ht => exact wpAny_tests_one ((show Tr _ _ _ _ _ _ from ht).r s.heap V' [] _ A _ _ S₇ hA hq)
        | _ :: _ :: _, f => exact f.elim
      refine tests fun s₈ e₈ => ?_
      cases b with
      | false =>
        rw [if_neg Bool.false_ne_true]
        exact ⟨ds'.length, by simp, back s₈ e₈ rs' hrs (hb2 rfl)⟩
      | true =>
        rw [if_pos rfl]
        obtain ⟨r, rs'', rfl, helt, hcp''⟩ := hb1 rfl
        refine helt.r s.heap V' [] s₈ A _ _ (S₇.ext e₈) hA fun y s₉ ry e₉ => ?_
        have hinv₉ := back s₉ (e₈.trans e₉) (r :: rs'') hrs
        have hD₉ : PL s₉.heap D items := by
          obtain ⟨o, k, ho, rr⟩ := hD₇
          exact ⟨o, k, e₉.keep D o (e₈.keep D o ho), rr⟩
        have hlen : items.size ≤ sizeLine := by
          have h1 := RdL.length hdone
          have h2 : rs.length = done.length + (r :: rs'').length := by rw [hrs, List.length_append]
          rw [sizeLine_eq]
          simp only [Array.length_toList, List.length_cons] at h1 h2
          omega
        refine list_append_PL (hsz := hlen) hD₉ fun h₁₀ hD₁₀ hsb₁₀ => ?_
        have hk₁₀ : ∀ b o, s₉.heap.get? b = some o → b ≠ D → h₁₀.get? b = some o := fun b o ho hb => (hsb₁₀.2 b hb).trans ho
        have e₇₉ := e₈.trans e₉
        have hXD : X ≠ D := fun e => by obtain ⟨oD, _, hoD, _, _, hdD⟩ := hDl; obtain ⟨ox, hox, hdx⟩ := hX₅; rw [e, hoD] at hox; cases hox; rw [hdD] at hdx; cases hdx
        have kp₁₀ : Kp s₉.heap V' h₁₀ V' := fun b o xs k ho hd hn => ⟨hk₁₀ b o ho (fun e => hn (e ▸ .head _)), hn⟩
        refine ⟨ds'.length, by simp, ds', rs'', done ++ [r], items.push y, rfl, by rw [hrs, List.append_assoc]; rfl, hcp'', ?_, hD₁₀, ?_, ⟨_, (hns₇.keeps e₇₉.keep).sameBut hsb₁₀ (Ne.symm hDC)⟩, EnvOk.mono kp₁₀ (fun a o h => nomatch h) (EnvOk.mono (e₇₉.kp V') (fun a o h => nomatch h) (EnvOk.mono kp₇ (fun a o h => nomatch h) hcap₆)), fun k c q => ?_, ⟨fun b o ho => hk₁₀ b o (e₇₉.keep b o (ext₇.keep b o ho)) (fun e => by rw [e, hDs] at ho; cases ho), e₇₉.os.trans ext₇.os, (ext₇.trans e₇₉).gens⟩, fun a ha => ?_, _, (hX₇.keeps e₇₉.keep).sameBut hsb₁₀ hXD⟩
        · refine hI.stable (hI.stable hP₇ (e₇₉.kp V') (fun a ha o ho => e₇₉.keep a o ho)) kp₁₀ fun a ha o ho => hk₁₀ a o ho (fun e => hitsD (e ▸ ha))
        · rw [Array.toList_push]
          exact RdL.append (RdL.mono kp₁₀ _ _ (hdone₇.ext e₇₉)) ⟨y, [], rfl, Rd.mono (fun b o xs k ho hd hn => kp₁₀ b o xs k ho hd (by simpa using hn)) _ _ (by simpa using ry), rfl⟩
        · refine ((hcl₇ k c q).keeps e₇₉.keep).sameBut hsb₁₀ (fun e => ?_)
          obtain ⟨oc, hoc, hcd⟩ := (hcl₇ k c q).keeps e₇₉.keep
          obtain ⟨oD, _, hoD, _, _, hdD⟩ := hD₉
          rw [e] at hoc; rw [hoD] at hoc; cases hoc
          rw [hcd] at hdD; cases hdD
        · obtain ⟨⟨o, ho⟩, hk⟩ := hVth a ha
          by_cases e : a = D
          · obtain ⟨oD, _, hoD, _⟩ := hD₁₀
            exact ⟨⟨oD, e ▸ hoD⟩, hk⟩
          · exact ⟨⟨o, hk₁₀ a o (e₇₉.keep a o ho) e⟩, hk⟩
  exact codeAny_compStart_list (loop _ hinv) (hI.again hP₄ hA (loop _ hinv))
theorem Ex.compC {elt iter : Expr} {t : Str} {px pos : Pos} {ifs : List Expr} {scope : Scope} {cap : Rho} {ds rs : List D} (hi : Itx W n env ρ iter ds) (H : CompOkC env scope t ρ cap) (hsz : rs.length ≤ 1000000)
    (hc : ∀ C X, CompP W n (compEnvC scope ((t, X) :: closureOf env scope.names []) C env) t ifs elt cap ds rs) (hs : ∀ x, foldedSetIterable iter env x = pure x) :
    Ex W n env ρ (.ListComp elt [⟨.Name t px, iter, ifs, 0⟩] scope pos) (.list rs) := .mk fun B G fp s A E Q S hA hQ => by
  rw [eval_ListComp]
  refine wpAny_comprehension_free (use := Option.none) rfl hs (closureFor_eq H.free) H.kind H.names ?_
  refine comp_coreC (RR := fun acc C => compPost W.M A E Option.none Q acc C) S hA hi H hsz hc fun D C s' rv hD hC hDC hns e => ?_
  obtain ⟨m, hns⟩ := hns
  refine ⟨m, hns, fun h' hsb => hQ _ _ ?_ ?_⟩
  · refine Rd.mono (fun b o xs k ho hd hn => ⟨(hsb.2 b fun eb => ?_).trans ho, hn⟩) _ _ rv
    obtain ⟨oC, es, ep, hoC, hdC, _⟩ := hns
    rw [eb, hoC] at ho; cases ho
    rw [hd] at hdC; cases hdC
  · exact ⟨fun b o ho => (hsb.2 b fun eb => by rw [eb, hC] at ho; cases ho).trans (e.keep b o ho), e.os, e.gens⟩
end
end Mine
end

-- N1
section
open PySem PySem.W PyProof.Rows
set_option maxRecDepth 100000
namespace Mine

/-- the function that lies at a -/
noncomputable abbrev FdAt (a : Addr) := { p : FuncData × List Stmt // (∀ P, (hd.heap_39 P).lookup a = some { cls := .type "function", data := .func p.1 }) ∧ p.1.body = .stmts p.2 }
noncomputable def mainEs (P : Params) : Array DictEntry := match (hd.heap_39 P).lookup 3 with
  | some ⟨_, _, .dict es _, _⟩ => es
  | _ => #[]
structure Ok (W : Wd) : Prop where
  k : W.K = hd.heap_39 W.w.params
  g : ∀ x, W.mg x = nsFind (mainEs W.w.params) x
  b : ∀ x : Str, x ≠ ("__name__" : Str) → W.mb x = bootBuiltins x
section
variable {W : Wd} {n m : Nat} {env : Env} {ρ : Rho}
theorem defOk {a : Addr} {params : List Str} (H : Ok W) (f : FdAt a) (code : ∀ P, codeIn (hd.heap_39 P) f.1.1.code f.1.1.qualname = true) (clo : f.1.1.closure = []) (gl : f.1.1.globals = mainGlobals) (bu : f.1.1.builtins = builtinsNs)
    (co : f.1.1.scope.isCoroutine = false) (kind : f.1.1.scope.kind = .function) (nodup : params.Nodup)
    (kinds : (params.all fun x => !((x == ("__debug__" : Str)) || (x == ("__classdict__" : Str))) && (f.1.1.scope.names.lookup x == some .local || f.1.1.scope.names.lookup x == some .cell)) = true) : DefOk W a f.1.1 f.1.2 params where
  obj := ⟨_, _, _, by rw [H.k]; exact f.2.1 _⟩
  code := by rw [H.k]; exact code _
  body := f.2.2
  clo := clo
  gl := gl
  bu := bu
  co := co
  kind := kind
  nodup := nodup
  kinds := kinds
theorem gv {f : Str} {fv : Value} (H : Ok W) (kind : env.kindOf f = some .globalImplicit) (h : ∀ P, nsFind (mainEs P) f = some fv) (dbg : (f == ("__debug__" : Str)) = false := by rfl) : Gv W env f fv :=
  ⟨kind, dbg, .inl ((H.g f).trans (h _))⟩
theorem gb {f : Str} {fv : Value} (H : Ok W) (kind : env.kindOf f = some .globalImplicit) (h : ∀ P, nsFind (mainEs P) f = Option.none) (hb : bootBuiltins f = some fv) (hn : f ≠ ("__name__" : Str)) (dbg : (f == ("__debug__" : Str)) = false := by rfl) : Gv W env f fv :=
  ⟨kind, dbg, .inr ⟨(H.g f).trans (h _), (H.b f hn).trans hb⟩⟩
theorem callee {a : Addr} (H : Ok W) (f : FdAt a) : Callee W (.ref a) := fun b e => by
  cases e
  exact ⟨_, _, _, _, by rw [H.k]; exact f.2.1 _⟩
theorem calleeB {x : String} : Callee W (.builtin x) := fun b e => by cases e
theorem calleeT {x : String} : Callee W (.type x) := fun b e => by cases e

noncomputable def f_strcoll : FdAt 28 := ⟨(_, _), fun _ => rfl, rfl⟩
noncomputable def f_strxfrm : FdAt 35 := ⟨(_, _), fun _ => rfl, rfl⟩
noncomputable def f_group : FdAt 42 := ⟨(_, _), fun _ => rfl, rfl⟩
noncomputable def f_buffer : FdAt 49 := ⟨(_, _), fun _ => rfl, rfl⟩
noncomputable def f_truth : FdAt 56 := ⟨(_, _), fun _ => rfl, rfl⟩
noncomputable def f_b2a : FdAt 64 := ⟨(_, _), fun _ => rfl, rfl⟩
noncomputable def f_b64 : FdAt 72 := ⟨(_, _), fun _ => rfl, rfl⟩
noncomputable def f_urlsafe : FdAt 79 := ⟨(_, _), fun _ => rfl, rfl⟩
noncomputable def f_ifmt : FdAt 86 := ⟨(_, _), fun _ => rfl, rfl⟩
noncomputable def f_filemode : FdAt 126 := ⟨(_, _), fun _ => rfl, rfl⟩
noncomputable def f_number : FdAt 133 := ⟨(_, _), fun _ => rfl, rfl⟩
noncomputable def f_told : FdAt 140 := ⟨(_, _), fun _ => rfl, rfl⟩
noncomputable def f_read : FdAt 147 := ⟨(_, _), fun _ => rfl, rfl⟩
noncomputable def f_endings : FdAt 152 := ⟨(_, _), fun _ => rfl, rfl⟩
noncomputable def f_pieces : FdAt 157 := ⟨(_, _), fun _ => rfl, rfl⟩
noncomputable def f_heard : FdAt 164 := ⟨(_, _), fun _ => rfl, rfl⟩
noncomputable def f_cuttings : FdAt 169 := ⟨(_, _), fun _ => rfl, rfl⟩
noncomputable def f_law : FdAt 174 := ⟨(_, _), fun _ => rfl, rfl⟩

theorem g_strcoll : ∀ P, nsFind (mainEs P) "_strcoll" = some (.ref 28) := fun _ => rfl
theorem g_range : ∀ P, nsFind (mainEs P) "range" = Option.none := fun _ => rfl
theorem b_range : bootBuiltins "range" = some (.type "range") := rfl
end
end Mine
end

-- N2
section
open PySem PySem.W PyProof.Rows
set_option maxRecDepth 100000
namespace Mine
section
variable {W : Wd} {n m : Nat} {env : Env} {ρ : Rho} {x y : Str}
theorem Bx.ret {e : Expr} {pos : Pos} {d : D} {rest : List Stmt} (he : Ex W n env ρ e d) : Bx W n env ρ (.Return (some e) pos :: rest) (fun _ fl => fl = .ret d) :=
  Bx.cons (Sx.ret he) (fun _ h => by cases h.2) fun _ _ _ h => h.2

noncomputable def cmpS (x y : Str) : Int := b2i (decide (y.cps.toList < x.cps.toList)) - b2i (decide (x.cps.toList < y.cps.toList))
theorem fn_strcoll (H : Ok W) : Fn W (n + 1) (.ref 28) [.str x, .str y] (.int (cmpS x y)) :=
  Fn.of_def (params := ["a", "b"]) (defOk H f_strcoll (fun _ => rfl) rfl rfl rfl rfl rfl (by decide) rfl) rfl rfl (bind2 fun _ _ => rfl) fun L =>
    Bx.ret (Ex.binop (Ex.cmp (Ex.name rfl) (Ex.name rfl) op_gtS rfl) (Ex.cmp (Ex.name rfl) (Ex.name rfl) op_ltS rfl) op_subB)
theorem fn_strxfrm (H : Ok W) : Fn W (n + 1) (.ref 35) [.str x] (.str x) :=
  Fn.of_def (params := ["s"]) (defOk H f_strxfrm (fun _ => rfl) rfl rfl rfl rfl rfl (by decide) rfl) rfl rfl (bind1 fun _ => rfl) fun L =>
    Bx.ret (Ex.name rfl)
theorem gl_strcoll (H : Ok W) (hk : env.kindOf "_strcoll" = some .globalImplicit) : Gv W env "_strcoll" (.ref 28) := gv H hk (fun _ => by kernel_rfl)
theorem gl_strxfrm (H : Ok W) (hk : env.kindOf "_strxfrm" = some .globalImplicit) : Gv W env "_strxfrm" (.ref 35) := gv H hk (fun _ => by kernel_rfl)
theorem gl_grouping_intervals (H : Ok W) (hk : env.kindOf "_grouping_intervals" = some .globalImplicit) : Gv W env "_grouping_intervals" (.ref 42) := gv H hk (fun _ => by kernel_rfl)
theorem gl_buffer (H : Ok W) (hk : env.kindOf "_buffer" = some .globalImplicit) : Gv W env "_buffer" (.ref 49) := gv H hk (fun _ => by kernel_rfl)
theorem gl_truth (H : Ok W) (hk : env.kindOf "_truth" = some .globalImplicit) : Gv W env "_truth" (.ref 56) := gv H hk (fun _ => by kernel_rfl)
theorem gl_b2a_base64 (H : Ok W) (hk : env.kindOf "b2a_base64" = some .globalImplicit) : Gv W env "b2a_base64" (.ref 64) := gv H hk (fun _ => by kernel_rfl)
theorem gl_b64encode (H : Ok W) (hk : env.kindOf "b64encode" = some .globalImplicit) : Gv W env "b64encode" (.ref 72) := gv H hk (fun _ => by kernel_rfl)
theorem gl_urlsafe_b64encode (H : Ok W) (hk : env.kindOf "urlsafe_b64encode" = some .globalImplicit) : Gv W env "urlsafe_b64encode" (.ref 79) := gv H hk (fun _ => by kernel_rfl)
theorem gl_S_IFMT (H : Ok W) (hk : env.kindOf "S_IFMT" = some .globalImplicit) : Gv W env "S_IFMT" (.ref 86) := gv H hk (fun _ => by kernel_rfl)
theorem gl_filemode_table (H : Ok W) (hk : env.kindOf "_filemode_table" = some .globalImplicit) : Gv W env "_filemode_table" (.ref 119) := gv H hk (fun _ => by kernel_rfl)
theorem gl_filemode (H : Ok W) (hk : env.kindOf "filemode" = some .globalImplicit) : Gv W env "filemode" (.ref 126) := gv H hk (fun _ => by kernel_rfl)
theorem gl_law_number (H : Ok W) (hk : env.kindOf "_law_number" = some .globalImplicit) : Gv W env "_law_number" (.ref 133) := gv H hk (fun _ => by kernel_rfl)
theorem gl_law_told (H : Ok W) (hk : env.kindOf "_law_told" = some .globalImplicit) : Gv W env "_law_told" (.ref 140) := gv H hk (fun _ => by kernel_rfl)
theorem gl_law_read (H : Ok W) (hk : env.kindOf "_law_read" = some .globalImplicit) : Gv W env "_law_read" (.ref 147) := gv H hk (fun _ => by kernel_rfl)
theorem gl_law_endings (H : Ok W) (hk : env.kindOf "_law_endings" = some .globalImplicit) : Gv W env "_law_endings" (.ref 152) := gv H hk (fun _ => by kernel_rfl)
theorem gl_law_pieces (H : Ok W) (hk : env.kindOf "_law_pieces" = some .globalImplicit) : Gv W env "_law_pieces" (.ref 157) := gv H hk (fun _ => by kernel_rfl)
theorem gl_law_heard (H : Ok W) (hk : env.kindOf "_law_heard" = some .globalImplicit) : Gv W env "_law_heard" (.ref 164) := gv H hk (fun _ => by kernel_rfl)
theorem gl_law_cuttings (H : Ok W) (hk : env.kindOf "_law_cuttings" = some .globalImplicit) : Gv W env "_law_cuttings" (.ref 169) := gv H hk (fun _ => by kernel_rfl)
theorem gl_CHAR_MAX (H : Ok W) (hk : env.kindOf "CHAR_MAX" = some .globalImplicit) : Gv W env "CHAR_MAX" (.int 127 211) := gv H hk (fun _ => by kernel_rfl)
theorem gl_range (H : Ok W) (hk : env.kindOf "range" = some .globalImplicit) : Gv W env "range" (.type "range") := gb H hk (fun _ => by kernel_rfl) (by kernel_rfl) (by decide)
theorem gl_len (H : Ok W) (hk : env.kindOf "len" = some .globalImplicit) : Gv W env "len" (.builtin "len") := gb H hk (fun _ => by kernel_rfl) (by kernel_rfl) (by decide)
theorem gl_sum (H : Ok W) (hk : env.kindOf "sum" = some .globalImplicit) : Gv W env "sum" (.builtin "sum") := gb H hk (fun _ => by kernel_rfl) (by kernel_rfl) (by decide)
theorem gl_min (H : Ok W) (hk : env.kindOf "min" = some .globalImplicit) : Gv W env "min" (.builtin "min") := gb H hk (fun _ => by kernel_rfl) (by kernel_rfl) (by decide)
theorem gl_isinstance (H : Ok W) (hk : env.kindOf "isinstance" = some .globalImplicit) : Gv W env "isinstance" (.builtin "isinstance") := gb H hk (fun _ => by kernel_rfl) (by kernel_rfl) (by decide)
theorem gl_type (H : Ok W) (hk : env.kindOf "type" = some .globalImplicit) : Gv W env "type" (.type "type") := gb H hk (fun _ => by kernel_rfl) (by kernel_rfl) (by decide)
theorem gl_bytes (H : Ok W) (hk : env.kindOf "bytes" = some .globalImplicit) : Gv W env "bytes" (.type "bytes") := gb H hk (fun _ => by kernel_rfl) (by kernel_rfl) (by decide)
theorem gl_chr (H : Ok W) (hk : env.kindOf "chr" = some .globalImplicit) : Gv W env "chr" (.builtin "chr") := gb H hk (fun _ => by kernel_rfl) (by kernel_rfl) (by decide)
theorem gl_enumerate (H : Ok W) (hk : env.kindOf "enumerate" = some .globalImplicit) : Gv W env "enumerate" (.type "enumerate") := gb H hk (fun _ => by kernel_rfl) (by kernel_rfl) (by decide)
theorem gl_int (H : Ok W) (hk : env.kindOf "int" = some .globalImplicit) : Gv W env "int" (.type "int") := gb H hk (fun _ => by kernel_rfl) (by kernel_rfl) (by decide)
theorem gl_bool (H : Ok W) (hk : env.kindOf "bool" = some .globalImplicit) : Gv W env "bool" (.type "bool") := gb H hk (fun _ => by kernel_rfl) (by kernel_rfl) (by decide)
theorem gl_str (H : Ok W) (hk : env.kindOf "str" = some .globalImplicit) : Gv W env "str" (.type "str") := gb H hk (fun _ => by kernel_rfl) (by kernel_rfl) (by decide)
theorem gl_ValueError (H : Ok W) (hk : env.kindOf "ValueError" = some .globalImplicit) : Gv W env "ValueError" (.type "ValueError") := gb H hk (fun _ => by kernel_rfl) (by kernel_rfl) (by decide)
theorem gl_float (H : Ok W) (hk : env.kindOf "float" = some .globalImplicit) : Gv W env "float" (.type "float") := gb H hk (fun _ => by kernel_rfl) (by kernel_rfl) (by decide)
theorem gl_complex (H : Ok W) (hk : env.kindOf "complex" = some .globalImplicit) : Gv W env "complex" (.type "complex") := gb H hk (fun _ => by kernel_rfl) (by kernel_rfl) (by decide)
theorem gl_bytearray (H : Ok W) (hk : env.kindOf "bytearray" = some .globalImplicit) : Gv W env "bytearray" (.type "bytearray") := gb H hk (fun _ => by kernel_rfl) (by kernel_rfl) (by decide)
theorem gl_list (H : Ok W) (hk : env.kindOf "list" = some .globalImplicit) : Gv W env "list" (.type "list") := gb H hk (fun _ => by kernel_rfl) (by kernel_rfl) (by decide)
theorem gl_tuple (H : Ok W) (hk : env.kindOf "tuple" = some .globalImplicit) : Gv W env "tuple" (.type "tuple") := gb H hk (fun _ => by kernel_rfl) (by kernel_rfl) (by decide)
theorem gl_dict (H : Ok W) (hk : env.kindOf "dict" = some .globalImplicit) : Gv W env "dict" (.type "dict") := gb H hk (fun _ => by kernel_rfl) (by kernel_rfl) (by decide)
theorem gl_set (H : Ok W) (hk : env.kindOf "set" = some .globalImplicit) : Gv W env "set" (.type "set") := gb H hk (fun _ => by kernel_rfl) (by kernel_rfl) (by decide)
theorem gl_frozenset (H : Ok W) (hk : env.kindOf "frozenset" = some .globalImplicit) : Gv W env "frozenset" (.type "frozenset") := gb H hk (fun _ => by kernel_rfl) (by kernel_rfl) (by decide)

theorem Ex.ty {f : Str} {p : Pos} {x : String} (g : Gv W env f (.type x)) : Ex W n env ρ (.Name f p) (.ty x) := Ex.glob g fun _ _ _ _ => rfl
theorem fn_told (H : Ok W) : Fn W (n + 2) (.ref 140) [.str x, .str y] (.int (cmpS x y)) :=
  Fn.of_def (params := ["one", "other"]) (defOk H f_told (fun _ => rfl) rfl rfl rfl rfl rfl (by decide) rfl) rfl rfl (bind2 fun _ _ => rfl) fun L =>
    Bx.seq (Sx.assign (Ex.call (gl_strcoll H rfl) (callee H f_strcoll) (Exs.cons (Ex.name rfl) (Exs.cons (Ex.name rfl) Exs.nil)) (fn_strcoll (n := n) H) (Nat.le_refl _) rfl) rfl rfl)
    (Bx.ret (Ex.ifexp (Tr.bool (Trs.and (Tr.plain (Ex.call (gl_isinstance H rfl) calleeB (Exs.cons (Ex.name rfl) (Exs.cons (Ex.ty (gl_int H rfl)) Exs.nil)) (fn_isi_int (n := 0)) (Nat.zero_le _) rfl) rfl) fun _ =>
      Trs.and (Tr.not (Tr.plain (Ex.call (gl_isinstance H rfl) calleeB (Exs.cons (Ex.name rfl) (Exs.cons (Ex.ty (gl_bool H rfl)) Exs.nil)) (fn_isi_bool (n := 0)) (Nat.zero_le _) rfl) rfl)) fun _ => Trs.nil)) (fun _ => Ex.name rfl) (fun h => by cases h)))
end
end Mine
end

-- N3
section
open PySem PySem.W PyProof.Rows
set_option maxRecDepth 100000
namespace Mine
section
variable {W : Wd} {n m : Nat} {env : Env} {ρ : Rho} {x y : Str}
theorem LoopP.ofInv {α : Type} {target : Expr} {body orelse : List Stmt} {R : Rho → Fl → Prop} (f : α → D) (I : List α → Rho → Prop)
    (step : ∀ a as ρ, I (a :: as) ρ → ∃ ρ₁, Ax W n env ρ target (f a) ρ₁ ∧ Bx W n env ρ₁ body (fun ρ' fl => match fl with
      | .next | .cont => I as ρ'
      | .brk => R ρ' .next
      | .ret d => R ρ' (.ret d)))
    (done : ∀ ρ, I [] ρ → Bx W n env ρ orelse R) : ∀ as ρ, I as ρ → LoopP W n env target body orelse R (as.map f) ρ
  | [], ρ, h => done ρ h
  | a :: as, ρ, h => by
    obtain ⟨ρ₁, h1, h2⟩ := step a as ρ h
    refine ⟨ρ₁, h1, Bx.mono h2 fun ρ' fl hr => ?_⟩
    cases fl with
    | next => exact LoopP.ofInv f I step done as ρ' hr
    | cont => exact LoopP.ofInv f I step done as ρ' hr
    | brk => exact hr
    | ret d => exact hr
noncomputable abbrev lk (ρ : Rho) (x : Str) : Option Bd := List.lookup x ρ
theorem lk0 {b : Bd} : ∀ {ρ : Rho}, (put ρ x b).lookup x = some b
  | [] => by simp [put, List.lookup_cons]
  | (z, c) :: r => by
    unfold put
    split
    · simp [List.lookup_cons]
    · rename_i h
      have : (x == z) = false := by
        rw [beq_eq_false_iff_ne]
        intro e
        exact h (by rw [e]; simp)
      rw [List.lookup_cons, this]
      exact lk0
theorem lk1 {b : Bd} {o : Option Bd} (h : (y == x) = false) : ∀ {ρ : Rho}, ρ.lookup y = o → (put ρ x b).lookup y = o
  | [], e => by
    unfold put
    rw [List.lookup_cons, h]
    exact e
  | (z, c) :: r, e => by
    unfold put
    rw [List.lookup_cons] at e
    split
    · rename_i hz
      rw [List.lookup_cons, h]
      have : (y == z) = false := by rw [beq_iff_eq.mp hz]; exact h
      rw [this] at e
      exact e
    · rw [List.lookup_cons]
      cases q : y == z with
      | true => rw [q] at e; exact e
      | false => rw [q] at e; exact lk1 h e

noncomputable def numTbl : List Int := [1, 6, 3, 1, 4, 1, 2, 1, 0, 1, 5, 1, 7, 1, 1, 1]
noncomputable def nstep (k number place : Int) : Int :=
  number * 16 + ((k.fdiv (8 ^ place.toNat)).fmod 8).fdiv 2 * 4 +
    (if (((k.fdiv (8 ^ place.toNat)).fmod 8).fmod 2 == 1) = true then 3 - ((k.fdiv 512).fdiv (2 ^ place.toNat)).fmod 2 else ((k.fdiv 512).fdiv (2 ^ place.toNat)).fmod 2)
noncomputable def numOf (k : Int) : Int := [2, 1, 0].foldl (nstep k) (numTbl.getD ((k.fdiv 4096).fmod 16).toNat 0)
theorem fmod_range {a b : Int} (hb : 0 < b) : 0 ≤ a.fmod b ∧ a.fmod b < b := ⟨Int.fmod_nonneg_of_pos _ hb, Int.fmod_lt_of_pos _ hb⟩

theorem fn_number (H : Ok W) {k : Int} : Fn W (n + 1) (.ref 133) [.int k] (.int (numOf k)) :=
  Fn.of_def (params := ["mode"]) (defOk H f_number (fun _ => rfl) rfl rfl rfl rfl rfl (by decide) rfl) rfl rfl (bind1 fun _ => rfl) fun L => by
    have r16 := fmod_range (a := k.fdiv 4096) (b := 16) (by decide)
    refine Bx.seq (Sx.assign (Ex.item (ds := numTbl.map .int) (d := .int (numTbl.getD ((k.fdiv 4096).fmod 16).toNat 0)) (Ex.list ?_ rfl (show 16 ≤ 1000000 by omega)) (Ex.binop (Ex.binop (Ex.name rfl) Ex.int (op_fdiv (by decide) (by decide))) Ex.int (op_mod (by decide))) ?_ ?_ (show 16 ≤ 1000000 by omega) ?_ (fun _ _ => rfl)) rfl rfl) ?_
    · repeat' first | exact Exs.nil | refine Exs.cons Ex.int ?_
    · show -(16 : Int) ≤ _; omega
    · show _ < (16 : Int); omega
    · have h16 : ((k.fdiv 4096).fmod 16).toNat < 16 := by omega
      unfold idxD
      rw [if_neg (by omega)]
      rw [List.getElem?_map, List.getD_eq_getElem?_getD]
      have : ((k.fdiv 4096).fmod 16).toNat < numTbl.length := h16
      rw [List.getElem?_eq_getElem this]
      rfl
    refine Bx.cons (R' := fun ρ' fl => fl = .next ∧ lk ρ' "number" = some (.sh (.int (numOf k)))) (Sx.for (ds := ([2, 1, 0] : List Int).map .int) (Itx.toT (Itx.of (Ex.tuple (Exs.cons Ex.int (Exs.cons Ex.int (Exs.cons Ex.int Exs.nil))) rfl (show 3 ≤ 1000000 by omega)) iterOf_tup)) ?_ (fun _ => rfl)) ?_ (fun ρ' fl hn h => absurd h.1 hn)
    · refine LoopP.ofInv .int (fun as ρ => lk ρ "mode" = some (.sh (.int k)) ∧ ∃ v, lk ρ "number" = some (.sh (.int v)) ∧ as.foldl (nstep k) v = numOf k ∧ ∀ p ∈ as, 0 ≤ p ∧ p ≤ 2) ?_ ?_ _ _ ⟨rfl, _, rfl, rfl, by decide⟩
      · intro p as ρ ⟨hm, v, hv, hf, hp⟩
        obtain ⟨p0, p2⟩ := hp p (.head _)
        have h8 : (8 : Int) ^ p.toNat ≠ 0 ∧ ((8 : Int) ^ p.toNat).natAbs < 1073741824 := by
          have : p = 0 ∨ p = 1 ∨ p = 2 := by omega
          rcases this with rfl | rfl | rfl <;> decide
        have h2 : (2 : Int) ^ p.toNat ≠ 0 ∧ ((2 : Int) ^ p.toNat).natAbs < 1073741824 := by
          have : p = 0 ∨ p = 1 ∨ p = 2 := by omega
          rcases this with rfl | rfl | rfl <;> decide
        refine ⟨_, Ax.name rfl, ?_⟩
        refine Bx.seq (Sx.assign (Ex.binop (Ex.binop (Ex.name (lk1 rfl hm)) (Ex.binop Ex.int (Ex.name lk0) (op_pow p0 (by omega) (by decide))) (op_fdiv h8.1 h8.2)) Ex.int (op_mod (by decide))) rfl rfl) ?_
        refine Bx.seq (Sx.assign (Ex.binop (Ex.binop (Ex.binop (Ex.name (lk1 rfl (lk1 rfl hm))) Ex.int (op_fdiv (by decide) (by decide))) (Ex.binop Ex.int (Ex.name (lk1 rfl lk0)) (op_pow p0 (by omega) (by decide))) (op_fdiv h2.1 h2.2)) Ex.int (op_mod (by decide))) rfl rfl) ?_
        refine Bx.mono (Bx.last (Sx.assign (d := .int (nstep k v p)) (Ex.binop (Ex.binop (Ex.binop (Ex.name (lk1 rfl (lk1 rfl (lk1 rfl hv)))) Ex.int (op_mul (mulOk_right (by decide)))) (Ex.binop (Ex.binop (Ex.name (lk1 rfl lk0)) Ex.int (op_fdiv (by decide) (by decide))) Ex.int (op_mul (mulOk_right (by decide)))) op_add) (Ex.ifexp (Tr.cmp (Ex.binop (Ex.name (lk1 rfl lk0)) Ex.int (op_mod (by decide))) Ex.int op_eq rfl) ?_ ?_) op_add) rfl rfl)) ?_
        · intro hb
          rw [if_pos hb]
          exact Ex.binop Ex.int (Ex.name lk0) op_sub
        · intro hb
          rw [if_neg (by rw [hb]; exact Bool.false_ne_true)]
          exact Ex.name lk0
        · rintro ρ' fl ⟨rfl, rfl⟩
          exact ⟨lk1 rfl (lk1 rfl (lk1 rfl (lk1 rfl hm))), _, lk0, hf, fun q hq => hp q (.tail _ hq)⟩
      · rintro ρ ⟨hm, v, hv, hf, hp⟩
        have hf : v = numOf k := hf
        exact Bx.nil ⟨rfl, hf ▸ hv⟩
    · rintro ρ' ⟨_, h⟩
      exact Bx.ret (Ex.name h)
end
end Mine
end

-- N4
section
open PySem PySem.W PyProof.Rows
set_option maxRecDepth 100000
namespace Mine

noncomputable def allD : List (Option D) → Option (List D)
  | [] => some []
  | d :: ds => match d, allD ds with
    | some d, some ds => some (d :: ds)
    | _, _ => Option.none
/-- what a value is by the module's own objects -/
noncomputable def rdK (K : Frag) : Nat → Value → Option D
  | 0, _ => Option.none
  | k + 1, v => match v with
    | .none => some .none
    | .bool b => some (.bool b)
    | .int i _ => some (.int i)
    | .str x _ => some (.str x)
    | .bytes b _ => some (.bytes b)
    | .type n => some (.ty n)
    | .ref a => match K.lookup a with
      | some ⟨.type "tuple", _, .seq vs _, _⟩ => (allD (vs.toList.map (rdK K k))).map .tup
      | _ => Option.none
    | _ => Option.none
theorem allD_ok {h : Heap} {V : List Addr} (f : Value → Option D) (hf : ∀ v d, f v = some d → Rd h V d v) : ∀ (vs : List Value) (ds : List D), allD (vs.map f) = some ds → RdL h V ds vs
  | [], ds, e => by cases e; exact rfl
  | v :: vs, ds, e => by
    rw [List.map_cons] at e
    unfold allD at e
    split at e
    · rename_i d ds' h1 h2
      cases e
      exact ⟨v, vs, rfl, hf _ _ h1, allD_ok f hf vs _ h2⟩
    · cases e
theorem rdK_ok {K : Frag} {h : Heap} {V : List Addr} (hK : K.In h) (hV : ∀ a ∈ V, K.lookup a = Option.none) : ∀ (k : Nat) (v : Value) (d : D), rdK K k v = some d → Rd h V d v
  | 0, v, d, e => by cases e
  | k + 1, v, d, e => by
    unfold rdK at e
    split at e
    · cases e; exact rfl
    · cases e; exact rfl
    · cases e; exact ⟨_, rfl⟩
    · cases e; exact ⟨_, rfl⟩
    · cases e; exact ⟨_, rfl⟩
    · cases e; exact rfl
    · split at e
      · rename_i a _ od vs c osl hl
        obtain ⟨ds, hds, rfl⟩ := Option.map_eq_some_iff.mp e
        refine ⟨a, vs, rfl, ⟨_, hK a _ hl, rfl, _, rfl⟩, fun hm => ?_, allD_ok _ (rdK_ok hK hV k) _ _ hds⟩
        rw [hV a hm] at hl; cases hl
      · cases e
    · cases e
section
variable {W : Wd} {n m : Nat} {env : Env} {ρ : Rho} {x y : Str}
theorem Ex.globK {f : Str} {fv : Value} {p : Pos} {d : D} (H : Ok W) (hf : Gv W env f fv) (k : Nat) (hd : ∀ P, rdK (hd.heap_39 P) k fv = some d) : Ex W n env ρ (.Name f p) d :=
  Ex.glob hf fun h V hg hv => rdK_ok (K := W.K) hg.k (fun a ha => (hv a ha).2) k fv d (by rw [H.k]; exact hd _)

theorem fn_ifmt (H : Ok W) {k : Int} : Fn W (n + 1) (.ref 86) [.int k] (.int (Builtin.bitAnd k 61440)) :=
  Fn.of_def (params := ["mode"]) (defOk H f_ifmt (fun _ => rfl) rfl rfl rfl rfl rfl (by decide) rfl) rfl rfl (bind1 fun _ => rfl) fun L =>
    Bx.ret (Ex.binop (Ex.name rfl) Ex.int op_and)

noncomputable def fmRows : List (Int × List (Int × Str)) :=
  [(0, [(40960, ⟨#[108]⟩), (49152, ⟨#[115]⟩), (32768, ⟨#[45]⟩), (24576, ⟨#[98]⟩), (16384, ⟨#[100]⟩), (8192, ⟨#[99]⟩), (4096, ⟨#[112]⟩)]),
   (1, [(256, ⟨#[114]⟩)]), (2, [(128, ⟨#[119]⟩)]), (3, [(2112, ⟨#[115]⟩), (2048, ⟨#[83]⟩), (64, ⟨#[120]⟩)]),
   (4, [(32, ⟨#[114]⟩)]), (5, [(16, ⟨#[119]⟩)]), (6, [(1032, ⟨#[115]⟩), (1024, ⟨#[83]⟩), (8, ⟨#[120]⟩)]),
   (7, [(4, ⟨#[114]⟩)]), (8, [(2, ⟨#[119]⟩)]), (9, [(513, ⟨#[116]⟩), (512, ⟨#[84]⟩), (1, ⟨#[120]⟩)])]
noncomputable def pairD (r : Int × Str) : D := .tup [.int r.1, .str r.2]
noncomputable def rowD (r : Int × List (Int × Str)) : D := .tup [.int r.1, .tup (r.2.map pairD)]
noncomputable def fmHit (k i b : Int) : Bool := if (i == 0) = true then Builtin.bitAnd k 61440 == b else Builtin.bitAnd k b == b
noncomputable def fmChar (k i : Int) : List (Int × Str) → Str
  | [] => if (i == 0) = true then "?" else "-"
  | (b, c) :: r => if fmHit k i b = true then c else fmChar k i r
noncomputable def fmChars (k : Int) : List Str := fmRows.map fun r => fmChar k r.1 r.2
noncomputable def lookOf (k : Int) : Str := Txt.join ⟨#[]⟩ (fmChars k)
theorem ex_table (H : Ok W) {p : Pos} (hk : env.kindOf "_filemode_table" = some .globalImplicit) : Ex W n env ρ (.Name "_filemode_table" p) (.tup (fmRows.map fun r => .tup (r.2.map pairD))) :=
  Ex.globK H (gl_filemode_table H hk) 5 fun _ => rfl
theorem fmChar_len (k i : Int) : ∀ r ∈ fmRows, (fmChar k i r.2).length = 1 := by
  have : ∀ l : List (Int × Str), (∀ p ∈ l, p.2.length = 1) → (fmChar k i l).length = 1 := by
    intro l hl
    induction l with
    | nil => unfold fmChar; split <;> rfl
    | cons p l ih =>
      obtain ⟨b, c⟩ := p
      unfold fmChar
      split
      · exact hl _ (.head _)
      · exact ih fun p hp => hl p (.tail _ hp)
  intro r hr
  refine this _ ?_
  have h : ∀ r ∈ fmRows, ∀ p ∈ r.2, p.2.length = 1 := by decide
  exact h r hr
theorem fn_filemode (H : Ok W) {k : Int} : Fn W (n + 2) (.ref 126) [.int k] (.str (lookOf k)) :=
  Fn.of_def (params := ["mode"]) (defOk H f_filemode (fun _ => rfl) rfl rfl rfl rfl rfl (by decide) rfl) rfl rfl (bind1 fun _ => rfl) fun L => by
    refine Bx.seq (Sx.assignOwn Exs.nil rfl rfl (show 0 ≤ 1000000 by omega)) ?_
    refine Bx.cons (R' := fun ρ' fl => fl = .next ∧ lk ρ' "perm" = some (.own ((fmChars k).map fun c => .sh (.str c)))) (Sx.for (ds := fmRows.map rowD) (ItxT.enum rfl (gl_enumerate H rfl) (ex_table H rfl) rfl) ?_ (fun _ => rfl)) ?_ (fun ρ' fl hn h => absurd h.1 hn)
    · refine LoopP.ofInv rowD (fun as ρ => lk ρ "mode" = some (.sh (.int k)) ∧ ∃ els, lk ρ "perm" = some (.own els) ∧ els ++ (as.map fun r => .sh (.str (fmChar k r.1 r.2))) = ((fmChars k).map fun c => .sh (.str c))) ?_ ?_ _ _ ⟨rfl, _, rfl, ?_⟩
      · intro ⟨i, row⟩ as ρ ⟨hm, els, he, hf⟩
        have hlen : els.length ≤ 10 := by
          have := congrArg List.length hf
          simp [fmChars, fmRows] at this
          omega
        refine ⟨_, Ax.tuple2 rfl rfl, ?_⟩
        refine Bx.last (Sx.for (ds := row.map pairD) (Itx.toT (Itx.of (Ex.name lk0) iterOf_tup)) ?_ (fun _ => rfl))
        refine LoopP.ofInv pairD (fun rs ρ => lk ρ "mode" = some (.sh (.int k)) ∧ lk ρ "index" = some (.sh (.int i)) ∧ lk ρ "perm" = some (.own els) ∧ fmChar k i rs = fmChar k i row) ?_ ?_ _ _ ⟨lk1 rfl (lk1 rfl hm), lk1 rfl lk0, lk1 rfl (lk1 rfl he), rfl⟩
        · intro ⟨b, c⟩ rs ρ ⟨hm, hi, hp, hf'⟩
          refine ⟨_, Ax.tuple2 rfl rfl, ?_⟩
          have after : ∀ ρ', ρ' = put (put (put ρ "bit" (.sh (.int b))) "char" (.sh (.str c))) "perm" (.own (els ++ [.sh (.str c)])) → fmHit k i b = true → lk ρ' "mode" = some (.sh (.int k)) ∧ ∃ els, lk ρ' "perm" = some (.own els) ∧ els ++ (as.map fun r => .sh (.str (fmChar k r.1 r.2))) = ((fmChars k).map fun c => .sh (.str c)) := by
            rintro ρ' rfl hit
            refine ⟨lk1 rfl (lk1 rfl (lk1 rfl hm)), _, lk0, ?_⟩
            have : fmChar k i row = c := by rw [← hf']; unfold fmChar; rw [if_pos hit]
            rw [← hf, List.map_cons, this]
            simp
          refine Bx.last (Sx.ite (Tr.cmp (Ex.name (lk1 rfl (lk1 rfl hi))) Ex.int op_eq rfl) (fun hb => ?_) (fun hb => ?_))
          · have hh : fmHit k i b = (Builtin.bitAnd k 61440 == b) := by unfold fmHit; rw [if_pos hb]
            refine Bx.last (Sx.ite (Tr.cmp (Ex.call (gl_S_IFMT H rfl) (callee H f_ifmt) (Exs.cons (Ex.name (lk1 rfl (lk1 rfl hm))) Exs.nil) (fn_ifmt (n := n) H) (Nat.le_refl _) rfl) (Ex.name (lk1 rfl lk0)) op_eq rfl) (fun hc => ?_) (fun hc => ?_))
            · refine Bx.seq (Sx.append (lk1 rfl (lk1 rfl hp)) (Ex.name lk0) (by omega) rfl rfl) ?_
              exact Bx.last (Sx.brk (after _ rfl (hh.trans hc)))
            · refine Bx.nil ⟨lk1 rfl (lk1 rfl hm), lk1 rfl (lk1 rfl hi), lk1 rfl (lk1 rfl hp), ?_⟩
              rw [← hf']
              conv => rhs; unfold fmChar
              rw [if_neg (by rw [hh, hc]; exact Bool.false_ne_true)]
          · have hh : fmHit k i b = (Builtin.bitAnd k b == b) := by unfold fmHit; rw [if_neg (by rw [hb]; exact Bool.false_ne_true)]
            refine Bx.last (Sx.ite (Tr.cmp (Ex.binop (Ex.name (lk1 rfl (lk1 rfl hm))) (Ex.name (lk1 rfl lk0)) op_and) (Ex.name (lk1 rfl lk0)) op_eq rfl) (fun hc => ?_) (fun hc => ?_))
            · refine Bx.seq (Sx.append (lk1 rfl (lk1 rfl hp)) (Ex.name lk0) (by omega) rfl rfl) ?_
              exact Bx.last (Sx.brk (after _ rfl (hh.trans hc)))
            · refine Bx.nil ⟨lk1 rfl (lk1 rfl hm), lk1 rfl (lk1 rfl hi), lk1 rfl (lk1 rfl hp), ?_⟩
              rw [← hf']
              conv => rhs; unfold fmChar
              rw [if_neg (by rw [hh, hc]; exact Bool.false_ne_true)]
        · intro ρ ⟨hm, hi, hp, hf'⟩
          refine Bx.last (Sx.ite (Tr.cmp (Ex.name hi) Ex.int op_eq rfl) (fun hb => ?_) (fun hb => ?_))
          · refine Bx.mono (Bx.last (Sx.append hp Ex.strC (by omega) rfl rfl)) ?_
            rintro ρ' fl ⟨rfl, rfl⟩
            refine ⟨lk1 rfl hm, _, lk0, ?_⟩
            rw [← hf, List.map_cons, ← hf']
            unfold fmChar
            rw [if_pos hb]
            simp
          · refine Bx.mono (Bx.last (Sx.append hp Ex.strC (by omega) rfl rfl)) ?_
            rintro ρ' fl ⟨rfl, rfl⟩
            refine ⟨lk1 rfl hm, _, lk0, ?_⟩
            rw [← hf, List.map_cons, ← hf']
            unfold fmChar
            rw [if_neg (by rw [hb]; exact Bool.false_ne_true)]
            simp
      · intro ρ ⟨hm, els, he, hf⟩
        refine Bx.nil ⟨rfl, ?_⟩
        rw [← hf, he]
        simp
      · show _ = _
        unfold fmChars
        rw [List.map_map]
        rfl
    · rintro ρ' ⟨_, h⟩
      refine Bx.conv (Conv.freeze h) (Bx.ret (Ex.join Ex.strC rfl rfl (Ex.name (lk0.trans ?_)) rfl ?_))
      · rw [List.map_map]
        rfl
      · have h1 : ∀ c ∈ fmChars k, c.length = 1 := fun c hc => by
          obtain ⟨r, hr, rfl⟩ := List.mem_map.mp hc
          exact fmChar_len k r.1 r hr
        have h2 : ∀ l : List Str, (∀ c ∈ l, c.length = 1) → (l.map (·.length)).sum = l.length := by
          intro l hl
          induction l with
          | nil => rfl
          | cons c l ih => rw [List.map_cons, List.sum_cons, hl c (.head _), ih fun c hc => hl c (.tail _ hc), List.length_cons]; omega
        rw [h2 _ h1]
        have : (fmChars k).length = 10 := by unfold fmChars; rw [List.length_map]; rfl
        rw [this]
        show 10 + 10 * 0 ≤ 16777216
        omega
end
end Mine
end

-- N5
section
open PySem PySem.W PyProof.Rows
set_option maxRecDepth 100000
namespace Mine

noncomputable def natD (k : Nat) : D := .int (k : Int)
noncomputable def natE (k : Nat) : El := .sh (natD k)
noncomputable def duIn (c : Nat → Nat → Int) (start : Nat) : Nat → Nat → Nat → Nat × Nat
  | 0, back, ahead => (back, ahead)
  | f + 1, back, ahead => if (c back ahead == 0 || c back ahead == -1) = true then duIn c start f (if (c back ahead == -1) = true then start else back + 1) (ahead + 1) else (back, ahead)
noncomputable def duPush (step back : Nat) : Nat → Nat → List Nat × Nat
  | 0, start => ([], start)
  | f + 1, start => if start ≤ back then ((step :: (duPush step back f (start + step)).1), (duPush step back f (start + step)).2) else ([], start)
noncomputable def duGo (c : Nat → Nat → Int) (len : Nat) : Nat → Nat → List Nat
  | 0, _ => []
  | f + 1, start => if start < len then
      let p := duIn c start (len - (start + 1)) start (start + 1)
      (duPush (p.2 - p.1) p.1 (p.1 + 1 - start) start).1 ++ duGo c len f (duPush (p.2 - p.1) p.1 (p.1 + 1 - start) start).2
    else []
theorem duIn_ok {c : Nat → Nat → Int} {start : Nat} : ∀ {f back ahead : Nat}, start ≤ back → back < ahead → start ≤ (duIn c start f back ahead).1 ∧ (duIn c start f back ahead).1 < (duIn c start f back ahead).2 ∧ (duIn c start f back ahead).2 ≤ ahead + f
  | 0, back, ahead, h1, h2 => ⟨h1, h2, Nat.le_refl _⟩
  | f + 1, back, ahead, h1, h2 => by
    unfold duIn
    split
    · have := duIn_ok (c := c) (start := start) (f := f) (back := if (c back ahead == -1) = true then start else back + 1) (ahead := ahead + 1) (by split <;> omega) (by split <;> omega)
      omega
    · exact ⟨h1, h2, by omega⟩
theorem duPush_up {step back : Nat} (hs : 0 < step) : ∀ {f start : Nat}, start ≤ (duPush step back f start).2 ∧ (0 < f → start ≤ back → start < (duPush step back f start).2)
  | 0, start => ⟨Nat.le_refl _, fun h => by omega⟩
  | f + 1, start => by
    unfold duPush
    split
    · have := (duPush_up (step := step) (back := back) hs (f := f) (start := start + step)).1
      exact ⟨by show start ≤ (duPush step back f (start + step)).2; omega, fun _ _ => by show start < (duPush step back f (start + step)).2; omega⟩
    · exact ⟨Nat.le_refl _, fun _ h => by omega⟩

section
variable {W : Wd} {n m : Nat} {env : Env} {ρ : Rho} {x y : Str}
noncomputable def cAt (xs : List Str) (i j : Nat) : Int := cmpS (xs.getD i ⟨#[]⟩) (xs.getD j ⟨#[]⟩)
theorem Ex.strAt {v i : Expr} {pos : Pos} {xs : List Str} {k : Nat} (hv : Ex W n env ρ v (.list (xs.map .str))) (hi : Ex W n env ρ i (.int k)) (hk : k < xs.length) (hl : xs.length ≤ 1000)
    (hns : ∀ a t, subscripted i false (.ref a) (.int k t) = operate [.ref a, .int k t] (getItem (.ref a) (.int k t))) : Ex W n env ρ (.Subscript v i pos) (.str (xs.getD k ⟨#[]⟩)) := by
  refine Ex.item hv hi ?_ ?_ ?_ ?_ hns
  · rw [List.length_map]; omega
  · rw [List.length_map]; omega
  · rw [List.length_map]; omega
  · unfold idxD
    rw [if_neg (by omega), Int.toNat_natCast, List.getElem?_map, List.getElem?_eq_getElem hk, List.getD_eq_getElem?_getD, List.getElem?_eq_getElem hk]
    rfl
theorem Ex.len {p q pos : Pos} {e : Expr} {ds : List D} (H : Ok W) (hk : env.kindOf "len" = some .globalImplicit) (he : Ex W n env ρ e (.list ds)) (hl : ds.length ≤ 1000000) (hp : plainArgs [e] = true) : Ex W n env ρ (.Call (.Name "len" p) [e] [] pos) (.int ds.length) :=
  Ex.call (gl_len H hk) calleeB (Exs.cons he Exs.nil) (fn_len (n := 0) hl) (Nat.zero_le _) hp
theorem Ex.told {p pos : Pos} {e e' : Expr} {a b : Str} (H : Ok W) (hk : env.kindOf "_law_told" = some .globalImplicit) (he : Ex W (n + 2) env ρ e (.str a)) (he' : Ex W (n + 2) env ρ e' (.str b)) (hp : plainArgs [e, e'] = true) :
    Ex W (n + 2) env ρ (.Call (.Name "_law_told" p) [e, e'] [] pos) (.int (cmpS a b)) :=
  Ex.call (gl_law_told H hk) (callee H f_told) (Exs.cons he (Exs.cons he' Exs.nil)) (fn_told (n := n) H) (Nat.le_refl _) hp

theorem inTest (c : Int) : ([D.int 0, D.int (-1)].any fun y => PyData.eqv y.py (D.int c).py) = (c == 0 || c == -1) := by
  show ((0 == c) || (((-1 : Int) == c) || false)) = _
  rw [Bool.or_false]
  congr 1
  · rw [Bool.eq_iff_iff, beq_iff_eq, beq_iff_eq]; exact eq_comm
  · rw [Bool.eq_iff_iff, beq_iff_eq, beq_iff_eq]; exact eq_comm
set_option maxHeartbeats 1000000 in
theorem fn_read (H : Ok W) {xs : List Str} (hl : xs.length ≤ 1000) : Fn W (n + 3) (.ref 147) [.list (xs.map .str)] (.list ((duGo (cAt xs) xs.length xs.length 0).map natD)) :=
  Fn.of_def (params := ["looks"]) (defOk H f_read (fun _ => rfl) rfl rfl rfl rfl rfl (by decide) rfl) rfl rfl (bind1 fun _ => rfl) fun L => by
    have hlx : (xs.map D.str).length = xs.length := List.length_map _
    refine Bx.seq (Sx.assignOwn Exs.nil rfl rfl (show 0 ≤ 1000000 by omega)) ?_
    refine Bx.seq (Sx.assign Ex.int rfl rfl) ?_
    generalize hfin : duGo (cAt xs) xs.length xs.length 0 = fin
    refine Bx.cons (R' := fun ρ' fl => fl = .next ∧ lk ρ' "lengths" = some (.own (fin.map natE))) ?_ ?_ (fun ρ' fl hn h => absurd h.1 hn)
    · refine Sx.while (fun f ρ => ∃ start els, lk ρ "looks" = some (.sh (.list (xs.map .str))) ∧ lk ρ "lengths" = some (.own (els.map natE)) ∧ lk ρ "start" = some (.sh (.int ((start : Nat) : Int))) ∧
        xs.length ≤ start + f ∧ els.length + xs.length ≤ start + xs.length ∧ els ++ duGo (cAt xs) xs.length f start = fin) ?_ xs.length ⟨0, [], rfl, rfl, rfl, by omega, by simp, by rw [hfin]; rfl⟩
      rintro f ρ ⟨start, els, h1, h2, h3, h4, h5, h6⟩
      refine ⟨decide ((start : Int) < ((xs.map D.str).length : Int)), Tr.cmp (Ex.name h3) (Ex.len (q := ⟨0, 0, 0, 0⟩) H rfl (Ex.name h1) (by omega) rfl) op_lt rfl, fun hb => ?_, fun hb => ?_⟩
      · have hlt : start < xs.length := by rw [hlx] at hb; simpa using hb
        cases f with
        | zero => omega
        | succ f =>
        unfold duGo at h6
        rw [if_pos hlt] at h6
        dsimp only at h6
        obtain ⟨d1, d2, d3⟩ := duIn_ok (c := cAt xs) (start := start) (f := xs.length - (start + 1)) (back := start) (ahead := start + 1) (Nat.le_refl _) (Nat.lt_succ_self _)
        generalize hp : duIn (cAt xs) start (xs.length - (start + 1)) start (start + 1) = p at h6 d1 d2 d3
        refine Bx.seq (Sx.assign (Ex.name h3) rfl rfl) ?_
        refine Bx.seq (Sx.assign (d := .int ((start + 1 : Nat) : Int)) (Ex.binop (Ex.name (lk1 rfl h3)) Ex.int op_add) rfl rfl) ?_
        refine Bx.cons (R' := fun ρ' fl => fl = .next ∧ lk ρ' "looks" = some (.sh (.list (xs.map .str))) ∧ lk ρ' "lengths" = some (.own (els.map natE)) ∧ lk ρ' "start" = some (.sh (.int ((start : Nat) : Int))) ∧
          lk ρ' "back" = some (.sh (.int ((p.1 : Nat) : Int))) ∧ lk ρ' "ahead" = some (.sh (.int ((p.2 : Nat) : Int)))) ?_ ?_ (fun ρ' fl hn h => absurd h.1 hn)
        · refine Sx.while (fun g ρ' => ∃ back ahead, lk ρ' "looks" = some (.sh (.list (xs.map .str))) ∧ lk ρ' "lengths" = some (.own (els.map natE)) ∧ lk ρ' "start" = some (.sh (.int ((start : Nat) : Int))) ∧
            lk ρ' "back" = some (.sh (.int ((back : Nat) : Int))) ∧ lk ρ' "ahead" = some (.sh (.int ((ahead : Nat) : Int))) ∧ start ≤ back ∧ back < ahead ∧ ahead + g = xs.length ∧ duIn (cAt xs) start g back ahead = p) ?_ (xs.length - (start + 1))
            ⟨start, start + 1, lk1 rfl (lk1 rfl h1), lk1 rfl (lk1 rfl h2), lk1 rfl (lk1 rfl h3), lk1 rfl lk0, lk0, Nat.le_refl _, Nat.lt_succ_self _, by omega, hp⟩
          rintro g ρ' ⟨back, ahead, i1, i2, i3, i4, i5, i6, i7, i8, i9⟩
          refine ⟨_, Tr.bool (Trs.and (Tr.cmp (Ex.name i5) (Ex.len (q := ⟨0, 0, 0, 0⟩) H rfl (Ex.name i1) (by omega) rfl) op_lt rfl) fun hb => Trs.and (Tr.cmp (Ex.told (a := xs.getD back ⟨#[]⟩) (b := xs.getD ahead ⟨#[]⟩) H rfl (Ex.strAt (Ex.name i1) (Ex.name i4) ?_ hl (fun _ _ => rfl)) (Ex.strAt (Ex.name i1) (Ex.name i5) ?_ hl (fun _ _ => rfl)) rfl)
            (Ex.tuple (Exs.cons Ex.int (Exs.cons (Ex.neg Ex.int) Exs.nil)) rfl (show 2 ≤ 1000000 by omega)) (op_inTup (k := 0) ?_ OkD.int (by omega)) rfl) fun _ => Trs.nil), fun hb => ?_, fun hb => ?_⟩
          · have hb : ahead < xs.length := by rw [hlx] at hb; simpa using hb
            omega
          · have hb : ahead < xs.length := by rw [hlx] at hb; simpa using hb
            omega
          · intro d hd
            rcases List.mem_cons.mp hd with rfl | hd
            · exact OkD.int
            · rw [List.mem_singleton.mp hd]; exact OkD.int
          · obtain ⟨b1, b2⟩ := Bool.and_eq_true_iff.mp hb
            obtain ⟨b2, _⟩ := Bool.and_eq_true_iff.mp b2
            have hah : ahead < xs.length := by rw [hlx] at b1; simpa using b1
            cases g with
            | zero => omega
            | succ g =>
            have b3 : (cAt xs back ahead == 0 || cAt xs back ahead == -1) = true := by
              rw [inTest] at b2
              exact b2
            unfold duIn at i9
            rw [if_pos b3] at i9
            refine Bx.seq (Sx.assign (d := natD (if (cAt xs back ahead == -1) = true then start else back + 1)) (Ex.ifexp (Tr.cmp (Ex.told (a := xs.getD back ⟨#[]⟩) (b := xs.getD ahead ⟨#[]⟩) H rfl (Ex.strAt (Ex.name i1) (Ex.name i4) (by omega) hl (fun _ _ => rfl)) (Ex.strAt (Ex.name i1) (Ex.name i5) hah hl (fun _ _ => rfl)) rfl) (Ex.neg Ex.int) op_eq rfl) (fun hc => ?_) (fun hc => ?_)) rfl rfl) ?_
            · rw [if_pos (show (cAt xs back ahead == -1) = true from hc)]; exact Ex.name i3
            · rw [if_neg (by rw [show (cAt xs back ahead == -1) = false from hc]; exact Bool.false_ne_true)]
              exact Ex.binop (Ex.name i4) Ex.int op_add
            refine Bx.mono (Bx.last (Sx.assign (d := natD (ahead + 1)) (Ex.binop (Ex.name (lk1 rfl i5)) Ex.int op_add) rfl rfl)) ?_
            rintro ρ'' fl ⟨rfl, rfl⟩
            refine ⟨g, Nat.lt_succ_self _, _, ahead + 1, lk1 rfl (lk1 rfl i1), lk1 rfl (lk1 rfl i2), lk1 rfl (lk1 rfl i3), lk1 rfl lk0, lk0, ?_, ?_, by omega, i9⟩
            · split <;> omega
            · split <;> omega
          · refine Bx.nil ⟨rfl, i1, i2, i3, ?_⟩
            have hp' : p = (back, ahead) := by
              rw [← i9]
              cases g with
              | zero => rfl
              | succ g =>
                unfold duIn
                rw [if_neg]
                intro hq
                have hah : decide (((ahead : Nat) : Int) < ((xs.map D.str).length : Int)) = true := by rw [hlx]; simp; omega
                rw [hah, Bool.true_and, inTest, show cmpS (xs.getD back ⟨#[]⟩) (xs.getD ahead ⟨#[]⟩) = cAt xs back ahead from rfl, hq] at hb
                exact absurd hb (by decide)
            rw [hp']
            exact ⟨i4, i5⟩
        · rintro ρ' ⟨_, i1, i2, i3, i4, i5⟩
          have hstep : ((p.2 : Nat) : Int) - ((p.1 : Nat) : Int) = ((p.2 - p.1 : Nat) : Int) := by omega
          refine Bx.seq (Sx.assign (d := natD (p.2 - p.1)) (by unfold natD; rw [← hstep]; exact Ex.binop (Ex.name i5) (Ex.name i4) op_sub) rfl rfl) ?_
          refine Bx.mono (Bx.last (R := fun ρ' fl => fl = .next ∧ lk ρ' "looks" = some (.sh (.list (xs.map .str))) ∧ lk ρ' "lengths" = some (.own ((els ++ (duPush (p.2 - p.1) p.1 (p.1 + 1 - start) start).1).map natE)) ∧ lk ρ' "start" = some (.sh (natD (duPush (p.2 - p.1) p.1 (p.1 + 1 - start) start).2)) ∧
              (els ++ (duPush (p.2 - p.1) p.1 (p.1 + 1 - start) start).1).length ≤ (duPush (p.2 - p.1) p.1 (p.1 + 1 - start) start).2) ?_) ?_
          · generalize hq : duPush (p.2 - p.1) p.1 (p.1 + 1 - start) start = q
            refine Sx.while (fun g ρ' => ∃ st es, lk ρ' "looks" = some (.sh (.list (xs.map .str))) ∧ lk ρ' "lengths" = some (.own (es.map natE)) ∧ lk ρ' "start" = some (.sh (natD st)) ∧
              lk ρ' "back" = some (.sh (natD p.1)) ∧ lk ρ' "step" = some (.sh (natD (p.2 - p.1))) ∧ p.1 + 1 ≤ st + g ∧ es.length ≤ st ∧ es ++ (duPush (p.2 - p.1) p.1 g st).1 = els ++ q.1 ∧ (duPush (p.2 - p.1) p.1 g st).2 = q.2) ?_ (p.1 + 1 - start)
              ⟨start, els, lk1 rfl i1, lk1 rfl i2, lk1 rfl i3, lk1 rfl i4, lk0, by omega, by omega, by rw [hq], by rw [hq]⟩
            rintro g ρ' ⟨st, es, j1, j2, j3, j4, j5, j6, j7, j8, j9⟩
            refine ⟨_, Tr.cmp (Ex.name j3) (Ex.name j4) op_le rfl, fun hb => ?_, fun hb => ?_⟩
            · have hst : st ≤ p.1 := by simpa using hb
              cases g with
              | zero => omega
              | succ g =>
              unfold duPush at j8 j9
              rw [if_pos hst] at j8 j9
              refine Bx.seq (Sx.append j2 (Ex.name j5) (by rw [List.length_map]; omega) rfl rfl) ?_
              refine Bx.mono (Bx.last (Sx.assign (d := natD (st + (p.2 - p.1))) (Ex.binop (Ex.name (lk1 rfl j3)) (Ex.name (lk1 rfl j5)) op_add) rfl rfl)) ?_
              rintro ρ'' fl ⟨rfl, rfl⟩
              refine ⟨g, Nat.lt_succ_self _, st + (p.2 - p.1), es ++ [p.2 - p.1], lk1 rfl (lk1 rfl j1), ?_, lk0, lk1 rfl (lk1 rfl j4), lk1 rfl (lk1 rfl j5), by omega, ?_, ?_, j9⟩
              · refine lk1 rfl (lk0.trans ?_)
                rw [List.map_append]; rfl
              · rw [List.length_append]; simp; omega
              · rw [List.append_assoc]; exact j8
            · have hst : ¬ st ≤ p.1 := by simpa using hb
              have e : duPush (p.2 - p.1) p.1 g st = ([], st) := by
                cases g with
                | zero => rfl
                | succ g => unfold duPush; rw [if_neg hst]
              rw [e] at j8 j9
              rw [List.append_nil] at j8
              refine Bx.nil ⟨rfl, j1, ?_, ?_, ?_⟩
              · rw [← j8]; exact j2
              · rw [← j9]; exact j3
              · rw [← j8, ← j9]; exact j7
          · rintro ρ'' fl ⟨rfl, k1, k2, k3, k4⟩
            have hup := (duPush_up (step := p.2 - p.1) (back := p.1) (by omega) (f := p.1 + 1 - start) (start := start)).2 (by omega) d1
            exact ⟨f, Nat.lt_succ_self _, _, _, k1, k2, k3, by omega, by omega, by rw [List.append_assoc]; exact h6⟩
      · have hge : xs.length ≤ start := by rw [hlx] at hb; simpa using hb
        have e : duGo (cAt xs) xs.length f start = [] := by
          cases f with
          | zero => rfl
          | succ f => unfold duGo; rw [if_neg (by omega)]
        rw [e, List.append_nil] at h6
        exact Bx.nil ⟨rfl, h6 ▸ h2⟩
    · rintro ρ' ⟨_, h⟩
      refine Bx.conv (Conv.freeze h) (Bx.ret (Ex.name (lk0.trans ?_)))
      rw [List.map_map]
      rfl
end
end Mine
end

-- N6
section
open PySem PySem.W PyProof.Rows
set_option maxRecDepth 100000
namespace Mine

theorem pick_plain {α : Type} (ds : List α) (lo hi : Option Int) : pickD ds lo hi Option.none = (ds.drop (lo.elim 0 (clipAt ds.length))).take (hi.elim ds.length (clipAt ds.length) - lo.elim 0 (clipAt ds.length)) := by
  unfold pickD
  rw [sliceBounds_plain]
  simp only [sliceRange_one]
  have := pick_run ds.toArray (lo.elim 0 (clipAt ds.length)) (hi.elim ds.length (clipAt ds.length) - lo.elim 0 (clipAt ds.length))
  simpa using this
theorem pick_ab {α : Type} (ds : List α) (a b : Nat) (hb : b ≤ ds.length) (hab : a ≤ b) : pickD ds (some a) (some b) Option.none = (ds.take b).drop a := by
  rw [pick_plain]
  simp only [Option.elim, clipAt_nat]
  rw [Nat.min_eq_left hb, Nat.min_eq_left (Nat.le_trans hab hb), List.take_drop]
  congr 2
  omega
theorem pick_from {α : Type} (ds : List α) (a : Nat) : pickD ds (some a) Option.none Option.none = ds.drop a := by
  rw [pick_plain]
  simp only [Option.elim, clipAt_nat]
  rw [List.take_of_length_le (by rw [List.length_drop]; exact Nat.le_refl _)]
  rcases Nat.le_total a ds.length with h | h
  · rw [Nat.min_eq_left h]
  · rw [Nat.min_eq_right h, List.drop_of_length_le h, List.drop_length]
theorem pick_upto {α : Type} (ds : List α) (b : Nat) : pickD ds Option.none (some b) Option.none = ds.take b := by
  rw [pick_plain]
  simp only [Option.elim, clipAt_nat, List.drop_zero, Nat.sub_zero]
  rcases Nat.le_total b ds.length with h | h
  · rw [Nat.min_eq_left h]
  · rw [Nat.min_eq_right h, List.take_of_length_le h, List.take_of_length_le (Nat.le_refl _)]
theorem pick_butLast {α : Type} (ds : List α) (k : Nat) (hk : 1 ≤ k) : pickD ds Option.none (some (-(k : Int))) Option.none = ds.take (ds.length - k) := by
  rw [pick_plain]
  simp only [Option.elim, clipAt_neg _ _ hk, List.drop_zero, Nat.sub_zero]
theorem pick_map {α β : Type} (f : α → β) (ds : List α) (lo hi st : Option Int) : pickD (ds.map f) lo hi st = (pickD ds lo hi st).map f := by
  unfold pickD
  rw [List.length_map, List.map_filterMap]
  congr 1
  funext i
  rw [List.getElem?_map]
theorem pick_rev {α : Type} (ds : List α) : pickD ds Option.none Option.none (some (-1)) = ds.reverse := by
  unfold pickD
  have e : sliceBounds Option.none Option.none (some (-1)) ds.length = (((ds.length : Nat) : Int) - 1, -1, -1) := by simp [sliceBounds]
  rw [e]
  show (sliceRange ((ds.length : Int) - 1) (-1) (-1)).filterMap _ = _
  have e2 : sliceRange ((ds.length : Int) - 1) (-1) (-1) = (List.range ds.length).map fun k => ds.length - 1 - k := by
    unfold sliceRange
    rw [if_neg (by decide)]
    have hc : (if (ds.length : Int) - 1 > -1 then ((ds.length : Int) - 1 - -1 - -1 - 1) / (- -1) else 0).toNat = ds.length := by
      split
      · rw [show (- -1 : Int) = 1 from rfl, Int.ediv_one]; omega
      · omega
    dsimp only
    rw [hc]
    apply List.map_congr_left
    intro k hk
    have := List.mem_range.mp hk
    omega
  rw [e2]
  apply List.ext_getElem?
  intro i
  rw [List.filterMap_map]
  have h : ∀ m, m ≤ ds.length → (List.filterMap ((fun x => ds[x]?) ∘ fun k => ds.length - 1 - k) (List.range m)) = ds.reverse.take m := by
    intro m
    induction m with
    | zero => intro _; simp
    | succ m ih =>
      intro hm
      rw [List.range_succ, List.filterMap_append, ih (by omega), List.take_add_one]
      congr 1
      have h1 : ds.length - 1 - m < ds.length := by omega
      have h2 : ds.reverse[m]? = some ds[ds.length - 1 - m] := by
        rw [List.getElem?_reverse (by omega), List.getElem?_eq_getElem h1]
      rw [h2]
      simp [h1]
  rw [h _ (Nat.le_refl _), List.take_of_length_le (by simp)]
end Mine
end

-- N7
section
open PySem PySem.W PyProof.Rows
set_option maxRecDepth 100000
namespace Mine
noncomputable def sl (x : Str) : List Nat := x.cps.toList
theorem sl_inj {x y : Str} (h : sl x = sl y) : x = y := by
  obtain ⟨⟨a⟩⟩ := x
  obtain ⟨⟨b⟩⟩ := y
  have : a = b := h
  rw [this]
theorem sl_len (x : Str) : (sl x).length = x.length := Array.length_toList
theorem sl_app (x y : Str) : sl (x ++ y) = sl x ++ sl y := by
  show (x.cps ++ y.cps).toList = _
  rw [Array.toList_append]; rfl
theorem sl_join : ∀ ys : List Str, sl (Txt.join ⟨#[]⟩ ys) = (ys.map sl).flatten
  | [] => by unfold Txt.join; rw [StrLaws.glued_eq_join]; rfl
  | [x] => by unfold Txt.join; rw [StrLaws.glued_eq_join]; simp [PySem.Str.join]
  | x :: y :: r => by
    have ih := sl_join (y :: r)
    unfold Txt.join at ih ⊢
    rw [StrLaws.glued_eq_join] at ih ⊢
    show sl (x ++ ⟨#[]⟩ ++ PySem.Str.join ⟨#[]⟩ (y :: r)) = _
    rw [sl_app, sl_app, ih]
    simp [sl]
theorem join_len {ys : List Str} : (Txt.join ⟨#[]⟩ ys).length = (ys.map (·.length)).sum := by
  rw [← sl_len, sl_join]
  rw [List.length_flatten, List.map_map]
  congr 1

-- comprehensions
section
variable {W : Wd} {n m : Nat} {env cenv : Env} {ρ cap : Rho} {x y t : Str}
noncomputable def compChk (env : Env) (scope : Scope) (t : Str) : Bool :=
  scope.kind == .function && scope.names.all (fun y => y.2 != .cell) && scope.names.all (fun x => x.2 != .local || scope.names.lookup x.1 == some .local) && scope.names.lookup t == some .local &&
    !((t == ("__debug__" : Str)) || (t == ("__classdict__" : Str))) && freesOk env scope.names
theorem compOk {scope : Scope} (h : compChk env scope t = true) (capt : ∀ C, CapOk env (compEnvC scope (closureOf env scope.names []) C env) ρ cap) (nodup : (t :: cap.map (·.1)).Nodup) : CompOk env scope t ρ cap := by
  unfold compChk at h
  simp only [Bool.and_eq_true] at h
  obtain ⟨⟨⟨⟨⟨h1, h2⟩, h3⟩, h4⟩, h5⟩, h6⟩ := h
  refine ⟨by simpa using h1, fun y hy => ?_, fun x hx hl => ?_, by simpa using h4, by simpa using h5, h6, capt, nodup⟩
  · have := List.all_eq_true.mp h2 y hy
    simpa using this
  · have := List.all_eq_true.mp h3 x hx
    rw [hl] at this
    simpa using this
theorem CompP.ofMap {α : Type} {elt : Expr} (f g : α → D) : ∀ {as : List α}, (∀ a ∈ as, Ex W n cenv ((t, .sh (f a)) :: cap) elt (g a)) → CompP W n cenv t [] elt cap (as.map f) (as.map g)
  | [], _ => rfl
  | a :: as, h => ⟨true, rfl, fun _ => ⟨g a, as.map g, rfl, h a (.head _), CompP.ofMap f g fun b hb => h b (.tail _ hb)⟩, fun h => by cases h⟩
theorem CompP.ofFilter {α : Type} {elt c : Expr} (f g : α → D) (p : α → Bool) : ∀ {as : List α}, (∀ a ∈ as, Tr W n cenv ((t, .sh (f a)) :: cap) c (p a)) → (∀ a ∈ as, p a = true → Ex W n cenv ((t, .sh (f a)) :: cap) elt (g a)) → CompP W n cenv t [c] elt cap (as.map f) ((as.filter p).map g)
  | [], _, _ => rfl
  | a :: as, h, h' => by
    refine ⟨p a, h a (.head _), fun hp => ?_, fun hp => ?_⟩
    · rw [List.filter_cons, if_pos hp]
      exact ⟨g a, _, rfl, h' a (.head _) hp, CompP.ofFilter f g p (fun b hb => h b (.tail _ hb)) (fun b hb => h' b (.tail _ hb))⟩
    · rw [List.filter_cons, if_neg (by rw [hp]; exact Bool.false_ne_true)]
      exact CompP.ofFilter f g p (fun b hb => h b (.tail _ hb)) (fun b hb => h' b (.tail _ hb))
theorem rngD_eq (a : Nat) : ∀ k : Nat, rngD (a : Int) k = (List.range k).map fun i => natD (a + i)
  | 0 => rfl
  | k + 1 => by
    rw [rngD, List.range_succ_eq_map, List.map_cons, List.map_map]
    have e : ((a : Int) + 1) = ((a + 1 : Nat) : Int) := by omega
    rw [e, rngD_eq (a + 1) k]
    show _ :: _ = _ :: _
    congr 1
    apply List.map_congr_left
    intro i _
    show natD (a + 1 + i) = natD (a + (i + 1))
    congr 1
    omega
theorem rngD_zero (k : Nat) : rngD 0 k = (List.range k).map natD := by
  have := rngD_eq 0 k
  simpa using this
end
end Mine
end

-- N8
section
open PySem PySem.W PyProof.Rows
set_option maxRecDepth 100000
namespace Mine

noncomputable def textAt (xs : List Str) (left k : Nat) : Str := Txt.join ⟨#[]⟩ ((xs.take left).drop k)
noncomputable def textsOf (xs : List Str) (left : Nat) : List Str := (List.range left).map (textAt xs left)
noncomputable def firstOf (xs : List Str) (left : Nat) : Nat := argBest (ltAt (textsOf xs left)) (left - 1)
noncomputable def endGo (xs : List Str) : Nat → Nat → List Nat
  | 0, _ => []
  | f + 1, left => if 0 < left then (left - firstOf xs left) :: endGo xs f (firstOf xs left) else []

theorem argBest_le (bt : Nat → Nat → Bool) : ∀ k, argBest bt k ≤ k
  | 0 => Nat.le_refl _
  | k + 1 => by
    unfold argBest
    split
    · exact Nat.le_refl _
    · exact Nat.le_succ_of_le (argBest_le bt k)
/-- the least one, where none are alike -/
theorem argBest_least {f : Nat → List Nat} {bt : Nat → Nat → Bool} (hbt : ∀ i j, bt i j = decide (f i < f j)) : ∀ {k : Nat}, (∀ i j, i ≤ k → j ≤ k → f i = f j → i = j) → ∀ i, i ≤ k → i ≠ argBest bt k → f (argBest bt k) < f i
  | 0, _, i, hi, hn => absurd (by show i = 0; omega) hn
  | k + 1, hinj, i, hi, hn => by
    have ih := argBest_least (f := f) hbt (k := k) (fun i j h1 h2 => hinj i j (by omega) (by omega))
    have hle := argBest_le bt k
    unfold argBest at hn ⊢
    by_cases hb : bt (k + 1) (argBest bt k) = true
    · rw [if_pos hb] at hn ⊢
      have h1 : f (k + 1) < f (argBest bt k) := by rw [hbt] at hb; simpa using hb
      by_cases hia : i = argBest bt k
      · rw [hia]; exact h1
      · exact List.lt_trans h1 (ih i (by omega) hia)
    · rw [if_neg hb] at hn ⊢
      by_cases hik : i = k + 1
      · subst hik
        have h1 : ¬ f (k + 1) < f (argBest bt k) := by rw [hbt] at hb; simpa using hb
        have h2 : f (k + 1) ≠ f (argBest bt k) := fun e => by
          have := hinj _ _ (Nat.le_refl _) (by omega) e
          omega
        have h3 : f (argBest bt k) ≤ f (k + 1) := h1
        rcases List.le_iff_lt_or_eq.mp h3 with h | h
        · exact h
        · exact absurd h.symm h2
      · exact ih i (by omega) hn

section
variable {xs : List Str} {left : Nat}
theorem texts_get {k : Nat} (hk : k < left) : (textsOf xs left)[k]? = some (textAt xs left k) := by
  unfold textsOf
  rw [List.getElem?_map, List.getElem?_range hk]
  rfl
theorem textAt_len (h10 : ∀ x ∈ xs, x.length = 10) (hl : left ≤ xs.length) (k : Nat) : (textAt xs left k).length = 10 * (left - k) := by
  unfold textAt
  rw [join_len]
  have : ∀ l : List Str, (∀ x ∈ l, x.length = 10) → (l.map (·.length)).sum = 10 * l.length := by
    intro l hl
    induction l with
    | nil => rfl
    | cons x l ih => rw [List.map_cons, List.sum_cons, hl x (.head _), ih fun y hy => hl y (.tail _ hy), List.length_cons]; omega
  rw [this _ fun x hx => h10 x (List.mem_of_mem_take (List.mem_of_mem_drop hx))]
  rw [List.length_drop, List.length_take, Nat.min_eq_left hl]
theorem first_least (h10 : ∀ x ∈ xs, x.length = 10) (hl : left ≤ xs.length) (h0 : 0 < left) : firstOf xs left < left ∧ ∀ k, k < left → k ≠ firstOf xs left → sl (textAt xs left (firstOf xs left)) < sl (textAt xs left k) := by
  have hle : firstOf xs left ≤ left - 1 := argBest_le _ _
  refine ⟨by omega, fun k hk hn => ?_⟩
  have hbt : ∀ i j, ltAt (textsOf xs left) i j = decide (sl ((textsOf xs left).getD i ⟨#[]⟩) < sl ((textsOf xs left).getD j ⟨#[]⟩)) := fun i j => rfl
  have hg : ∀ i, i ≤ left - 1 → (textsOf xs left).getD i ⟨#[]⟩ = textAt xs left i := fun i hi => by
    rw [List.getD_eq_getElem?_getD, texts_get (by omega)]; rfl
  have := argBest_least hbt (k := left - 1) (fun i j hi hj e => by
    rw [hg i hi, hg j hj] at e
    have e2 := congrArg List.length e
    rw [sl_len, sl_len, textAt_len h10 hl, textAt_len h10 hl] at e2
    omega) k (by omega) hn
  rw [hg _ (argBest_le _ _), hg k (by omega)] at this
  exact this
theorem cmpS_lt {a b : Str} (h : sl a < sl b) : cmpS a b = -1 ∧ cmpS b a = 1 := by
  have h' : ¬ sl b < sl a := List.lt_asymm h
  unfold cmpS
  have e1 : decide (a.cps.toList < b.cps.toList) = true := decide_eq_true h
  have e2 : decide (b.cps.toList < a.cps.toList) = false := decide_eq_false h'
  rw [e1, e2]
  exact ⟨rfl, rfl⟩
end

section
variable {W : Wd} {n m : Nat} {env : Env} {ρ : Rho} {x y : Str}
set_option maxHeartbeats 1000000 in
theorem fn_endings (H : Ok W) {xs : List Str} (hl : xs.length ≤ 1000) (h10 : ∀ x ∈ xs, x.length = 10) : Fn W (n + 3) (.ref 152) [.list (xs.map .str)] (.list ((endGo xs xs.length xs.length).map natD)) :=
  Fn.of_def (params := ["looks"]) (defOk H f_endings (fun _ => rfl) rfl rfl rfl rfl rfl (by decide) rfl) rfl rfl (bind1 fun _ => rfl) fun L => by
    have hlx : (xs.map D.str).length = xs.length := List.length_map _
    refine Bx.seq (Sx.assignOwn Exs.nil rfl rfl (show 0 ≤ 1000000 by omega)) ?_
    refine Bx.seq (Sx.assign (d := natD xs.length) (by rw [← hlx]; exact Ex.len (q := ⟨0, 0, 0, 0⟩) H rfl (Ex.name rfl) (by omega) rfl) rfl rfl) ?_
    generalize hfin : endGo xs xs.length xs.length = fin
    refine Bx.cons (R' := fun ρ' fl => fl = .next ∧ lk ρ' "sizes" = some (.own (fin.map natE))) ?_ ?_ (fun ρ' fl hn h => absurd h.1 hn)
    · refine Sx.while (fun f ρ => ∃ left els, lk ρ "looks" = some (.sh (.list (xs.map .str))) ∧ lk ρ "sizes" = some (.own (els.map natE)) ∧ lk ρ "left" = some (.sh (natD left)) ∧
        left ≤ f ∧ left ≤ xs.length ∧ els.length + left ≤ xs.length ∧ els ++ endGo xs f left = fin) ?_ xs.length ⟨xs.length, [], rfl, rfl, rfl, Nat.le_refl _, Nat.le_refl _, by simp, by rw [hfin]; rfl⟩
      rintro f ρ ⟨left, els, h1, h2, h3, h4, h5, h6, h7⟩
      refine ⟨decide ((0 : Int) < (left : Int)), Tr.cmp (Ex.name h3) Ex.int op_gt rfl, fun hb => ?_, fun hb => ?_⟩
      · have h0 : 0 < left := by simpa using hb
        cases f with
        | zero => omega
        | succ f =>
        unfold endGo at h7
        rw [if_pos h0] at h7
        obtain ⟨hf1, hf2⟩ := first_least h10 h5 h0
        refine Bx.seq (Sx.assignComp (cap := [("left", .sh (natD left)), ("looks", .sh (.list (xs.map .str)))]) (ds := (List.range left).map natD) (rs := (textsOf xs left).map .str) rfl rfl ?_ ?_ ?_ ?_ (fun _ => rfl)) ?_
        · rw [← rngD_zero]
          exact Itx.range1 (gl_range H rfl) (Ex.name h3) (by omega) (by omega) rfl
        · refine compOk rfl (fun C => ?_) (by show (["k", "left", "looks"] : List Str).Nodup; decide)
          exact ⟨⟨_, rfl, h3⟩, .inl rfl, .inl rfl, rfl, ⟨_, rfl, h1⟩, .inl rfl, .inl rfl, rfl, trivial⟩
        · rw [List.length_map, textsOf, List.length_map, List.length_range]; omega
        · intro C
          rw [textsOf, List.map_map]
          refine CompP.ofMap natD _ fun k hk => ?_
          have hk := List.mem_range.mp hk
          have e : pickD (xs.map D.str) (some (k : Int)) (some (left : Int)) Option.none = ((xs.take left).drop k).map D.str := by rw [pick_map, pick_ab xs k left h5 (by omega)]
          refine Ex.join Ex.strC rfl rfl (by rw [← e]; exact Ex.sliceL (Ex.name rfl) ⟨_, rfl, Ex.name rfl⟩ ⟨_, rfl, Ex.name rfl⟩ rfl (fun q => nomatch q) (by omega)) rfl ?_
          have := textAt_len h10 h5 k
          rw [textAt, join_len] at this
          rw [this]
          show _ + _ * 0 ≤ _
          omega
        refine Bx.seq (Sx.assignComp (cap := []) (ds := (textsOf xs left).map .str) (rs := (textsOf xs left).map .str) rfl rfl (Itx.of (Ex.name lk0) iterOf_list) (compOk rfl (fun C => trivial) (by show (["text"] : List Str).Nodup; decide)) ?_ ?_ (fun _ => rfl)) ?_
        · rw [List.length_map, textsOf, List.length_map, List.length_range]; omega
        · exact fun C => CompP.ofMap .str .str fun x hx => Ex.call (gl_strxfrm H rfl) (callee H f_strxfrm) (Exs.cons (Ex.name rfl) Exs.nil) (fn_strxfrm (n := 0) H) (by omega) rfl
        have tl : (textsOf xs left).length = left := by rw [textsOf, List.length_map, List.length_range]
        refine Bx.seq (Sx.assign (d := natD (firstOf xs left)) (Ex.index (x := textAt xs left (firstOf xs left)) (Ex.name lk0) rfl rfl (Ex.call (gl_min H rfl) calleeB (Exs.cons (Ex.name lk0) Exs.nil) (fn_min (n := 0) (xs := textsOf xs left) ?_ ?_) (by omega) rfl) rfl (texts_get hf1) (fun m hm e => ?_) (by omega)) rfl rfl) ?_
        · intro e; rw [e] at tl; simp at tl; omega
        · rw [tl]; exact texts_get hf1
        · rw [texts_get (by omega)] at e
          have := hf2 m (by omega) (by omega)
          rw [Option.some.inj e] at this
          exact List.lt_irrefl _ this
        generalize hfst : firstOf xs left = first at hf1 hf2 h7
        have q1 : ∀ {ρ : Rho} {v1 v2 v3 : Bd} {o : Option Bd}, lk ρ "looks" = o → lk (put (put (put ρ "texts" v1) "keys" v2) "first" v3) "looks" = o := fun h => lk1 rfl (lk1 rfl (lk1 rfl h))
        have q2 : ∀ {ρ : Rho} {v1 v2 v3 : Bd} {o : Option Bd}, lk ρ "sizes" = o → lk (put (put (put ρ "texts" v1) "keys" v2) "first" v3) "sizes" = o := fun h => lk1 rfl (lk1 rfl (lk1 rfl h))
        have q3 : ∀ {ρ : Rho} {v1 v2 v3 : Bd} {o : Option Bd}, lk ρ "left" = o → lk (put (put (put ρ "texts" v1) "keys" v2) "first" v3) "left" = o := fun h => lk1 rfl (lk1 rfl (lk1 rfl h))
        refine Bx.cons (R' := fun ρ' fl => fl = .next ∧ lk ρ' "looks" = some (.sh (.list (xs.map .str))) ∧ lk ρ' "sizes" = some (.own (els.map natE)) ∧ lk ρ' "left" = some (.sh (natD left)) ∧ lk ρ' "first" = some (.sh (natD first)))
          (Sx.for (ds := ((textsOf xs left).take first ++ (textsOf xs left).drop (first + 1)).map .str) (Itx.toT (Itx.of ?_ iterOf_list)) ?_ (fun _ => rfl)) ?_ (fun ρ' fl hn h => absurd h.1 hn)
        · rw [List.map_append]
          refine Ex.binop (a := .list ((textsOf xs left |>.take first).map .str)) (b := .list ((textsOf xs left |>.drop (first + 1)).map .str)) ?_ ?_ (op_addL ?_)
          · have e : pickD ((textsOf xs left).map D.str) Option.none (some (first : Int)) Option.none = ((textsOf xs left).take first).map D.str := by rw [pick_map, pick_upto]
            rw [← e]
            exact Ex.sliceL (Ex.name (lk1 rfl (lk1 rfl lk0))) rfl ⟨_, rfl, Ex.name lk0⟩ rfl (fun q => nomatch q) (by rw [List.length_map]; omega)
          · have e : pickD ((textsOf xs left).map D.str) (some ((first + 1 : Nat) : Int)) Option.none Option.none = ((textsOf xs left).drop (first + 1)).map D.str := by rw [pick_map, pick_from]
            rw [← e]
            exact Ex.sliceL (Ex.name (lk1 rfl (lk1 rfl lk0))) ⟨_, rfl, Ex.binop (Ex.name lk0) Ex.int op_add⟩ rfl rfl (fun q => nomatch q) (by rw [List.length_map]; omega)
          · rw [List.length_map, List.length_map, List.length_take, List.length_drop]; omega
        · have hall : ∀ y ∈ (textsOf xs left).take first ++ (textsOf xs left).drop (first + 1), sl (textAt xs left first) < sl y := by
            intro y hy
            rcases List.mem_append.mp hy with h | h
            · obtain ⟨i, hi, rfl⟩ := List.mem_iff_getElem.mp h
              rw [List.length_take] at hi
              rw [List.getElem_take]
              have : (textsOf xs left)[i]? = some (textAt xs left i) := texts_get (by omega)
              rw [List.getElem?_eq_getElem (by omega)] at this
              rw [Option.some.inj this]
              exact hf2 i (by omega) (by omega)
            · obtain ⟨i, hi, rfl⟩ := List.mem_iff_getElem.mp h
              rw [List.length_drop] at hi
              rw [List.getElem_drop]
              have : (textsOf xs left)[first + 1 + i]? = some (textAt xs left (first + 1 + i)) := texts_get (by omega)
              rw [List.getElem?_eq_getElem (by omega)] at this
              rw [Option.some.inj this]
              exact hf2 _ (by omega) (by omega)
          have hat : ∀ {ρ : Rho}, lk ρ "texts" = some (.sh (.list ((textsOf xs left).map .str))) → lk ρ "first" = some (.sh (natD first)) → ∀ {p1 p2 p3}, Ex W (n + 2) (callEnvC f_endings.1.1 L 152) ρ (.Subscript (.Name "texts" p1) (.Name "first" p2) p3) (.str (textAt xs left first)) := fun ht hf _ _ _ => by
            have e : (textsOf xs left).getD first ⟨#[]⟩ = textAt xs left first := by rw [List.getD_eq_getElem?_getD, texts_get hf1]; rfl
            rw [← e]
            exact Ex.strAt (Ex.name ht) (Ex.name hf) (by omega) (by omega) (fun _ _ => rfl)
          refine LoopP.ofInv .str (fun as ρ' => lk ρ' "looks" = some (.sh (.list (xs.map .str))) ∧ lk ρ' "sizes" = some (.own (els.map natE)) ∧ lk ρ' "left" = some (.sh (natD left)) ∧ lk ρ' "first" = some (.sh (natD first)) ∧
            lk ρ' "texts" = some (.sh (.list ((textsOf xs left).map .str))) ∧ ∀ y ∈ as, sl (textAt xs left first) < sl y) ?_ ?_ _ _ ⟨q1 h1, q2 h2, q3 h3, lk0, lk1 rfl (lk1 rfl lk0), hall⟩
          · rintro y as ρ' ⟨i1, i2, i3, i4, i5, i6⟩
            obtain ⟨c1, c2⟩ := cmpS_lt (i6 y (.head _))
            refine ⟨_, Ax.name rfl, ?_⟩
            refine Bx.last (Sx.ite (b := false) (Tr.cmp (a := .list [.int (-1), .int 1]) (b := .list [.int (-1), .int 1]) (Ex.list (Exs.cons ?_ (Exs.cons ?_ Exs.nil)) rfl (show 2 ≤ 1000000 by omega)) (Ex.list (Exs.cons (Ex.neg Ex.int) (Exs.cons Ex.int Exs.nil)) rfl (show 2 ≤ 1000000 by omega)) (op_neSame (k := 1) (OkD.list ?_) (by omega)) rfl) (fun h => by cases h) (fun _ => ?_))
            · rw [← c1]; exact Ex.told H rfl (hat (lk1 rfl i5) (lk1 rfl i4)) (Ex.name lk0) rfl
            · rw [← c2]; exact Ex.told H rfl (Ex.name lk0) (hat (lk1 rfl i5) (lk1 rfl i4)) rfl
            · intro d hd
              rcases List.mem_cons.mp hd with rfl | hd
              · exact OkD.int
              · rw [List.mem_singleton.mp hd]; exact OkD.int
            · exact Bx.nil ⟨lk1 rfl i1, lk1 rfl i2, lk1 rfl i3, lk1 rfl i4, lk1 rfl i5, fun z hz => i6 z (.tail _ hz)⟩
          · rintro ρ' ⟨i1, i2, i3, i4, i5, i6⟩
            exact Bx.nil ⟨rfl, i1, i2, i3, i4⟩
        · rintro ρ' ⟨_, i1, i2, i3, i4⟩
          have hsub : ((left : Nat) : Int) - ((first : Nat) : Int) = ((left - first : Nat) : Int) := by omega
          refine Bx.seq (Sx.append (d := natD (left - first)) i2 (by unfold natD; rw [← hsub]; exact Ex.binop (Ex.name i3) (Ex.name i4) op_sub) (by rw [List.length_map]; omega) rfl rfl) ?_
          refine Bx.mono (Bx.last (Sx.assign (Ex.name (lk1 rfl i4)) rfl rfl)) ?_
          rintro ρ'' fl ⟨rfl, rfl⟩
          refine ⟨f, Nat.lt_succ_self _, first, els ++ [left - first], lk1 rfl (lk1 rfl i1), lk1 rfl (lk0.trans ?_), lk0, by omega, by omega, ?_, ?_⟩
          · rw [List.map_append]; rfl
          · rw [List.length_append]; simp; omega
          · rw [List.append_assoc]; exact h7
      · have h0 : left = 0 := by simpa using hb
        have e : endGo xs f left = [] := by
          cases f with
          | zero => rfl
          | succ f => unfold endGo; rw [if_neg (by omega)]
        rw [e, List.append_nil] at h7
        exact Bx.nil ⟨rfl, h7 ▸ h2⟩
    · rintro ρ' ⟨_, h⟩
      refine Bx.conv (Conv.freeze h) (Bx.ret (Ex.name (lk0.trans ?_)))
      rw [List.map_map]
      rfl
end
end Mine
end

-- N9
section
open PySem PySem.W PyProof.Rows
set_option maxRecDepth 100000
namespace Mine

noncomputable def b64l : List UInt8 := [65, 66, 67, 68, 69, 70, 71, 72, 73, 74, 75, 76, 77, 78, 79, 80, 81, 82, 83, 84, 85, 86, 87, 88, 89, 90, 97, 98, 99, 100, 101, 102, 103, 104, 105, 106, 107, 108, 109, 110, 111, 112, 113, 114, 115, 116, 117, 118, 119, 120, 121, 122, 48, 49, 50, 51, 52, 53, 54, 55, 56, 57, 43, 47]
noncomputable def b64emit (lc : Nat) : Nat → Nat → List Nat × Nat
  | 0, lb => ([], lb)
  | f + 1, lb => if 6 ≤ lb then (lc / 2 ^ (lb - 6) % 64 :: (b64emit lc f (lb - 6)).1, (b64emit lc f (lb - 6)).2) else ([], lb)
noncomputable def lcNext (lc b : Nat) : Nat := (lc * 256 + b) % 65536
noncomputable def b64run : List Nat → Nat → Nat → List Nat × Nat
  | [], lb, lc => ([], lb)
  | b :: bs, lb, lc => ((b64emit (lcNext lc b) (lb + 8) (lb + 8)).1 ++ (b64run bs (b64emit (lcNext lc b) (lb + 8) (lb + 8)).2 (lcNext lc b)).1, (b64run bs (b64emit (lcNext lc b) (lb + 8) (lb + 8)).2 (lcNext lc b)).2)
theorem bitOr_nat (a b : Nat) : Builtin.bitOr (a : Int) (b : Int) = ((a ||| b : Nat) : Int) := by
  have h1 : Builtin.bitNot (a : Int) = -(a : Int) - 1 := by unfold Builtin.bitNot; omega
  have h2 : Builtin.bitNot (b : Int) = -(b : Int) - 1 := by unfold Builtin.bitNot; omega
  have e1 : decide (0 ≤ Builtin.bitNot (a : Int)) = false := by rw [h1]; exact decide_eq_false (by omega)
  have e2 : decide (0 ≤ Builtin.bitNot (b : Int)) = false := by rw [h2]; exact decide_eq_false (by omega)
  have h3 : ∀ x : Int, Builtin.bitNot (Builtin.bitNot x) = x := fun x => by unfold Builtin.bitNot; omega
  unfold Builtin.bitOr Builtin.bitAnd
  rw [e1, e2]
  show Builtin.bitNot (Builtin.bitNot _) = _
  rw [h3, h3, h3]
  simp
theorem lc_eq (lc b : Nat) (hb : b < 256) : Builtin.bitAnd (Builtin.bitOr ((lc : Int) * 2 ^ (8 : Int).toNat) (b : Int)) 65535 = ((lcNext lc b : Nat) : Int) := by
  have e : (lc : Int) * 2 ^ (8 : Int).toNat = ((lc * 256 : Nat) : Int) := by push_cast; rfl
  rw [e, bitOr_nat, bitAnd_m16]
  have : lc * 256 ||| b = lc * 256 + b := by
    have := Nat.shiftLeft_add_eq_or_of_lt (i := 8) (b := b) hb lc
    rw [Nat.shiftLeft_eq] at this
    exact this.symm
  rw [this]
  unfold lcNext
  omega
theorem sig_eq (lc lb : Nat) (h : 6 ≤ lb) : Builtin.bitAnd ((lc : Int).fdiv (2 ^ (((lb : Int) - 6)).toNat)) 63 = ((lc / 2 ^ (lb - 6) % 64 : Nat) : Int) := by
  have e : ((lb : Int) - 6).toNat = lb - 6 := by omega
  rw [e, bitAnd_m6]
  have e2 : (2 : Int) ^ (lb - 6) = ((2 ^ (lb - 6) : Nat) : Int) := by push_cast; rfl
  rw [e2, Int.fdiv_eq_ediv_of_nonneg _ (Int.natCast_nonneg _)]
  push_cast
  rfl

section
variable {W : Wd} {n m : Nat} {env : Env} {ρ : Rho} {x y : Str}
theorem Ex.eq {e : Expr} {d d' : D} (h : d = d') (he : Ex W n env ρ e d) : Ex W n env ρ e d' := h ▸ he
theorem gl_B64 (H : Ok W) (hk : env.kindOf "_B64" = some .globalImplicit) : Gv W env "_B64" (.bytes b64l.toArray 240) := gv H hk (fun _ => by kernel_rfl)
theorem fn_buffer (H : Ok W) {b : Array UInt8} : Fn W (n + 1) (.ref 49) [.bytes b] (.bytes b) :=
  Fn.of_def (params := ["data"]) (defOk H f_buffer (fun _ => rfl) rfl rfl rfl rfl rfl (by decide) rfl) rfl rfl (bind1 fun _ => rfl) fun L => by
    refine Bx.seq (Sx.assign (Ex.call (gl_type H rfl) calleeT (Exs.cons (Ex.name rfl) Exs.nil) (fn_type_bytes (n := 0)) (Nat.zero_le _) rfl) rfl rfl) ?_
    exact Bx.cons (R' := fun _ fl => fl = .ret (.bytes b)) (Sx.ite (b := true) (Tr.cmp (Ex.name lk0) (Ex.ty (gl_bytes H rfl)) (op_isTy rfl) rfl) (fun _ => Bx.ret (Ex.name rfl)) (fun h => by cases h)) (fun _ h => by cases h) (fun _ _ _ h => h)
theorem fn_truth (H : Ok W) {b : Bool} : Fn W (n + 1) (.ref 56) [.bool b] (.bool b) :=
  Fn.of_def (params := ["x"]) (defOk H f_truth (fun _ => rfl) rfl rfl rfl rfl rfl (by decide) rfl) rfl rfl (bind1 fun _ => rfl) fun L => by
    refine Bx.seq (Sx.assign (Ex.call (gl_type H rfl) calleeT (Exs.cons (Ex.name rfl) Exs.nil) (fn_type_bool (n := 0)) (Nat.zero_le _) rfl) rfl rfl) ?_
    refine Bx.cons (R' := fun _ fl => fl = .ret (.bool b)) (Sx.ite (b := true) (Tr.bool (Trs.or (b := false) (c := true) (Tr.cmp (Ex.name rfl) Ex.noneC (op_isNone (d := .bool b) rfl) rfl) fun _ => Trs.or (b := true) (c := true) (Tr.cmp (Ex.name lk0) (Ex.ty (gl_bool H rfl)) (op_isTy rfl) rfl) fun h => by cases h)) (fun _ => Bx.ret ?_) (fun h => by cases h)) (fun _ h => by cases h) (fun _ _ _ h => h)
    refine Ex.ifexp (Tr.plain (Ex.name rfl) rfl) (fun hb => ?_) (fun hb => ?_)
    · rw [hb]; exact Ex.boolC
    · rw [hb]; exact Ex.boolC
noncomputable def b64D (is : List Nat) : List Int := is.map fun i => ((b64l.getD i 0).toNat : Int)
theorem run_b2a (H : Ok W) {b : Array UInt8} (hb0 : (b64run (b.toList.map (·.toNat)) 0 0).2 = 0) (hlen : (b64run (b.toList.map (·.toNat)) 0 0).1.length ≤ 1000) (L : Addr) :
    Bx W (n + 1) (callEnvC f_b2a.1.1 L 64) (shs ["data", "newline"] [.bytes b, .bool false]) f_b2a.1.2 (fun _ fl => fl = .ret (.bytes (byteArr (b64D (b64run (b.toList.map (·.toNat)) 0 0).1)))) := by
  generalize hfin : b64run (b.toList.map (·.toNat)) 0 0 = fin at hb0 hlen
  refine Bx.seq (Sx.assign (Ex.call (gl_buffer H rfl) (callee H f_buffer) (Exs.cons (Ex.name rfl) Exs.nil) (fn_buffer (n := n) H) (Nat.le_refl _) rfl) rfl rfl) ?_
  refine Bx.seq (Sx.assign (Ex.call (gl_truth H rfl) (callee H f_truth) (Exs.cons (Ex.name rfl) Exs.nil) (fn_truth (n := n) H) (Nat.le_refl _) rfl) rfl rfl) ?_
  refine Bx.seq (Sx.assignOwn Exs.nil rfl rfl (show 0 ≤ 1000000 by omega)) ?_
  refine Bx.seq (Sx.assign Ex.int rfl rfl) ?_
  refine Bx.seq (Sx.assign Ex.int rfl rfl) ?_
  refine Bx.cons (R' := fun ρ' fl => fl = .next ∧ lk ρ' "newline" = some (.sh (.bool false)) ∧ lk ρ' "leftbits" = some (.sh (natD 0)) ∧ lk ρ' "out" = some (.own ((b64D fin.1).map fun i => .sh (.int i)))) (Sx.for (ds := (b.toList.map (·.toNat)).map natD) (Itx.toT (Itx.of (Ex.name rfl) ?_)) ?_ (fun _ => rfl)) ?_ (fun ρ' fl hn h => absurd h.1 hn)
  · rw [List.map_map]; exact iterOf_byt
  · refine LoopP.ofInv natD (fun as ρ => ∃ lb lc out, lk ρ "newline" = some (.sh (.bool false)) ∧ lk ρ "leftbits" = some (.sh (natD lb)) ∧ lk ρ "leftchar" = some (.sh (natD lc)) ∧ lk ρ "out" = some (.own ((b64D out).map fun i => .sh (.int i))) ∧
      lb < 6 ∧ lc < 65536 ∧ (∀ c ∈ as, c < 256) ∧ out ++ (b64run as lb lc).1 = fin.1 ∧ (b64run as lb lc).2 = 0) ?_ ?_ _ _ ⟨0, 0, [], rfl, rfl, rfl, rfl, by omega, by omega, ?_, by rw [hfin]; rfl, by rw [hfin]; exact hb0⟩
    · rintro c as ρ ⟨lb, lc, out, h1, h2, h3, h4, h5, h6, h7, h8, h9⟩
      have hc := h7 c (.head _)
      unfold b64run at h8 h9
      refine ⟨_, Ax.name rfl, ?_⟩
      refine Bx.seq (Sx.assign (d := natD (lcNext lc c)) (Ex.eq (congrArg D.int (lc_eq lc c hc)) (Ex.binop (Ex.binop (Ex.binop (Ex.name (lk1 rfl h3)) Ex.int (op_shl (by decide) (by decide) (by omega))) (Ex.name lk0) op_or) Ex.int op_and)) rfl rfl) ?_
      refine Bx.seq (Sx.assign (d := natD (lb + 8)) (Ex.binop (Ex.name (lk1 rfl (lk1 rfl h2))) Ex.int op_add) rfl rfl) ?_
      have hlc : lcNext lc c < 65536 := by unfold lcNext; omega
      generalize lcNext lc c = lc' at h8 h9 hlc ⊢
      generalize hem : b64emit lc' (lb + 8) (lb + 8) = em at h8 h9
      refine Bx.last (Sx.while (fun f ρ' => ∃ lb' out', lk ρ' "newline" = some (.sh (.bool false)) ∧ lk ρ' "leftbits" = some (.sh (natD lb')) ∧ lk ρ' "leftchar" = some (.sh (natD lc')) ∧ lk ρ' "out" = some (.own ((b64D out').map fun i => .sh (.int i))) ∧
        lb' ≤ f ∧ out' ++ (b64emit lc' f lb').1 = out ++ em.1 ∧ (b64emit lc' f lb').2 = em.2) ?_ (lb + 8) ⟨lb + 8, out, lk1 rfl (lk1 rfl (lk1 rfl h1)), lk0, lk1 rfl lk0, lk1 rfl (lk1 rfl (lk1 rfl h4)), Nat.le_refl _, by rw [hem], by rw [hem]⟩)
      rintro f ρ' ⟨lb', out', i1, i2, i3, i4, i5, i6, i7⟩
      refine ⟨_, Tr.cmp (Ex.name i2) Ex.int op_ge rfl, fun hb => ?_, fun hb => ?_⟩
      · have h6' : 6 ≤ lb' := by
          have : (6 : Int) ≤ (lb' : Int) := by simpa using hb
          omega
        cases f with
        | zero => omega
        | succ f =>
        unfold b64emit at i6 i7
        rw [if_pos h6'] at i6 i7
        have hlo : out'.length ≤ 1000 := by
          have := congrArg List.length i6
          have h8' := congrArg List.length h8
          simp only [List.length_append, List.length_cons] at this h8'
          omega
        have hsg : lc' / 2 ^ (lb' - 6) % 64 < 64 := Nat.mod_lt _ (by decide)
        have hsub : ((lb' : Nat) : Int) - 6 = ((lb' - 6 : Nat) : Int) := by omega
        refine Bx.seq (Sx.append (d := .int ((b64l.getD (lc' / 2 ^ (lb' - 6) % 64) 0).toNat : Int)) i4 ?_ (by rw [List.length_map, b64D, List.length_map]; omega) rfl rfl) ?_
        · exact Ex.itemBytes (l := b64l) (k := ((lc' / 2 ^ (lb' - 6) % 64 : Nat) : Int)) (Ex.glob (gl_B64 H rfl) fun _ _ _ _ => ⟨240, rfl⟩) (Ex.eq (congrArg D.int (sig_eq lc' lb' h6')) (Ex.binop (Ex.binop (Ex.name i3) (Ex.binop (Ex.name i2) Ex.int op_sub) (op_shr (by omega))) Ex.int op_and)) (by decide) (by omega) (by show _ < ((64 : Nat) : Int); omega) (fun _ _ => rfl)
        refine Bx.mono (Bx.last (Sx.assign (d := natD (lb' - 6)) (Ex.eq (congrArg D.int hsub) (Ex.binop (Ex.name (lk1 rfl i2)) Ex.int op_sub)) rfl rfl)) ?_
        rintro ρ'' fl ⟨rfl, rfl⟩
        refine ⟨f, Nat.lt_succ_self _, lb' - 6, out' ++ [lc' / 2 ^ (lb' - 6) % 64], lk1 rfl (lk1 rfl i1), lk0, lk1 rfl (lk1 rfl i3), lk1 rfl (lk0.trans ?_), by omega, ?_, i7⟩
        · unfold b64D; rw [List.map_append, List.map_append]; rfl
        · rw [List.append_assoc]; exact i6
      · have h6' : ¬ 6 ≤ lb' := by
          have : ¬ (6 : Int) ≤ (lb' : Int) := by simpa using hb
          omega
        have e : b64emit lc' f lb' = ([], lb') := by
          cases f with
          | zero => rfl
          | succ f => unfold b64emit; rw [if_neg h6']
        rw [e] at i6 i7
        rw [List.append_nil] at i6
        refine Bx.nil ⟨lb', lc', out', i1, i2, i3, i4, by omega, hlc, fun d hd => h7 d (.tail _ hd), ?_, ?_⟩
        · rw [i6, show lb' = em.2 from i7, List.append_assoc]; exact h8
        · rw [show lb' = em.2 from i7]; exact h9
    · rintro ρ ⟨lb, lc, out, h1, h2, h3, h4, h5, h6, h7, h8, h9⟩
      have h8 : out ++ [] = fin.1 := h8
      have h9 : lb = 0 := h9
      rw [List.append_nil] at h8
      refine Bx.nil ⟨rfl, h1, ?_, ?_⟩
      · rw [← h9]; exact h2
      · rw [← h8]; exact h4
    · intro c hc
      obtain ⟨u, _, rfl⟩ := List.mem_map.mp hc
      exact u.toNat_lt
  · rintro ρ' ⟨_, h1, h2, h4⟩
    refine Bx.seq (ρ' := ρ') (Sx.ite (b := false) (Tr.cmp (Ex.name h2) Ex.int op_eq rfl) (fun h => by cases h) (fun _ => Bx.last (Sx.ite (b := false) (Tr.cmp (Ex.name h2) Ex.int op_eq rfl) (fun h => by cases h) (fun _ => Bx.nil ⟨rfl, rfl⟩)))) ?_
    refine Bx.seq (ρ' := ρ') (Sx.ite (b := false) (Tr.plain (Ex.name h1) rfl) (fun h => by cases h) (fun _ => Bx.nil ⟨rfl, rfl⟩)) ?_
    refine Bx.conv (Conv.freeze h4) (Bx.ret (Ex.call (gl_bytes H rfl) calleeT (Exs.cons (Ex.name (lk0.trans ?_)) Exs.nil) (fn_bytes (n := 0) (ns := b64D fin.1) ?_ ?_) (Nat.zero_le _) rfl))
    · rw [List.map_map]; rfl
    · intro i hi
      obtain ⟨j, _, rfl⟩ := List.mem_map.mp hi
      have := (b64l.getD j 0).toNat_lt
      omega
    · rw [b64D, List.length_map]; omega
end
end Mine
end

-- N10
section
open PySem PySem.W PyProof.Rows
set_option maxRecDepth 100000
namespace Mine
section
variable {W : Wd} {n m : Nat} {env : Env} {ρ : Rho} {x y : Str}
noncomputable def wrAt (b : Array UInt8) : List Nat := (b64run (b.toList.map (·.toNat)) 0 0).1
noncomputable def enc (b : Array UInt8) : Array UInt8 := byteArr (b64D (wrAt b))
theorem bind_b2a (v : Value) : bindArgs f_b2a.1.1 ⟨[v], [("newline", .bool false)]⟩ = pure [((("data" : Str)), v), ((("newline" : Str)), Value.bool false)] := rfl
theorem Ex.b2a {e : Expr} {p pos kp cp : Pos} {ck : Nat} {b : Array UInt8} (H : Ok W) (hk : env.kindOf "b2a_base64" = some .globalImplicit) (he : Ex W (n + 2) env ρ e (.bytes b)) (hp : plainArgs [e] = true)
    (hb0 : (b64run (b.toList.map (·.toNat)) 0 0).2 = 0) (hlen : (wrAt b).length ≤ 1000) :
    Ex W (n + 2) env ρ (.Call (.Name "b2a_base64" p) [e] [⟨some "newline", .Constant (.bool false) ck cp, kp⟩] pos) (.bytes (enc b)) := .mk fun B G fp s A E Q S hA h => by
  refine wpAny_Call_Name_kw ((gl_b2a_base64 H hk).load S ?_)
  have ho : ∀ {s' : Shared}, Ext s s' → s'.heap.get? 64 = some { cls := .type "function", data := .func f_b2a.1.1 } := fun {s'} e => (S.ext e).gl'.k 64 _ (by rw [H.k]; exact f_b2a.2.1 _)
  refine callWith_def_kw (o := { cls := .type "function", data := .func f_b2a.1.1 }) rfl (evalArgs_kw2 rfl ?_ (starEach_plain hp))
  rw [backTo_plain hp]
  refine (Exs.cons he Exs.nil).r B G fp s A E _ S hA fun vs s₁ rvs e₁ => ?_
  refine kwAll_cons (wpAny_pure (kwAll_nil ⟨ho e₁, ?_⟩))
  obtain ⟨v, vs', rfl, rv, rfl⟩ := rvs
  exact run_def (n := n + 1) (args := ⟨[v], [("newline", .bool false)]⟩) (binds := [("data", v), ("newline", .bool false)]) (ds := [.bytes b, .bool false])
    (defOk H f_b2a (fun _ => rfl) rfl rfl rfl rfl rfl (by show (["data", "newline"] : List Str).Nodup; decide) rfl) rfl (BindsTo.of_eq (bind_b2a v)) (S.ext e₁).gl' hA ⟨v, _, rfl, rv, .bool false, [], rfl, rfl, rfl⟩ (S.ext e₁).valloc (run_b2a H hb0 hlen) fun v' s₂ rv₂ e₂ => h v' s₂ rv₂ (e₁.trans e₂)
theorem fn_b64 (H : Ok W) {b : Array UInt8} (hb0 : (b64run (b.toList.map (·.toNat)) 0 0).2 = 0) (hlen : (wrAt b).length ≤ 1000) : Fn W (n + 3) (.ref 72) [.bytes b] (.bytes (enc b)) := .mk fun s A vs V E Q hg hA hr hV hQ => by
  obtain ⟨v, vs', rfl, rv, rfl⟩ := hr
  have ho : s.heap.get? 65 = some { cls := .type "tuple", data := .seq #[.none] } := hg.k 65 _ (by rw [H.k]; rfl)
  refine run_def (n := n + 2) (args := ⟨[v], []⟩) (binds := [("s", v), ("altchars", .none)]) (ds := [.bytes b, .none]) (defOk H f_b64 (fun _ => rfl) rfl rfl rfl rfl rfl (by show (["s", "altchars"] : List Str).Nodup; decide) rfl) rfl
    (BindsTo.of_defaults rfl ho rfl rfl rfl) hg hA ⟨v, _, rfl, rv, .none, [], rfl, rfl, rfl⟩ hV (fun L => ?_) hQ
  refine Bx.seq (Sx.assign (Ex.b2a H rfl (Ex.name rfl) rfl hb0 hlen) rfl rfl) ?_
  refine Bx.seq (Sx.ite (b := false) (Tr.cmp (Ex.name rfl) Ex.noneC (op_isNotNone (d := .none) rfl) rfl) (fun h => by cases h) (fun _ => Bx.nil ⟨rfl, rfl⟩)) ?_
  exact Bx.ret (Ex.name rfl)
noncomputable def urlTb : List UInt8 := (List.range 256).map fun i => if i = 43 then 45 else if i = 47 then 95 else i.toUInt8
theorem gl_urlsafe_tb (H : Ok W) (hk : env.kindOf "_urlsafe_encode_translation" = some .globalImplicit) : Gv W env "_urlsafe_encode_translation" (.bytes urlTb.toArray 270) := gv H hk (fun _ => by kernel_rfl)
theorem fn_urlsafe (H : Ok W) {b : Array UInt8} (hb0 : (b64run (b.toList.map (·.toNat)) 0 0).2 = 0) (hlen : (wrAt b).length ≤ 1000) : Fn W (n + 4) (.ref 79) [.bytes b] (.bytes (trB urlTb.toArray (enc b))) :=
  Fn.of_def (params := ["s"]) (defOk H f_urlsafe (fun _ => rfl) rfl rfl rfl rfl rfl (by decide) rfl) rfl rfl (bind1 fun _ => rfl) fun L => by
    refine Bx.ret (Ex.translate (Ex.call (gl_b64encode H rfl) (callee H f_b64) (Exs.cons (Ex.name rfl) Exs.nil) (fn_b64 (n := n) H hb0 hlen) (Nat.le_refl _) rfl) rfl rfl (Ex.glob (gl_urlsafe_tb H rfl) fun _ _ _ _ => ⟨270, rfl⟩) rfl (by rfl) ?_)
    unfold enc
    rw [byteArr_size, b64D, List.length_map]
    omega
end
end Mine
end

-- N11
section
open PySem PySem.W PyProof.Rows
set_option maxRecDepth 100000
namespace Mine
/-- the last word grows -/
noncomputable def lastAdd (k : Nat) : List (List Nat) → List (List Nat)
  | [] => []
  | [w] => [w ++ [k]]
  | w :: v :: r => w :: lastAdd k (v :: r)
theorem lastAdd_snoc (k : Nat) (w : List Nat) : ∀ ws : List (List Nat), lastAdd k (ws ++ [w]) = ws ++ [w ++ [k]]
  | [] => rfl
  | [v] => rfl
  | v :: u :: r => by
    show v :: lastAdd k (u :: (r ++ [w])) = _
    have := lastAdd_snoc k w (u :: r)
    rw [List.cons_append] at this
    rw [this]; rfl
noncomputable def bitOn (c k : Nat) : Bool := c / 2 ^ k % 2 == 1
noncomputable def wStep (c : Nat) (ws : List (List Nat)) (i : Nat) : List (List Nat) := if bitOn c i = true then ws ++ [[i + 1]] else lastAdd (i + 1) ws
noncomputable def wordsOf (N c : Nat) : List (List Nat) := (List.range (N - 1)).foldl (wStep c) [[0]]
noncomputable def spell (nums : List Int) (ws : List (List Nat)) : List (List Int) := ws.map fun w => w.map fun k => nums.getD k 0
noncomputable def downs (sp : List (List Int)) : List Nat := (List.range (sp.length - 1)).filter fun i => lexB true (sp.getD i []) (sp.getD (i + 1) [])
noncomputable def turns (w : List Int) : List Nat := (List.range (w.length - 1)).filter fun i => lexB false (w.drop (i + 1) ++ w.take (i + 1)) w
noncomputable def cutOk (sp : List (List Int)) : Bool := (downs sp).isEmpty && (sp.filter fun w => !(turns w).isEmpty).isEmpty
noncomputable def cutsOf (nums : List Int) : List (List (List Nat)) := ((List.range (2 ^ (nums.length - 1))).filter fun c => cutOk (spell nums (wordsOf nums.length c))).map (wordsOf nums.length)
noncomputable def wordD (w : List Nat) : D := .list (w.map natD)
noncomputable def wordsD (ws : List (List Nat)) : D := .list (ws.map wordD)
noncomputable def rowI (w : List Int) : D := .list (w.map .int)

theorem wStep_ok {N c : Nat} : ∀ (is : List Nat) (ws : List (List Nat)), ws ≠ [] → (∀ w ∈ ws, ∀ k ∈ w, k < N) → (∀ i ∈ is, i + 1 < N) → (is.foldl (wStep c) ws) ≠ [] ∧ (∀ w ∈ is.foldl (wStep c) ws, ∀ k ∈ w, k < N) ∧ (is.foldl (wStep c) ws).length ≤ ws.length + is.length
  | [], ws, h1, h2, _ => ⟨h1, h2, Nat.le_refl _⟩
  | i :: is, ws, h1, h2, h3 => by
    rw [List.foldl_cons]
    have hi := h3 i (.head _)
    have key : wStep c ws i ≠ [] ∧ (∀ w ∈ wStep c ws i, ∀ k ∈ w, k < N) ∧ (wStep c ws i).length ≤ ws.length + 1 := by
      unfold wStep
      split
      · refine ⟨by simp, fun w hw k hk => ?_, by simp⟩
        rcases List.mem_append.mp hw with h | h
        · exact h2 w h k hk
        · rw [List.mem_singleton.mp h] at hk; rw [List.mem_singleton.mp hk]; exact hi
      · obtain ⟨us, u, rfl⟩ : ∃ us u, ws = us ++ [u] := ⟨ws.dropLast, ws.getLast h1, (List.dropLast_concat_getLast h1).symm⟩
        rw [lastAdd_snoc]
        refine ⟨by simp, fun w hw k hk => ?_, by simp⟩
        rcases List.mem_append.mp hw with h | h
        · exact h2 w (List.mem_append_left _ h) k hk
        · rw [List.mem_singleton.mp h] at hk
          rcases List.mem_append.mp hk with hk | hk
          · exact h2 u (List.mem_append_right _ (.head _)) k hk
          · rw [List.mem_singleton.mp hk]; exact hi
    obtain ⟨k1, k2, k3⟩ := key
    have ih := wStep_ok (c := c) is (wStep c ws i) k1 k2 fun j hj => h3 j (.tail _ hj)
    refine ⟨ih.1, ih.2.1, ?_⟩
    rw [List.length_cons]
    omega
theorem wordsOf_ok {N : Nat} (h0 : 0 < N) (c : Nat) : wordsOf N c ≠ [] ∧ (∀ w ∈ wordsOf N c, ∀ k ∈ w, k < N) ∧ (wordsOf N c).length ≤ N := by
  obtain ⟨h1, h2, h3⟩ := wStep_ok (N := N) (c := c) (List.range (N - 1)) [[0]] (by simp) (by simpa using h0) (fun i hi => by have := List.mem_range.mp hi; omega)
  refine ⟨h1, h2, ?_⟩
  have : (wordsOf N c).length ≤ [[0]].length + (List.range (N - 1)).length := h3
  simp at this
  omega
theorem wStep_len {c L : Nat} (ws : List (List Nat)) (i : Nat) (hL : 1 ≤ L) (h : ∀ w ∈ ws, w.length ≤ L) : ∀ w ∈ wStep c ws i, w.length ≤ L + 1 := by
  unfold wStep
  split
  · intro w hw
    rcases List.mem_append.mp hw with h' | h'
    · have := h w h'; omega
    · rw [List.mem_singleton.mp h']; simp
  · by_cases h1 : ws = []
    · subst h1; intro w hw; cases hw
    · obtain ⟨us, u, rfl⟩ : ∃ us u, ws = us ++ [u] := ⟨ws.dropLast, ws.getLast h1, (List.dropLast_concat_getLast h1).symm⟩
      rw [lastAdd_snoc]
      intro w hw
      rcases List.mem_append.mp hw with h' | h'
      · have := h w (List.mem_append_left _ h'); omega
      · rw [List.mem_singleton.mp h', List.length_append]
        have := h u (List.mem_append_right _ (.head _))
        simp; omega
theorem wordsOf_len (N c : Nat) : ∀ w ∈ wordsOf N c, w.length ≤ 1 + (N - 1) := by
  have : ∀ (is : List Nat) (ws : List (List Nat)) (M : Nat), 1 ≤ M → (∀ w ∈ ws, w.length ≤ M) → ∀ w ∈ is.foldl (wStep c) ws, w.length ≤ M + is.length := by
    intro is
    induction is with
    | nil => intro ws M _ h; exact h
    | cons i is ih =>
      intro ws M hM h w hw
      rw [List.foldl_cons] at hw
      have := ih (wStep c ws i) (M + 1) (by omega) (wStep_len ws i hM h) w hw
      rw [List.length_cons]; omega
  have h := this (List.range (N - 1)) [[0]] 1 (Nat.le_refl _) (by simp)
  rw [List.length_range] at h
  exact h
theorem bit_eq (c k : Nat) : ((((c : Int).fdiv (2 ^ ((((1 + k : Nat) : Int) - 1)).toNat)).fmod 2 == 1)) = bitOn c k := by
  have e : (((1 + k : Nat) : Int) - 1).toNat = k := by omega
  rw [e]
  have e2 : (2 : Int) ^ k = ((2 ^ k : Nat) : Int) := by push_cast; rfl
  rw [e2, Int.fdiv_eq_ediv_of_nonneg _ (Int.natCast_nonneg _), Int.fmod_eq_emod_of_nonneg _ (by decide)]
  unfold bitOn
  rw [Bool.eq_iff_iff, beq_iff_eq, beq_iff_eq]
  omega

section
variable {W : Wd} {n m : Nat} {env : Env} {ρ : Rho} {x y : Str}
theorem Ex.intAt {v i : Expr} {pos : Pos} {xs : List Int} {k : Nat} (hv : Ex W n env ρ v (.list (xs.map .int))) (hi : Ex W n env ρ i (.int k)) (hk : k < xs.length) (hl : xs.length ≤ 1000)
    (hns : ∀ a t, subscripted i false (.ref a) (.int k t) = operate [.ref a, .int k t] (getItem (.ref a) (.int k t))) : Ex W n env ρ (.Subscript v i pos) (.int (xs.getD k 0)) := by
  refine Ex.item hv hi ?_ ?_ ?_ ?_ hns
  · rw [List.length_map]; omega
  · rw [List.length_map]; omega
  · rw [List.length_map]; omega
  · unfold idxD
    rw [if_neg (by omega), Int.toNat_natCast, List.getElem?_map, List.getElem?_eq_getElem hk, List.getD_eq_getElem?_getD, List.getElem?_eq_getElem hk]
    rfl
theorem Ex.rowAt {v i : Expr} {pos : Pos} {xs : List (List Int)} {k : Nat} (hv : Ex W n env ρ v (.list (xs.map rowI))) (hi : Ex W n env ρ i (.int k)) (hk : k < xs.length) (hl : xs.length ≤ 1000)
    (hns : ∀ a t, subscripted i false (.ref a) (.int k t) = operate [.ref a, .int k t] (getItem (.ref a) (.int k t))) : Ex W n env ρ (.Subscript v i pos) (rowI (xs.getD k [])) := by
  refine Ex.item hv hi ?_ ?_ ?_ ?_ hns
  · rw [List.length_map]; omega
  · rw [List.length_map]; omega
  · rw [List.length_map]; omega
  · unfold idxD
    rw [if_neg (by omega), Int.toNat_natCast, List.getElem?_map, List.getElem?_eq_getElem hk, List.getD_eq_getElem?_getD, List.getElem?_eq_getElem hk]
    rfl
theorem okRow {k : Nat} (w : List Int) : OkD (k + 1) (rowI w) := OkD.list fun d hd => by
  obtain ⟨i, _, rfl⟩ := List.mem_map.mp hd
  exact OkD.int
theorem range2_eq {N : Nat} : rngD 1 (((N : Int) - 1).toNat) = (List.range (N - 1)).map fun i => natD (1 + i) := by
  have := rngD_eq 1 (N - 1)
  have e : ((N : Int) - 1).toNat = N - 1 := by omega
  rw [e]
  exact this

set_option maxHeartbeats 2000000 in
theorem fn_cuttings (H : Ok W) {nums : List Int} (h0 : 0 < nums.length) (hl : nums.length ≤ 20) : Fn W (n + 1) (.ref 169) [.list (nums.map .int)] (.list ((cutsOf nums).map wordsD)) :=
  Fn.of_def (params := ["numbers"]) (defOk H f_cuttings (fun _ => rfl) rfl rfl rfl rfl rfl (by decide) rfl) rfl rfl (bind1 fun _ => rfl) fun L => by
    have hln : (nums.map D.int).length = nums.length := List.length_map _
    have hp2 : 2 ^ (nums.length - 1) ≤ 1000000 := Nat.le_trans (Nat.pow_le_pow_right (by omega) (show nums.length - 1 ≤ 19 by omega)) (by decide)
    refine Bx.seq (Sx.assignOwn Exs.nil rfl rfl (show 0 ≤ 1000000 by omega)) ?_
    have hlenE : ∀ {ρ : Rho}, lk ρ "numbers" = some (.sh (.list (nums.map .int))) → ∀ {p q r : Pos}, Ex W n (callEnvC f_cuttings.1.1 L 169) ρ (.Call (.Name "len" p) [.Name "numbers" q] [] r) (natD nums.length) := fun h _ _ _ => by
      exact Ex.eq (congrArg natD hln) (Ex.len (q := ⟨0, 0, 0, 0⟩) H rfl (Ex.name h) (by omega) rfl)
    refine Bx.cons (R' := fun ρ' fl => fl = .next ∧ lk ρ' "found" = some (.own ((cutsOf nums).map fun ws => .sh (wordsD ws)))) (Sx.for (ds := (List.range (2 ^ (nums.length - 1))).map natD) (Itx.toT ?_) ?_ (fun _ => rfl)) ?_ (fun ρ' fl hn h => absurd h.1 hn)
    · have e : ((2 : Int) ^ (((nums.length : Int) - 1)).toNat).toNat = 2 ^ (nums.length - 1) := by
        have e1 : ((nums.length : Int) - 1).toNat = nums.length - 1 := by omega
        rw [e1]
        have e2 : (2 : Int) ^ (nums.length - 1) = ((2 ^ (nums.length - 1) : Nat) : Int) := by push_cast; rfl
        rw [e2, Int.toNat_natCast]
      rw [← rngD_zero, ← e]
      have e2 : (2 : Int) ^ (((nums.length : Int) - 1)).toNat = ((2 ^ (nums.length - 1) : Nat) : Int) := by
        rw [show ((nums.length : Int) - 1).toNat = nums.length - 1 by omega]; push_cast; rfl
      refine Itx.range1 (gl_range H rfl) (Ex.binop Ex.int (Ex.binop (hlenE rfl) Ex.int op_sub) (op_pow (by omega) (by omega) (by decide))) ?_ ?_ rfl
      · rw [e2]; omega
      · rw [e2]; omega
    · refine LoopP.ofInv natD (fun as ρ => lk ρ "numbers" = some (.sh (.list (nums.map .int))) ∧ ∃ els, lk ρ "found" = some (.own ((els : List (List (List Nat))).map fun ws => .sh (wordsD ws))) ∧ els.length + as.length ≤ 2 ^ (nums.length - 1) ∧
        els ++ ((as.filter fun c => cutOk (spell nums (wordsOf nums.length c))).map (wordsOf nums.length)) = cutsOf nums) ?_ ?_ _ _ ⟨rfl, [], rfl, by simp, by rfl⟩
      · rintro c as ρ ⟨h1, els, h2, h3, h4⟩
        rw [List.length_cons] at h3
        refine ⟨_, Ax.name rfl, ?_⟩
        refine Bx.seq (Sx.assignOwn2 (Exs.cons Ex.int Exs.nil) rfl rfl (show 1 ≤ 1000000 by omega)) ?_
        obtain ⟨w1, w2, w3⟩ := wordsOf_ok h0 c
        have hwlen : ∀ w ∈ wordsOf nums.length c, w.length ≤ 1000 := fun w hw => Nat.le_trans (wordsOf_len nums.length c w hw) (by omega)
        refine Bx.cons (R' := fun ρ' fl => fl = .next ∧ lk ρ' "numbers" = some (.sh (.list (nums.map .int))) ∧ lk ρ' "found" = some (.own (els.map fun ws => .sh (wordsD ws))) ∧ lk ρ' "words" = some (.own ((wordsOf nums.length c).map fun w => .ow (w.map natD))))
          (Sx.for (ds := (List.range (nums.length - 1)).map fun i => natD (1 + i)) (Itx.toT ?_) ?_ (fun _ => rfl)) ?_ (fun ρ' fl hn h => absurd h.1 hn)
        · rw [← range2_eq]
          exact Itx.range2 (gl_range H rfl) Ex.int (hlenE (lk1 rfl (lk1 rfl h1))) (by decide) (by decide) (by omega) (by omega) rfl
        · refine LoopP.ofInv (fun i => natD (1 + i)) (fun is ρ' => lk ρ' "numbers" = some (.sh (.list (nums.map .int))) ∧ lk ρ' "found" = some (.own (els.map fun ws => .sh (wordsD ws))) ∧ lk ρ' "choice" = some (.sh (natD c)) ∧
            ∃ ws, lk ρ' "words" = some (.own ((ws : List (List Nat)).map fun w => .ow (w.map natD))) ∧ ws ≠ [] ∧ is.foldl (wStep c) ws = wordsOf nums.length c ∧ ws.length + is.length ≤ 100 ∧ (∃ M, (∀ w ∈ ws, w.length ≤ M) ∧ 1 ≤ M ∧ M + is.length ≤ 100) ∧ ∀ i ∈ is, i < 20) ?_ ?_ _ _
            ⟨lk1 rfl (lk1 rfl h1), lk1 rfl (lk1 rfl h2), lk1 rfl lk0, [[0]], lk0, by simp, rfl, by simp; omega, ⟨1, by simp, Nat.le_refl _, by simp; omega⟩, fun i hi => by have := List.mem_range.mp hi; omega⟩
          · rintro i is ρ' ⟨i1, i2, i3, ws, i4, i5, i6, i7, ⟨M, i8, i8', i9⟩, i10⟩
            have hi20 := i10 i (.head _)
            rw [List.length_cons] at i7 i9
            rw [List.foldl_cons] at i6
            refine ⟨_, Ax.name rfl, ?_⟩
            have hpow : (2 : Int) ^ (((1 + i : Nat) : Int) - 1).toNat ≠ 0 ∧ ((2 : Int) ^ (((1 + i : Nat) : Int) - 1).toNat).natAbs < 1073741824 := by
              have e : (((1 + i : Nat) : Int) - 1).toNat = i := by omega
              rw [e]
              have e2 : (2 : Int) ^ i = ((2 ^ i : Nat) : Int) := by push_cast; rfl
              rw [e2, Int.natAbs_natCast]
              have h1 : 2 ^ i < 2 ^ 30 := Nat.pow_lt_pow_right (by omega) (by omega)
              have h2 : 0 < 2 ^ i := Nat.pow_pos (by omega)
              exact ⟨by omega, by omega⟩
            have hls := wStep_len (c := c) ws i i8' i8
            have more : ∀ ρ'', lk ρ'' "numbers" = some (.sh (.list (nums.map .int))) → lk ρ'' "found" = some (.own (els.map fun ws => .sh (wordsD ws))) → lk ρ'' "choice" = some (.sh (natD c)) → lk ρ'' "words" = some (.own ((wStep c ws i).map fun w => .ow (w.map natD))) →
                (wStep c ws i) ≠ [] → (wStep c ws i).length ≤ ws.length + 1 → (lk ρ'' "numbers" = some (.sh (.list (nums.map .int))) ∧ lk ρ'' "found" = some (.own (els.map fun ws => .sh (wordsD ws))) ∧ lk ρ'' "choice" = some (.sh (natD c)) ∧
            ∃ ws, lk ρ'' "words" = some (.own ((ws : List (List Nat)).map fun w => .ow (w.map natD))) ∧ ws ≠ [] ∧ is.foldl (wStep c) ws = wordsOf nums.length c ∧ ws.length + is.length ≤ 100 ∧ (∃ M, (∀ w ∈ ws, w.length ≤ M) ∧ 1 ≤ M ∧ M + is.length ≤ 100) ∧ ∀ i ∈ is, i < 20) :=
              fun ρ'' a b d e f g => ⟨a, b, d, _, e, f, i6, by omega, ⟨M + 1, hls, by omega, by omega⟩, fun j hj => i10 j (.tail _ hj)⟩
            refine Bx.last (Sx.ite (b := bitOn c i) ?_ (fun hb => ?_) (fun hb => ?_))
            · rw [← bit_eq]
              exact Tr.cmp (Ex.binop (Ex.binop (Ex.name (lk1 rfl i3)) (Ex.binop Ex.int (Ex.binop (Ex.name lk0) Ex.int op_sub) (op_pow (by omega) (by omega) (by decide))) (op_fdiv hpow.1 hpow.2)) Ex.int (op_mod (by decide))) Ex.int op_eq rfl
            · refine Bx.mono (Bx.last (Sx.appendO (lk1 rfl i4) (Exs.cons (Ex.name lk0) Exs.nil) (by rw [List.length_map]; omega) (show 1 ≤ 1000000 by omega) rfl rfl)) ?_
              rintro ρ'' fl ⟨rfl, rfl⟩
              refine more _ (lk1 rfl (lk1 rfl i1)) (lk1 rfl (lk1 rfl i2)) (lk1 rfl (lk1 rfl i3)) (lk0.trans ?_) ?_ ?_
              · unfold wStep
                rw [if_pos hb, List.map_append, Nat.add_comm 1 i]; rfl
              · unfold wStep; rw [if_pos hb]; simp
              · unfold wStep; rw [if_pos hb]; simp
            · obtain ⟨us, u, hus⟩ : ∃ us u, ws = us ++ [u] := ⟨ws.dropLast, ws.getLast i5, (List.dropLast_concat_getLast i5).symm⟩
              have hu : u.length ≤ M := i8 u (by rw [hus]; simp)
              have hus' : us.length + 1 = ws.length := by rw [hus]; simp
              have hw : wStep c ws i = us ++ [u ++ [i + 1]] := by unfold wStep; rw [if_neg (by rw [hb]; exact Bool.false_ne_true), hus, lastAdd_snoc]
              have i4' : lk ρ' "words" = some (.own ((us.map fun w => .ow (w.map natD)) ++ [.ow (u.map natD)])) := by rw [i4, hus, List.map_append]; rfl
              refine Bx.mono (Bx.last (Sx.appendLast (lk1 rfl i4') (Ex.name lk0) (by rw [List.length_map]; omega) (by rw [List.length_map]; omega) neg_one rfl rfl)) ?_
              rintro ρ'' fl ⟨rfl, rfl⟩
              refine more _ (lk1 rfl (lk1 rfl i1)) (lk1 rfl (lk1 rfl i2)) (lk1 rfl (lk1 rfl i3)) (lk0.trans ?_) ?_ ?_
              · rw [hw, List.map_append, List.map_cons, List.map_nil, List.map_append, Nat.add_comm 1 i]; rfl
              · rw [hw]; simp
              · rw [hw]; simp; omega
          · rintro ρ' ⟨i1, i2, i3, ws, i4, i5, i6, i7, i8, i10⟩
            have i6 : ws = wordsOf nums.length c := i6
            exact Bx.nil ⟨rfl, i1, i2, i6 ▸ i4⟩
        · rintro ρ' ⟨_, i1, i2, i3⟩
          refine Bx.conv (Conv.freeze i3) ?_
          have j1 : lk (put ρ' "words" (.sh (.list (((wordsOf nums.length c).map fun w => El.ow (w.map natD)).map El.d)))) "words" = some (.sh (wordsD (wordsOf nums.length c))) := lk0.trans (by rw [List.map_map]; rfl)
          have j2 : lk (put ρ' "words" (.sh (.list (((wordsOf nums.length c).map fun w => El.ow (w.map natD)).map El.d)))) "numbers" = some (.sh (.list (nums.map .int))) := lk1 rfl i1
          have j3 : lk (put ρ' "words" (.sh (.list (((wordsOf nums.length c).map fun w => El.ow (w.map natD)).map El.d)))) "found" = some (.own (els.map fun ws => .sh (wordsD ws))) := lk1 rfl i2
          generalize put ρ' "words" (.sh (.list (((wordsOf nums.length c).map fun w => El.ow (w.map natD)).map El.d))) = ρ₁ at j1 j2 j3
          generalize hws : wordsOf nums.length c = ws at w1 w2 w3 j1
          have hsl : (spell nums ws).length ≤ 20 := by unfold spell; rw [List.length_map]; omega
          refine Bx.seq (Sx.assign (d := .list ((spell nums ws).map rowI)) ?_ rfl rfl) ?_
          · unfold spell
            rw [List.map_map]
            refine Ex.comp (cap := [("numbers", .sh (.list (nums.map .int)))]) (ds := ws.map wordD) (Itx.of (Ex.name j1) iterOf_list) (compOk rfl (fun C => ⟨⟨_, rfl, j2⟩, .inl rfl, .inl rfl, rfl, trivial⟩) (by show (["word", "numbers"] : List Str).Nodup; decide)) (by rw [List.length_map]; omega) (fun C => CompP.ofMap wordD _ fun w hw => ?_) (fun _ => rfl)
            have hwl : w.length ≤ 1000 := hwlen w (hws ▸ hw)
            refine Ex.eq (show D.list ((w.map fun k => nums.getD k 0).map D.int) = _ from rfl) ?_
            rw [List.map_map]
            refine Ex.comp (cap := [("numbers", .sh (.list (nums.map .int)))]) (ds := w.map natD) (Itx.of (Ex.name rfl) iterOf_list) (compOk rfl (fun C => ⟨⟨_, rfl, rfl⟩, .inl rfl, .inl rfl, rfl, trivial⟩) (by show (["k", "numbers"] : List Str).Nodup; decide)) (by rw [List.length_map]; omega) (fun C => CompP.ofMap natD _ fun k hk => ?_) (fun _ => rfl)
            exact Ex.intAt (Ex.name rfl) (Ex.name rfl) (w2 w hw k hk) (by omega) (fun _ _ => rfl)
          have hspl : ∀ w ∈ spell nums ws, w.length ≤ 1000 := fun w hw => by
            obtain ⟨v, hv, rfl⟩ := List.mem_map.mp hw
            rw [List.length_map]
            exact hwlen v (hws ▸ hv)
          generalize hsp : spell nums ws = sp at hsl hspl
          have hspl' : (sp.map rowI).length = sp.length := List.length_map _
          have fin : ∀ ρ'', lk ρ'' "numbers" = some (.sh (.list (nums.map .int))) → lk ρ'' "found" = some (.own ((els ++ if cutOk sp = true then [ws] else []).map fun ws => .sh (wordsD ws))) → (lk ρ'' "numbers" = some (.sh (.list (nums.map .int))) ∧ ∃ els, lk ρ'' "found" = some (.own ((els : List (List (List Nat))).map fun ws => .sh (wordsD ws))) ∧ els.length + as.length ≤ 2 ^ (nums.length - 1) ∧
              els ++ ((as.filter fun c => cutOk (spell nums (wordsOf nums.length c))).map (wordsOf nums.length)) = cutsOf nums) := fun ρ'' a b => by
            refine ⟨a, _, b, ?_, ?_⟩
            · rw [List.length_append]; split <;> simp <;> omega
            · rw [← h4, List.filter_cons, hws, hsp]
              split
              · rw [List.map_cons, hws]; simp
              · simp
          refine Bx.last (Sx.ite (b := ((downs sp).map fun i => natD (1 + i)).isEmpty) (Tr.cmp (a := .list ((downs sp).map fun i => natD (1 + i))) (b := .list []) ?_ (Ex.list Exs.nil rfl (show 0 ≤ 1000000 by omega)) (op_eqNil (k := 0) ?_ (by omega)) rfl) (fun hb => ?_) (fun hb => ?_))
          · refine Ex.comp (cap := [("spelled", .sh (.list (sp.map rowI)))]) (ds := (List.range (sp.length - 1)).map fun i => natD (1 + i)) ?_ (compOk rfl (fun C => ⟨⟨_, rfl, lk0⟩, .inl rfl, .inl rfl, rfl, trivial⟩) (by show (["k", "spelled"] : List Str).Nodup; decide)) ?_ (fun C => CompP.ofFilter (fun i => natD (1 + i)) (fun i => natD (1 + i)) (fun i => lexB true (sp.getD i []) (sp.getD (i + 1) [])) (fun i hi => ?_) (fun i hi _ => Ex.name rfl)) (fun _ => rfl)
            · rw [← range2_eq]
              refine Itx.range2 (gl_range H rfl) Ex.int (Ex.eq (congrArg natD hspl') (Ex.len (q := ⟨0, 0, 0, 0⟩) H rfl (Ex.name lk0) (by omega) rfl)) (by decide) (by decide) (by omega) (by omega) rfl
            · rw [List.length_map]
              have := List.length_filter_le (fun i => lexB true (sp.getD i []) (sp.getD (i + 1) [])) (List.range (sp.length - 1))
              rw [List.length_range] at this
              exact Nat.le_trans this (by omega)
            · have hi := List.mem_range.mp hi
              have e1 : ((1 + i : Nat) : Int) - 1 = (i : Int) := by omega
              have e2 : ((1 + i : Nat) : Int) = ((i + 1 : Nat) : Int) := by omega
              exact Tr.cmp (Ex.rowAt (k := i) (Ex.name rfl) (Ex.eq (congrArg D.int e1) (Ex.binop (Ex.name rfl) Ex.int op_sub)) (by omega) (by omega) (fun _ _ => rfl)) (Ex.rowAt (k := i + 1) (Ex.name rfl) (Ex.eq (congrArg D.int e2) (Ex.name rfl)) (by omega) (by omega) (fun _ _ => rfl)) op_ltL rfl
          · intro d hd
            obtain ⟨i, _, rfl⟩ := List.mem_map.mp hd
            exact OkD.int
          · have hb : (downs sp).isEmpty = true := by simpa using hb
            refine Bx.last (Sx.ite (b := ((sp.filter fun w => !(turns w).isEmpty).map rowI).isEmpty) (Tr.cmp (a := .list ((sp.filter fun w => !(turns w).isEmpty).map rowI)) (b := .list []) ?_ (Ex.list Exs.nil rfl (show 0 ≤ 1000000 by omega)) (op_eqNil (k := 1) ?_ (by omega)) rfl) (fun hc => ?_) (fun hc => ?_))
            · refine Ex.compC (cap := []) (ds := sp.map rowI) (Itx.of (Ex.name lk0) iterOf_list) ⟨rfl, fun _ _ => rfl, fun _ => rfl, ?_, rfl, rfl, rfl, fun _ _ => trivial, by show (["word"] : List Str).Nodup; decide⟩ ?_ (fun C X => CompP.ofFilter rowI rowI _ (fun w hw => ?_) (fun w hw _ => Ex.name rfl)) (fun _ => rfl)
              · decide
              · rw [List.length_map]
                have := List.length_filter_le (fun w => !(turns w).isEmpty) sp
                omega
              · have hwl := hspl w hw
                have hwl' : (w.map D.int).length = w.length := List.length_map _
                refine Tr.cmp (a := .list ((turns w).map fun i => natD (1 + i))) (b := .list []) ?_ (Ex.list Exs.nil rfl (show 0 ≤ 1000000 by omega)) ?_ rfl
                · refine Ex.comp (cap := [("word", .sh (rowI w))]) (ds := (List.range (w.length - 1)).map fun i => natD (1 + i)) ?_ (compOk rfl (fun C => ⟨⟨_, rfl, rfl⟩, .inl rfl, .inl rfl, rfl, trivial⟩) (by show (["t", "word"] : List Str).Nodup; decide)) ?_ (fun C => CompP.ofFilter (fun i => natD (1 + i)) (fun i => natD (1 + i)) (fun i => lexB false (w.drop (i + 1) ++ w.take (i + 1)) w) (fun i hi => ?_) (fun i hi _ => Ex.name rfl)) (fun _ => rfl)
                  · rw [← range2_eq]
                    exact Itx.range2 (gl_range H rfl) Ex.int (Ex.eq (congrArg natD hwl') (Ex.len (q := ⟨0, 0, 0, 0⟩) H rfl (Ex.name rfl) (by omega) rfl)) (by decide) (by decide) (by omega) (by omega) rfl
                  · rw [List.length_map]
                    have := List.length_filter_le (fun i => lexB false (w.drop (i + 1) ++ w.take (i + 1)) w) (List.range (w.length - 1))
                    rw [List.length_range] at this
                    exact Nat.le_trans this (by omega)
                  · have hi := List.mem_range.mp hi
                    have e1 : pickD (w.map D.int) (some ((1 + i : Nat) : Int)) Option.none Option.none = (w.drop (i + 1)).map D.int := by rw [pick_map, pick_from, Nat.add_comm]
                    have e2 : pickD (w.map D.int) Option.none (some ((1 + i : Nat) : Int)) Option.none = (w.take (i + 1)).map D.int := by rw [pick_map, pick_upto, Nat.add_comm]
                    refine Tr.cmp (a := .list ((w.drop (i + 1) ++ w.take (i + 1)).map D.int)) ?_ (Ex.name rfl) op_leL rfl
                    rw [List.map_append]
                    refine Ex.binop (Ex.eq (congrArg D.list e1) (Ex.sliceL (Ex.name rfl) ⟨_, rfl, Ex.name rfl⟩ rfl rfl (fun q => nomatch q) (by omega))) (Ex.eq (congrArg D.list e2) (Ex.sliceL (Ex.name rfl) rfl ⟨_, rfl, Ex.name rfl⟩ rfl (fun q => nomatch q) (by omega))) (op_addL ?_)
                    rw [List.length_map, List.length_map, List.length_drop, List.length_take]; omega
                · have := op_neNil (W := W) (n := n) (k := 0) (ds := (turns w).map fun i => natD (1 + i)) (fun d hd => by obtain ⟨i, _, rfl⟩ := List.mem_map.mp hd; exact OkD.int) (by omega)
                  rwa [List.isEmpty_map] at this
            · intro d hd
              obtain ⟨w, _, rfl⟩ := List.mem_map.mp hd
              exact okRow w
            · have hc : (sp.filter fun w => !(turns w).isEmpty).isEmpty = true := by rw [List.isEmpty_map] at hc; exact hc
              have hok : cutOk sp = true := by unfold cutOk; rw [hb, hc]; rfl
              refine Bx.mono (Bx.last (Sx.append (lk1 rfl j3) (Ex.name (lk1 rfl j1)) (by rw [List.length_map]; omega) rfl rfl)) ?_
              rintro ρ'' fl ⟨rfl, rfl⟩
              refine fin _ (lk1 rfl (lk1 rfl j2)) (lk0.trans ?_)
              rw [if_pos hok, List.map_append]; rfl
            · have hc : (sp.filter fun w => !(turns w).isEmpty).isEmpty = false := by rw [List.isEmpty_map] at hc; exact hc
              have hok : ¬ cutOk sp = true := by unfold cutOk; rw [hb, hc]; decide
              refine Bx.nil (fin _ (lk1 rfl j2) ?_)
              rw [if_neg hok, List.append_nil]; exact lk1 rfl j3
          · have hb : (downs sp).isEmpty = false := by rw [List.isEmpty_map] at hb; exact hb
            have hok : ¬ cutOk sp = true := by unfold cutOk; rw [hb, Bool.false_and]; exact Bool.false_ne_true
            refine Bx.nil (fin _ (lk1 rfl j2) ?_)
            rw [if_neg hok, List.append_nil]; exact lk1 rfl j3
      · rintro ρ ⟨h1, els, h2, h3, h4⟩
        have h4 : els ++ [] = cutsOf nums := h4
        rw [List.append_nil] at h4
        exact Bx.nil ⟨rfl, h4 ▸ h2⟩
    · rintro ρ' ⟨_, h⟩
      refine Bx.conv (Conv.freeze h) (Bx.ret (Ex.name (lk0.trans ?_)))
      rw [List.map_map]
      rfl
end
end Mine
end

-- G1
section
open PySem PySem.W PyProof.Rows
open PySem.W.X (SegX)
set_option maxRecDepth 100000
namespace Mine
section
variable {prog : Program} {w : World} {A : Around} {c : Code} {fs : List Frame} {P : End → Shared → Prop} {s : Shared} {env : Env}
  {K : Flow → Sem Fin} {H : Value → Sem Fin} {gd : Bool → Bool} {lv : List Value → List Value}

theorem gx_wrap {α : Type} {m : Sem α} {K : α → Sem Fin} {H : Value → Sem Fin} {gd lv}
    (h : wpAny (model prog w) (A.over c fs) m (fun a s' => SegX (model prog w) A c (K a) fs s' P) (fun x s' => SegX (model prog w) A c (H x) fs s' P) s) :
    SegX (model prog w) A c (m.wrap K H gd lv) fs s P := by
  rintro Γ p rfl hΓ
  obtain ⟨e, s', hr, hq⟩ := runs_wrap_of_wp (Φ := fun e s' => e.quiet = true ∧ P e s') K H gd lv m (h (Γ.over fs) p (hΓ.over fs)) (fun a p' s' h' => h' Γ p' rfl hΓ) (fun x p' s' h' => h' Γ p' rfl hΓ)
  exact ⟨e, s', hr, hq⟩
theorem gx_at {p' : Pos} {k : Unit → Sem Fin} (h : SegX (model prog w) A c (k ()) fs s P) : SegX (model prog w) A c (.at p' k) fs s P :=
  gx_wrap (m := standAt p') (K := k) (H := .raise) (gd := id) (lv := id) (wpAny_standAt h)
theorem gx_point {l : List Value} {k : Unit → Sem Fin} (h : SegX (model prog w) A c (k ()) fs s P) : SegX (model prog w) A c (.point l k) fs s P :=
  gx_wrap (m := point) (K := k) (H := .raise) (gd := id) (lv := fun _ => l) (wpAny_point h)
theorem gx_cons {st : Stmt} {rest : List Stmt}
    (h : SegX (model prog w) A c ((exec st env).wrap (fun f => match f with | .next => (execs rest env).wrap K H gd lv | f => K f) H gd lv) fs s P) :
    SegX (model prog w) A c ((execs (st :: rest) env).wrap K H gd lv) fs s P := by rw [execs_cons_wrap]; exact h
theorem gx_nil (h : SegX (model prog w) A c (K .next) fs s P) : SegX (model prog w) A c ((execs [] env).wrap K H gd lv) fs s P := h
theorem gx_if {test : Expr} {body orelse : List Stmt} {pos : Pos}
    (h : wpAny (model prog w) (A.over c fs) (isTrue test env (eval test env)) (fun b s' => if b = true then SegX (model prog w) A c ((execs body env).wrap K H gd lv) fs s' P else SegX (model prog w) A c ((execs orelse env).wrap K H gd lv) fs s' P)
      (fun x s' => SegX (model prog w) A c (H x) fs s' P) s) :
    SegX (model prog w) A c ((exec (.If test body orelse pos) env).wrap K H gd lv) fs s P := by
  show SegX _ A c (.at pos fun _ => (isTrue test env (eval test env) >>= fun b => if b = true then execs body env else execs orelse env).wrap K H gd lv) fs s P
  refine gx_at ?_
  rw [Sem.bind_eq_wrap', Sem.wrap_wrap]
  refine gx_wrap (wpAny_mono h (fun b s' hb => ?_) fun _ _ x => x)
  cases b with
  | true => rw [if_pos rfl] at hb; show SegX _ A c (Sem.wrap _ _ _ _ (if true = true then _ else _)) fs s' P; rw [if_pos rfl]; exact hb
  | false => rw [if_neg Bool.false_ne_true] at hb; show SegX _ A c (Sem.wrap _ _ _ _ (if false = true then _ else _)) fs s' P; rw [if_neg Bool.false_ne_true]; exact hb
/-- what a suspended generator goes on with -/
noncomputable def GoesOn (M : Model) (c : Code) (fs : List Frame) (k : Resume → Sem Fin) (t : Sem Fin) : Prop := ∀ (A : Around) (s : Shared) (P : End → Shared → Prop), SegX M A c t fs s P → SegX M A c (k (.send .none)) fs s P
theorem gx_yield {e : Expr} {ypos pos : Pos} (hfs : splitAtGen fs = none) (hgd : gd false = false) (hfg : fs.any Frame.guarded = false)
    (h : wpAny (model prog w) (A.over c fs) (eval e env) (fun v s' => ∀ k l p, GoesOn (model prog w) c fs k (K .next) → P (.susp v false l k c p fs) s')
      (fun x s' => SegX (model prog w) A c (H x) fs s' P) s) (hco : env.scope.isCoroutine = false) (hi : interactive env = false) :
    SegX (model prog w) A c ((exec (.Expr (.Yield (some e) ypos) pos) env).wrap K H gd lv) fs s P := by
  rw [exec_Expr env _ pos hi rfl]
  show SegX _ A c (.at pos fun _ => ((eval e env >>= fun v => (standAt ypos >>= fun _ => yieldOut env v)) >>= fun x =>
    dropValue (.Yield (some e) ypos) pos x).wrap K H gd lv) fs s P
  have hy : ∀ v, yieldOut env v = yieldValue v := fun v => by simp only [yieldOut, hco, Bool.false_eq_true, if_false]
  simp only [hy]
  refine gx_at ?_
  rw [Sem.bind_eq_wrap', Sem.bind_eq_wrap', Sem.wrap_wrap, Sem.wrap_wrap]
  refine gx_wrap (wpAny_mono h (fun v s' h' => ?_) fun _ _ x => x)
  refine gx_at ?_
  rintro Γ p rfl hΓ
  refine ⟨_, s', Runs.yield' fs hfs, ?_, ?_⟩
  · show End.quiet (.susp v (gd false) _ _ _ _ fs) = true
    rw [hgd]
    simp [End.quiet, hfg]
  · show P (.susp v (gd false) _ _ Γ.code p fs) s'
    rw [hgd]
    exact h' _ _ p fun A' s'' P' hx => hx

/-- a for loop within a generator -/
theorem gx_for {target iter : Expr} {body orelse : List Stmt} {pos : Pos}
    (h : wpAny (model prog w) (A.over c fs) (eval iter env) (fun x s₁ => wpAny (model prog w) (A.over c fs) (pyIter x) (fun it s₂ => ∀ p,
        SegX (model prog w) A (.forLoop target it body orelse env) (denote table (.forLoop target it body orelse env))
          (.ret (fun r => ((match r with | .ok f => (.pure f : Sem Flow) | .error e => .raise e).onRaise fun (x : Value) => do
            if (← field x 1) == Value.none then unsupported "frame.own-activation:exception-without-traceback"
            setFlight x env.frame).wrap K H gd lv) Option.none (gd false) (lv []) c p [] :: fs) s₂ P) (fun x s' => SegX (model prog w) A c (H x) fs s' P) s₁) (fun x s' => SegX (model prog w) A c (H x) fs s' P) s)
    (hs : ∀ x, foldedSetIterable iter env x = pure x) :
    SegX (model prog w) A c ((exec (.For target iter body orelse pos) env).wrap K H gd lv) fs s P := by
  rw [arm_exec_For]
  rw [Sem.bind_eq_wrap', Sem.wrap_wrap]
  refine gx_wrap (wpAny_standAt ?_)
  rw [Sem.bind_eq_wrap', Sem.wrap_wrap]
  refine gx_wrap (wpAny_mono h (fun x s₁ h₁ => ?_) fun _ _ x => x)
  rw [hs x]
  show SegX _ A c (Sem.wrap K H gd lv (do standAt iter.pos; let it ← holding [x] (pyIter x); runOwn (.forLoop target it body orelse env) env)) fs s₁ P
  rw [Sem.bind_eq_wrap', Sem.wrap_wrap]
  refine gx_wrap (wpAny_standAt ?_)
  rw [Sem.bind_eq_wrap', Sem.wrap_wrap]
  refine gx_wrap (wpAny_holding (wpAny_mono h₁ (fun it s₂ h₂ => ?_) fun _ _ x => x))
  exact PySem.W.X.s_call prog w A c fs P s₂ _ _ _ _ _ h₂
theorem gx_forLoop {target : Expr} {it : Value} {body orelse : List Stmt}
    (h : wpAny (model prog w) (A.over (.forLoop target it body orelse env) fs) (pyNext it) (fun r s₁ => match r with
        | Option.none => SegX (model prog w) A (.block orelse env) (denote table (.block orelse env)) fs s₁ P
        | some v => wpAny (model prog w) (A.over (.forLoop target it body orelse env) fs) (letOwnedTupleGo target it v) (fun _ s₂ => wpAny (model prog w) (A.over (.forLoop target it body orelse env) fs) (PySem.assign target env v) (fun _ s₃ =>
            SegX (model prog w) A (.forLoop target it body orelse env) ((execs body env).wrap (fun f => match f with
              | .next | .cont => .pure (.again (.forLoop target it body orelse env))
              | .brk => .pure (.done .next)
              | .ret v => .pure (.done (.ret v))) (fun e => (do noteFrame e env; theTreesLotGoes e : Sem Unit).wrap (fun _ => .raise e) .raise id id) id id) fs s₃ P) (fun _ _ => False) s₂) (fun _ _ => False) s₁) (fun _ _ => False) s) (hq : (Code.block orelse env).quiet = true) :
    SegX (model prog w) A (.forLoop target it body orelse env) (denote table (.forLoop target it body orelse env)) fs s P := by
  show SegX _ A _ ((forTurn target it body orelse env).onRaise (fun x => do noteFrame x env; theTreesLotGoes x)) fs s P
  unfold forTurn
  rw [Sem.onRaise_eq_wrap, Sem.bind_eq_wrap', Sem.wrap_wrap]
  refine gx_wrap (wpAny_standAt ?_)
  rw [Sem.bind_eq_wrap', Sem.wrap_wrap]
  refine gx_wrap (wpAny_onRaise (wpAny_mono h (fun r s₁ h₁ => ?_) fun _ _ x => x.elim))
  cases r with
  | none => exact PySem.W.X.s_again prog w A _ fs P s₁ _ hq h₁
  | some v =>
    show SegX _ A _ (Sem.wrap _ _ _ _ (letOwnedTupleGo target it v >>= _)) fs s₁ P
    rw [Sem.bind_eq_wrap', Sem.wrap_wrap]
    refine gx_wrap (wpAny_mono h₁ (fun _ s₂ h₂ => ?_) fun _ _ x => x.elim)
    rw [Sem.bind_eq_wrap', Sem.wrap_wrap]
    refine gx_wrap (wpAny_mono h₂ (fun _ s₃ h₃ => ?_) fun _ _ x => x.elim)
    rw [Sem.bind_eq_wrap', Sem.wrap_wrap]
    rw [Sem.wrap_congr (execs body env) _ _ (K' := fun f => match f with
              | .next | .cont => .pure (.again (.forLoop target it body orelse env))
              | .brk => .pure (.done .next)
              | .ret v => .pure (.done (.ret v))) (H' := (fun e => (do noteFrame e env; theTreesLotGoes e : Sem Unit).wrap (fun _ => .raise e) .raise id id))
        (fun f => by cases f <;> rfl)
        (fun e => by first | exact Sem.bind_eq_wrap _ _ | (show (do noteFrame e env; theTreesLotGoes e : Sem Unit).bind (fun _ => .raise e) = _; rw [Sem.bind_eq_wrap]))]
    exact h₃
theorem gx_func {body : List Stmt}
    (h : SegX (model prog w) A (.func body env) ((execs body env).wrap (fun f => .pure (.done (.ret (match f with | .ret v => v | _ => .none))))
      (fun e => (leaving env e).wrap (fun _ => .raise e) .raise id id) id id) fs s P) :
    SegX (model prog w) A (.func body env) (denote table (.func body env)) fs s P := by
  show SegX _ A _ (.point [] fun _ => ((execs body env).onRaise (leaving env)) >>= _) fs s P
  refine gx_point ?_
  rw [Sem.onRaise_eq_wrap, Sem.bind_eq_wrap', Sem.wrap_wrap]
  rw [Sem.wrap_congr (execs body env) _ _ (K' := fun f => .pure (.done (.ret (match f with | .ret v => v | _ => .none))))
    (H' := fun e => (leaving env e).wrap (fun _ => .raise e) .raise id id) (fun f => by cases f <;> rfl)
    (fun e => by rw [Sem.bind_eq_wrap, Sem.wrap_wrap]; rfl)]
  exact h
theorem gx_while {test : Expr} {body orelse : List Stmt} {pos : Pos}
    (h : ∀ p, SegX (model prog w) A (.whileLoop test body orelse env) (denote table (.whileLoop test body orelse env))
      (.ret (fun r => ((match r with | .ok f => (.pure f : Sem Flow) | .error e => .raise e).onRaise fun (x : Value) => do
        if (← field x 1) == Value.none then unsupported "frame.own-activation:exception-without-traceback"
        setFlight x env.frame).wrap K H gd lv) Option.none (gd false) (lv []) c p [] :: fs) s P) :
    SegX (model prog w) A c ((exec (.While test body orelse pos) env).wrap K H gd lv) fs s P := by
  rw [arm_exec_While, Sem.bind_eq_wrap', Sem.wrap_wrap]
  refine gx_wrap (wpAny_standAt ?_)
  exact PySem.W.X.s_call prog w A c fs P s _ _ _ _ _ h
theorem gx_whileLoop {test : Expr} {body orelse : List Stmt}
    (h : wpAny (model prog w) (A.over (.whileLoop test body orelse env) fs) (isTrue test env (eval test env)) (fun b s' =>
        if b = true then
          SegX (model prog w) A (.whileLoop test body orelse env) ((execs body env).wrap (fun f => match f with
            | .next | .cont => .pure (.again (.whileLoop test body orelse env))
            | .brk => .pure (.done .next)
            | .ret v => .pure (.done (.ret v))) (fun e => (do noteFrame e env; theTreesLotGoes e : Sem Unit).wrap (fun _ => .raise e) .raise id id) id id) fs s' P
        else SegX (model prog w) A (.whileLoop test body orelse env) ((execs orelse env).wrap (fun f => .pure (.done f)) (fun e => (do noteFrame e env; theTreesLotGoes e : Sem Unit).wrap (fun _ => .raise e) .raise id id) id id) fs s' P)
      (fun _ _ => False) s) :
    SegX (model prog w) A (.whileLoop test body orelse env) (denote table (.whileLoop test body orelse env)) fs s P := by
  show SegX _ A _ ((whileTurn test body orelse env).onRaise (fun x => do noteFrame x env; theTreesLotGoes x)) fs s P
  unfold whileTurn
  rw [Sem.onRaise_eq_wrap, Sem.bind_eq_wrap', Sem.wrap_wrap]
  refine gx_wrap (wpAny_mono h (fun b s' hb => ?_) fun x s' hx => hx.elim)
  cases b with
  | true =>
    rw [if_pos rfl] at hb
    show SegX _ A _ (Sem.wrap _ _ _ _ (if true = true then _ else _)) fs s' P
    rw [if_pos rfl, Sem.bind_eq_wrap', Sem.wrap_wrap]
    rw [Sem.wrap_congr (execs body env) _ _ (K' := fun f => match f with
          | .next | .cont => .pure (.again (.whileLoop test body orelse env))
          | .brk => .pure (.done .next)
          | .ret v => .pure (.done (.ret v))) (H' := (fun e => (do noteFrame e env; theTreesLotGoes e : Sem Unit).wrap (fun _ => .raise e) .raise id id))
      (fun f => by cases f <;> rfl)
      (fun e => by first | exact Sem.bind_eq_wrap _ _ | (show (do noteFrame e env; theTreesLotGoes e : Sem Unit).bind (fun _ => .raise e) = _; rw [Sem.bind_eq_wrap]))]
    exact hb
  | false =>
    rw [if_neg Bool.false_ne_true] at hb
    show SegX _ A _ (Sem.wrap _ _ _ _ (if false = true then _ else _)) fs s' P
    rw [if_neg Bool.false_ne_true, Sem.bind_eq_wrap', Sem.wrap_wrap]
    rw [Sem.wrap_congr (execs orelse env) _ _ (K' := fun f => (.pure (.done f) : Sem Fin)) (H' := (fun e => (do noteFrame e env; theTreesLotGoes e : Sem Unit).wrap (fun _ => .raise e) .raise id id))
      (fun f => by rfl)
      (fun e => by first | exact Sem.bind_eq_wrap _ _ | (show (do noteFrame e env; theTreesLotGoes e : Sem Unit).bind (fun _ => .raise e) = _; rw [Sem.bind_eq_wrap]))]
    exact hb
end
end Mine
end

-- G2
section
open PySem PySem.W PyProof.Rows
open PySem.W.X (SegX)
set_option maxRecDepth 100000
namespace Mine
section
variable {prog : Program} {w : World} {A : Around} {E : Value → Shared → Prop} {s : Shared}
/-- what is to be shown of a turn of a generator -/
noncomputable def TurnEnd (prog : Program) (w : World) (A : Around) (a : Addr) (g : Nat) (Q : Option Value → Shared → Prop) (E : Value → Shared → Prop) (e : End) (s₁ : Shared) : Prop :=
  match e with
  | .ret (.ok f) => f = .ret .none ∧ ∀ h', (∀ b o, s₁.heap.get? b = some o → h'.get? b = some o) → Q Option.none { s₁.setGen g .finished with heap := h' }
  | .ret (.error x) => wpAny (model prog w) A.in1 (Builtin.Generator.genLeft (α := Fin) (.ref a) x) (fun _ _ => False) (fun x' s' => s'.TypeIs x' "ValueError" ∧ E x' s') (s₁.setGen g .finished)
  | .susp v gd l k c p fs => Q (some v) (s₁.setGen g (End.susp v gd l k c p fs).genState)
theorem next_gx {a : Addr} {g : Nat} {gs : GenState} {c₀ : Code} {t₀ : Sem Fin} {fs₀ : List Frame} {Q : Option Value → Shared → Prop} (hh : A.handled = Option.none) (hl : s.heap.NoLimit) (hroom : A.depth < recursionLimit)
    (hg : s.heap.IsGen a g) (hgs : s.gens[g]? = some gs) (hst : (gs = .fresh c₀ ∧ t₀ = denote table c₀ ∧ fs₀ = []) ∨ (∃ k₀ l₀ p₀ cl, gs = .suspended k₀ l₀ c₀ p₀ fs₀ cl ∧ t₀ = k₀ (.send .none)))
    (h : SegX (model prog w) A.in1 c₀ t₀ fs₀ (s.setGen g .running) (TurnEnd prog w A a g Q E)) : wpAny (model prog w) A (pyNext (.ref a)) Q E s := by
  unfold pyNext
  refine wpAny_bind (wpAny_attempt (wpAny_callSpecial?_slot (name := Str.ofString "__next__") hg.typeIs slot_gen_next
    (wpAny_call_entry slot_gen_next hg.typeIs entry_gen_next ?_ (args_gen_next _))))
  show wpAny _ _ (Builtin.Generator.genWake (.ref a) (.send .none)) _ _ s
  unfold Builtin.Generator.genWake
  refine wpAny_bind (wpAny_holding (wpAny_genNumber hg (wpAny_bind (wpAny_genState hgs ?_))))
  have main : ∀ {α : Type} {k : GenResult → Sem α} {Q' : α → Shared → Prop} {E' : Value → Shared → Prop},
      SegX (model prog w) A.in1 c₀ t₀ fs₀ (s.setGen g .running) (fun e s₁ => wpAny (model prog w) A.in1 (k e.result) Q' E' (s₁.setGen g e.genState)) →
      wpAny (model prog w) A.in1 (.resume g (.send .none) [] k) Q' E' s := fun {α k Q' E'} hx Γ p hΓ =>
    PySem.W.X.wake_any α prog w hgs (hst.imp (fun x => ⟨x.1, rfl, x.2⟩) id) (fun Γ => Γ.In A.in1) (fun _ x => x) (hx.mono fun e s₁ y Γ p hC => y Γ p hC) Γ p hΓ
  have body : wpAny (model prog w) A.in1 (do
      match ← resume g (.send .none) with
      | .yielded v => ret v
      | .returned v =>
        if v == .none then raiseNew (← newExc (.type "StopIteration") [])
        rule "generator.return-value"; throw (← newExc (.type "StopIteration") [v])
      | .raised e => Builtin.Generator.genLeft (α := Fin) (.ref a) e
      | .running => rule "generator.already-executing"; raiseError "ValueError" "generator already executing"
      | .justStarted => rule "generator.send-to-fresh"; raiseError "TypeError" "can't send non-None value to a just-started generator"
      | .finished => raiseNew (← newExc (.type "StopIteration") [])) (fun fin s' => ∃ v, fin = .done (.ret v) ∧ Q (some v) s') (fun e s' => wpAny (model prog w) A (do if ← isInstance e (.type "StopIteration") then pure Option.none else throw e) Q E s') s := by
    refine main (h.mono fun e s₁ he => ?_)
    cases e with
    | ret r =>
      cases r with
      | ok f =>
        obtain ⟨rfl, hq⟩ := he
        show wpAny _ _ (newExc (.type "StopIteration") [] >>= _) _ _ _
        refine wpAny_bind ?_
        simp only [newExc, newTuple]
        refine wpAny_bind (wpAny_newObj_type ?_ (by size_fits))
        refine wpAny_bind (m := firstArgMember _ _) (wpAny_of_eq (a := Value.none) (by first | rfl | (simp only [firstArgMember]; rfl)) ?_)
        refine wpAny_newObj_type ?_ (by size_fits)
        simp only [raiseNew]
        refine wpAny_bind (wpAny_bind (wpAny_handled ?_))
        rw [show A.in1.handled = none from hh]
        refine wpAny_throw ?_
        refine wpAny_bind (wpAny_isInstance (T := "StopIteration") (b := true) ⟨_, Heap.get?_push_size _ rfl, rfl⟩ isSubtype_stop ?_)
        exact wpAny_pure (hq _ fun b o hb => Heap.get?_push_of_some _ (Heap.get?_push_of_some _ hb))
      | error x =>
        show wpAny _ _ (Builtin.Generator.genLeft (α := Fin) (.ref a) x) _ _ _
        refine wpAny_mono he (fun _ _ f => f.elim) fun x' s' hx => ?_
        refine wpAny_bind (wpAny_isInstance (b := false) hx.1 (by rw [isSubtype_type]; kernel_rfl) ?_)
        exact wpAny_throw hx.2
    | susp v gd l k c p fs => exact wpAny_pure ⟨v, rfl, he⟩
  rcases hst with ⟨rfl, _, _⟩ | ⟨_, _, _, _, rfl, _⟩
  · refine wpAny_bind (wpAny_roomToWake hl hroom ?_)
    refine wpAny_mono body (fun fin s' hq => ?_) fun _ _ x => x
    obtain ⟨v, rfl, hq⟩ := hq
    exact ⟨v, rfl, wpAny_pure hq⟩
  · refine wpAny_bind (wpAny_roomToWake hl hroom ?_)
    refine wpAny_mono body (fun fin s' hq => ?_) fun _ _ x => x
    obtain ⟨v, rfl, hq⟩ := hq
    exact ⟨v, rfl, wpAny_pure hq⟩
end
end Mine
end

-- G3
section
open PySem PySem.W PyProof.Rows
open PySem.W.X (SegX)
set_option maxRecDepth 100000
namespace Mine
section
variable {W : Wd} {n m : Nat} {A : Around} {E : Value → Shared → Prop} {s : Shared}
noncomputable abbrev envG (L : Addr) : Env := callEnvC f_group.1.1 L 42
theorem St.push {env : Env} {B : Heap} {G fp : List Addr} {ρ : Rho} {o : Obj} {gs : Array GenState} {tk : Nat} (S : St W env B G fp s ρ) : St W env B G fp { s with heap := s.heap.push o, gens := gs, toks := tk } ρ := by
  have S' : St W env B G fp { s with heap := s.heap.push o } ρ := S.ext Ext.push
  exact ⟨S'.gl, S'.keep, S'.kind, S'.eg, S'.eb, S'.frame, S'.names, S'.fpn, S'.fpB, S'.fpG, S'.GB, S'.freshL, S'.freshC, S'.apart⟩
theorem gen_make (H : Ok W) {ns : List Int} {v : Value} {V : List Addr} {B : Heap} {Q : Value → Shared → Prop} (hB : Gl W B) (hBs : ∀ b o, B.get? b = some o → s.heap.get? b = some o) (hA : AOk (n + 1) A) (rv : Rd s.heap V (.list (ns.map .int)) v) (hV : VOk W s.heap V)
    (hQ : ∀ a L s', s'.heap.IsGen a s.gens.size → s'.gens = s.gens.push (.fresh (.func f_group.1.2 (envG L))) → St W (envG L) B V [] s' [("grouping", .sh (.list (ns.map .int)))] → (∀ b o, s.heap.get? b = some o → s'.heap.get? b = some o) → s'.os = s.os →
      s.heap.get? L = Option.none → s.heap.get? a = Option.none → a ≠ L → Q (.ref a) s') : wpAny W.M A (call (.ref 42) [v]) Q E s := by
  have hg : Gl W s.heap := hB.keeps hBs
  have hA' := hA.dp
  have ho : s.heap.get? 42 = some { cls := .type "function", data := .func f_group.1.1 } := hg.k 42 _ (by rw [H.k]; exact f_group.2.1 _)
  refine wpAny_call (codeAny_call_generator (by show A.depth < 1000; omega) ho rfl rfl rfl f_group.2.2 (codeRec_of hg.k (by rw [H.k]; rfl)) ?_)
  refine wpAny_of_eq (a := [((("grouping" : Str)), v)]) rfl ?_
  rw [show f_group.1.1.closure = [] from rfl]
  refine wpAny_newFunctionEnv_cells (show f_group.1.1.scope.kind = .function from rfl) (fun x hx => .inl ?_) fun env he s₁ x => ?_
  · rw [List.mem_singleton.mp hx]; rfl
  subst he
  have hgen : s.gens = s₁.gens := by obtain ⟨h₁, tk, rfl⟩ := x.toInCall.same; rfl
  have hos : s.os = s₁.os := by obtain ⟨h₁, tk, rfl⟩ := x.toInCall.same; rfl
  have hL : s.heap.get? s.heap.objs.size = Option.none := new_none _
  have S₁ : St W (envG s.heap.objs.size) B V [] s₁ [("grouping", .sh (.list (ns.map .int)))] := by
    refine ⟨hB, fun b o e => x.toInCall.keep b o (hBs b o e), rfl, rfl, rfl, ⟨_, _, x.toInCall.ns, x.cell, ?_⟩, (by show (["grouping"] : List Str).Nodup; decide), .nil, (fun _ h => nomatch h), (fun _ h => nomatch h), (fun a ha => let ⟨⟨o, ho⟩, hk'⟩ := hV a ha; ⟨⟨o, x.toInCall.keep a o ho⟩, hk'⟩), ?_, (fun k c _ hk hc => ?_), fun k k' c hc hc' => ?_⟩
    · exact ⟨v, [], [], rfl, ⟨Rd.mono (fun b o xs k ho _ hn => ⟨x.toInCall.keep b o ho, by simpa using hn⟩) _ _ rv, rfl⟩, rfl, rfl⟩
    · cases q : B.get? (envG s.heap.objs.size).locals with
      | none => rfl
      | some o => have := hBs _ o q; rw [show (envG s.heap.objs.size).locals = s.heap.objs.size from rfl, hL] at this; cases this
    · cases hc
    · cases hc
  refine ⟨hg.nl.keeps x.toInCall.keep, ?_⟩
  have hsz : s.heap.objs.size < s₁.heap.objs.size := by
    obtain ⟨oL, _, _, hoL, _⟩ := x.toInCall.ns
    exact Heap.lt_size hoL
  rw [hgen] at hQ
  show Q (.ref s₁.heap.objs.size) _
  refine hQ s₁.heap.objs.size s.heap.objs.size _ ⟨_, _, _, Heap.get?_push_size _ rfl, rfl, rfl, rfl⟩ rfl S₁.push (fun b o e => Heap.get?_push_of_some _ (x.toInCall.keep b o e)) hos.symm hL ?_ (Nat.ne_of_gt hsz)
  cases q : s.heap.get? s₁.heap.objs.size with
  | none => rfl
  | some o => exact absurd (Heap.lt_size q) (Nat.not_lt.mpr (Nat.le_of_lt hsz))
end
end Mine
end

-- G4
section
open PySem PySem.W PyProof.Rows
open PySem.W.X (SegX)
set_option maxRecDepth 100000
namespace Mine
noncomputable def gP : { q : Stmt × Expr × Expr × List Stmt × Pos // f_group.1.2 = [q.1, .For q.2.1 q.2.2.1 q.2.2.2.1 [] q.2.2.2.2] } := ⟨(_, _, _, _, _), rfl⟩
noncomputable def gT : Expr := gP.1.2.1
noncomputable def gB : List Stmt := gP.1.2.2.2.1
noncomputable def gQ : { q : Stmt × Stmt × Stmt × Stmt // gB = [q.1, q.2.1, q.2.2.1, q.2.2.2] } := ⟨(_, _, _, _), rfl⟩
noncomputable def gLast : Stmt := gQ.1.2.2.2
noncomputable def gR : { q : Expr × Stmt × Expr × List Stmt × Pos × Pos // gQ.1.2.1 = .If q.1 [q.2.1, .While q.2.2.1 q.2.2.2.1 [] q.2.2.2.2.1] [] q.2.2.2.2.2 } := ⟨(_, _, _, _, _, _), rfl⟩
noncomputable def gWT : Expr := gR.1.2.2.1
noncomputable def gWB : List Stmt := gR.1.2.2.2.1
noncomputable abbrev forC (L it : Addr) : Code := .forLoop gT (.ref it) gB [] (envG L)
noncomputable abbrev whiC (L : Addr) : Code := .whileLoop gWT gWB [] (envG L)
noncomputable def valOf (f : Flow) : Value := match f with | .ret v => v | _ => .none
noncomputable def kFunc (f : Flow) : Sem Fin := .pure (.done (.ret (match f with | .ret v => v | _ => .none)))
noncomputable def hFunc (env : Env) (e : Value) : Sem Fin := (leaving env e).wrap (fun _ => .raise e) .raise id id
noncomputable def kLoop (L it : Addr) (f : Flow) : Sem Fin := match f with
  | .next | .cont => .pure (.again (forC L it))
  | .brk => .pure (.done .next)
  | .ret v => .pure (.done (.ret v))
noncomputable def hLoop (env : Env) (e : Value) : Sem Fin := (do noteFrame e env; theTreesLotGoes e : Sem Unit).wrap (fun _ => .raise e) .raise id id
noncomputable def onBack (env : Env) (K : Flow → Sem Fin) (H : Value → Sem Fin) (r : Result) : Sem Fin :=
  ((match r with | .ok f => (.pure f : Sem Flow) | .error e => .raise e).onRaise fun (x : Value) => do
    if (← field x 1) == Value.none then unsupported "frame.own-activation:exception-without-traceback"
    setFlight x env.frame).wrap K H id id
/-- the generator's own stack in its for loop -/
noncomputable def fs1 (L : Addr) (p : Pos) : List Frame := [.ret (onBack (envG L) (fun f => match f with | .next => (execs [] (envG L)).wrap kFunc (hFunc (envG L)) id id | f => kFunc f) (hFunc (envG L))) Option.none false [] (.func f_group.1.2 (envG L)) p []]
section
variable {W : Wd} {n m : Nat} {A : Around} {E : Value → Shared → Prop} {s : Shared} {L it : Addr} {p : Pos} {P : End → Shared → Prop} {c : Code}
theorem pop1 {f : Flow} {t : Sem Fin} (ht : t = leafOf (.ok f)) (h : P (.ret (.ok (.ret (valOf f)))) s) : SegX W.M A c t (fs1 L p) s P := by
  refine PySem.W.X.s_pop W.prog W.w A c [] P s (.ok f) t ht _ _ _ _ _ _ _ ?_
  refine PySem.W.X.s_end W.prog W.w A _ P s (.ok (.ret (valOf f))) _ ?_ h
  cases f <;> rfl
theorem fs1_ok : splitAtGen (fs1 L p) = Option.none ∧ (fs1 L p).any Frame.guarded = false := ⟨rfl, rfl⟩
theorem AOk.over1 (hA : AOk (n + 2) A) : AOk n (A.in1.over (forC L it) (fs1 L p)) := by
  refine ⟨hA.hd, ?_, ?_⟩
  · have := hA.dp
    show A.depth + 1 + 0 + n ≤ 900
    omega
  · have := hA.un
    have e : (A.in1.over (forC L it) (fs1 L p)).units = A.in1.units + unitsOf ((fs1 L p).map Frame.where_) + (forC L it).cUnits := rfl
    have e2 : unitsOf ((fs1 L p).map Frame.where_) = 3 := rfl
    have e3 : (forC L it).cUnits = 0 := rfl
    have e4 : A.in1.units ≤ A.units + 5 := by show _ ≤ _; simp
    omega
end
end Mine
end

-- G5
section
open PySem PySem.W PyProof.Rows
open PySem.W.X (SegX)
set_option maxRecDepth 100000
namespace Mine
/-- what a turn of the generator leaves -/
structure GExt (ch : List Addr) (s s' : Shared) : Prop where
  keep : ∀ b o, b ∉ ch → s.heap.get? b = some o → s'.heap.get? b = some o
  os : s'.os = s.os
  gens : ∃ more : Array GenState, s'.gens = s.gens ++ more ∧ ∀ y ∈ more, y.bare = true
theorem GExt.refl (ch : List Addr) (s : Shared) : GExt ch s s := ⟨fun _ _ _ e => e, rfl, #[], by simp, fun _ h => by simp at h⟩
theorem GExt.trans {ch : List Addr} {a b c : Shared} (x : GExt ch a b) (y : GExt ch b c) : GExt ch a c := by
  obtain ⟨m1, e1, b1⟩ := x.gens
  obtain ⟨m2, e2, b2⟩ := y.gens
  refine ⟨fun b o hb e => y.keep b o hb (x.keep b o hb e), y.os.trans x.os, m1 ++ m2, by rw [e2, e1, Array.append_assoc], fun g hg => ?_⟩
  rcases Array.mem_append.mp hg with h | h
  · exact b1 g h
  · exact b2 g h
theorem Ext.gext {ch : List Addr} {s s' : Shared} (x : Ext s s') : GExt ch s s' := ⟨fun b o _ e => x.keep b o e, x.os, x.gens⟩
section
variable {W : Wd} {n m : Nat} {A : Around} {E : Value → Shared → Prop} {s s' : Shared} {L it : Addr} {p : Pos} {P : End → Shared → Prop} {c : Code} {B : Heap} {V : List Addr} {ρ : Rho}
theorem SExt.gext {fp' : List Addr} (x : SExt (envG L) [] s fp' s') : GExt [L, it] s s' := by
  refine ⟨fun b o hb e => x.keep b o e fun hq => ?_, x.os, x.gens⟩
  rcases hq with h | ⟨_, k, hk, hc⟩ | h
  · exact hb (by rw [h]; exact .head _)
  · cases hc
  · cases h
theorem IExt.gext (x : IExt [it] s s') : GExt [L, it] s s' := ⟨fun b o hb e => x.keep b o (fun h => hb (.tail _ h)) e, x.os, #[], by rw [x.gens]; simp, fun _ h => by simp at h⟩
noncomputable def AllSh (ρ : Rho) : Prop := ∀ p ∈ ρ, ∃ d, p.2 = .sh d
theorem AllSh.put {x : Str} {d : D} : ∀ {ρ : Rho}, AllSh ρ → AllSh (put ρ x (.sh d))
  | [], _, p, hp => by rw [List.mem_singleton.mp hp]; exact ⟨d, rfl⟩
  | (y, b) :: r, h, p, hp => by
    unfold Mine.put at hp
    split at hp
    · rcases List.mem_cons.mp hp with rfl | hp
      · exact ⟨d, rfl⟩
      · exact h p (.tail _ hp)
    · rcases List.mem_cons.mp hp with rfl | hp
      · exact h _ (.head _)
      · exact AllSh.put (fun q hq => h q (.tail _ hq)) p hp
theorem EnvOk.shNil {look : Str → Option Value} {h : Heap} {V : List Addr} : ∀ {ρ : Rho} {fp : List Addr}, AllSh ρ → EnvOk look h V ρ fp → fp = []
  | [], _, _, x => x
  | (y, b) :: r, _, hs, x => by
    obtain ⟨v, f1, f2, h1, h2, h3, rfl⟩ := x
    obtain ⟨d, hd⟩ := hs _ (.head _)
    have hd : b = .sh d := hd
    subst hd
    rw [h2.2, EnvOk.shNil (fun q hq => hs q (.tail _ hq)) h3]; rfl
theorem St.fpNil {env : Env} {G fp : List Addr} (S : St W env B G fp s ρ) (h : AllSh ρ) : fp = [] := by
  obtain ⟨m, cm, _, _, hE⟩ := S.frame
  exact EnvOk.shNil h hE
/-- the stack in the loop that never ends -/
noncomputable def fs2 (L it : Addr) (K : Flow → Sem Fin) (p2 p : Pos) : List Frame := .ret (onBack (envG L) K (hLoop (envG L))) Option.none false [] (forC L it) p2 [] :: fs1 L p
theorem fs2_ok {K : Flow → Sem Fin} {p2 : Pos} : splitAtGen (fs2 L it K p2 p) = Option.none ∧ (fs2 L it K p2 p).any Frame.guarded = false := ⟨rfl, rfl⟩
theorem AOk.over2 {K : Flow → Sem Fin} {p2 : Pos} (hA : AOk (n + 2) A) : AOk n (A.in1.over (whiC L) (fs2 L it K p2 p)) := by
  refine ⟨hA.hd, ?_, ?_⟩
  · have := hA.dp
    show A.depth + 1 + 0 + n ≤ 900
    omega
  · have := hA.un
    have e : (A.in1.over (whiC L) (fs2 L it K p2 p)).units = A.in1.units + unitsOf ((fs2 L it K p2 p).map Frame.where_) + (whiC L).cUnits := rfl
    have e2 : unitsOf ((fs2 L it K p2 p).map Frame.where_) = 3 := rfl
    have e3 : (whiC L).cUnits = 0 := rfl
    have e4 : A.in1.units ≤ A.units + 5 := by show _ ≤ _; simp
    omega
/-- the loop that never ends: the same once more -/
theorem rep_turn {y : Int} {K : Flow → Sem Fin} {p2 : Pos} (S : St W (envG L) B V [] s ρ) (hl : lk ρ "last_interval" = some (.sh (.int y))) (hA : AOk (n + 2) A)
    (h : ∀ s' t k l q, St W (envG L) B V [] s' ρ → Ext s s' → GoesOn W.M (whiC L) (fs2 L it K p2 p) k (.pure (.again (whiC L))) → P (.susp (.int y t) false l k (whiC L) q (fs2 L it K p2 p)) s') :
    SegX W.M A.in1 (whiC L) (denote table (whiC L)) (fs2 L it K p2 p) s P := by
  refine gx_whileLoop ((Tr.plain (b := true) Ex.boolC rfl : Tr W n (envG L) ρ gWT true).r B V [] s _ _ _ S hA.over2 fun s₁ e₁ => ?_)
  rw [if_pos rfl]
  refine gx_cons (gx_yield fs2_ok.1 rfl fs2_ok.2 ((Ex.name hl : Ex W n (envG L) ρ _ (.int y)).r B V [] s₁ _ _ _ (S.ext e₁) hA.over2 fun v s₂ rv e₂ => ?_) rfl rfl)
  intro k l q hk
  obtain ⟨t, rfl⟩ := rv
  exact h s₂ t k l q ((S.ext e₁).ext e₂) (e₁.trans e₂) hk
theorem ListIt.there {h : Heap} {ds : List D} (x : ListIt it h V ds) : ∃ o, h.get? it = some o := by
  obtain ⟨_, _, _, _, ⟨o, ho, _⟩, _⟩ := x
  exact ⟨o, ho⟩
/-- one turn of the generator's for loop -/
theorem for_turn (H : Ok W) {ns : List Int} {dl : D} (S : St W (envG L) B V [] s ρ) (hsh : AllSh ρ) (hdl : dl = .none ∨ ∃ y, dl = .int y) (hl : lk ρ "last_interval" = some (.sh dl)) (hit : ListIt it s.heap V (ns.map .int)) (hiB : B.get? it = Option.none) (hiV : it ∉ V) (hA : AOk (n + 2) A)
    (hend : (ns = [] ∨ ∃ ns', ns = 127 :: ns') → ∀ s' ρ', AllSh ρ' → St W (envG L) B V [] s' ρ' → GExt [L, it] s s' → P (.ret (.ok (.ret .none))) s')
    (hyield : ∀ x ns', ns = x :: ns' → x ≠ 127 → x ≠ 0 → ∀ s' t k l q ρ', AllSh ρ' → St W (envG L) B V [] s' ρ' → lk ρ' "interval" = some (.sh (.int x)) → ListIt it s'.heap V (ns'.map .int) → GExt [L, it] s s' →
      GoesOn W.M (forC L it) (fs1 L p) k ((execs [gLast] (envG L)).wrap (kLoop L it) (hLoop (envG L)) id id) → P (.susp (.int x t) false l k (forC L it) q (fs1 L p)) s')
    (hrep : ∀ y ns', ns = 0 :: ns' → dl = .int y → ∀ s' t k l q K p2 ρ', AllSh ρ' → St W (envG L) B V [] s' ρ' → lk ρ' "last_interval" = some (.sh (.int y)) → GExt [L, it] s s' →
      GoesOn W.M (whiC L) (fs2 L it K p2 p) k (.pure (.again (whiC L))) → P (.susp (.int y t) false l k (whiC L) q (fs2 L it K p2 p)) s')
    (hbad : ∀ ns', ns = 0 :: ns' → dl = .none → ∀ s' ρ', AllSh ρ' → St W (envG L) B V [] s' ρ' → lk ρ' "last_interval" = some (.sh .none) → GExt [L, it] s s' → ∀ K, SegX W.M A.in1 (forC L it) ((exec gR.1.2.1 (envG L)).wrap K (hLoop (envG L)) id id) (fs1 L p) s' P) :
    SegX W.M A.in1 (forC L it) (denote table (forC L it)) (fs1 L p) s P := by
  have hI := isIter_list (W := W) (n := n) it
  have hVd : ∀ {s' : Shared} {ρ' : Rho}, St W (envG L) B V [] s' ρ' → ∀ a ∈ V, ∃ o, s'.heap.get? a = some o := fun S' a ha => (S'.GB a ha).1
  have hBl : ∀ a ∈ [it], B.get? a = Option.none := fun a ha => by rw [List.mem_singleton.mp ha]; exact hiB
  have hVi : ∀ a ∈ V, a ∉ [it] := fun a ha hm => hiV (List.mem_singleton.mp hm ▸ ha)
  refine gx_forLoop ?_ rfl
  cases ns with
  | nil =>
    refine hI.nextN hit hA.over1 fun s₁ x₁ => ?_
    have S₁ := S.after x₁ hBl hVi (hI.flds hit)
    exact pop1 (f := .next) rfl (hend (.inl rfl) s₁ ρ hsh S₁ x₁.gext)
  | cons x ns' =>
    refine hI.nextS (d := .int x) hit (hVd S) hA.over1 fun v s₁ rv hP₁ x₁ => ?_
    have S₁ := S.after x₁ hBl hVi (hI.flds hit)
    have g₁ : GExt [L, it] s s₁ := x₁.gext
    refine hI.go gT v (.inr fun _ _ _ _ h => h) hP₁ fun s₂ hP₂ x₂ => ?_
    have S₂ := S₁.after x₂ hBl hVi (hI.flds hP₁)
    have g₂ : GExt [L, it] s s₂ := g₁.trans x₂.gext
    have rv₂ : Rd s₂.heap ([] ++ V) (.int x) v := rv
    refine (Ax.name rfl : Ax W n (envG L) ρ gT (.int x) (put ρ "interval" (.sh (.int x)))).r B V [] s₂ _ _ _ v S₂ hA.over1 rv₂ fun s₃ fp₃ S₃ sx₃ => ?_
    have hsh₃ : AllSh (put ρ "interval" (.sh (.int x))) := hsh.put
    have hnil := S₃.fpNil hsh₃
    subst hnil
    have g₃ : GExt [L, it] s s₃ := g₂.trans sx₃.gext
    have hit₃ : ListIt it s₃.heap V (ns'.map .int) := hI.stable hP₂ (S₂.kp sx₃) fun a ha o ho => sx₃.keep a o ho fun hq => by
      rw [List.mem_singleton.mp ha] at hq ho
      obtain ⟨o', vs, h1, h2⟩ := hI.flds hP₂ it (.head _)
      rw [ho] at h1; cases h1
      obtain ⟨mm, cm, ⟨oL, es, ep, hL, hLd, _⟩, _, _⟩ := S₂.frame
      rcases hq with h | ⟨_, k', hk, hc⟩ | h
      · rw [h, hL] at ho; cases ho; rw [h2] at hLd; cases hLd
      · cases hc
      · cases h
    have hi : lk (put ρ "interval" (.sh (.int x))) "interval" = some (.sh (.int x)) := lk0
    have hl₃ : lk (put ρ "interval" (.sh (.int x))) "last_interval" = some (.sh dl) := lk1 rfl hl
    generalize put ρ "interval" (.sh (.int x)) = ρ₃ at S₃ hsh₃ hi hl₃
    refine gx_cons (gx_if ((Tr.cmp (Ex.name hi) (Ex.glob (d := .int 127) (gl_CHAR_MAX H rfl) fun _ _ _ _ => ⟨211, rfl⟩) op_eq rfl : Tr W n (envG L) ρ₃ _ (x == 127)).r B V [] s₃ _ _ _ S₃ hA.over1 fun s₄ e₄ => ?_))
    have S₄ := S₃.ext e₄
    have g₄ := g₃.trans (e₄.gext (ch := [L, it]))
    have hit₄ : ListIt it s₄.heap V (ns'.map .int) := hI.stable hit₃ (e₄.kp V) fun a _ o ho => e₄.keep a o ho
    by_cases h127 : (x == 127) = true
    · rw [if_pos h127]
      have hx : x = 127 := by simpa using h127
      subst hx
      refine gx_cons (gx_wrap (wpAny_Return_none ?_))
      exact pop1 (f := .ret .none) rfl (hend (.inr ⟨ns', rfl⟩) s₄ ρ₃ hsh₃ S₄ g₄)
    · rw [if_neg h127]
      have hx : x ≠ 127 := by simpa using h127
      refine gx_nil ?_
      refine gx_cons (gx_if ((Tr.cmp (Ex.name hi) Ex.int op_eq rfl : Tr W n (envG L) ρ₃ _ (x == 0)).r B V [] s₄ _ _ _ S₄ hA.over1 fun s₅ e₅ => ?_))
      have S₅ := S₄.ext e₅
      have g₅ := g₄.trans (e₅.gext (ch := [L, it]))
      have hit₅ : ListIt it s₅.heap V (ns'.map .int) := hI.stable hit₄ (e₅.kp V) fun a _ o ho => e₅.keep a o ho
      by_cases h0 : (x == 0) = true
      · rw [if_pos h0]
        have hx0 : x = 0 := by simpa using h0
        subst hx0
        rcases hdl with rfl | ⟨y, rfl⟩
        · exact gx_cons (hbad ns' rfl rfl s₅ ρ₃ hsh₃ S₅ hl₃ g₅ _)
        · refine gx_cons (gx_if ((Tr.cmp (Ex.name hl₃) Ex.noneC (op_isNone (d := .int y) rfl) rfl : Tr W n (envG L) ρ₃ _ false).r B V [] s₅ _ _ _ S₅ hA.over1 fun s₆ e₆ => ?_))
          rw [if_neg Bool.false_ne_true]
          refine gx_nil (gx_cons (gx_while fun p2 => ?_))
          exact rep_turn (K := _) (p2 := p2) (S₅.ext e₆) hl₃ hA fun s' t k l q S' g' hk => hrep y ns' rfl rfl s' t k l q _ p2 ρ₃ hsh₃ S' hl₃ ((g₅.trans e₆.gext).trans g'.gext) hk
      · rw [if_neg h0]
        have hx0 : x ≠ 0 := by simpa using h0
        refine gx_nil (gx_cons (gx_yield fs1_ok.1 rfl fs1_ok.2 ((Ex.name hi : Ex W n (envG L) ρ₃ _ (.int x)).r B V [] s₅ _ _ _ S₅ hA.over1 fun v' s₆ rv' e₆ => ?_) rfl rfl))
        intro k l q hk
        obtain ⟨t, rfl⟩ := rv'
        exact hyield x ns' rfl hx hx0 s₆ t k l q ρ₃ hsh₃ (S₅.ext e₆) hi (hI.stable hit₅ (e₆.kp V) fun a _ o ho => e₆.keep a o ho) (g₅.trans e₆.gext) hk
end
end Mine
end

-- G6
section
open PySem PySem.W PyProof.Rows
open PySem.W.X (SegX)
set_option maxRecDepth 100000
namespace Mine
/-- where the generator stands -/
inductive GK where
  | fresh (ns : List Int)
  | loop (x : Int) (ns : List Int)
  | rep (y : Int)
noncomputable def GK.step (last : Option Int) : List Int → Option (Int × GK)
  | [] => Option.none
  | x :: ns => if x = 127 then Option.none else if x = 0 then last.map fun y => (y, .rep y) else some (x, .loop x ns)
noncomputable def GK.next : GK → Option (Int × GK)
  | .fresh ns => GK.step Option.none ns
  | .loop x ns => GK.step (some x) ns
  | .rep y => some (y, .rep y)
noncomputable def GK.fine : GK → Prop
  | .fresh ns => ∀ ns', ns ≠ 0 :: ns'
  | _ => True
section
variable {W : Wd} {n m : Nat} {A : Around} {E : Value → Shared → Prop} {s s' : Shared} {L it a : Addr} {g : Nat} {p : Pos} {P : End → Shared → Prop} {c : Code} {B H0 : Heap} {V : List Addr} {ρ : Rho}
theorem St.heapEq {env : Env} {G fp : List Addr} (S : St W env B G fp s ρ) (e : s'.heap = s.heap) : St W env B G fp s' ρ :=
  ⟨S.gl, e ▸ S.keep, S.kind, S.eg, S.eb, e ▸ S.frame, S.names, S.fpn, S.fpB, S.fpG, e ▸ S.GB, S.freshL, S.freshC, S.apart⟩
/-- the generator's state at k -/
noncomputable def GAt (W : Wd) (B : Heap) (V : List Addr) (H0 : Heap) (L : Addr) (gs : GenState) (s : Shared) : GK → Prop
  | .fresh ns => gs = .fresh (.func f_group.1.2 (envG L)) ∧ St W (envG L) B V [] s [("grouping", .sh (.list (ns.map .int)))]
  | .loop x ns => ∃ it k l q p ρ, gs = .suspended k l (forC L it) q (fs1 L p) false ∧ GoesOn W.M (forC L it) (fs1 L p) k ((execs [gLast] (envG L)).wrap (kLoop L it) (hLoop (envG L)) id id) ∧ AllSh ρ ∧ St W (envG L) B V [] s ρ ∧
      lk ρ "interval" = some (.sh (.int x)) ∧ ListIt it s.heap V (ns.map .int) ∧ B.get? it = Option.none ∧ it ∉ V ∧ H0.get? it = Option.none
  | .rep y => ∃ it k l q K p2 p ρ, gs = .suspended k l (whiC L) q (fs2 L it K p2 p) false ∧ GoesOn W.M (whiC L) (fs2 L it K p2 p) k (.pure (.again (whiC L))) ∧ AllSh ρ ∧ St W (envG L) B V [] s ρ ∧ lk ρ "last_interval" = some (.sh (.int y))
/-- what is left of the others by a turn -/
structure NX (H0 : Heap) (L : Addr) (s s' : Shared) : Prop where
  keep : ∀ b o, b ≠ L → ((∃ o', H0.get? b = some o') ∨ ∀ vs, o.data ≠ .fields vs) → s.heap.get? b = some o → s'.heap.get? b = some o
  os : s'.os = s.os
theorem GExt.nx (x : GExt [L, it] s s') (h0 : H0.get? it = Option.none) (hf : ∀ o, s.heap.get? it = some o → ∃ vs, o.data = .fields vs) : NX H0 L s s' := by
  refine ⟨fun b o hb hq e => x.keep b o (fun hm => ?_) e, x.os⟩
  rcases List.mem_cons.mp hm with h | h
  · exact hb h
  · have h := List.mem_singleton.mp h
    subst h
    rcases hq with ⟨o', ho'⟩ | hq
    · rw [h0] at ho'; cases ho'
    · obtain ⟨vs, hv⟩ := hf o e
      exact hq vs hv
theorem gens_set {g : Nat} {gs gs' : GenState} {s₁ : Shared} (hgs : s.gens[g]? = some gs) (x : ∃ more : Array GenState, s₁.gens = (s.setGen g .running).gens ++ more ∧ ∀ y ∈ more, y.bare = true) :
    ∃ more : Array GenState, (s₁.setGen g gs').gens = (s.setGen g gs').gens ++ more ∧ ∀ y ∈ more, y.bare = true := by
  obtain ⟨more, h1, h2⟩ := x
  refine ⟨more, ?_, h2⟩
  have hlt : g < s.gens.size := by
    rcases Nat.lt_or_ge g s.gens.size with h | h
    · exact h
    · rw [Array.getElem?_eq_none h] at hgs; cases hgs
  show s₁.gens.setIfInBounds g gs' = s.gens.setIfInBounds g gs' ++ more
  rw [h1]
  show (s.gens.setIfInBounds g .running ++ more).setIfInBounds g gs' = _
  apply Array.ext_getElem?
  intro i
  rw [Array.getElem?_setIfInBounds, Array.getElem?_append, Array.getElem?_append]
  simp only [Array.size_append, Array.size_setIfInBounds, Array.getElem?_setIfInBounds]
  by_cases h : g = i
  · subst h
    simp [hlt]
    omega
  · simp [h]
end
end Mine
end

-- G7
section
open PySem PySem.W PyProof.Rows
open PySem.W.X (SegX)
set_option maxRecDepth 100000
namespace Mine
section
variable {W : Wd} {n m : Nat} {A : Around} {E : Value → Shared → Prop} {s s' : Shared} {L it a : Addr} {g : Nat} {p : Pos} {P : End → Shared → Prop} {c : Code} {B H0 : Heap} {V : List Addr} {ρ : Rho}
theorem listIt_fields {ds : List D} {h : Heap} (x : ListIt it h V ds) : ∀ o, h.get? it = some o → ∃ vs, o.data = .fields vs := fun o ho => by
  obtain ⟨_, _, _, _, ⟨o', ho', _, hf⟩, _⟩ := x
  rw [ho] at ho'; cases ho'
  exact ⟨_, hf⟩
/-- the generator object itself is kept -/
theorem NX.gen (x : NX H0 L s s') (hg : s.heap.IsGen a g) (ha : ∃ o, H0.get? a = some o) (hL : ∃ m, s.heap.Ns L m) : s'.heap.IsGen a g := by
  obtain ⟨o, nm, qn, ho, hc, hd, hsl⟩ := hg
  refine ⟨o, nm, qn, x.keep a o (fun e => ?_) (.inl ha) ho, hc, hd, hsl⟩
  obtain ⟨m, oL, es, ep, hoL, hdL, _⟩ := hL
  rw [e, hoL] at ho; cases ho
  rw [hd] at hdL; cases hdL
/-- how a turn ends -/
noncomputable def TurnOk (W : Wd) (B : Heap) (V : List Addr) (H0 : Heap) (L : Addr) (s : Shared) (o : Option (Int × GK)) (e : End) (s₁ : Shared) : Prop :=
  NX H0 L s s₁ ∧ (∃ more : Array GenState, s₁.gens = s.gens ++ more ∧ ∀ y ∈ more, y.bare = true) ∧ (match o with
    | Option.none => e = .ret (.ok (.ret .none))
    | some (x, k') => ∃ t l k c q fs, e = .susp (.int x t) false l k c q fs ∧ fs.any Frame.guarded = false ∧ GAt W B V H0 L (.suspended k l c q fs false) s₁ k')
theorem for_turnK (H : Ok W) {ns : List Int} {last : Option Int} (S : St W (envG L) B V [] s ρ) (hsh : AllSh ρ) (hl : lk ρ "last_interval" = some (.sh (last.elim .none .int))) (hit : ListIt it s.heap V (ns.map .int)) (hiB : B.get? it = Option.none) (hiV : it ∉ V) (hi0 : H0.get? it = Option.none) (hA : AOk (n + 2) A)
    (hfine : ∀ ns', ns = 0 :: ns' → last ≠ Option.none) : SegX W.M A.in1 (forC L it) (denote table (forC L it)) (fs1 L p) s (TurnOk W B V H0 L s (GK.step last ns)) := by
  have hfl := listIt_fields hit
  refine for_turn H S hsh (by cases last with | none => exact .inl rfl | some y => exact .inr ⟨y, rfl⟩) hl hit hiB hiV hA ?_ ?_ ?_ ?_
  · intro hns s' ρ' hsh' S' g'
    refine ⟨g'.nx hi0 hfl, g'.gens, ?_⟩
    rcases hns with rfl | ⟨ns', rfl⟩
    · rfl
    · rfl
  · intro x ns' hns hx hx0 s' t k l q ρ' hsh' S' hi hit' g' hk
    subst hns
    refine ⟨g'.nx hi0 hfl, g'.gens, ?_⟩
    have e : GK.step last (x :: ns') = some (x, .loop x ns') := by show (if x = 127 then _ else _) = _; rw [if_neg hx, if_neg hx0]
    rw [e]
    exact ⟨t, l, k, _, q, _, rfl, rfl, it, k, l, q, p, ρ', rfl, hk, hsh', S', hi, hit', hiB, hiV, hi0⟩
  · intro y ns' hns hy s' t k l q K p2 ρ' hsh' S' hl' g' hk
    subst hns
    refine ⟨g'.nx hi0 hfl, g'.gens, ?_⟩
    have hy' : last = some y := by
      cases last with
      | none => cases hy
      | some z => cases hy; rfl
    have e : GK.step last (0 :: ns') = some (y, .rep y) := by rw [hy']; rfl
    rw [e]
    exact ⟨t, l, k, _, q, _, rfl, rfl, it, k, l, q, K, p2, p, ρ', rfl, hk, hsh', S', hl'⟩
  · intro ns' hns hd
    cases last with
    | none => exact absurd rfl (hfine ns' hns)
    | some y => cases hd
theorem TurnOk.trans {s₀ : Shared} {o : Option (Int × GK)} {e : End} {s₁ : Shared} (x : NX H0 L s₀ s) (xg : ∃ more : Array GenState, s.gens = s₀.gens ++ more ∧ ∀ y ∈ more, y.bare = true) (h : TurnOk W B V H0 L s o e s₁) : TurnOk W B V H0 L s₀ o e s₁ := by
  obtain ⟨h1, ⟨m2, e2, b2⟩, h3⟩ := h
  obtain ⟨m1, e1, b1⟩ := xg
  refine ⟨⟨fun b ob hb hq e => h1.keep b ob hb hq (x.keep b ob hb hq e), h1.os.trans x.os⟩, ⟨m1 ++ m2, by rw [e2, e1, Array.append_assoc], fun y hy => ?_⟩, h3⟩
  rcases Array.mem_append.mp hy with h | h
  · exact b1 y h
  · exact b2 y h
theorem Ext.nx {s₀ : Shared} (e : Ext s₀ s) : NX H0 L s₀ s := ⟨fun b o _ _ h => e.keep b o h, e.os⟩
theorem SExt.nx {s₀ : Shared} {fp' : List Addr} (x : SExt (envG L) [] s₀ fp' s) : NX H0 L s₀ s := by
  refine ⟨fun b o hb _ h => x.keep b o h fun hq => ?_, x.os⟩
  rcases hq with h | ⟨_, k, hk, hc⟩ | h
  · exact hb h
  · cases hc
  · cases h
theorem AOk.overF (hA : AOk (n + 2) A) : AOk n (A.in1.over (.func f_group.1.2 (envG L)) []) := by
  refine ⟨hA.hd, ?_, ?_⟩
  · have := hA.dp
    show A.depth + 1 + 0 + n ≤ 900
    omega
  · have := hA.un
    have e : (A.in1.over (.func f_group.1.2 (envG L)) []).units = A.in1.units + unitsOf (([] : List Frame).map Frame.where_) + (Code.func f_group.1.2 (envG L)).cUnits := rfl
    have e2 : unitsOf (([] : List Frame).map Frame.where_) = 0 := rfl
    have e3 : (Code.func f_group.1.2 (envG L)).cUnits = 3 := rfl
    have e4 : A.in1.units ≤ A.units + 5 := by show _ ≤ _; simp
    omega
/-- a turn, wherever the generator stands -/
theorem turnK (H : Ok W) {gs : GenState} (k : GK) (hk : k.fine) (hG : GAt W B V H0 L gs s k) (hH0 : ∀ b o, H0.get? b = some o → ∃ o', s.heap.get? b = some o') (hA : AOk (n + 3) A) :
    ∃ c₀ t₀ fs₀, ((gs = .fresh c₀ ∧ t₀ = denote table c₀ ∧ fs₀ = []) ∨ (∃ k₀ l₀ p₀ cl, gs = .suspended k₀ l₀ c₀ p₀ fs₀ cl ∧ t₀ = k₀ (.send .none))) ∧ SegX W.M A.in1 c₀ t₀ fs₀ s (TurnOk W B V H0 L s k.next) := by
  cases k with
  | fresh ns =>
    obtain ⟨rfl, S⟩ := hG
    refine ⟨_, _, _, .inl ⟨rfl, rfl, rfl⟩, ?_⟩
    refine gx_func ?_
    have st : Sx W (n + 1) (envG L) [("grouping", .sh (.list (ns.map .int)))] gP.1.1 (fun r fl => r = put [("grouping", .sh (.list (ns.map .int)))] "last_interval" (.sh .none) ∧ fl = .next) := Sx.assign Ex.noneC rfl rfl
    refine gx_cons (gx_wrap (st.r B V [] s _ _ _ S hA.overF fun f s₁ ρ₁ fp₁ fl hr S₁ hf sx => ?_))
    obtain ⟨rfl, rfl⟩ := hr
    rw [show f = .next from hf]
    have hsh₁ : AllSh (put [("grouping", .sh (.list (ns.map .int)))] "last_interval" (.sh .none)) := fun p hp => by
      rcases List.mem_cons.mp hp with rfl | hp
      · exact ⟨_, rfl⟩
      · rw [List.mem_singleton.mp hp]; exact ⟨_, rfl⟩
    have hnil := S₁.fpNil hsh₁
    subst hnil
    refine gx_cons (gx_for ((Ex.name rfl : Ex W (n + 1) (envG L) _ _ (.list (ns.map .int))).r B V [] s₁ _ _ _ S₁ hA.overF fun v s₂ rv e₂ => ?_) (fun _ => rfl))
    have S₂ := S₁.ext e₂
    obtain ⟨a, vs, rfl, hpl, ha, hrl⟩ := rv
    refine wpAny_pyIter_list hpl.isList fun p => ?_
    have S₃ := S₂.ext (Ext.push (o := { cls := .type "list_iterator", data := .fields #[.ref a, .int 0 0] }))
    have hfresh : s.heap.get? s₂.heap.objs.size = Option.none := by
      cases q : s.heap.get? s₂.heap.objs.size with
      | none => rfl
      | some o =>
        obtain ⟨o', ho'⟩ := sx.there _ o q
        have := e₂.keep _ o' ho'
        rw [new_none] at this; cases this
    have hit : ListIt s₂.heap.objs.size (s₂.heap.push { cls := .type "list_iterator", data := .fields #[.ref a, .int 0 0] }) V (ns.map .int) := by
      refine ⟨a, vs, 0, _, ⟨_, Heap.get?_push_size _ rfl, rfl, rfl⟩, ?_, by simpa using ha, hrl.ext (Ext.push (s := s₂)), rfl⟩
      obtain ⟨o, k, ho, r⟩ := hpl
      exact ⟨o, k, Heap.get?_push_of_some _ ho, r⟩
    have hx : NX H0 L s { s₂ with heap := s₂.heap.push { cls := .type "list_iterator", data := .fields #[.ref a, .int 0 0] } } := ⟨fun b o hb hq e => Heap.get?_push_of_some _ (e₂.keep b o (sx.nx.keep (H0 := H0) b o hb hq e)), e₂.os.trans sx.os⟩
    refine (for_turnK (n := n) (last := Option.none) H S₃ hsh₁ rfl hit ?_ ?_ ?_ (hA.mono (by omega)) (fun ns' h _ => hk ns' h)).mono fun e s₃ h => h.trans hx ?_
    · cases q : B.get? s₂.heap.objs.size with
      | none => rfl
      | some o => have := S.keep _ o q; rw [hfresh] at this; cases this
    · intro hv
      obtain ⟨⟨o, ho⟩, _⟩ := S.GB _ hv
      rw [hfresh] at ho; cases ho
    · cases q : H0.get? s₂.heap.objs.size with
      | none => rfl
      | some o => obtain ⟨o', ho'⟩ := hH0 _ o q; rw [hfresh] at ho'; cases ho'
    · exact (sx.gext.trans (e₂.gext (ch := [L, 0]))).gens
  | loop x ns =>
    obtain ⟨it, k, l, q, p, ρ, rfl, hgo, hsh, S, hi, hit, hiB, hiV, hi0⟩ := hG
    refine ⟨_, _, _, .inr ⟨_, _, _, _, rfl, rfl⟩, hgo _ _ _ ?_⟩
    have st : Sx W (n + 1) (envG L) ρ gLast (fun r fl => r = put ρ "last_interval" (.sh (.int x)) ∧ fl = .next) := Sx.assign (Ex.name hi) rfl rfl
    refine gx_cons (gx_wrap (st.r B V [] s _ _ _ S hA.over1 fun f s₁ ρ₁ fp₁ fl hr S₁ hf sx => ?_))
    obtain ⟨rfl, rfl⟩ := hr
    rw [show f = .next from hf]
    have hsh₁ : AllSh (put ρ "last_interval" (.sh (.int x))) := hsh.put
    have hnil := S₁.fpNil hsh₁
    subst hnil
    have hI := isIter_list (W := W) (n := n) it
    have hit₁ : ListIt it s₁.heap V (ns.map .int) := hI.stable hit (S.kp sx) fun a ha o ho => sx.keep a o ho fun hq => by
      rw [List.mem_singleton.mp ha] at hq ho
      obtain ⟨vs, hv⟩ := listIt_fields hit o ho
      obtain ⟨mm, cm, ⟨oL, es, ep, hL, hLd, _⟩, _, _⟩ := S.frame
      rcases hq with h | ⟨_, k', hk, hc⟩ | h
      · rw [h, hL] at ho; cases ho; rw [hv] at hLd; cases hLd
      · cases hc
      · cases h
    refine PySem.W.X.s_again W.prog W.w A.in1 _ _ _ s₁ (forC L it) rfl ?_
    exact (for_turnK (n := n) (last := some x) H S₁ hsh₁ lk0 hit₁ hiB hiV hi0 (hA.mono (by omega)) (fun ns' _ h => nomatch h)).mono fun e s₂ h => h.trans sx.nx sx.gens
  | rep y =>
    obtain ⟨it, k, l, q, K, p2, p, ρ, rfl, hgo, hsh, S, hl⟩ := hG
    refine ⟨_, _, _, .inr ⟨_, _, _, _, rfl, rfl⟩, hgo _ _ _ ?_⟩
    refine PySem.W.X.s_again W.prog W.w A.in1 _ _ _ s (whiC L) rfl ?_
    refine rep_turn (n := n) S hl (hA.mono (by omega)) fun s' t k l q S' g' hk' => ?_
    exact ⟨g'.nx, g'.gens, t, l, k, _, q, _, rfl, rfl, it, k, l, q, K, p2, p, ρ, rfl, hk', hsh, S', hl⟩
end
end Mine
end

-- G8
section
open PySem PySem.W PyProof.Rows
open PySem.W.X (SegX)
set_option maxRecDepth 100000
namespace Mine
section
variable {W : Wd} {n m : Nat} {A : Around} {E : Value → Shared → Prop} {s s' : Shared} {L it a : Addr} {g : Nat} {p : Pos} {P : End → Shared → Prop} {c : Code} {B H0 : Heap} {V : List Addr} {ρ : Rho}
theorem GAt.heapEq {gs : GenState} {k : GK} (X : GAt W B V H0 L gs s k) (e : s'.heap = s.heap) : GAt W B V H0 L gs s' k := by
  cases k with
  | fresh ns => exact ⟨X.1, X.2.heapEq e⟩
  | loop x ns =>
    obtain ⟨it, k, l, q, p, ρ, h1, h2, h3, S, h4, h5, r⟩ := X
    exact ⟨it, k, l, q, p, ρ, h1, h2, h3, S.heapEq e, h4, e ▸ h5, r⟩
  | rep y =>
    obtain ⟨it, k, l, q, K, p2, p, ρ, h1, h2, h3, S, r⟩ := X
    exact ⟨it, k, l, q, K, p2, p, ρ, h1, h2, h3, S.heapEq e, r⟩
theorem GAt.gl {gs : GenState} {k : GK} (X : GAt W B V H0 L gs s k) : Gl W s.heap ∧ ∃ m, s.heap.Ns L m := by
  have key : ∀ {ρ : Rho}, St W (envG L) B V [] s ρ → Gl W s.heap ∧ ∃ m, s.heap.Ns L m := fun S => ⟨S.gl', let ⟨m, _, h, _⟩ := S.frame; ⟨m, h⟩⟩
  cases k with
  | fresh ns => exact key X.2
  | loop x ns =>
    obtain ⟨it, k, l, q, p, ρ, h1, h2, h3, S, r⟩ := X
    exact key S
  | rep y =>
    obtain ⟨it, k, l, q, K, p2, p, ρ, h1, h2, h3, S, r⟩ := X
    exact key S
/-- what else stays while the generator rests -/
structure Rest (W : Wd) (B : Heap) (V V' : List Addr) (L : Addr) (s s' : Shared) : Prop where
  base : ∀ b o, B.get? b = some o → s'.heap.get? b = some o
  keepL : ∀ o, s.heap.get? L = some o → s'.heap.get? L = some o
  keepF : ∀ b o vs, s.heap.get? b = some o → o.data = .fields vs → s'.heap.get? b = some o
  kp : Kp s.heap V s'.heap V'
  newV : ∀ b o, s.heap.get? b = some o → b ∉ V → b ∉ V'
  vok : VOk W s'.heap V'
variable {V' : List Addr}
theorem St.rest (S : St W (envG L) B V [] s ρ) (X : Rest W B V V' L s s') : St W (envG L) B V' [] s' ρ := by
  obtain ⟨m, cm, h1, h2, h3⟩ := S.frame
  refine ⟨S.gl, X.base, S.kind, S.eg, S.eb, ⟨m, cm, ?_, (fun n c q => by cases q), EnvOk.mono (V := [] ++ V) (V' := [] ++ V') X.kp (fun a o ha _ => by cases ha) h3⟩, S.names, S.fpn, S.fpB, (fun a ha => by cases ha), X.vok, S.freshL, S.freshC, S.apart⟩
  obtain ⟨o, es, ep, ho, r⟩ := h1
  exact ⟨o, es, ep, X.keepL o ho, r⟩
theorem GAt.rest {gs : GenState} {k : GK} (G : GAt W B V H0 L gs s k) (X : Rest W B V V' L s s') : GAt W B V' H0 L gs s' k := by
  cases k with
  | fresh ns => exact ⟨G.1, G.2.rest X⟩
  | loop x ns =>
    obtain ⟨it, k, l, q, p, ρ, h1, h2, h3, S, h4, h5, h6, h7, h8⟩ := G
    obtain ⟨oi, hoi⟩ := h5.there
    refine ⟨it, k, l, q, p, ρ, h1, h2, h3, S.rest X, h4, ?_, h6, X.newV it oi hoi h7, h8⟩
    refine (isIter_list (W := W) (n := 0) it).stable h5 X.kp fun a ha o ho => ?_
    rw [List.mem_singleton.mp ha] at ho ⊢
    obtain ⟨vs, hv⟩ := listIt_fields h5 o ho
    exact X.keepF it o vs ho hv
  | rep y =>
    obtain ⟨it, k, l, q, K, p2, p, ρ, h1, h2, h3, S, r⟩ := G
    exact ⟨it, k, l, q, K, p2, p, ρ, h1, h2, h3, S.rest X, r⟩
/-- the generator's whole state -/
structure GI (W : Wd) (B : Heap) (V : List Addr) (H0 : Heap) (L a : Addr) (g : Nat) (s : Shared) (k : GK) : Prop where
  isGen : s.heap.IsGen a g
  at_ : ∃ gs, s.gens[g]? = some gs ∧ GAt W B V H0 L gs s k
  dom : ∀ b o, H0.get? b = some o → ∃ o', s.heap.get? b = some o'
  aH : ∃ o, H0.get? a = some o
/-- what becomes of the generators -/
noncomputable def GensOk (g : Nat) (s s' : Shared) : Prop := ∃ gs' more, s'.gens = (s.setGen g gs').gens ++ more ∧ gs'.bare = true ∧ ∀ y ∈ more, y.bare = true
theorem gen_next (H : Ok W) (k : GK) (hk : k.fine) (X : GI W B V H0 L a g s k) (hA : AOk (n + 3) A) {Q : Option Value → Shared → Prop}
    (hQ : ∀ r s', NX H0 L s s' → GensOk g s s' → (match k.next with | Option.none => r = Option.none | some (x, k') => ∃ t, r = some (.int x t) ∧ GI W B V H0 L a g s' k') → Q r s') : wpAny W.M A (pyNext (.ref a)) Q E s := by
  obtain ⟨gs, hgs, hat⟩ := X.at_
  obtain ⟨hgl, m, hns⟩ := hat.gl
  have hlt : g < s.gens.size := by
    rcases Nat.lt_or_ge g s.gens.size with h | h
    · exact h
    · rw [Array.getElem?_eq_none h] at hgs; cases hgs
  have hat' : GAt W B V H0 L gs (s.setGen g .running) k := hat.heapEq rfl
  obtain ⟨c₀, t₀, fs₀, hst, hseg⟩ := turnK H k hk hat' (fun b o ho => X.dom b o ho) hA
  have hd := hA.dp
  refine next_gx hA.hd hgl.nl (by show A.depth < 1000; omega) X.isGen hgs hst (hseg.mono fun e s₁ ht => ?_)
  obtain ⟨hnx, hgens, hres⟩ := ht
  have hnx' : NX H0 L s s₁ := ⟨hnx.keep, hnx.os⟩
  have hgen₁ : s₁.heap.IsGen a g := hnx'.gen X.isGen X.aH ⟨m, hns⟩
  cases hn : k.next with
  | none =>
    rw [hn] at hres hQ
    dsimp only at hres
    subst hres
    refine ⟨rfl, fun h' hk' => hQ _ _ ⟨fun b o hb hq ho => hk' b o (hnx.keep b o hb hq ho), hnx.os⟩ ?_ rfl⟩
    obtain ⟨more, h1, h2⟩ := gens_set (gs' := .finished) hgs hgens
    exact ⟨.finished, more, h1, rfl, h2⟩
  | some xk =>
    obtain ⟨x, k'⟩ := xk
    rw [hn] at hres hQ
    dsimp only at hres hQ
    obtain ⟨t, l, kk, c, q, fs, rfl, hfg, hat₁⟩ := hres
    have hgst : (End.susp (Value.int x t) false l kk c q fs).genState = .suspended kk l c q fs false := by
      show GenState.suspended kk l c q fs _ = _
      simp [hfg]
    show Q (some (.int x t)) (s₁.setGen g _)
    rw [hgst]
    obtain ⟨more, h1, h2⟩ := gens_set (gs' := .suspended kk l c q fs false) hgs hgens
    refine hQ _ _ ⟨hnx.keep, hnx.os⟩ ⟨_, more, h1, rfl, h2⟩ ⟨t, rfl, hgen₁, ⟨_, ?_, hat₁.heapEq rfl⟩, fun b o ho => ?_, X.aH⟩
    · rw [h1, Array.getElem?_append_left (by show g < (s.gens.setIfInBounds g _).size; simpa using hlt)]
      show (s.gens.setIfInBounds g _)[g]? = _
      simp [hlt]
    · obtain ⟨o', ho'⟩ := X.dom b o ho
      by_cases hb : b = L
      · subst hb
        obtain ⟨_, m', o'', _, _, ho'', _⟩ := hat₁.gl
        exact ⟨o'', ho''⟩
      · exact ⟨o', hnx.keep b o' hb (.inl ⟨o, ho⟩) ho'⟩
end
end Mine
end

-- G9
section
open PySem PySem.W PyProof.Rows
open PySem.W.X (SegX)
set_option maxRecDepth 100000
namespace Mine
section
variable {W : Wd} {n m : Nat} {env : Env} {A : Around} {E : Value → Shared → Prop} {s s' s₀ : Shared} {L it a : Addr} {g : Nat} {p : Pos} {B H0 : Heap} {G fp fp' V : List Addr} {ρ : Rho} {R : Rho → Fl → Prop}
/-- a turn of the generator leaves the caller's frame -/
theorem St.nx (S : St W env B G fp s ρ) (x : NX H0 L s s') (hB : ∀ b o, B.get? b = some o → ∃ o', H0.get? b = some o') (hG : ∀ b ∈ G, ∃ o', H0.get? b = some o') (hL : B.get? L = Option.none) (hLG : L ∉ G) (hLe : env.locals ≠ L)
    (hns : ∃ m, s.heap.Ns L m) : St W env B G fp s' ρ := by
  have hLd : ∀ o, s.heap.get? L = some o → ∃ es ep, o.data = .dict es ep := fun o ho => by
    obtain ⟨m, oL, es, ep, hoL, hd, _⟩ := hns
    rw [ho] at hoL; cases hoL
    exact ⟨es, ep, hd⟩
  have sq : ∀ b o xs k, s.heap.get? b = some o → o.data = .seq xs k → s'.heap.get? b = some o := fun b o xs k ho hd => x.keep b o (fun e => by
    subst e
    obtain ⟨es, ep, h⟩ := hLd o ho
    rw [hd] at h; cases h) (.inr fun vs h => by rw [hd] at h; cases h) ho
  have kp : Kp s.heap (fp ++ G) s'.heap (fp ++ G) := fun b o xs k ho hd hn => ⟨sq b o xs k ho hd, hn⟩
  obtain ⟨m, cm, ⟨oL, es, ep, hoL, hdL, hr⟩, h2, h3⟩ := S.frame
  refine ⟨S.gl, fun b o q => x.keep b o (fun e => by rw [e, hL] at q; cases q) (.inl (hB b o q)) (S.keep b o q), S.kind, S.eg, S.eb, ⟨m, cm, ⟨oL, es, ep, x.keep _ _ hLe (.inr fun vs h => by rw [hdL] at h; cases h) hoL, hdL, hr⟩, fun k c q => ?_, EnvOk.mono kp (fun a o ha ho => ?_) h3⟩, S.names, S.fpn, S.fpB, S.fpG, (fun a ha => ?_), S.freshL, S.freshC, S.apart⟩
  · obtain ⟨oc, hoc, hcd⟩ := h2 k c q
    refine ⟨oc, x.keep c oc (fun e => ?_) (.inr fun vs h => by rw [hcd] at h; cases h) hoc, hcd⟩
    subst e
    obtain ⟨es, ep, h⟩ := hLd oc hoc
    rw [hcd] at h; cases h
  · obtain ⟨o', xs, k, ho', hd⟩ := EnvOk.seqs h3 a ha
    rw [ho] at ho'; cases ho'
    exact sq a o xs k ho hd
  · obtain ⟨⟨o, ho⟩, hk'⟩ := S.GB a ha
    exact ⟨⟨o, x.keep a o (fun e => hLG (e ▸ ha)) (.inl (hG a ha)) ho⟩, hk'⟩
theorem gens_step {s₁ s₂ : Shared} (h : ∃ more : Array GenState, s₁.gens = s.gens ++ more ∧ ∀ y ∈ more, y.bare = true) (hg : s.gens.size ≤ g) (x : GensOk g s₁ s₂) : ∃ more : Array GenState, s₂.gens = s.gens ++ more ∧ ∀ y ∈ more, y.bare = true := by
  obtain ⟨more, e1, b1⟩ := h
  obtain ⟨gs', more', e2, hb, b2⟩ := x
  refine ⟨more.setIfInBounds (g - s.gens.size) gs' ++ more', ?_, fun y hy => ?_⟩
  · rw [e2, ← Array.append_assoc]
    congr 1
    show s₁.gens.setIfInBounds g gs' = _
    rw [e1]
    apply Array.ext_getElem?
    intro i
    rw [Array.getElem?_setIfInBounds, Array.getElem?_append, Array.getElem?_append]
    simp only [Array.size_append, Array.getElem?_setIfInBounds]
    by_cases hi : i < s.gens.size
    · have : g ≠ i := by omega
      simp [hi, this]
    · simp only [hi, if_false]
      by_cases h : g = i
      · subst h
        have : g - s.gens.size < more.size ↔ g < s.gens.size + more.size := by omega
        simp [this]
      · have : ¬ (g - s.gens.size = i - s.gens.size) := by omega
        simp [h, this]
  · rcases Array.mem_append.mp hy with h | h
    · obtain ⟨i, hi⟩ := Array.mem_iff_getElem?.mp h
      rw [Array.getElem?_setIfInBounds] at hi
      split at hi
      · split at hi
        · cases hi; exact hb
        · cases hi
      · exact b1 y (Array.mem_of_getElem? hi)
    · exact b2 y h
end
end Mine
end

-- G10
section
open PySem PySem.W PyProof.Rows
open PySem.W.X (SegX)
set_option maxRecDepth 100000
namespace Mine
section
variable {W : Wd} {n m : Nat} {env : Env} {A : Around} {E : Value → Shared → Prop} {s s' s₀ : Shared} {L it a : Addr} {g : Nat} {p : Pos} {B H0 : Heap} {G fp fp' V : List Addr} {ρ ρ' : Rho} {R : Rho → Fl → Prop}
/-- what the frame's own places are not -/
theorem St.notOwn (S : St W env B G fp s ρ) {b : Addr} {o : Obj} (ho : s.heap.get? b = some o) (hl : b ≠ env.locals) (hc : ∀ c, o.data ≠ .cell c) (hs : ∀ xs k, o.data ≠ .seq xs k) : ¬ OwnP env fp b := fun hq => by
  obtain ⟨m, cm, _, h2, h3⟩ := S.frame
  rcases hq with h | ⟨_, k, hk, hcl⟩ | h
  · exact hl h
  · obtain ⟨oc, hoc, hcd⟩ := h2 k b hcl
    rw [ho] at hoc; cases hoc
    exact hc _ hcd
  · obtain ⟨o', xs, k, ho', hd⟩ := EnvOk.seqs h3 b h
    rw [ho] at ho'; cases ho'
    exact hs xs k hd
theorem GI.rest {k : GK} (X : GI W B (fp ++ G) H0 L a g s k) (S : St W env B G fp s ρ) (S' : St W env B G fp' s' ρ') (sx : SExt env fp s fp' s') (hLe : env.locals ≠ L) : GI W B (fp' ++ G) H0 L a g s' k := by
  obtain ⟨gs, hgs, hat⟩ := X.at_
  obtain ⟨_, mm, oL, es, ep, hoL, hdL, _⟩ := hat.gl
  obtain ⟨m₀, cm₀, ⟨oE, es₀, ep₀, hoE, hdE, _⟩, _⟩ := S.frame
  have r : Rest W B (fp ++ G) (fp' ++ G) L s s' := by
    refine ⟨S'.keep, fun o ho => sx.keep L o ho (S.notOwn ho (Ne.symm hLe) (fun c h => ?_) fun xs k h => ?_), fun b o vs ho hd => sx.keep b o ho (S.notOwn ho (fun e => ?_) (fun c h => ?_) fun xs k h => ?_), S.kp sx, fun b o ho hn hn' => ?_, S'.valloc⟩
    · rw [ho] at hoL; cases hoL; rw [h] at hdL; cases hdL
    · rw [ho] at hoL; cases hoL; rw [h] at hdL; cases hdL
    · rw [e, hoE] at ho; cases ho; rw [hd] at hdE; cases hdE
    · rw [hd] at h; cases h
    · rw [hd] at h; cases h
    · rcases List.mem_append.mp hn' with h | h
      · rcases sx.new b h with h | h
        · exact hn (List.mem_append_left _ h)
        · rw [ho] at h; cases h
      · exact hn (List.mem_append_right _ h)
  obtain ⟨more, eg, hb⟩ := sx.gens
  refine ⟨?_, ⟨gs, ?_, hat.rest r⟩, fun b o ho => ?_, X.aH⟩
  · obtain ⟨o, nm, qn, ho, hc, hd, hsl⟩ := X.isGen
    refine ⟨o, nm, qn, sx.keep a o ho (S.notOwn ho (fun e => ?_) (fun c h => ?_) fun xs k h => ?_), hc, hd, hsl⟩
    · rw [e, hoE] at ho; cases ho; rw [hd] at hdE; cases hdE
    · rw [hd] at h; cases h
    · rw [hd] at h; cases h
  · rw [eg, Array.getElem?_append_left]
    · exact hgs
    · rcases Nat.lt_or_ge g s.gens.size with h | h
      · exact h
      · rw [Array.getElem?_eq_none h] at hgs; cases hgs
  · obtain ⟨o', ho'⟩ := X.dom b o ho
    exact sx.there b o' ho'
theorem Sx.forGen (H : Ok W) {x : Str} {p q cpos pos : Pos} {e : Expr} {body : List Stmt} {ns : List Int} (hf : Gv W env "_grouping_intervals" (.ref 42)) (he : Ex W (n + 4) env ρ e (.list (ns.map .int))) (hp : plainArgs [e] = true) (hx : storable env x = true)
    (I : Nat → GK → Rho → Prop)
    (turn : ∀ m k ρ, I m k ρ → k.fine ∧ (k.next = Option.none → R ρ .next) ∧ ∀ y k', k.next = some (y, k') → Bx W (n + 4) env (put ρ x (.sh (.int y))) body (fun ρ' fl => match fl with
      | .next | .cont => ∃ m', m' < m ∧ I m' k' ρ'
      | .brk => R ρ' .next
      | .ret d => R ρ' (.ret d)))
    (m : Nat) (h : I m (.fresh ns) ρ) : Sx W (n + 4) env ρ (.For (.Name x p) (.Call (.Name "_grouping_intervals" q) [e] [] cpos) body [] pos) R := .mk fun B G fp s A E Q S hA hQ => by
  refine wpAny_For (wpAny_Call_Name_kw (hf.load S ?_)) (fun _ => rfl)
  rw [backTo_plain hp]
  refine callWith_any (any_false_map _) (evalArgs_exs (Exs.cons he Exs.nil) S hA fun vs s₁ rvs e₁ => ⟨(callee H f_group).fn (S.ext e₁).gl', ?_⟩)
  obtain ⟨v, _, rfl, rv, hnil⟩ := rvs
  have hnil : _ = [] := hnil
  subst hnil
  have S₁ := S.ext e₁
  refine gen_make (n := n + 3) H S₁.gl S₁.keep hA rv S₁.valloc fun a L s₂ hgen hgens SG keep₂ os₂ hL ha haL => ?_
  have e₂ : Ext s₁ s₂ := ⟨keep₂, os₂, #[.fresh (.func f_group.1.2 (envG L))], by rw [hgens]; simp, fun y hy => by
    have := Array.mem_singleton.mp hy
    rw [this]; rfl⟩
  have e₁₂ := e₁.trans e₂
  have hLs : s.heap.get? L = Option.none := by
    cases q : s.heap.get? L with
    | none => rfl
    | some o => have := e₁.keep L o q; rw [hL] at this; cases this
  have hLe : env.locals ≠ L := fun h => by
    obtain ⟨m₀, cm₀, ⟨oE, es₀, ep₀, hoE, hdE, _⟩, _⟩ := S.frame
    rw [h, hLs] at hoE; cases hoE
  have hLG : L ∉ G := fun h => by
    obtain ⟨⟨o, ho⟩, _⟩ := S.GB L h
    rw [hLs] at ho; cases ho
  have hBL : B.get? L = Option.none := SG.freshL
  have hBH : ∀ b o, B.get? b = some o → ∃ o', s₂.heap.get? b = some o' := fun b o ho => ⟨o, SG.keep b o ho⟩
  have hGH : ∀ b ∈ G, ∃ o', s₂.heap.get? b = some o' := fun b hb => by
    obtain ⟨⟨o, ho⟩, _⟩ := S.GB b hb
    exact ⟨o, e₁₂.keep b o ho⟩
  have hgs : s.gens.size ≤ s₁.gens.size := by
    obtain ⟨more, e, _⟩ := e₁.gens
    rw [e]; simp
  refine wpAny_pyIter_gen hgen ?_
  refine forLoopT (fun m s' => ∃ k ρ' fp', I m k ρ' ∧ St W env B G fp' s' ρ' ∧ SExt env fp s fp' s' ∧ GI W B (fp' ++ G) s₂.heap L a s₁.gens.size s' k) (fun m s₃ hI₃ => ?_) m
    ⟨.fresh ns, ρ, fp, h, S.ext e₁₂, e₁₂.sext, hgen, ⟨_, by rw [hgens]; simp, rfl, SG⟩, (fun b o ho => ⟨o, ho⟩), (by obtain ⟨o, _, _, ho, _⟩ := hgen; exact ⟨o, ho⟩)⟩
  obtain ⟨k, ρ₃, fp₃, hI, S₃, sx₃, X₃⟩ := hI₃
  obtain ⟨hfine, hend, hturn⟩ := turn m k ρ₃ hI
  have hns₃ : ∃ m, s₃.heap.Ns L m := by
    obtain ⟨gs, _, hat⟩ := X₃.at_
    exact hat.gl.2
  refine gen_next (n := n) H k hfine X₃ (hA.mono (by omega)) fun r s₄ nx gok hr => ?_
  have S₄ : St W env B G fp₃ s₄ ρ₃ := S₃.nx nx hBH hGH hBL hLG hLe hns₃
  have hk₄ : ∀ b o, (∃ o', s.heap.get? b = some o') → s₃.heap.get? b = some o → s₄.heap.get? b = some o := fun b o hb ho => by
    obtain ⟨o', ho'⟩ := hb
    exact nx.keep b o (fun e => by rw [e, hLs] at ho'; cases ho') (.inl ⟨o', e₁₂.keep b o' ho'⟩) ho
  have sx₄ : SExt env fp s fp₃ s₄ := by
    refine ⟨fun b o ho hn => hk₄ b o ⟨o, ho⟩ (sx₃.keep b o ho hn), fun b o ho => ?_, sx₃.new, nx.os.trans sx₃.os, gens_step sx₃.gens hgs gok⟩
    obtain ⟨o', ho'⟩ := sx₃.there b o ho
    exact ⟨o', hk₄ b o' ⟨o, ho⟩ ho'⟩
  cases hn : k.next with
  | none =>
    rw [hn] at hr
    dsimp only at hr
    subst hr
    exact wpAny_execs_nil (hQ _ s₄ ρ₃ fp₃ .next (hend hn) S₄ rfl sx₄)
  | some yk =>
    obtain ⟨y, k'⟩ := yk
    rw [hn] at hr
    dsimp only at hr
    obtain ⟨t, rfl, X₄⟩ := hr
    refine wpAny_pure ?_
    refine (Ax.name hx : Ax W (n + 4) env ρ₃ (.Name x p) (.int y) (put ρ₃ x (.sh (.int y)))).r B G fp₃ s₄ A _ _ (.int y t) S₄ hA ⟨t, rfl⟩ fun s₅ fp₅ S₅ sx₅ => ?_
    refine (hturn y k' hn).r B G fp₅ s₅ A _ _ S₅ hA fun f s₆ ρ₆ fp₆ fl hR S₆ hf sx₆ => ?_
    have sx₄₆ := sx₅.trans sx₆
    have X₆ := X₄.rest S₄ S₆ sx₄₆ hLe
    have sxf := sx₄.trans sx₄₆
    cases fl with
    | next => rw [show f = .next from hf]; obtain ⟨m', hm', hI'⟩ := hR; exact ⟨m', hm', k', ρ₆, fp₆, hI', S₆, sxf, X₆⟩
    | cont => rw [show f = .cont from hf]; obtain ⟨m', hm', hI'⟩ := hR; exact ⟨m', hm', k', ρ₆, fp₆, hI', S₆, sxf, X₆⟩
    | brk => rw [show f = .brk from hf]; exact hQ _ s₆ ρ₆ fp₆ .next hR S₆ rfl sxf
    | ret r => obtain ⟨u, rfl, hu⟩ := hf; exact hQ _ s₆ ρ₆ fp₆ (.ret r) hR S₆ ⟨u, rfl, hu⟩ sxf
end
end Mine
end

-- P1
section
open PySem PySem.W PyProof.Rows
set_option maxRecDepth 100000
namespace Mine
theorem slIdx (l u : Option Int) (n : Nat) : Builtin.Str.strSliceIndices l u 1 n = sliceRange (sliceBounds l u Option.none n).1 (sliceBounds l u Option.none n).2.1 (sliceBounds l u Option.none n).2.2 := by
  cases l <;> cases u <;> rfl
theorem sl_slice (x : Str) (l u : Option Int) : sl (Txt.slice x l u) = pickD (sl x) l u Option.none := by
  have hn : x.length = (sl x).length := (sl_len x).symm
  unfold Txt.slice
  split
  · rename_i h
    have h : (Builtin.Str.strSliceIndices l u 1 x.length).length = x.length := by simpa using h
    rw [slIdx, sliceBounds_plain] at h
    simp only [sliceRange_one] at h
    rw [pick_plain, ← hn]
    have hb : u.elim x.length (clipAt x.length) ≤ x.length := by
      cases u with
      | none => exact Nat.le_refl _
      | some i => show clipAt x.length i ≤ _; unfold clipAt; omega
    generalize u.elim x.length (clipAt x.length) = b at *
    generalize l.elim 0 (clipAt x.length) = a at *
    have hl : b - a = x.length := by simpa using h
    rcases Nat.eq_zero_or_pos x.length with h0 | h0
    · have : sl x = [] := List.eq_nil_of_length_eq_zero (by omega)
      rw [this]; simp
    · have : a = 0 := by omega
      subst this
      rw [List.drop_zero, hl, List.take_of_length_le (by omega)]
  · rw [slIdx]
    unfold pickD
    rw [← hn]
    show (List.filterMap (fun i => x.cps[i]?) _).toArray.toList = _
    rw [List.toList_toArray]
    congr 1
    funext i
    show x.cps[i]? = x.cps.toList[i]?
    simp
noncomputable def cutE : Str → List Nat → List Str
  | _, [] => []
  | t, z :: zs => Txt.slice t (some (-((4 * z : Nat) : Int))) Option.none :: cutE (Txt.slice t Option.none (some (-((4 * z : Nat) : Int)))) zs
theorem slice_len {t : Str} {k : Nat} (hk : 1 ≤ k) : (Txt.slice t Option.none (some (-(k : Int)))).length = t.length - k := by
  rw [← sl_len, sl_slice, pick_butLast _ _ hk, List.length_take, sl_len]; omega
/-- where the generator stands: what it has still to tell -/
noncomputable def KzR (rp : Bool) (j z : Nat) : GK → List Nat → Prop
  | .fresh ns, zs => ∃ cs, cs ≠ [] ∧ ns = cs.map (fun c => ((4 * c : Nat) : Int)) ++ (if rp then [0, 4] else [127, 4]) ∧ zs = cs ++ List.replicate j z ∧ (rp = true → cs.getLast? = some z)
  | .loop x ns, zs => ∃ cs, ns = cs.map (fun c => ((4 * c : Nat) : Int)) ++ (if rp then [0, 4] else [127, 4]) ∧ zs = cs ++ List.replicate j z ∧ (rp = true → (cs = [] → x = ((4 * z : Nat) : Int)) ∧ (cs ≠ [] → cs.getLast? = some z))
  | .rep y, zs => rp = true ∧ y = ((4 * z : Nat) : Int) ∧ ∃ i, zs = List.replicate i z
theorem step_cons {last : Option Int} {c : Nat} {rest : List Int} (hc : 1 ≤ c) : GK.step last (((4 * c : Nat) : Int) :: rest) = some (((4 * c : Nat) : Int), .loop ((4 * c : Nat) : Int) rest) := by
  show (if _ = _ then _ else _) = _
  rw [if_neg (by omega), if_neg (by omega)]
theorem kz_next {rp : Bool} {j z : Nat} {k : GK} {zs : List Nat} (hj : rp = false → j = 0) (hpos : ∀ z ∈ zs, 1 ≤ z) (h : KzR rp j z k zs) : k.fine ∧ (k.next = Option.none → zs = []) ∧
    ∀ y k', k.next = some (y, k') → (zs = [] → rp = true) ∧ ∀ c zs', zs = c :: zs' → y = ((4 * c : Nat) : Int) ∧ KzR rp j z k' zs' := by
  have main : ∀ (last : Option Int) (cs : List Nat) (ns : List Int), ns = cs.map (fun c => ((4 * c : Nat) : Int)) ++ (if rp then [0, 4] else [127, 4]) → zs = cs ++ List.replicate j z → (rp = true → (cs = [] → last = some ((4 * z : Nat) : Int)) ∧ (cs ≠ [] → cs.getLast? = some z)) →
      (GK.step last ns = Option.none → zs = []) ∧ ∀ y k', GK.step last ns = some (y, k') → (zs = [] → rp = true) ∧ ∀ c zs', zs = c :: zs' → y = ((4 * c : Nat) : Int) ∧ KzR rp j z k' zs' := by
    intro last cs ns hns hzs hrp
    cases cs with
    | nil =>
      cases rp with
      | false =>
        rw [hj rfl] at hzs
        have hz : zs = [] := by rw [hzs]; rfl
        refine ⟨fun _ => hz, fun y k' e => ?_⟩
        rw [hns] at e
        cases e
      | true =>
        have hl := (hrp rfl).1 rfl
        subst hl
        rw [hns]
        refine ⟨fun e => (by cases e), fun y k' e => ?_⟩
        have e : some (((4 * z : Nat) : Int), GK.rep ((4 * z : Nat) : Int)) = some (y, k') := e
        cases e
        refine ⟨fun _ => rfl, fun c zs' hc => ?_⟩
        have hzs : zs = List.replicate j z := hzs
        rw [hc] at hzs
        cases j with
        | zero => cases hzs
        | succ j =>
          rw [List.replicate_succ] at hzs
          cases hzs
          exact ⟨rfl, rfl, rfl, j, rfl⟩
    | cons c cs =>
      have hc1 : 1 ≤ c := hpos c (by rw [hzs]; exact .head _)
      rw [hns, List.map_cons, List.cons_append, step_cons hc1]
      refine ⟨fun e => (by cases e), fun y k' e => ?_⟩
      cases e
      refine ⟨fun e => (by rw [hzs] at e; cases e), fun c' zs' hc => ?_⟩
      rw [hzs] at hc
      cases hc
      refine ⟨rfl, cs, rfl, rfl, fun hr => ?_⟩
      have h2 := (hrp hr).2 (by simp)
      refine ⟨fun hcs => ?_, fun hcs => ?_⟩
      · subst hcs
        simp at h2
        rw [h2]
      · rw [List.getLast?_cons, List.getLast?_eq_some_getLast hcs, Option.getD_some] at h2
        rw [List.getLast?_eq_some_getLast hcs]; exact h2
  cases k with
  | fresh ns =>
    obtain ⟨cs, hne, hns, hzs, hl⟩ := h
    have := main Option.none cs ns hns hzs fun hr => ⟨fun e => absurd e hne, fun _ => hl hr⟩
    refine ⟨fun ns' e => ?_, this.1, this.2⟩
    cases cs with
    | nil => exact hne rfl
    | cons c cs =>
      have hc1 : 1 ≤ c := hpos c (by rw [hzs]; exact .head _)
      rw [hns] at e
      simp at e
      omega
  | loop x ns =>
    obtain ⟨cs, hns, hzs, hl⟩ := h
    have := main (some x) cs ns hns hzs fun hr => ⟨fun e => by rw [(hl hr).1 e], (hl hr).2⟩
    exact ⟨trivial, this.1, this.2⟩
  | rep y =>
    obtain ⟨hr, rfl, i, hzs⟩ := h
    refine ⟨trivial, fun e => (by cases e), fun y' k' e => ?_⟩
    cases e
    refine ⟨fun _ => hr, fun c zs' hc => ?_⟩
    rw [hc] at hzs
    cases i with
    | zero => cases hzs
    | succ i =>
      rw [List.replicate_succ] at hzs
      cases hzs
      exact ⟨rfl, hr, rfl, i, rfl⟩
end Mine
end

-- P2
section
open PySem PySem.W PyProof.Rows
set_option maxRecDepth 100000
namespace Mine
section
variable {W : Wd} {n m : Nat} {env : Env} {ρ : Rho} {x y : Str}
noncomputable abbrev bhD (rp : Bool) : D := .list [.int (if rp then 0 else 127), .int 4]
theorem str_empty {t : Str} : (sl t == sl ⟨#[]⟩) = (t.length == 0) := by
  rw [Bool.eq_iff_iff, beq_iff_eq, beq_iff_eq, ← sl_len]
  exact List.length_eq_zero_iff.symm
theorem tr_done {rp : Bool} {t' : Str} {zs' : List Nat} {p1 p2 p3 p4 p5 p6 p7 p8 p9 : Pos} {k2 k5 k6 : Nat} (i2 : ∀ z ∈ zs', 1 ≤ z) (i3 : t'.length = 4 * zs'.sum) (h1 : lk ρ "text" = some (.sh (.str t'))) (h2 : lk ρ "behind" = some (.sh (bhD rp))) :
    Tr W n env ρ (.BoolOp .And [.Compare (.Name "text" p1) [.Eq] [.Constant (.str ⟨#[]⟩) k2 p2] p3, .Compare (.Name "behind" p4) [.Eq] [.List [.Constant (.int 0) k5 p5, .Constant (.int 4) k6 p6] p7] p8] p9) (zs'.isEmpty && (rp && true)) := by
  have hbeh : PyData.eqv (bhD rp).py (D.list [.int 0, .int 4]).py = rp := by cases rp <;> rfl
  have e1 : (t'.cps.toList == (⟨#[]⟩ : Str).cps.toList) = zs'.isEmpty := by
    show (sl t' == sl ⟨#[]⟩) = _
    rw [str_empty, i3]
    cases zs' with
    | nil => rfl
    | cons c zs' =>
      have := i2 c (.head _)
      rw [List.sum_cons]
      show _ = false
      rw [beq_eq_false_iff_ne]; omega
  have hop : Op2 W n (compareOp .Eq) (bhD rp) (.list [.int 0, .int 4]) (.bool rp) := by
    have := op_eqD (W := W) (n := n) (a := bhD rp) (b := .list [.int 0, .int 4]) (k := 1) (OkD.list ?_) (OkD.list ?_) (by omega)
    · rw [hbeh] at this; exact this
    · intro d hd
      rcases List.mem_cons.mp hd with rfl | hd
      · exact OkD.int
      · rw [List.mem_singleton.mp hd]; exact OkD.int
    · intro d hd
      rcases List.mem_cons.mp hd with rfl | hd
      · exact OkD.int
      · rw [List.mem_singleton.mp hd]; exact OkD.int
  rw [← e1]
  exact Tr.bool (Trs.and (Tr.cmp (Ex.name h1) Ex.strC op_eqS rfl) fun _ => Trs.and (Tr.cmp (Ex.name h2) (Ex.list (Exs.cons Ex.int (Exs.cons Ex.int Exs.nil)) rfl (show 2 ≤ 1000000 by omega)) hop rfl) fun _ => Trs.nil)
theorem idx_back (k n : Nat) (hk : 0 < k) : idxD (-((k : Nat) : Int)) n = n - k := by
  unfold idxD
  rw [if_pos (by omega)]
  omega
set_option maxHeartbeats 1000000 in
theorem fn_pieces (H : Ok W) {t : Str} {zs : List Nat} (hne : zs ≠ []) (hpos : ∀ z ∈ zs, 1 ≤ z) (hsum : t.length = 4 * zs.sum) (hl : t.length ≤ 1000) :
    Fn W (n + 5) (.ref 157) [.str t, .list (zs.map natD)] (.list ((cutE t zs).map .str)) :=
  Fn.of_def (params := ["text", "sizes"]) (defOk H f_pieces (fun _ => rfl) rfl rfl rfl rfl rfl (by decide) rfl) rfl rfl (bind2 fun _ _ => rfl) fun L => by
    have hlen : ∀ {l : List Nat}, (∀ z ∈ l, 1 ≤ z) → l.length ≤ l.sum := by
      intro l
      induction l with
      | nil => intro _; exact Nat.le_refl _
      | cons a l ih =>
        intro h
        have h1 := h a (.head _)
        have h2 := ih fun z hz => h z (.tail _ hz)
        rw [List.length_cons, List.sum_cons]; omega
    have hzl := hlen hpos
    refine Bx.seq (Sx.assign (d := bhD false) (Ex.list (Exs.cons Ex.int (Exs.cons Ex.int Exs.nil)) rfl (show 2 ≤ 1000000 by omega)) rfl rfl) ?_
    refine Bx.cons (R' := fun ρ' fl => fl = .next ∧ ∃ cs j z rp, cs ≠ [] ∧ zs = cs ++ List.replicate j z ∧ cs.getLast? = some z ∧ (rp = false → j = 0) ∧ lk ρ' "text" = some (.sh (.str t)) ∧ lk ρ' "sizes" = some (.sh (.list (cs.map natD))) ∧ lk ρ' "behind" = some (.sh (bhD rp)))
      ?_ ?_ (fun ρ' fl hn h => absurd h.1 hn)
    · refine Sx.while (fun f ρ' => ∃ cs j z rp, cs ≠ [] ∧ zs = cs ++ List.replicate j z ∧ cs.getLast? = some z ∧ (rp = false → j = 0) ∧ lk ρ' "text" = some (.sh (.str t)) ∧ lk ρ' "sizes" = some (.sh (.list (cs.map natD))) ∧ lk ρ' "behind" = some (.sh (bhD rp)) ∧ cs.length ≤ f)
        ?_ zs.length ⟨zs, 0, zs.getLast hne, false, hne, by simp, List.getLast?_eq_some_getLast hne, fun _ => rfl, rfl, rfl, rfl, Nat.le_refl _⟩
      rintro f ρ' ⟨cs, j, z, rp, h1, h2, h3, h4, h5, h6, h7, h8⟩
      have hcl : cs.length ≤ 1000 := by
        have : zs.length = cs.length + j := by rw [h2]; simp
        omega
      have hml : (cs.map natD).length = cs.length := List.length_map _
      have hbi : (decide ((1 : Int) < ((cs.map natD).length : Int)) && ((((cs.getD (cs.length - 1) 0 : Nat) : Int) == ((cs.getD (cs.length - 2) 0 : Nat) : Int)) && (BoolOp.And == BoolOp.And))) = true ↔ (1 < cs.length ∧ cs[cs.length - 1]? = cs[cs.length - 2]?) := by
        rw [Bool.and_eq_true, decide_eq_true_iff, hml]
        constructor
        · rintro ⟨h1, h2⟩
          have h1 : 1 < cs.length := by omega
          refine ⟨h1, ?_⟩
          have h2 : ((cs.getD (cs.length - 1) 0 : Nat) : Int) = ((cs.getD (cs.length - 2) 0 : Nat) : Int) := by
            have := (Bool.and_eq_true_iff.mp h2).1
            simpa using this
          have h2 : cs.getD (cs.length - 1) 0 = cs.getD (cs.length - 2) 0 := by omega
          rw [List.getD_eq_getElem?_getD, List.getD_eq_getElem?_getD, List.getElem?_eq_getElem (by omega), List.getElem?_eq_getElem (by omega)] at h2
          rw [List.getElem?_eq_getElem (by omega), List.getElem?_eq_getElem (by omega)]
          exact congrArg some h2
        · rintro ⟨h1, h2⟩
          refine ⟨by omega, Bool.and_eq_true_iff.mpr ⟨?_, rfl⟩⟩
          rw [List.getD_eq_getElem?_getD, List.getD_eq_getElem?_getD, h2]
          simp
      refine ⟨_, Tr.bool (Trs.and (Tr.cmp (Ex.len (q := ⟨0, 0, 0, 0⟩) H rfl (Ex.name h6) (by omega) rfl) Ex.int op_gt rfl) fun hb => Trs.and (Tr.cmp (a := natD (cs.getD (cs.length - 1) 0)) (b := natD (cs.getD (cs.length - 2) 0)) (Ex.item (Ex.name h6) (Ex.neg Ex.int) ?_ ?_ (by omega) ?_ (fun _ _ => rfl)) (Ex.item (Ex.name h6) (Ex.neg Ex.int) ?_ ?_ (by omega) ?_ (fun _ _ => rfl)) op_eq rfl) fun _ => Trs.nil), fun e => ?_, fun e => ?_⟩
      · have hb : (1 : Int) < (cs.map natD).length := by simpa using hb
        omega
      · have hb : (1 : Int) < (cs.map natD).length := by simpa using hb
        omega
      · have hb : (1 : Int) < (cs.map natD).length := by simpa using hb
        have : idxD (-1) (cs.map natD).length = cs.length - 1 := by rw [hml]; exact idx_back 1 _ (by decide)
        rw [this, List.getElem?_map, List.getElem?_eq_getElem (by omega), List.getD_eq_getElem?_getD, List.getElem?_eq_getElem (by omega)]; rfl
      · have hb : (1 : Int) < (cs.map natD).length := by simpa using hb
        omega
      · have hb : (1 : Int) < (cs.map natD).length := by simpa using hb
        omega
      · have hb : (1 : Int) < (cs.map natD).length := by simpa using hb
        have : idxD (-2) (cs.map natD).length = cs.length - 2 := by rw [hml]; exact idx_back 2 _ (by decide)
        rw [this, List.getElem?_map, List.getElem?_eq_getElem (by omega), List.getD_eq_getElem?_getD, List.getElem?_eq_getElem (by omega)]; rfl
      · obtain ⟨g1, g2⟩ := hbi.mp e
        refine Bx.seq (Sx.assign (d := .list ((cs.take (cs.length - 1)).map natD)) (by
          have e : pickD (cs.map natD) Option.none (some (-((1 : Nat) : Int))) Option.none = (cs.take (cs.length - 1)).map natD := by rw [pick_map, pick_butLast _ _ (Nat.le_refl _)]
          rw [← e]
          exact Ex.sliceL (Ex.name h6) rfl ⟨_, rfl, Ex.neg Ex.int⟩ rfl (fun q => nomatch q) (by omega)) rfl rfl) ?_
        refine Bx.mono (Bx.last (Sx.assign (d := bhD true) (Ex.list (Exs.cons Ex.int (Exs.cons Ex.int Exs.nil)) rfl (show 2 ≤ 1000000 by omega)) rfl rfl)) ?_
        rintro ρ'' fl ⟨rfl, rfl⟩
        have hlast : cs[cs.length - 1]? = some z := by rw [← List.getLast?_eq_getElem?]; exact h3
        have hdl : cs.take (cs.length - 1) ++ [z] = cs := by
          have := List.take_append_getElem (l := cs) (i := cs.length - 1) (by omega)
          rw [List.getElem?_eq_getElem (by omega)] at hlast
          rw [Option.some.inj hlast, show cs.length - 1 + 1 = cs.length by omega, List.take_length] at this
          exact this
        refine ⟨cs.length - 1, by omega, cs.take (cs.length - 1), j + 1, z, true, ?_, ?_, ?_, (fun h => by cases h), lk1 rfl (lk1 rfl h5), lk1 rfl lk0, lk0, by simp⟩
        · intro h
          have := congrArg List.length h
          simp at this
          omega
        · rw [h2, List.replicate_succ]
          conv => lhs; rw [← hdl]
          rw [List.append_assoc]; rfl
        · have em : min (cs.length - 1) cs.length = cs.length - 1 := Nat.min_eq_left (Nat.sub_le _ _)
          rw [List.getLast?_eq_getElem?, List.length_take, List.getElem?_take, em, if_pos (Nat.sub_lt (Nat.sub_pos_of_lt g1) (by decide)), ← hlast, g2, Nat.sub_sub]
      · exact Bx.nil ⟨rfl, cs, j, z, rp, h1, h2, h3, h4, h5, h6, h7⟩
    · rintro ρ₁ ⟨_, cs, j, z, rp, h1, h2, h3, h4, h5, h6, h7⟩
      have hcl : cs.length ≤ 1000 := by
        have : zs.length = cs.length + j := by rw [h2]; simp
        omega
      refine Bx.seq (Sx.assignOwn Exs.nil rfl rfl (show 0 ≤ 1000000 by omega)) ?_
      generalize hfin : cutE t zs = fin
      refine Bx.cons (R' := fun ρ' fl => fl = .next ∧ lk ρ' "pieces" = some (.own (fin.map fun x => .sh (.str x)))) ?_ ?_ (fun ρ' fl hn h => absurd h.1 hn)
      · refine Sx.forGen H (ns := cs.map (fun c => ((4 * c : Nat) : Int)) ++ (if rp then [0, 4] else [127, 4])) (gl_grouping_intervals H rfl) ?_ rfl rfl
          (fun f k ρ' => ∃ zs' t' ps, KzR rp j z k zs' ∧ (∀ z ∈ zs', 1 ≤ z) ∧ t'.length = 4 * zs'.sum ∧ lk ρ' "text" = some (.sh (.str t')) ∧ lk ρ' "behind" = some (.sh (bhD rp)) ∧ lk ρ' "pieces" = some (.own (ps.map fun x => .sh (.str x))) ∧ ps ++ cutE t' zs' = fin ∧ zs'.length ≤ f ∧ t'.length ≤ 1000 ∧ ps.length + zs'.length ≤ 1000) ?_ zs.length ?_
        · rw [List.map_append]
          refine Ex.binop (a := .list ((cs.map (fun c => ((4 * c : Nat) : Int))).map .int)) (b := bhD rp) ?_ ?_ (d := .list (_ ++ _)) ?_
          · rw [List.map_map]
            refine Ex.comp (cap := []) (ds := cs.map natD) (Itx.of (Ex.name (lk1 rfl h6)) iterOf_list) (compOk rfl (fun C => trivial) (by show (["size"] : List Str).Nodup; decide)) (by rw [List.length_map]; omega) (fun C => ?_) (fun _ => rfl)
            refine CompP.ofMap natD _ fun c hc => ?_
            show Ex W _ _ _ _ (.int ((4 * c : Nat) : Int))
            rw [show ((4 * c : Nat) : Int) = 4 * (c : Int) by omega]
            exact Ex.binop Ex.int (Ex.name rfl) (op_mul (mulOk_left (by decide)))
          · exact Ex.name (lk1 rfl h7)
          · have e : bhD rp = .list ((if rp then [0, 4] else [127, 4] : List Int).map D.int) := by cases rp <;> rfl
            rw [e]
            refine op_addL ?_
            rw [List.length_map, List.length_map, List.length_map]
            cases rp <;> simp <;> omega
        · rintro f k ρ' ⟨zs', t', ps, i1, i2, i3, i4, i5, i6, i7, i8, i9, i10⟩
          obtain ⟨g1, g2, g3⟩ := kz_next h4 i2 i1
          refine ⟨g1, fun e => ?_, fun y k' e => ?_⟩
          · have := g2 e
            subst this
            rw [show cutE t' [] = [] by cases t' <;> rfl, List.append_nil] at i7
            exact ⟨rfl, i7 ▸ i6⟩
          · obtain ⟨r1, r2⟩ := g3 y k' e
            cases zs' with
            | nil =>
              have hrp := r1 rfl
              subst hrp
              rw [show cutE t' [] = [] by cases t' <;> rfl, List.append_nil] at i7
              refine Bx.cons (Sx.ite (tr_done i2 i3 (lk1 rfl i4) (lk1 rfl i5)) (fun _ => Bx.last (Sx.brk (R := fun ρ' fl => fl = .brk ∧ lk ρ' "pieces" = some (.own (fin.map fun x => .sh (.str x)))) ⟨rfl, lk1 rfl (i7 ▸ i6)⟩)) (fun h => by cases h)) (fun ρ'' h => by cases h.1) fun ρ'' fl _ h => ?_
              rw [h.1]
              exact ⟨rfl, h.2⟩
            | cons c zs' =>
              obtain ⟨rfl, hk'⟩ := r2 c zs' rfl
              have hc := i2 c (.head _)
              have hsl : t'.length = 4 * c + 4 * zs'.sum := by rw [i3, List.sum_cons]; omega
              rw [List.length_cons] at i8 i10
              refine Bx.seq (ρ' := put ρ' "size" (.sh (.int ((4 * c : Nat) : Int)))) (Sx.ite (tr_done i2 i3 (lk1 rfl i4) (lk1 rfl i5)) (fun h => by cases h) (fun _ => Bx.nil ⟨rfl, rfl⟩)) ?_
              refine Bx.seq (Sx.append (d := .str (Txt.slice t' (some (-((4 * c : Nat) : Int))) Option.none)) (lk1 rfl i6) (Ex.sliceS (Ex.name (lk1 rfl i4)) ⟨_, rfl, Ex.neg (Ex.name lk0)⟩ rfl (by omega)) (by rw [List.length_map]; omega) rfl rfl) ?_
              refine Bx.mono (Bx.last (Sx.assign (d := .str (Txt.slice t' Option.none (some (-((4 * c : Nat) : Int))))) (Ex.sliceS (Ex.name (lk1 rfl (lk1 rfl i4))) rfl ⟨_, rfl, Ex.neg (Ex.name (lk1 rfl lk0))⟩ (by omega)) rfl rfl)) ?_
              rintro ρ'' fl ⟨rfl, rfl⟩
              have hl' := slice_len (t := t') (k := 4 * c) (by omega)
              refine ⟨zs'.length, by omega, zs', _, ps ++ [Txt.slice t' (some (-((4 * c : Nat) : Int))) Option.none], hk', fun z hz => i2 z (.tail _ hz), ?_, lk0, lk1 rfl (lk1 rfl (lk1 rfl i5)), lk1 rfl (lk0.trans ?_), ?_, Nat.le_refl _, by omega, ?_⟩
              · rw [hl']; omega
              · rw [List.map_append]; rfl
              · rw [List.append_assoc]; exact i7
              · rw [List.length_append]; simp; omega
        · refine ⟨zs, t, [], ⟨cs, h1, rfl, h2, fun _ => h3⟩, hpos, hsum, lk1 rfl h5, lk1 rfl h7, lk0, hfin, Nat.le_refl _, hl, by simp; omega⟩
      · rintro ρ' ⟨_, h⟩
        refine Bx.conv (Conv.freeze h) (Bx.ret (Ex.name (lk0.trans ?_)))
        rw [List.map_map]
        rfl
end
end Mine
end

-- R1
section
open PySem PySem.W PyProof.Rows
open PySem.W.X (SegX)
set_option maxRecDepth 100000
namespace Mine
section
variable {M : Model} {A : Around} {E : Value → Shared → Prop} {s : Shared} {base h : Heap} {env : Env} {outer l : List Env} {L e : Addr} {cls a0 : Value} {args : List Value} {Q : Unit → Shared → Prop}
theorem note_made (hfr : A.frames = some (env :: outer)) (hf : env.frame = some L) (hkb : base.StaysIn h) (hl : h.FunFrames base (env :: outer)) (hx : Heap.MadeExcOf h s.heap e cls args)
    (hQ : ∀ h' t, Heap.HeldW base (env :: outer) e cls (.ref t) L h' → h'.TupAt t args → base.get? t = Option.none → s.heap.UpToSlots h' → Q () { s with heap := h' }) : wpAny M A (noteFrame (.ref e) env) Q E s := by
  obtain ⟨t, he, htn, ht⟩ := hx.there
  have fresh : ∀ b, h.get? b = Option.none → base.get? b = Option.none := fun b hb => by
    cases hq : base.get? b with
    | none => rfl
    | some o' => have := hkb b o' hq; rw [hb] at this; cases this
  unfold noteFrame
  simp only [hf]
  refine wpAny_bind (wpAny_field he rfl (x := .none) rfl ?_)
  rw [if_neg (by decide)]
  refine wpAny_entryW (a0 := .ref t) hfr (hl.of_keeps fun b o hb _ => ⟨o, hx.keeps b o hb, rfl⟩) hf he (fun b o hb => hx.keeps b o (hkb b o hb)) (fresh e hx.new) rfl (show 1 < 6 by decide) rfl fun h' hN => ?_
  obtain ⟨k1, k2, k3, k4⟩ := hN
  exact hQ h' t ⟨k1, fresh e hx.new, k2, k3⟩ (Heap.TupAt.of_slots ⟨_, _, ht, rfl, rfl⟩ k4) (fresh t htn) k4
theorem held_again {m : String} (R : Heap.HeldW base l e cls a0 L s.heap) (hf : env.frame = some L)
    (h : ∀ h', Heap.HeldW base l e cls a0 L h' → s.heap.UpToSlots h' → Q () { s with heap := h' }) : wpAny M A (do
      if (← field (.ref e) 1) == Value.none then unsupported m
      setFlight (.ref e) env.frame) Q E s := by
  obtain ⟨hkb, hen, hl, oe, vs, T, oT, ts, he, hcls, hd, h1, hnT, hTe, hT, hdT, h3⟩ := R
  have hsz3 : 3 < ts.size := (Array.getElem?_eq_some_iff.mp h3).1
  have other : ∀ b, b ≠ T → (s.heap.update T (Obj.mapFields (·.setIfInBounds 3 ((some L).elim Value.none fun f => rawInt f)))).get? b = s.heap.get? b :=
    fun b hb => Heap.get?_update_other _ _ (Ne.symm hb)
  have noRecord : ∀ b o, s.heap.get? b = some o → (∀ vs, o.data ≠ .fields vs) → b ≠ T := fun b o hb hnf q => by
    rw [q, hT] at hb; injection hb with hb; subst hb; exact hnf ts hdT
  rw [hf]
  refine wpAny_bind (wpAny_field he hd h1 ?_)
  rw [if_neg (show ¬ ((Value.ref T == Value.none) = true) from by simp)]
  show wpAny M A (setFlight (.ref e) (some L)) Q E s
  unfold setFlight
  refine wpAny_bind (wpAny_field he hd h1 ?_)
  rw [if_pos (show (Value.ref T != Value.none) = true from by simp)]
  refine wpAny_setField hT hdT hsz3 (h _ ⟨fun b o hbo => (other b fun q => by rw [q, hnT] at hbo; cases hbo).trans (hkb b o hbo), hen,
    hl.of_keeps fun b o hb hnf => ⟨o, (other b (noRecord b o hb hnf)).trans hb, rfl⟩, ?_⟩ fun b o hb hnf => ⟨o.slots, (other b (noRecord b o hb hnf)).trans hb⟩)
  exact ⟨oe, vs, T, _, _, (other e (Ne.symm hTe)).trans he, hcls, hd, h1, hnT, hTe, Heap.get?_update_self _ hT (Obj.isFreed_of_fields (Obj.data_mapFields hdT _)), Obj.data_mapFields hdT _, by simp [hsz3]⟩
theorem leave_held (hf : env.frame = some L) (hh : Heap.HeldW base (env :: outer) e cls a0 L s.heap) (hQ : ∀ h', Heap.FlyingW base outer e cls a0 h' → s.heap.UpToSlots h' → Q () { s with heap := h' }) : wpAny M A (leaving env (.ref e)) Q E s := by
  unfold leaving
  refine wpAny_bind (wpAny_noteFrame_againW hf hh.2.2.2 ?_)
  refine wpAny_landsW hh fun h' hfl hup => ?_
  obtain ⟨k1, k2, ⟨_, _, k3⟩, k4⟩ := hfl
  exact hQ h' ⟨k1, k2, k3, k4⟩ hup
end
noncomputable def msgS : Str := "invalid grouping"
/-- the frames further out -/
noncomputable def OutOk (h : Heap) (l : List Env) : Prop := ∀ env ∈ l, env.scope.kind ≠ .module ∧ ∃ L o es ep, env.frame = some L ∧ h.get? L = some o ∧ o.data = .dict es ep
theorem OutOk.fun {h : Heap} {as : List Addr} : ∀ {l : List Env}, OutOk h l → (∀ env ∈ l, ∀ a, env.frame = some a → a ∈ as) → h.FunFrames (hideAll h as) l
  | [], _, _ => trivial
  | env :: r, x, hm => by
    obtain ⟨hk, L, o, es, ep, hf, ho, hd⟩ := x env (.head _)
    exact ⟨hk, ⟨L, o, hf, hideAll_none _ (hm env (.head _) L hf), ho, fun vs q => by rw [hd] at q; cases q⟩, OutOk.fun (fun e he => x e (.tail _ he)) fun e he => hm e (.tail _ he)⟩
theorem OutOk.keeps {h h' : Heap} {l : List Env} (x : OutOk h l) (k : ∀ b o es ep, h.get? b = some o → o.data = .dict es ep → ∃ o' es' ep', h'.get? b = some o' ∧ o'.data = .dict es' ep') : OutOk h' l := fun env he => by
  obtain ⟨hk, L, o, es, ep, hf, ho, hd⟩ := x env he
  obtain ⟨o', es', ep', ho', hd'⟩ := k L o es ep ho hd
  exact ⟨hk, L, o', es', ep', hf, ho', hd'⟩
noncomputable abbrev GensUp (s s' : Shared) : Prop := ∃ more : Array GenState, s'.gens = s.gens ++ more ∧ ∀ y ∈ more, y.bare = true
/-- the error is on its way out -/
noncomputable def Fly (s : Shared) (fr : List Addr) (outer : List Env) (e : Addr) (s' : Shared) : Prop := ∃ base t tk, (∀ b o, s.heap.get? b = some o → b ∉ fr → base.get? b = some o) ∧ Heap.FlyingW base outer e (.type "ValueError") (.ref t) s'.heap ∧
  s'.heap.TupAt t [.str msgS tk] ∧ base.get? t = Option.none ∧ s.heap.UpToSlots s'.heap ∧ s'.os = s.os ∧ GensUp s s'
section
variable {W : Wd} {n m : Nat} {env : Env} {A : Around} {E : Value → Shared → Prop} {s s' s₀ : Shared} {L it a : Addr} {g : Nat} {p : Pos} {B H0 : Heap} {G fp fp' V : List Addr} {ρ ρ' : Rho} {R : Rho → Fl → Prop} {P : End → Shared → Prop}
theorem gen_raise (H : Ok W) {outer : List Env} {K : Flow → Sem Fin} (S : St W (envG L) B V [] s ρ) (hl : lk ρ "last_interval" = some (.sh .none)) (hA : AOk (n + 2) A) (hfr : A.frames = some outer) (hfo : OutOk s.heap outer)
    (hP : ∀ e s', Fly s (L :: outer.filterMap (·.frame)) outer e s' → P (.ret (.error (.ref e))) s') : SegX W.M A.in1 (forC L it) ((exec gR.1.2.1 (envG L)).wrap K (hLoop (envG L)) id id) (fs1 L p) s P := by
  refine gx_if ((Tr.cmp (Ex.name hl) Ex.noneC (op_isNone (d := .none) rfl) rfl : Tr W n (envG L) ρ _ true).r B V [] s _ _ _ S hA.over1 fun s₁ e₁ => ?_)
  rw [if_pos rfl]
  have S₁ := S.ext e₁
  have hfr' : (A.in1.over (forC L it) (fs1 L p)).frames = some (envG L :: outer) := by
    show pushEnvs [envG L] A.frames = _
    rw [hfr]; rfl
  refine gx_cons (gx_wrap ?_)
  refine Raise_madeB PySem.F.excCall_ValueError PySem.F.excRaise_ValueError hA.hd ((gl_ValueError H rfl).load S₁ ⟨rfl, ?_⟩)
  rw [backTo_plain rfl]
  refine (Exs.cons Ex.strC Exs.nil : Exs W n (envG L) ρ _ [.str msgS]).r B V [] s₁ _ _ _ S₁ hA.over1 fun vs s₂ rvs e₂ => ?_
  obtain ⟨v, _, rfl, ⟨tk, rfl⟩, hnil⟩ := rvs
  have hnil : _ = [] := hnil
  subst hnil
  refine ⟨show 1 ≤ sizeLine by rw [sizeLine_eq]; decide, fun h' e hx => ?_⟩
  have e₁₂ := e₁.trans e₂
  have S₂ := S₁.ext e₂
  have hoG : OutOk s₂.heap (envG L :: outer) := fun env he => by
    rcases List.mem_cons.mp he with rfl | he
    · obtain ⟨mm, cm, ⟨oL, es, ep, hoL, hdL, _⟩, _⟩ := S₂.frame
      exact ⟨fun q => (by cases (show ScopeKind.function = .module from q)), L, oL, es, ep, rfl, hoL, hdL⟩
    · exact hfo.keeps (fun b o es ep ho hd => ⟨o, es, ep, e₁₂.keep b o ho, hd⟩) env he
  have hff := hoG.fun (as := L :: outer.filterMap (·.frame)) fun env he a ha => by
    rcases List.mem_cons.mp he with rfl | he
    · cases ha; exact .head _
    · exact .tail _ (List.mem_filterMap.mpr ⟨env, he, ha⟩)
  show SegX W.M A.in1 (forC L it) (hLoop (envG L) (.ref e)) (fs1 L p) { s₂ with heap := h' } P
  unfold hLoop
  refine gx_wrap (wpAny_bind (note_made (s := { s₂ with heap := h' }) hfr' (L := L) rfl (fun b o q => of_hideAll _ q) hff hx.of fun h₃ t hheld htup htn hup₃ => wpAny_theTreesLotGoes ?_))
  refine PySem.W.X.s_pop W.prog W.w A.in1 _ [] P _ (.error (.ref e)) _ rfl _ _ _ _ _ _ _ ?_
  unfold onBack
  refine gx_wrap (wpAny_onRaise (wpAny_throw (held_again (s := { s₂ with heap := h₃ }) hheld rfl fun h₄ hheld₄ hup₄ => ?_)))
  unfold hFunc
  refine gx_wrap (leave_held (s := { s₂ with heap := h₄ }) rfl hheld₄ fun h₅ hfl hup₅ => ?_)
  refine PySem.W.X.s_end W.prog W.w A.in1 _ P _ (.error (.ref e)) _ rfl (hP e _ ⟨_, t, tk, ?_, hfl, (htup.of_slots hup₄).of_slots hup₅, htn, ?_, e₁₂.os, e₁₂.gens⟩)
  · exact fun b o ho hn => hideAll_get _ (e₁₂.keep b o ho) hn
  · exact (Heap.UpToSlots.of_keeps fun b o ho => hx.keeps b o (e₁₂.keep b o ho)).trans ((hup₃.trans hup₄).trans hup₅)
end
end Mine
end

-- R2
section
open PySem PySem.W PyProof.Rows
open PySem.W.X (SegX)
set_option maxRecDepth 100000
namespace Mine
section
variable {W : Wd} {n m : Nat} {env : Env} {A : Around} {E : Value → Shared → Prop} {s s' s₀ : Shared} {L it a : Addr} {g : Nat} {p : Pos} {B H0 : Heap} {G fp fp' V : List Addr} {ρ ρ' : Rho} {R : Rho → Fl → Prop} {P : End → Shared → Prop}
/-- the error is on its way out of the generator whose names lie at L -/
noncomputable def FlyL (s : Shared) (L : Addr) (outer : List Env) (e : Addr) (s' : Shared) : Prop := ∃ base t tk, (∀ b o, s.heap.get? b = some o → b ∉ L :: outer.filterMap (·.frame) → base.get? b = some o) ∧ Heap.FlyingW base outer e (.type "ValueError") (.ref t) s'.heap ∧
  s'.heap.TupAt t [.str msgS tk] ∧ base.get? t = Option.none ∧ (∀ b o, b ≠ L → s.heap.get? b = some o → (∀ vs, o.data ≠ .fields vs) → ∃ sl, s'.heap.get? b = some { o with slots := sl }) ∧ s'.os = s.os ∧ GensUp s s'
theorem GensUp.trans {a b c : Shared} (x : GensUp a b) (y : GensUp b c) : GensUp a c := by
  obtain ⟨m1, e1, b1⟩ := x
  obtain ⟨m2, e2, b2⟩ := y
  refine ⟨m1 ++ m2, by rw [e2, e1, Array.append_assoc], fun g hg => ?_⟩
  rcases Array.mem_append.mp hg with h | h
  · exact b1 g h
  · exact b2 g h
theorem turn_bad (H : Ok W) {ns : List Int} {outer : List Env} (S : St W (envG L) B V [] s [("grouping", .sh (.list ((0 :: ns).map .int)))]) (hA : AOk (n + 3) A) (hfr : A.frames = some outer) (hfo : OutOk s.heap outer)
    (hP : ∀ e s', FlyL s L outer e s' → P (.ret (.error (.ref e))) s') : SegX W.M A.in1 (.func f_group.1.2 (envG L)) (denote table (.func f_group.1.2 (envG L))) [] s P := by
  refine gx_func ?_
  have st : Sx W (n + 1) (envG L) [("grouping", .sh (.list ((0 :: ns).map .int)))] gP.1.1 (fun r fl => r = put [("grouping", .sh (.list ((0 :: ns).map .int)))] "last_interval" (.sh .none) ∧ fl = .next) := Sx.assign Ex.noneC rfl rfl
  refine gx_cons (gx_wrap (st.r B V [] s _ _ _ S hA.overF fun f s₁ ρ₁ fp₁ fl hr S₁ hf sx => ?_))
  obtain ⟨rfl, rfl⟩ := hr
  rw [show f = .next from hf]
  have hsh₁ : AllSh (put [("grouping", .sh (.list ((0 :: ns).map .int)))] "last_interval" (.sh .none)) := fun p hp => by
    rcases List.mem_cons.mp hp with rfl | hp
    · exact ⟨_, rfl⟩
    · rw [List.mem_singleton.mp hp]; exact ⟨_, rfl⟩
  have hnil := S₁.fpNil hsh₁
  subst hnil
  refine gx_cons (gx_for ((Ex.name rfl : Ex W (n + 1) (envG L) _ _ (.list ((0 :: ns).map .int))).r B V [] s₁ _ _ _ S₁ hA.overF fun v s₂ rv e₂ => ?_) (fun _ => rfl))
  have S₂ := S₁.ext e₂
  obtain ⟨a, vs, rfl, hpl, ha, hrl⟩ := rv
  refine wpAny_pyIter_list hpl.isList fun p => ?_
  have S₃ := S₂.ext (Ext.push (o := { cls := .type "list_iterator", data := .fields #[.ref a, .int 0 0] }))
  have hfresh : s.heap.get? s₂.heap.objs.size = Option.none := by
    cases q : s.heap.get? s₂.heap.objs.size with
    | none => rfl
    | some o =>
      obtain ⟨o', ho'⟩ := sx.there _ o q
      have := e₂.keep _ o' ho'
      rw [new_none] at this; cases this
  have hit : ListIt s₂.heap.objs.size (s₂.heap.push { cls := .type "list_iterator", data := .fields #[.ref a, .int 0 0] }) V ((0 :: ns).map .int) := by
    refine ⟨a, vs, 0, _, ⟨_, Heap.get?_push_size _ rfl, rfl, rfl⟩, ?_, by simpa using ha, hrl.ext (Ext.push (s := s₂)), rfl⟩
    obtain ⟨o, k, ho, r⟩ := hpl
    exact ⟨o, k, Heap.get?_push_of_some _ ho, r⟩
  have kx : ∀ b o, b ≠ L → s.heap.get? b = some o → (s₂.heap.push { cls := .type "list_iterator", data := .fields #[.ref a, .int 0 0] }).get? b = some o := fun b o hb ho =>
    Heap.get?_push_of_some _ (e₂.keep b o (sx.keep b o ho fun hq => by
      rcases hq with h | ⟨_, k, hk, hc⟩ | h
      · exact hb h
      · cases hc
      · cases h))
  refine for_turn (n := n) (dl := .none) H S₃ hsh₁ (.inl rfl) rfl hit ?_ ?_ (hA.mono (by omega)) ?_ ?_ ?_ ?_
  · cases q : B.get? s₂.heap.objs.size with
    | none => rfl
    | some o => have := S.keep _ o q; rw [hfresh] at this; cases this
  · intro hv
    obtain ⟨⟨o, ho⟩, _⟩ := S.GB _ hv
    rw [hfresh] at ho; cases ho
  · rintro (h | ⟨ns', h⟩)
    · cases h
    · cases h
  · intro x ns' h hx hx0
    cases h
    exact absurd rfl hx0
  · intro y ns' h hy
    cases hy
  · intro ns' h _ s₄ ρ₄ hsh₄ S₄ hl₄ g₄ K
    have kx₄ : ∀ b o, b ≠ L → s.heap.get? b = some o → s₄.heap.get? b = some o := fun b o hb ho => g₄.keep b o (fun hm => by
      rcases List.mem_cons.mp hm with h | h
      · exact hb h
      · rw [List.mem_singleton.mp h, hfresh] at ho; cases ho) (kx b o hb ho)
    have hfo₄ : OutOk s₄.heap outer := hfo.keeps fun b o es ep ho hd => by
      by_cases hb : b = L
      · subst hb
        obtain ⟨mm, cm, ⟨oL, es', ep', hoL, hdL, _⟩, _⟩ := S₄.frame
        exact ⟨oL, es', ep', hoL, hdL⟩
      · exact ⟨o, es, ep, kx₄ b o hb ho, hd⟩
    refine gen_raise (n := n) H S₄ hl₄ (hA.mono (by omega)) hfr hfo₄ fun e s' hF => hP e s' ?_
    obtain ⟨base, t, tk, h1, h2, h3, h4, h5, h6, h7⟩ := hF
    refine ⟨base, t, tk, fun b o ho hn => h1 b o (kx₄ b o (fun hb => hn (hb ▸ .head _)) ho) hn, h2, h3, h4, fun b o hb ho hd => h5 b o (kx₄ b o hb ho) hd, h6.trans (g₄.os.trans (e₂.os.trans sx.os)), GensUp.trans ?_ h7⟩
    have : GensUp s s₂ := GensUp.trans sx.gens e₂.gens
    exact GensUp.trans (b := { s₂ with heap := s₂.heap.push { cls := .type "list_iterator", data := .fields #[.ref a, .int 0 0] } }) this g₄.gens
end
end Mine
end

-- R3
section
open PySem PySem.W PyProof.Rows
open PySem.W.X (SegX)
set_option maxRecDepth 100000
namespace Mine
section
variable {W : Wd} {n m : Nat} {env : Env} {A : Around} {E : Value → Shared → Prop} {s s' s₀ : Shared} {L it a : Addr} {g : Nat} {p : Pos} {B H0 : Heap} {G fp fp' V : List Addr} {ρ ρ' : Rho} {R : Rho → Fl → Prop} {P : End → Shared → Prop}
/-- the error has left the generator -/
noncomputable def FlyG (g : Nat) (s : Shared) (L : Addr) (outer : List Env) (e : Addr) (s' : Shared) : Prop := ∃ base t tk, (∀ b o, s.heap.get? b = some o → b ∉ L :: outer.filterMap (·.frame) → base.get? b = some o) ∧ Heap.FlyingW base outer e (.type "ValueError") (.ref t) s'.heap ∧
  s'.heap.TupAt t [.str msgS tk] ∧ base.get? t = Option.none ∧ (∀ b o, b ≠ L → s.heap.get? b = some o → (∀ vs, o.data ≠ .fields vs) → ∃ sl, s'.heap.get? b = some { o with slots := sl }) ∧ s'.os = s.os ∧ GensOk g s s'
theorem gen_next_bad (H : Ok W) {ns : List Int} {outer : List Env} {Q : Option Value → Shared → Prop} (hgen : s.heap.IsGen a g) (hgs : s.gens[g]? = some (.fresh (.func f_group.1.2 (envG L)))) (S : St W (envG L) B V [] s [("grouping", .sh (.list ((0 :: ns).map .int)))])
    (hA : AOk (n + 3) A) (hfr : A.frames = some outer) (hfo : OutOk s.heap outer) (haF : a ∉ L :: outer.filterMap (·.frame)) (hE : ∀ e s', FlyG g s L outer e s' → E (.ref e) s') : wpAny W.M A (pyNext (.ref a)) Q E s := by
  have hd := hA.dp
  refine next_gx hA.hd S.gl'.nl (by show A.depth < 1000; omega) hgen hgs (.inl ⟨rfl, rfl, rfl⟩) ?_
  refine turn_bad (n := n) (outer := outer) H (S.heapEq rfl) hA hfr hfo fun e s₁ hF => ?_
  obtain ⟨base, t, tk, h1, h2, h3, h4, h5, h6, h7⟩ := hF
  show wpAny W.M A.in1 (Builtin.Generator.genLeft (α := Fin) (.ref a) (.ref e)) _ _ (s₁.setGen g .finished)
  obtain ⟨oa, nm, qn, hoa, hca, hda, hsa⟩ := hgen
  have hoa₁ : s₁.heap.get? a = some oa := h2.1 a oa (h1 a oa hoa haF)
  obtain ⟨oe, hoe, hce⟩ := h2.there
  unfold Builtin.Generator.genLeft Builtin.Generator.madeByALambda
  have hty : (s₁.setGen g .finished).TypeIs (.ref e) "ValueError" := ⟨oe, hoe, hce⟩
  refine wpAny_bind (wpAny_bind (wpAny_load (o := oa) hoa₁ (wpAny_pure ?_)))
  rw [hca, hda]
  refine wpAny_bind (wpAny_isInstance (b := false) hty (by rw [isSubtype_type]; kernel_rfl) ?_)
  rw [if_neg (by rw [Bool.and_false]; exact Bool.false_ne_true)]
  show wpAny W.M A.in1 (Builtin.Generator.genEscaped (α := Fin) (.ref e)) _ _ (s₁.setGen g .finished)
  unfold Builtin.Generator.genEscaped
  refine wpAny_bind (wpAny_isInstance (b := false) hty (by rw [isSubtype_type]; kernel_rfl) ?_)
  rw [if_pos (show (!false) = true from rfl)]
  refine wpAny_throw ⟨hty, hE e _ ⟨base, t, tk, h1, h2, h3, h4, h5, h6, ?_⟩⟩
  obtain ⟨more, g1, g2⟩ := gens_set (gs' := .finished) hgs h7
  exact ⟨.finished, more, g1, rfl, g2⟩
end
end Mine
end

-- R4
section
open PySem PySem.W PyProof.Rows
open PySem.W.X (SegX)
set_option maxRecDepth 100000
namespace Mine
section
variable {W : Wd} {n m : Nat} {env : Env} {A : Around} {E : Value → Shared → Prop} {s s' s₀ : Shared} {L it a : Addr} {g : Nat} {p : Pos} {B H0 base : Heap} {G fp fp' V : List Addr} {ρ ρ' : Rho} {R : Rho → Fl → Prop} {P : End → Shared → Prop}
theorem Gv.loadH {f : Str} {fv : Value} {pos : Pos} {Q : Value → Shared → Prop} (g : Gv W env f fv) (hk : env.scope.kind = .function) (eg : env.globals = mainGlobals) (eb : env.builtins = builtinsNs) (hg : s.heap.Ns mainGlobals W.mg) (hb : s.heap.Ns builtinsNs W.mb) (h : Q fv s) : wpAny W.M A (eval (.Name f pos) env) Q E s := by
  refine Calls.Name_function_global hk g.kind ?_ g.dbg
  rw [← eg] at hg
  rw [← eb] at hb
  rcases g.val with h1 | ⟨h1, h2⟩
  · exact Calls.loadGlobal_global hg h1 h
  · exact Calls.loadGlobal_builtin hg h1 hb h2 h
noncomputable abbrev envH (L : Addr) : Env := callEnvC f_heard.1.1 L 164
noncomputable def hP : { q : List Stmt × ExceptHandler × Pos × Stmt // f_heard.1.2 = [.Try q.1 [q.2.1] [] [] q.2.2.1, q.2.2.2] } := ⟨(_, _, _, _), rfl⟩
theorem heard_handler (H : Ok W) {outer : List Env} {e t : Addr} {tk : Tok} {mm : Str → Option Value} {Q : Flow → Shared → Prop} (hh : Heap.HeldW base (envH L :: outer) e (.type "ValueError") (.ref t) L s.heap) (ht : s.heap.TupAt t [.str msgS tk]) (hns : s.heap.Ns L mm) (htn : base.get? t = Option.none)
    (hg : base.Ns mainGlobals W.mg) (hb : base.Ns builtinsNs W.mb) (hu : A.units + 2 < cLine)
    (hQ : ∀ l s', PL s'.heap l #[.str msgS tk] → (∀ b o, base.get? b = some o → s'.heap.get? b = some o) → (∀ b o, b ≠ L → s.heap.get? b = some o → (∀ vs, o.data ≠ .fields vs) → ∃ sl, s'.heap.get? b = some { o with slots := sl }) → s'.os = s.os → s'.gens = s.gens →
      base.get? l = Option.none → Q (.ret (.ref l)) s') :
    wpAny W.M A (noteFrame (.ref e) (envH L)) (fun _ s₂ => wpAny W.M A (setFlight (.ref e) Option.none) (fun _ s₃ => wpAny W.M A (handleBy (.ref e) (envH L) [hP.1.2.1]) Q E s₃) E s₂) E s := by
  refine wpAny_noteFrame_againW rfl hh.2.2.2 ?_
  refine wpAny_landsW hh fun h₁ hfl₁ hup₁ => ?_
  have ht₁ := ht.of_slots hup₁
  have hns₁ := hup₁.ns hns
  refine wpAny_handleBy_builtin_as (X := "ValueError") (T := "ValueError") (b := true) (by rw [isSubtype_type]; kernel_rfl) (by rw [isSubtype_type]; kernel_rfl) (by rw [isSubtype_type]; kernel_rfl) ?_
  have nsk : ∀ {h : Heap} {c : Addr} {f : Str → Option Value}, base.StaysIn h → base.Ns c f → h.Ns c f := fun k x => x.keeps k
  refine (gl_ValueError H rfl).loadH (s := { s with heap := h₁ }) rfl rfl rfl (nsk hfl₁.1 hg) (nsk hfl₁.1 hb) ⟨rfl, hfl₁.there, ?_⟩
  rw [if_pos rfl]
  refine lands_againW (s := { s with heap := h₁ }) hfl₁ fun h₂ hfl₂ hup₂ => ?_
  have ht₂ := ht₁.of_slots hup₂
  have hns₂ := hup₂.ns hns₁
  refine wpAny_storeName_local (s := { s with heap := h₂ }) (m := mm) rfl hns₂ (fun h₃ hns₃ hsb₃ => ?_) rfl
  -- the error and its words stand apart from the names
  obtain ⟨oe, ws, hoe, hoec, hoed, hoe0⟩ := hfl₂.first
  obtain ⟨ot, nt, hot, hotc, hotd⟩ := ht₂
  obtain ⟨oL, esL, epL, hoL, hdL, _⟩ := hns₂
  have heL : e ≠ L := fun q => by rw [q, hoL] at hoe; cases hoe; rw [hdL] at hoed; cases hoed
  have htL : t ≠ L := fun q => by rw [q, hoL] at hot; cases hot; rw [hdL] at hotd; cases hotd
  have hbL : base.get? L = Option.none := by
    obtain ⟨_, ⟨L', o', hf', hn', _⟩, _⟩ := hfl₂.2.2.1
    have : L = L' := Option.some.inj hf'
    rw [this]; exact hn'
  have kb₃ : ∀ b o, base.get? b = some o → h₃.get? b = some o := fun b o ho => (hsb₃.2 b fun q => by rw [show b = L from q, hbL] at ho; cases ho).trans (hfl₂.1 b o ho)
  have hex : h₃.ExcAt e "ValueError" (.ref t) := ⟨oe, ws, (hsb₃.2 e heL).trans hoe, hoec, hoed, hoe0⟩
  have htu : h₃.TupAt t [.str msgS tk] := ⟨ot, nt, (hsb₃.2 t htL).trans hot, hotc, hotd⟩
  refine wpAny_execs_cons (wpAny_Return_some (List_ ?_))
  rw [backTo_plain rfl]
  refine Calls.spliced_cons (wpAny_Call_Name_kw ((gl_str H rfl).loadH (s := { s with heap := h₃, toks := s.toks + 1 }) rfl rfl rfl (hg.keeps kb₃) (hb.keeps kb₃) ?_))
  rw [backTo_plain rfl]
  refine callWith_any (any_false_map _) (Calls.evalArgs_plain (Calls.spliced_cons (wpAny_Name (wpAny_loadName_local rfl rfl hns₃ (if_pos rfl) (Calls.spliced_nil ⟨(fun a h => by cases h), ?_⟩)) (by decide))))
  refine P.str_of_exc_one (s := { s with heap := h₃, toks := s.toks + 1 }) (A := A.mark (some (.ref e))) PySem.F.excStr_ValueError (show A.units + 2 < cLine from hu) hex htu ?_
  refine Calls.spliced_nil ?_
  unfold newList
  refine wpAny_newObj_type ?_ (by show 1 ≤ sizeLine; rw [sizeLine_eq]; omega)
  have hlL : h₃.objs.size ≠ L := fun q => by
    obtain ⟨o3, _, _, ho3, _⟩ := hns₃
    have ho3 : h₃.get? L = some o3 := ho3
    rw [← q, new_none] at ho3; cases ho3
  have hns₄ : (h₃.push { cls := .type "list", data := .seq #[Value.str msgS tk] }).Ns L (fun x => if x = ("error" : Str) then some (.ref e) else mm x) := by
    obtain ⟨o3, es3, ep3, ho3, r⟩ := hns₃
    exact ⟨o3, es3, ep3, Heap.get?_push_of_some _ ho3, r⟩
  refine wpAny_nameGoes (s := { s with heap := h₃.push { cls := .type "list", data := .seq #[Value.str msgS tk] }, toks := s.toks + 1 }) rfl hns₄ rfl fun h₅ m₅ hns₅ hsb₅ => ?_
  have hl₅ : h₅.get? h₃.objs.size = some { cls := .type "list", data := .seq #[Value.str msgS tk] } := (hsb₅.2 _ hlL).trans (Heap.get?_push_size _ rfl)
  refine hQ h₃.objs.size _ ⟨_, _, hl₅, rfl, ⟨rfl, rfl⟩, rfl⟩ (fun b o ho => ?_) (fun b o hb ho hd => ?_) rfl rfl ?_
  · exact (hsb₅.2 b fun q => by rw [show b = L from q, hbL] at ho; cases ho).trans (Heap.get?_push_of_some _ (kb₃ b o ho))
  · obtain ⟨sl, hs⟩ := (hup₁.trans hup₂) b o ho hd
    exact ⟨sl, (hsb₅.2 b hb).trans (Heap.get?_push_of_some _ ((hsb₃.2 b hb).trans hs))⟩
  · cases q : base.get? h₃.objs.size with
    | none => rfl
    | some o => have := kb₃ _ o q; rw [new_none] at this; cases this
end
end Mine
end

-- R5
section
open PySem PySem.W PyProof.Rows
open PySem.W.X (SegX)
set_option maxRecDepth 100000
namespace Mine
noncomputable def hQ : { q : Expr × Expr × List Stmt × Pos // hP.1.1 = [.For q.1 q.2.1 q.2.2.1 [] q.2.2.2] } := ⟨(_, _, _, _), rfl⟩
section
variable {W : Wd} {n m : Nat} {env : Env} {A : Around} {E : Value → Shared → Prop} {s s' s₀ : Shared} {L it a : Addr} {g : Nat} {p : Pos} {B H0 base : Heap} {G fp fp' V : List Addr} {ρ ρ' : Rho} {R : Rho → Fl → Prop} {P : End → Shared → Prop}
theorem heard_bad (H : Ok W) {ns : List Int} {outer : List Env} {v : Value} {B0 : Heap} {Q : Value → Shared → Prop} (hB0 : Gl W B0) (hB0k : ∀ b o, B0.get? b = some o → s.heap.get? b = some o) (hB0f : ∀ b ∈ outer.filterMap (·.frame), B0.get? b = Option.none)
    (hA : AOk (n + 5) A) (hfr : A.frames = some outer) (hfo : OutOk s.heap outer) (rv : Rd s.heap V (.list ((0 :: ns).map .int)) v) (hV : VOk W s.heap V) (hVf : ∀ b ∈ V, b ∉ outer.filterMap (·.frame))
    (hQ : ∀ l s', Rd s'.heap V (.list [.str msgS]) l → (∀ b o, s.heap.get? b = some o → b ∉ outer.filterMap (·.frame) → s'.heap.get? b = some o) → s.heap.UpToSlots s'.heap → s'.os = s.os → GensUp s s' → Q l s') : wpAny W.M A (call (.ref 164) [v]) Q E s := by
  have hg : Gl W s.heap := hB0.keeps hB0k
  have hAd := hA.dp
  have hAu := hA.un
  have ho : s.heap.get? 164 = some { cls := .type "function", data := .func f_heard.1.1 } := hg.k 164 _ (by rw [H.k]; exact f_heard.2.1 _)
  refine wpAny_call (call_cells (binds := [("sizes", v)]) (by show A.depth < 1000; omega) ho rfl hg.nl (codeRec_of hg.k (by rw [H.k]; rfl)) f_heard.2.2 (BindsTo.of_eq rfl) rfl (fun x hx => .inl (by rw [List.mem_singleton.mp hx]; rfl)) (fun s₁ x => ?_) rfl rfl rfl)
  have hL : s.heap.get? s.heap.objs.size = Option.none := new_none _
  generalize hLe : s.heap.objs.size = L at hL
  have hA' : AOk (n + 4) (A.deeper (envH L)) := ⟨hA.hd, by show A.depth + 1 + (n + 4) ≤ 900; omega, by show A.units + 3 + 100 * (n + 4) ≤ 9000; omega⟩
  have hfr' : (A.deeper (envH L)).frames = some (envH L :: outer) := Around.frames_deeper hfr
  rw [hLe] at x
  have hgen₁ : s₁.gens = s.gens := by obtain ⟨h₁, tk, rfl⟩ := x.toInCall.same; rfl
  have hos₁ : s₁.os = s.os := by obtain ⟨h₁, tk, rfl⟩ := x.toInCall.same; rfl
  have S₁ : St W (envH L) s.heap V [] s₁ [("sizes", .sh (.list ((0 :: ns).map .int)))] := by
    refine ⟨hg, x.toInCall.keep, rfl, rfl, rfl, ⟨_, _, x.toInCall.ns, x.cell, ?_⟩, (by show (["sizes"] : List Str).Nodup; decide), .nil, (fun _ h => nomatch h), (fun _ h => nomatch h), (fun a ha => let ⟨⟨o, ho⟩, hk'⟩ := hV a ha; ⟨⟨o, x.toInCall.keep a o ho⟩, hk'⟩), hL, (fun k c _ hk hc => by cases hc), fun k k' c hc hc' => by cases hc⟩
    exact ⟨v, [], [], rfl, ⟨Rd.mono (fun b o xs k ho _ hn => ⟨x.toInCall.keep b o ho, by simpa using hn⟩) _ _ rv, rfl⟩, rfl, rfl⟩
  have hb : f_heard.1.2 = [.Try hP.1.1 [hP.1.2.1] [] [] hP.1.2.2.1, hP.1.2.2.2] := hP.2
  show wpAny W.M (A.deeper (envH L)) (execs f_heard.1.2 (envH L)) _ _ s₁
  rw [hb]
  refine wpAny_execs_cons (wpAny_Try_except ?_)
  rw [Mine.hQ.2]
  refine wpAny_execs_cons (wpAny_For (wpAny_Call_Name_kw ((gl_grouping_intervals H rfl).load S₁ ?_)) (fun _ => rfl))
  rw [backTo_plain rfl]
  refine callWith_any (any_false_map _) (evalArgs_exs (Exs.cons (Ex.name rfl) Exs.nil : Exs W (n + 4) (envH L) _ _ [.list ((0 :: ns).map .int)]) S₁ hA' fun vs s₂ rvs e₂ => ⟨(callee H f_group).fn (S₁.ext e₂).gl', ?_⟩)
  obtain ⟨v₂, _, rfl, rv₂, hnil⟩ := rvs
  have hnil : _ = [] := hnil
  subst hnil
  have S₂ := S₁.ext e₂
  refine gen_make (n := n + 3) H S₂.gl S₂.keep hA' rv₂ S₂.valloc fun a Lg s₃ hgen hgens SG keep₃ os₃ hLg ha haL => ?_
  have kx₃ : ∀ b o, s.heap.get? b = some o → s₃.heap.get? b = some o := SG.keep
  obtain ⟨mH, cmH, hnsH, _, _⟩ := S₂.frame
  have hnsH₃ : s₃.heap.Ns L mH := hnsH.keeps keep₃
  have hLgL : L ≠ Lg := fun q => by
    obtain ⟨o, _, _, ho, _⟩ := hnsH
    rw [show (envH L).locals = Lg from q, hLg] at ho; cases ho
  have hgs : GensUp s s₃ := ⟨(s₂.gens.extract s.gens.size s₂.gens.size).push (.fresh (.func f_group.1.2 (envG Lg))), by
    obtain ⟨more, e, hbm⟩ := e₂.gens
    rw [hgen₁] at e
    rw [hgens, e]
    simp, fun y hy => by
    obtain ⟨more, e, hbm⟩ := e₂.gens
    rw [hgen₁] at e
    rcases Array.mem_push.mp hy with h | h
    · rw [e] at h
      simp at h
      exact hbm y h
    · rw [h]; rfl⟩
  have hfo₃ : OutOk s₃.heap (envH L :: outer) := fun en he => by
    rcases List.mem_cons.mp he with rfl | he
    · obtain ⟨oL, es, ep, hoL, hdL, _⟩ := hnsH₃
      exact ⟨fun q => (by cases (show ScopeKind.function = .module from q)), L, oL, es, ep, rfl, hoL, hdL⟩
    · exact hfo.keeps (fun b o es ep ho hd => ⟨o, es, ep, kx₃ b o ho, hd⟩) en he
  have hframes : ∀ b ∈ outer.filterMap (·.frame), ∃ o es ep, s.heap.get? b = some o ∧ o.data = .dict es ep := fun b hb => by
    obtain ⟨en, he, hf⟩ := List.mem_filterMap.mp hb
    obtain ⟨_, L', o, es, ep, hf', ho', hd'⟩ := hfo en he
    rw [hf] at hf'; cases hf'
    exact ⟨o, es, ep, ho', hd'⟩
  refine wpAny_pyIter_gen hgen ?_
  refine forLoopT (fun m s' => s' = s₃) (fun m s' hs' => ?_) 0 rfl
  subst hs'
  refine gen_next_bad (n := n) (outer := envH L :: outer) H hgen (by rw [hgens]; simp) SG (hA'.mono (by omega)) hfr' hfo₃ ?_ fun e s₄ hF => ?_
  · intro hm
    rcases List.mem_cons.mp hm with h | hm
    · exact haL h
    · rcases List.mem_cons.mp (show a ∈ L :: outer.filterMap (·.frame) from hm) with h | h
      · obtain ⟨o, _, _, ho, _⟩ := hnsH
        rw [h] at ha
        rw [show (envH L).locals = L from rfl, ha] at ho; cases ho
      · obtain ⟨o, _, _, ho, _⟩ := hframes a h
        have := S₂.keep a o ho
        rw [ha] at this; cases this
  obtain ⟨base, t, tk, h1, h2, h3, h4, h5, h6, h7⟩ := hF
  have hbase : ∀ b o, s.heap.get? b = some o → b ∉ outer.filterMap (·.frame) → base.get? b = some o := fun b o ho hn => h1 b o (kx₃ b o ho) fun hm => by
    rcases List.mem_cons.mp hm with h | hm
    · have := S₂.keep b o ho
      rw [h, hLg] at this; cases this
    · rcases List.mem_cons.mp (show b ∈ L :: outer.filterMap (·.frame) from hm) with h | h
      · rw [h, hL] at ho; cases ho
      · exact hn h
  have hB0b : ∀ b o, B0.get? b = some o → base.get? b = some o := fun b o ho => hbase b o (hB0k b o ho) fun hm => by rw [hB0f b hm] at ho; cases ho
  have hnsH₄ : s₄.heap.Ns L mH := by
    obtain ⟨oL, es, ep, hoL, hdL, r⟩ := hnsH₃
    obtain ⟨sl, hs⟩ := h5 L oL hLgL hoL fun vs q => by rw [hdL] at q; cases q
    exact ⟨_, es, ep, hs, hdL, r⟩
  show wpAny W.M (A.deeper (envH L)) (noteFrame (.ref e) (envH L)) _ _ s₄
  refine wpAny_looks_onW (L := L) hfr' rfl h2 fun h₅ hheld₅ hup₅ => ?_
  refine held_again (s := { s₄ with heap := h₅ }) hheld₅ rfl fun h₆ hheld₆ hup₆ => ?_
  have hup := hup₅.trans hup₆
  refine heard_handler (s := { s₄ with heap := h₆ }) H hheld₆ (h3.of_slots hup) (hup.ns hnsH₄) h4 (hB0.g.keeps hB0b) (hB0.b.keeps hB0b) (by show (A.deeper (envH L)).units + 2 < 9900; have := hA'.un; omega) fun l s₇ k1 k2 k3 k4 k5 k6 => ?_
  have keep₇ : ∀ b o, s.heap.get? b = some o → b ∉ outer.filterMap (·.frame) → s₇.heap.get? b = some o := fun b o ho hn => k2 b o (hbase b o ho hn)
  have up₇ : s.heap.UpToSlots s₇.heap := fun b o ho hd => by
    have hbL : b ≠ L := fun q => by rw [q, hL] at ho; cases ho
    have hbG : b ≠ Lg := fun q => by
      have := S₂.keep b o ho
      rw [q, hLg] at this; cases this
    obtain ⟨sl, hs⟩ := h5 b o hbG (kx₃ b o ho) hd
    obtain ⟨sl', hs'⟩ := hup b _ hs hd
    obtain ⟨sl'', hs''⟩ := k3 b _ hbL hs' hd
    exact ⟨sl'', hs''⟩
  refine hQ (.ref l) s₇ ⟨l, _, rfl, k1, fun hl => ?_, _, [], rfl, ⟨tk, rfl⟩, rfl⟩ keep₇ up₇ (k4.trans (h6.trans (os₃.trans (e₂.os.trans hos₁)))) ?_
  · obtain ⟨⟨o, ho⟩, _⟩ := hV l hl
    have := hbase l o ho (hVf l hl)
    rw [k6] at this; cases this
  · have : s₂.gens.size ≥ s.gens.size := by
      obtain ⟨more, e, _⟩ := e₂.gens
      rw [e, hgen₁]; simp
    obtain ⟨m7, g1, g2⟩ := gens_step (s := s) hgs this h7
    exact ⟨m7, k5.trans g1, g2⟩
end
end Mine
end

-- R6
section
open PySem PySem.W PyProof.Rows
set_option maxRecDepth 100000
namespace Mine
section
variable {W : Wd} {n m : Nat} {env : Env} {A : Around} {E : Value → Shared → Prop} {s s' s₀ : Shared} {B : Heap} {G fp fp' V : List Addr} {ρ ρ' : Rho} {R : Rho → Fl → Prop}
theorem Sx.tryOk {body : List Stmt} {h : ExceptHandler} {hs : List ExceptHandler} {pos : Pos} (hb : Bx W n env ρ body R) : Sx W n env ρ (.Try body (h :: hs) [] [] pos) R := .mk fun B G fp s A E Q S hA hQ =>
  wpAny_Try_except (hb.r B G fp s A _ _ S hA fun f s' ρ' fp' fl hR S' hf sx => by
    cases fl with
    | next => rw [show f = .next from hf]; exact wpAny_execs_nil (hQ _ s' ρ' fp' .next hR S' rfl sx)
    | brk => rw [show f = .brk from hf]; exact hQ _ s' ρ' fp' .brk hR S' rfl sx
    | cont => rw [show f = .cont from hf]; exact hQ _ s' ρ' fp' .cont hR S' rfl sx
    | ret d => obtain ⟨v, rfl, hv⟩ := hf; exact hQ _ s' ρ' fp' (.ret d) hR S' ⟨v, rfl, hv⟩ sx)
theorem fn_heard (H : Ok W) {ns : List Int} : Fn W (n + 5) (.ref 164) [.list ((127 :: ns).map .int)] (.list []) :=
  Fn.of_def (params := ["sizes"]) (defOk H f_heard (fun _ => rfl) rfl rfl rfl rfl rfl (by decide) rfl) rfl rfl (bind1 fun _ => rfl) fun L => by
    refine Bx.cons (R' := fun ρ' fl => fl = .next) (Sx.tryOk (Bx.last (Sx.forGen H (ns := 127 :: ns) (gl_grouping_intervals H rfl) (Ex.name rfl) rfl rfl (fun _ k ρ' => k = .fresh (127 :: ns)) ?_ 0 rfl))) ?_ (fun ρ' fl hn h => absurd h hn)
    · rintro m k ρ' rfl
      refine ⟨fun ns' h => (by cases h), fun _ => rfl, fun y k' h => ?_⟩
      cases h
    · rintro ρ' _
      exact Bx.ret (Ex.list Exs.nil rfl (show 0 ≤ 1000000 by omega))
/-- the frame's own names may have been looked at from outside -/
theorem St.slots (S : St W env B G fp s ρ) (keep : ∀ b o, s.heap.get? b = some o → b ≠ env.locals → s'.heap.get? b = some o) (up : s.heap.UpToSlots s'.heap) : St W env B G fp s' ρ := by
  obtain ⟨m, cm, h1, h2, h3⟩ := S.frame
  obtain ⟨oL, es, ep, hoL, hdL, hr⟩ := id h1
  have sq : ∀ b o xs k, s.heap.get? b = some o → o.data = .seq xs k → s'.heap.get? b = some o := fun b o xs k ho hd => keep b o ho fun q => by
    rw [q, hoL] at ho; cases ho; rw [hd] at hdL; cases hdL
  refine ⟨S.gl, fun b o q => keep b o (S.keep b o q) fun e => (by rw [e, S.freshL] at q; cases q), S.kind, S.eg, S.eb, ⟨m, cm, up.ns h1, fun k c q => ?_, EnvOk.mono (fun b o xs k ho hd hn => ⟨sq b o xs k ho hd, hn⟩) (fun a o ha ho => ?_) h3⟩, S.names, S.fpn, S.fpB, S.fpG, fun a ha => ?_, S.freshL, S.freshC, S.apart⟩
  · obtain ⟨oc, hoc, hcd⟩ := h2 k c q
    exact ⟨oc, keep c oc hoc fun e => (by rw [e, hoL] at hoc; cases hoc; rw [hcd] at hdL; cases hdL), hcd⟩
  · obtain ⟨o', xs, k, ho', hd⟩ := EnvOk.seqs h3 a ha
    rw [ho] at ho'; cases ho'
    exact sq a o xs k ho hd
  · obtain ⟨⟨o, ho⟩, hk'⟩ := S.GB a ha
    by_cases q : a = env.locals
    · obtain ⟨sl, hs⟩ := up a o ho fun vs hv => by
        rw [q, hoL] at ho; cases ho; rw [hv] at hdL; cases hdL
      exact ⟨⟨_, hs⟩, hk'⟩
    · exact ⟨⟨o, keep a o ho q⟩, hk'⟩
end
end Mine
end

-- L1
section
open PySem PySem.W PyProof.Rows
set_option maxRecDepth 100000
namespace Mine
/-- the same rules where the frames around are known: the law's own frame alone -/
structure SxA (W : Wd) (n : Nat) (env : Env) (ρ : Rho) (st : Stmt) (R : Rho → Fl → Prop) : Prop where
  r : ∀ (B : Heap) (fp : List Addr) (s : Shared) (A : Around) (E : Value → Shared → Prop) (Q : Flow → Shared → Prop), St W env B [] fp s ρ → AOk n A → A.frames = some [env] → SPost W env B [] fp s R Q → wpAny W.M A (exec st env) Q E s
structure BxA (W : Wd) (n : Nat) (env : Env) (ρ : Rho) (sts : List Stmt) (R : Rho → Fl → Prop) : Prop where
  r : ∀ (B : Heap) (fp : List Addr) (s : Shared) (A : Around) (E : Value → Shared → Prop) (Q : Flow → Shared → Prop), St W env B [] fp s ρ → AOk n A → A.frames = some [env] → SPost W env B [] fp s R Q → wpAny W.M A (execs sts env) Q E s
section
variable {W : Wd} {n m : Nat} {env : Env} {A : Around} {E : Value → Shared → Prop} {s s' s₀ : Shared} {B : Heap} {G fp fp' V : List Addr} {ρ ρ' : Rho} {R R' : Rho → Fl → Prop} {st : Stmt} {sts rest : List Stmt}
theorem Sx.toA (h : Sx W n env ρ st R) : SxA W n env ρ st R := .mk fun B fp s A E Q S hA _ hQ => h.r B [] fp s A E Q S hA hQ
theorem Bx.toA (h : Bx W n env ρ sts R) : BxA W n env ρ sts R := .mk fun B fp s A E Q S hA _ hQ => h.r B [] fp s A E Q S hA hQ
theorem BxA.cons (h1 : SxA W n env ρ st R') (h2 : ∀ ρ', R' ρ' .next → BxA W n env ρ' rest R) (h3 : ∀ ρ' fl, fl ≠ .next → R' ρ' fl → R ρ' fl) : BxA W n env ρ (st :: rest) R :=
  .mk fun B fp s A E Q S hA hfr hQ => wpAny_execs_cons (h1.r B fp s A E _ S hA hfr fun f s' ρ' fp' fl hR S' hf sx => by
    cases fl with
    | next =>
      rw [show f = .next from hf]
      exact (h2 ρ' hR).r B fp' s' A E Q S' hA hfr fun f₂ s₂ ρ₂ fp₂ fl₂ r₂ S₂ hf₂ sx₂ => hQ f₂ s₂ ρ₂ fp₂ fl₂ r₂ S₂ hf₂ (sx.trans sx₂)
    | brk =>
      rw [show f = .brk from hf]
      exact hQ _ s' ρ' fp' .brk (h3 _ _ (by intro h; cases h) hR) S' rfl sx
    | cont =>
      rw [show f = .cont from hf]
      exact hQ _ s' ρ' fp' .cont (h3 _ _ (by intro h; cases h) hR) S' rfl sx
    | ret d =>
      obtain ⟨v, rfl, hv⟩ := hf
      exact hQ _ s' ρ' fp' (.ret d) (h3 _ _ (by intro h; cases h) hR) S' ⟨v, rfl, hv⟩ sx)
theorem BxA.seq {ρ' : Rho} (h1 : Sx W n env ρ st (fun r fl => r = ρ' ∧ fl = .next)) (h2 : BxA W n env ρ' rest R) : BxA W n env ρ (st :: rest) R :=
  BxA.cons h1.toA (fun ρ'' h => h.1 ▸ h2) fun _ _ hn h => absurd h.2 hn
theorem BxA.conv {ρ' : Rho} {sts : List Stmt} (c : Conv W env ρ ρ') (h : BxA W n env ρ' sts R) : BxA W n env ρ sts R := .mk fun B fp s A E Q S hA hfr hQ => by
  obtain ⟨fp', S', hf⟩ := c B [] fp s S
  exact h.r B fp' s A E Q S' hA hfr fun f s₂ ρ₂ fp₂ fl hR S₂ hfl sx => hQ f s₂ ρ₂ fp₂ fl hR S₂ hfl ((Conv.sext hf).trans sx)

theorem ok_msg : ∀ d ∈ [D.str msgS], OkD 0 d := fun d hd => by rw [List.mem_singleton.mp hd]; exact OkD.str (by decide +kernel)
theorem SxA.heardIf (H : Ok W) {zs : List Int} {p1 p2 p3 p4 p5 p6 p7 p8 p9 p10 p11 p12 p13 p14 p15 p16 p17 p18 p19 : Pos} {k1 k2 k3 : Nat} {body : List Stmt} (hk : env.kindOf "_law_heard" = some .globalImplicit) (hf : env.frame = some env.locals)
    (hs : lk ρ "sizes" = some (.sh (.list (zs.map .int)))) (hz : zs.length ≤ 1000) :
    SxA W (n + 5) env ρ (.If (.BoolOp .Or
      [.Compare (.Call (.Name "_law_heard" p1) [.BinOp (.List [.Constant (.int 0) k1 p2] p3) .Add (.Name "sizes" p4) p5] [] p6) [.NotEq] [.List [.Constant (.str msgS) k2 p7] p8] p9,
       .Compare (.Call (.Name "_law_heard" p10) [.BinOp (.List [.Constant (.int 127) k3 p11] p12) .Add (.Name "sizes" p13) p14] [] p15) [.NotEq] [.List [] p16] p17] p18) body [] p19) (fun r fl => r = ρ ∧ fl = .next) := .mk fun B fp s A E Q S hA hfr hQ => by
  have hsum : ∀ {i : Int} {k : Nat} {q1 q2 q3 q4 : Pos}, Ex W (n + 5) env ρ (.BinOp (.List [.Constant (.int i) k q1] q2) .Add (.Name "sizes" q3) q4) (.list ((i :: zs).map .int)) := fun {i k q1 q2 q3 q4} =>
    Ex.binop (a := .list [.int i]) (b := .list (zs.map .int)) (Ex.list (Exs.cons Ex.int Exs.nil) rfl (show 1 ≤ 1000000 by omega)) (Ex.name hs) (op_addL (by rw [List.length_map]; show 1 + _ ≤ _; omega))
  refine wpAny_If ?_
  show wpAny W.M A (allTrue .Or _ env) _ E s
  unfold allTrue
  refine wpAny_bind (wpAny_isTrue_Compare1 (wpAny_Call_Name_kw ((gl_law_heard H hk).load S ?_)) rfl)
  rw [backTo_plain rfl]
  refine callWith_any (any_false_map _) (evalArgs_exs (Exs.cons hsum Exs.nil) S hA fun vs s₁ rvs e₁ => ⟨(callee H f_heard).fn (S.ext e₁).gl', ?_⟩)
  obtain ⟨v, _, rfl, rv, hnil⟩ := rvs
  have hnil : _ = [] := hnil
  subst hnil
  have S₁ := S.ext e₁
  have hLd : ∃ oL es ep, s₁.heap.get? env.locals = some oL ∧ oL.data = .dict es ep := by
    obtain ⟨m, cm, ⟨oL, es, ep, hoL, hdL, _⟩, _⟩ := S₁.frame
    exact ⟨oL, es, ep, hoL, hdL⟩
  have hfm : [env].filterMap (·.frame) = [env.locals] := by simp [hf]
  refine heard_bad (n := n) H (outer := [env]) (V := fp ++ []) S₁.gl S₁.keep ?_ hA hfr ?_ rv S₁.valloc ?_ fun l s₂ rl keep₂ up₂ os₂ gens₂ => ?_
  · intro b hb
    rw [hfm] at hb
    rw [List.mem_singleton.mp hb]; exact S₁.freshL
  · intro en he
    rw [List.mem_singleton.mp he]
    obtain ⟨oL, es, ep, hoL, hdL⟩ := hLd
    exact ⟨fun q => (by rw [S.kind] at q; cases q), env.locals, oL, es, ep, hf, hoL, hdL⟩
  · intro b hb hm
    rw [hfm] at hm
    rw [List.append_nil] at hb
    obtain ⟨m, cm, _, _, hE⟩ := S₁.frame
    obtain ⟨o, xs, k, ho, hd⟩ := EnvOk.seqs hE b hb
    obtain ⟨oL, es, ep, hoL, hdL⟩ := hLd
    rw [List.mem_singleton.mp hm, hoL] at ho; cases ho
    rw [hd] at hdL; cases hdL
  have keep₂' : ∀ b o, s₁.heap.get? b = some o → b ≠ env.locals → s₂.heap.get? b = some o := fun b o ho hb => keep₂ b o ho fun hm => hb (by rw [hfm] at hm; exact List.mem_singleton.mp hm)
  have S₂ : St W env B [] fp s₂ ρ := S₁.slots keep₂' up₂
  have sx₂ : SExt env fp s₁ fp s₂ := ⟨fun b o ho hn => keep₂' b o ho fun hb => hn (.inl hb), fun b o ho => by
    by_cases hb : b = env.locals
    · obtain ⟨oL, es, ep, hoL, hdL⟩ := hLd
      rw [hb] at ho ⊢
      obtain ⟨sl, hs⟩ := up₂ env.locals oL hoL fun vs q => by rw [hdL] at q; cases q
      exact ⟨_, hs⟩
    · exact ⟨o, keep₂' b o ho hb⟩, fun a ha => .inl ha, os₂, gens₂⟩
  refine (Ex.list (Exs.cons Ex.strC Exs.nil) rfl (show 1 ≤ 1000000 by omega) : Ex W (n + 5) env ρ _ (.list [.str msgS])).r B [] fp s₂ A E _ S₂ hA fun vb s₃ rb e₃ => ?_
  have S₃ := S₂.ext e₃
  refine (op_neSame (a := .list [.str msgS]) (k := 1) (OkD.list ok_msg) (by omega) : Op2 W (n + 5) _ _ _ _).r s₃ A l vb (fp ++ []) E _ S₃.gl' hA (rl.ext e₃) rb S₃.valloc fun v' s₄ rv' e₄ => ?_
  have S₄ := S₃.ext e₄
  rw [show v' = .bool false from rv']
  refine wpAny_truthy_bool ?_
  refine (Trs.or (c := false) (Tr.cmp (Ex.call (gl_law_heard H hk) (callee H f_heard) (Exs.cons hsum Exs.nil) (fn_heard (n := n) H) (Nat.le_refl _) rfl) (Ex.list Exs.nil rfl (show 0 ≤ 1000000 by omega)) (op_neNil (k := 0) (fun _ h => nomatch h) (by omega)) rfl) (fun _ => Trs.nil) : Trs W (n + 5) env ρ .Or _ _).r B [] fp s₄ A E _ S₄ hA fun s₅ e₅ => ?_
  rw [if_neg (by decide)]
  exact wpAny_execs_nil (hQ _ s₅ ρ fp .next ⟨rfl, rfl⟩ (S₄.ext e₅) rfl ((e₁.sext.trans sx₂).trans ((e₃.trans e₄).trans e₅).sext))
end
end Mine
end

-- F1
section
open PySem PySem.W PyProof.Rows
set_option maxRecDepth 100000
namespace Mine
noncomputable def looksOf (ms : List Nat) : List Str := ms.map fun m => lookOf ((m : Nat) : Int)
noncomputable def numsOf (ms : List Nat) : List Int := ms.map fun m => numOf ((m : Nat) : Int)
noncomputable def octs (ms : List Nat) : List Nat := ms.flatMap fun m => [m / 65536, m / 256 % 256, m % 256]
noncomputable def octB (ms : List Nat) : Array UInt8 := byteArr ((octs ms).map fun o => ((o : Nat) : Int))
noncomputable def wrB (ms : List Nat) : Array UInt8 := trB urlTb.toArray (enc (octB ms))
noncomputable def chrS (c : Nat) : Str := ⟨#[c]⟩
noncomputable def textOf (ms : List Nat) : Str := Txt.join ⟨#[]⟩ ((wrB ms).toList.map fun c => chrS c.toNat)
noncomputable def signsL : List Nat := [65, 66, 67, 68, 69, 70, 71, 72, 73, 74, 75, 76, 77, 78, 79, 80, 81, 82, 83, 84, 85, 86, 87, 88, 89, 90, 97, 98, 99, 100, 101, 102, 103, 104, 105, 106, 107, 108, 109, 110, 111, 112, 113, 114, 115, 116, 117, 118, 119, 120, 121, 122, 48, 49, 50, 51, 52, 53, 54, 55, 56, 57, 45, 95]
noncomputable def cardOf (m : Nat) : Str := Txt.join ⟨#[]⟩ (([3, 2, 1, 0] : List Nat).map fun p => chrS (signsL.getD (m / 64 ^ p % 64) 0))
noncomputable def zsOf (ms : List Nat) : List Nat := endGo (looksOf ms) 6 6
noncomputable def wordS (ms : List Nat) (w : List Nat) : Str := Txt.join ⟨#[]⟩ (w.map fun k => (ms.map cardOf).getD k ⟨#[]⟩)
/-- what is to be shown of the modes -/
structure Facts (ms : List Nat) : Prop where
  duval : duGo (cAt (looksOf ms)) 6 6 0 = (zsOf ms).reverse
  ne : zsOf ms ≠ []
  pos : ∀ z ∈ zsOf ms, 1 ≤ z
  sum : (zsOf ms).sum = 6
  run0 : (b64run ((octB ms).toList.map (·.toNat)) 0 0).2 = 0
  len : (wrAt (octB ms)).length = 24
  cuts : (cutsOf (numsOf ms)).map (fun ws => ws.map (wordS ms)) = [(cutE (textOf ms) (zsOf ms)).reverse]
end Mine
end

-- L2
section
open PySem PySem.W PyProof.Rows
set_option maxRecDepth 100000
namespace Mine
section
variable {W : Wd} {n m : Nat} {env : Env} {ρ : Rho} {x y : Str}
noncomputable abbrev envL (L : Addr) : Env := callEnvC f_law.1.1 L 174
noncomputable def cstL : List Int := [2 * 33188, 2 * 35309, 1, 3, 1, 1]
theorem fmod_nat (a : Nat) {b : Nat} (hb : 0 < b) : ((a : Nat) : Int).fmod (b : Int) = ((a % b : Nat) : Int) := by
  rw [Int.fmod_eq_emod_of_nonneg _ (by omega)]; omega
theorem fdiv_nat (a : Nat) {b : Nat} (hb : 0 < b) : ((a : Nat) : Int).fdiv (b : Int) = ((a / b : Nat) : Int) := by
  rw [Int.fdiv_eq_ediv_of_nonneg _ (by omega)]; omega
noncomputable def lP : { q : Stmt × Stmt × Stmt × List Stmt // f_law.1.2 = q.1 :: q.2.1 :: q.2.2.1 :: q.2.2.2 } := ⟨(_, _, _, _), rfl⟩
theorem law_modes (H : Ok W) {L : Addr} {row : List Int} (hl : row.length ≤ 1000) (hrow : lk ρ "row" = some (.sh (.list (row.map .int)))) (hm : lk ρ "modes" = some (.own [])) :
    Sx W (n + 5) (envL L) ρ lP.1.2.2.1 (fun ρ' fl => fl = .next ∧ ∃ ms : List Nat, ms.length = 6 ∧ (∀ m ∈ ms, m < 16777216) ∧ lk ρ' "modes" = some (.own (ms.map natE))) := by
  refine Sx.for (ds := (List.range 6).map natD) (Itx.toT ?_) ?_ (fun _ => rfl)
  · rw [← rngD_zero]
    exact Itx.range1 (gl_range H rfl) Ex.int (by decide) (by decide) rfl
  refine LoopP.ofInv natD (fun ks ρ' => ∃ ms : List Nat, (∃ k, ks = (List.range' k (6 - k)) ∧ k ≤ 6 ∧ ms.length = k) ∧ (∀ m ∈ ms, m < 16777216) ∧ lk ρ' "modes" = some (.own (ms.map natE)) ∧ lk ρ' "row" = some (.sh (.list (row.map .int)))) ?_ ?_ _ _ ⟨[], ⟨0, by rw [List.range_eq_range'], by omega, rfl⟩, (fun _ h => nomatch h), hm, hrow⟩
  · rintro k ks ρ' ⟨ms, ⟨k', hk, hk6, hml⟩, hlt, hm', hr'⟩
    have hk' : k' < 6 := by
      rcases Nat.lt_or_ge k' 6 with h | h
      · exact h
      · rw [show 6 - k' = 0 by omega] at hk; cases hk
    rw [show 6 - k' = (6 - (k' + 1)) + 1 by omega, List.range'_succ] at hk
    obtain ⟨rfl, rfl⟩ : k = k' ∧ ks = List.range' (k' + 1) (6 - (k' + 1)) := by cases hk; exact ⟨rfl, rfl⟩
    refine ⟨_, Ax.name rfl, ?_⟩
    generalize hnum : ((pickD row (some (k : Int)) Option.none (some 6)).sum + cstL.getD k 0) = number
    refine Bx.seq (Sx.assign (d := .int number) ?_ rfl rfl) ?_
    · rw [← hnum]
      refine Ex.binop (Ex.call (gl_sum H rfl) calleeB (Exs.cons (Ex.eq (d := .list (pickD (row.map D.int) (some (k : Int)) Option.none (some 6))) (by rw [pick_map]) (Ex.sliceL (Ex.name (lk1 rfl hr')) ⟨_, rfl, Ex.name lk0⟩ rfl ⟨_, rfl, Ex.int⟩ (by decide) (by rw [List.length_map]; omega))) Exs.nil) (fn_sum (n := 0)) (Nat.zero_le _) rfl)
        (Ex.item (ds := cstL.map .int) (d := .int (cstL.getD k 0)) (Ex.list (Exs.cons (Ex.binop Ex.int Ex.int (op_mul (mulOk_left (by decide)))) (Exs.cons (Ex.binop Ex.int Ex.int (op_mul (mulOk_left (by decide)))) (Exs.cons Ex.int (Exs.cons Ex.int (Exs.cons Ex.int (Exs.cons Ex.int Exs.nil)))))) rfl (show 6 ≤ 1000000 by omega)) (Ex.name lk0) ?_ ?_ (show 6 ≤ 1000000 by omega) ?_ (fun _ _ => rfl)) op_add
      · show -(6 : Int) ≤ _; omega
      · show _ < (6 : Int); omega
      · have : idxD (k : Int) (cstL.map D.int).length = k := by unfold idxD; rw [if_neg (by omega)]; omega
        rw [this, List.getElem?_map, List.getD_eq_getElem?_getD, List.getElem?_eq_getElem (show k < cstL.length from hk')]
        rfl
    have fin : ∀ (v : Nat) ρ'', v < 16777216 → lk ρ'' "modes" = some (.own (ms.map natE ++ [natE v])) → lk ρ'' "row" = some (.sh (.list (row.map .int))) →
        ∃ ms : List Nat, (∃ k', List.range' (k + 1) (6 - (k + 1)) = (List.range' k' (6 - k')) ∧ k' ≤ 6 ∧ ms.length = k') ∧ (∀ m ∈ ms, m < 16777216) ∧ lk ρ'' "modes" = some (.own (ms.map natE)) ∧ lk ρ'' "row" = some (.sh (.list (row.map .int))) :=
      fun v ρ'' hv h1 h2 => ⟨ms ++ [v], ⟨k + 1, rfl, by omega, by simp [hml]⟩, fun m hm => by
        rcases List.mem_append.mp hm with h | h
        · exact hlt m h
        · rw [List.mem_singleton.mp h]; exact hv, by rw [h1, List.map_append]; rfl, h2⟩
    refine Bx.last (Sx.ite (Tr.bool (Trs.and (Tr.cmp (Ex.binop (Ex.name lk0) Ex.int (op_mod (by decide))) Ex.int op_eq rfl) fun _ => Trs.and (Tr.cmp (Ex.name (lk1 rfl lk0)) Ex.int op_gt rfl) fun _ => Trs.nil)) (fun hb => ?_) (fun hb => ?_))
    · have hk0 : 0 < k := by
        have := (Bool.and_eq_true_iff.mp (Bool.and_eq_true_iff.mp hb).2).1
        have : (0 : Int) < (k : Int) := by simpa using this
        omega
      obtain ⟨r1, r2⟩ := fmod_range (a := number.fdiv 2) (b := (k : Int)) (by omega)
      generalize hj : (number.fdiv 2).fmod (k : Int) = j at r1 r2
      have hjl : j.toNat < ms.length := by omega
      have hmj := hlt _ (List.getElem_mem hjl)
      refine Bx.mono (Bx.last (Sx.append (d := natD (ms[j.toNat] % 65536 + 65536 * k)) (lk1 rfl (lk1 rfl hm')) (Ex.eq (d := .int (((ms[j.toNat] : Nat) : Int).fmod 65536 + 65536 * (k : Int))) ?_ (Ex.binop (Ex.binop (Ex.itemOwn (d := natD ms[j.toNat]) (lk1 rfl (lk1 rfl hm')) (Ex.binop (Ex.binop (Ex.name lk0) Ex.int (op_fdiv (by decide) (by decide))) (Ex.name (lk1 rfl lk0)) (op_mod (by omega))) ?_ ?_ ?_ (fun _ _ => rfl)) Ex.int (op_mod (by decide))) (Ex.binop Ex.int (Ex.name (lk1 rfl lk0)) (op_mul (mulOk_left (by decide)))) op_add)) (by rw [List.length_map]; omega) rfl rfl)) ?_
      · have := fmod_nat ms[j.toNat] (b := 65536) (by omega)
        rw [show ((65536 : Nat) : Int) = 65536 from rfl] at this
        rw [this]
        show D.int _ = D.int _
        congr 1
      · rw [hj]; exact r1
      · rw [hj]; omega
      · rw [hj, List.getElem?_map, List.getElem?_eq_getElem hjl]; rfl
      · rintro ρ'' fl ⟨rfl, rfl⟩
        exact fin _ _ (by omega) lk0 (lk1 rfl (lk1 rfl (lk1 rfl hr')))
    · obtain ⟨r1, r2⟩ := fmod_range (a := number.fdiv 2) (b := 16777216) (by decide)
      refine Bx.mono (Bx.last (Sx.append (d := natD ((number.fdiv 2).fmod 16777216).toNat) (lk1 rfl (lk1 rfl hm')) (Ex.eq (d := .int ((number.fdiv 2).fmod 16777216)) ?_ (Ex.binop (Ex.binop (Ex.name lk0) Ex.int (op_fdiv (by decide) (by decide))) Ex.int (op_mod (by decide)))) (by rw [List.length_map]; omega) rfl rfl)) ?_
      · show D.int _ = D.int _
        congr 1
        omega
      · rintro ρ'' fl ⟨rfl, rfl⟩
        exact fin _ _ (by omega) lk0 (lk1 rfl (lk1 rfl (lk1 rfl hr')))
  · rintro ρ' ⟨ms, ⟨k, hk, hk6, hml⟩, hlt, hm', hr'⟩
    have : k = 6 := by
      rcases Nat.lt_or_ge k 6 with h | h
      · rw [show 6 - k = (6 - (k + 1)) + 1 by omega, List.range'_succ] at hk; cases hk
      · omega
    subst this
    exact Bx.nil ⟨rfl, ms, hml, hlt, hm'⟩
end
end Mine
end

-- L3
section
open PySem PySem.W PyProof.Rows
set_option maxRecDepth 100000
namespace Mine
section
variable {W : Wd} {n m : Nat} {env : Env} {ρ : Rho} {x y : Str}
theorem octs_lt (ms : List Nat) (h : ∀ m ∈ ms, m < 16777216) : ∀ o ∈ octs ms, o < 256 := by
  intro o ho
  obtain ⟨m, hm, ho⟩ := List.mem_flatMap.mp ho
  have := h m hm
  simp only [List.mem_cons, List.not_mem_nil, or_false] at ho
  omega
noncomputable def lQ : { q : Stmt × Stmt × Stmt × Stmt × Stmt × Stmt × List Stmt // lP.1.2.2.2 = q.1 :: q.2.1 :: q.2.2.1 :: q.2.2.2.1 :: q.2.2.2.2.1 :: q.2.2.2.2.2.1 :: q.2.2.2.2.2.2 } := ⟨(_, _, _, _, _, _, _), rfl⟩
-- the octets
theorem law_octets (H : Ok W) {L : Addr} {ms : List Nat} (h6 : ms.length = 6) (hlt : ∀ m ∈ ms, m < 16777216) (hm : lk ρ "modes" = some (.sh (.list (ms.map natD)))) (ho : lk ρ "octets" = some (.own []))
    {bs : Bd} {bl : Bd} (hs : lk ρ "sizes" = some bs) (hn : lk ρ "lengths" = some bl) :
    Sx W (n + 5) (envL L) ρ lQ.1.2.2.2.2.1 (fun ρ' fl => fl = .next ∧ lk ρ' "modes" = some (.sh (.list (ms.map natD))) ∧ lk ρ' "octets" = some (.own ((octs ms).map natE)) ∧ lk ρ' "sizes" = some bs ∧ lk ρ' "lengths" = some bl) := by
  refine Sx.for (ds := ms.map natD) (Itx.toT (Itx.of (Ex.name hm) iterOf_list)) ?_ (fun _ => rfl)
  refine LoopP.ofInv natD (fun ks ρ' => ∃ os : List Nat, os ++ octs ks = octs ms ∧ os.length + 3 * ks.length ≤ 18 ∧ (∀ m ∈ ks, m < 16777216) ∧ lk ρ' "modes" = some (.sh (.list (ms.map natD))) ∧ lk ρ' "octets" = some (.own (os.map natE)) ∧ lk ρ' "sizes" = some bs ∧ lk ρ' "lengths" = some bl) ?_ ?_ _ _ ⟨[], rfl, by rw [h6]; exact Nat.le_refl _, hlt, hm, ho, hs, hn⟩
  · rintro k ks ρ' ⟨os, h1, h2, h3, i1, i2, i3, i4⟩
    rw [List.length_cons] at h2
    refine ⟨_, Ax.name rfl, ?_⟩
    have e1 := fdiv_nat k (b := 65536) (by omega)
    have e2 := fdiv_nat k (b := 256) (by omega)
    have e3 := fmod_nat (k / 256) (b := 256) (by omega)
    have e4 := fmod_nat k (b := 256) (by omega)
    refine Bx.mono (Bx.last (Sx.extend (ds := ([k / 65536, k / 256 % 256, k % 256] : List Nat).map natD) (lk1 rfl i2) (Ex.list (Exs.cons (Ex.eq (d := .int ((k : Int).fdiv 65536)) (by rw [show (65536 : Int) = ((65536 : Nat) : Int) from rfl, e1]; rfl) (Ex.binop (Ex.name lk0) Ex.int (op_fdiv (by decide) (by decide))))
      (Exs.cons (Ex.eq (d := .int (((k : Int).fdiv 256).fmod 256)) (by rw [show (256 : Int) = ((256 : Nat) : Int) from rfl, e2, e3]; rfl) (Ex.binop (Ex.binop (Ex.name lk0) Ex.int (op_fdiv (by decide) (by decide))) Ex.int (op_mod (by decide))))
      (Exs.cons (Ex.eq (d := .int ((k : Int).fmod 256)) (by rw [show (256 : Int) = ((256 : Nat) : Int) from rfl, e4]; rfl) (Ex.binop (Ex.name lk0) Ex.int (op_mod (by decide)))) Exs.nil))) rfl (show 3 ≤ 1000000 by omega)) (by rw [List.length_map]; show _ + 3 ≤ _; omega) rfl rfl)) ?_
    rintro ρ'' fl ⟨rfl, rfl⟩
    refine ⟨os ++ [k / 65536, k / 256 % 256, k % 256], ?_, ?_, fun m hm => h3 m (.tail _ hm), lk1 rfl (lk1 rfl i1), lk0.trans ?_, lk1 rfl (lk1 rfl i3), lk1 rfl (lk1 rfl i4)⟩
    · rw [← h1]
      show _ = os ++ (k :: ks).flatMap _
      rw [List.flatMap_cons, List.append_assoc]; rfl
    · rw [List.length_append]; show os.length + 3 + _ ≤ _; omega
    · rw [List.map_append, List.map_map]; rfl
  · rintro ρ' ⟨os, h1, h2, h3, i1, i2, i3, i4⟩
    have : os = octs ms := by rw [← h1]; show _ = os ++ []; rw [List.append_nil]
    exact Bx.nil ⟨rfl, i1, this ▸ i2, i3, i4⟩
end
end Mine
end

-- L4
section
open PySem PySem.W PyProof.Rows
set_option maxRecDepth 100000
namespace Mine
section
variable {W : Wd} {n m : Nat} {env : Env} {ρ : Rho} {x y : Str}
noncomputable def signsS : Str := ⟨signsL.toArray⟩
noncomputable def lR : { q : Stmt × Stmt × Stmt × Stmt × Stmt × Stmt × Stmt × List Stmt // lQ.1.2.2.2.2.2.2 = q.1 :: q.2.1 :: q.2.2.1 :: q.2.2.2.1 :: q.2.2.2.2.1 :: q.2.2.2.2.2.1 :: q.2.2.2.2.2.2.1 :: q.2.2.2.2.2.2.2 } := ⟨(_, _, _, _, _, _, _, _), rfl⟩
noncomputable abbrev lRest : List Stmt := lR.1.2.1 :: lR.1.2.2.1 :: lR.1.2.2.2.1 :: lR.1.2.2.2.2.1 :: lR.1.2.2.2.2.2.1 :: lR.1.2.2.2.2.2.2.1 :: lR.1.2.2.2.2.2.2.2
theorem wr_len {ms : List Nat} (F : Facts ms) : (wrB ms).size = 24 := by
  unfold wrB trB enc
  rw [Array.size_map, byteArr_size, b64D, List.length_map, F.len]
theorem text_len {ms : List Nat} (F : Facts ms) : (textOf ms).length = 24 := by
  have h : ∀ l : List UInt8, ((l.map fun c => chrS c.toNat).map (·.length)).sum = l.length := by
    intro l
    induction l with
    | nil => rfl
    | cons a l ih => rw [List.map_cons, List.map_cons, List.sum_cons, ih, List.length_cons]; show 1 + _ = _; omega
  unfold textOf
  rw [join_len, h, Array.length_toList, wr_len F]
set_option maxHeartbeats 1000000 in
-- the first half: what is read, written and asked
theorem law_first (H : Ok W) {L : Addr} {ms : List Nat} {R : Rho → Fl → Prop} (h6 : ms.length = 6) (hlt : ∀ m ∈ ms, m < 16777216) (F : Facts ms) (hm : lk ρ "modes" = some (.sh (.list (ms.map natD))))
    (hR : ∀ ρ', lk ρ' "modes" = some (.sh (.list (ms.map natD))) → lk ρ' "sizes" = some (.sh (.list ((zsOf ms).map natD))) → lk ρ' "written" = some (.sh (.bytes (wrB ms))) → BxA W (n + 5) (envL L) ρ' lRest R) :
    BxA W (n + 5) (envL L) ρ lP.1.2.2.2 R := by
  rw [lQ.2]
  have hlx : (looksOf ms).length = 6 := by unfold looksOf; rw [List.length_map, h6]
  have hml : (ms.map natD).length = 6 := by rw [List.length_map, h6]
  refine BxA.seq (Sx.assignComp (cap := []) (ds := ms.map natD) (rs := (looksOf ms).map .str) rfl rfl (Itx.of (Ex.name hm) iterOf_list) (compOk rfl (fun C => trivial) (by show (["mode"] : List Str).Nodup; decide)) (by rw [List.length_map, hlx]; omega) (fun C => by
    rw [looksOf, List.map_map]
    exact CompP.ofMap natD _ fun m hm => Ex.call (gl_filemode H rfl) (callee H f_filemode) (Exs.cons (Ex.name rfl) Exs.nil) (fn_filemode (n := n) H) (by omega) rfl) (fun _ => rfl)) ?_
  refine BxA.seq (Sx.assign (d := .list ((zsOf ms).reverse.map natD)) (Ex.eq (d := .list ((duGo (cAt (looksOf ms)) (looksOf ms).length (looksOf ms).length 0).map natD)) (by rw [hlx, F.duval]) (Ex.call (gl_law_read H rfl) (callee H f_read) (Exs.cons (Ex.name lk0) Exs.nil) (fn_read (n := n) H (by rw [hlx]; omega)) (by omega) rfl)) rfl rfl) ?_
  refine BxA.seq (Sx.assign (d := .list ((zsOf ms).map natD)) (Ex.eq (d := .list ((endGo (looksOf ms) (looksOf ms).length (looksOf ms).length).map natD)) (by rw [hlx]; rfl) (Ex.call (gl_law_endings H rfl) (callee H f_endings) (Exs.cons (Ex.name (lk1 rfl lk0)) Exs.nil) (fn_endings (n := n) H (by rw [hlx]; omega) ?_) (by omega) rfl)) rfl rfl) ?_
  · intro x hx
    obtain ⟨m, _, rfl⟩ := List.mem_map.mp hx
    have h1 : ∀ c ∈ fmChars ((m : Nat) : Int), c.length = 1 := fun c hc => by
      obtain ⟨r, hr, rfl⟩ := List.mem_map.mp hc
      exact fmChar_len _ r.1 r hr
    have h2 : ∀ l : List Str, (∀ c ∈ l, c.length = 1) → (l.map (·.length)).sum = l.length := by
      intro l hl
      induction l with
      | nil => rfl
      | cons c l ih => rw [List.map_cons, List.sum_cons, hl c (.head _), ih fun c hc => hl c (.tail _ hc), List.length_cons]; omega
    unfold lookOf
    rw [join_len, h2 _ h1]
    unfold fmChars
    rw [List.length_map]; rfl
  have j1 : lk (put (put (put ρ "looks" (.sh (.list ((looksOf ms).map .str)))) "lengths" (.sh (.list ((zsOf ms).reverse.map natD)))) "sizes" (.sh (.list ((zsOf ms).map natD)))) "modes" = some (.sh (.list (ms.map natD))) := lk1 rfl (lk1 rfl (lk1 rfl hm))
  have j2 : lk (put (put (put ρ "looks" (.sh (.list ((looksOf ms).map .str)))) "lengths" (.sh (.list ((zsOf ms).reverse.map natD)))) "sizes" (.sh (.list ((zsOf ms).map natD)))) "lengths" = some (.sh (.list ((zsOf ms).reverse.map natD))) := lk1 rfl lk0
  have j3 : lk (put (put (put ρ "looks" (.sh (.list ((looksOf ms).map .str)))) "lengths" (.sh (.list ((zsOf ms).reverse.map natD)))) "sizes" (.sh (.list ((zsOf ms).map natD)))) "sizes" = some (.sh (.list ((zsOf ms).map natD))) := lk0
  generalize put (put (put ρ "looks" (.sh (.list ((looksOf ms).map .str)))) "lengths" (.sh (.list ((zsOf ms).reverse.map natD)))) "sizes" (.sh (.list ((zsOf ms).map natD))) = ρ₁ at j1 j2 j3
  refine BxA.seq (Sx.assignOwn Exs.nil rfl rfl (show 0 ≤ 1000000 by omega)) ?_
  refine BxA.cons (law_octets H h6 hlt (lk1 rfl j1) lk0 (lk1 rfl j3) (lk1 rfl j2)).toA ?_ (fun ρ' fl hn h => absurd h.1 hn)
  rintro ρ₂ ⟨_, k1, k2, k3, k4⟩
  refine BxA.conv (Conv.freeze k2) ?_
  have q0 : lk (put ρ₂ "octets" (.sh (.list (((octs ms).map natE).map El.d)))) "octets" = some (.sh (.list (((octs ms).map fun o => ((o : Nat) : Int)).map .int))) := lk0.trans (by rw [List.map_map, List.map_map]; rfl)
  have q1 := lk1 (x := "octets") (y := "modes") (b := .sh (.list (((octs ms).map natE).map El.d))) rfl k1
  have q2 := lk1 (x := "octets") (y := "sizes") (b := .sh (.list (((octs ms).map natE).map El.d))) rfl k3
  have q3 := lk1 (x := "octets") (y := "lengths") (b := .sh (.list (((octs ms).map natE).map El.d))) rfl k4
  generalize put ρ₂ "octets" (.sh (.list (((octs ms).map natE).map El.d))) = ρ₃ at q0 q1 q2 q3
  have hol : (octs ms).length ≤ 18 := by
    have : ∀ l : List Nat, (octs l).length = 3 * l.length := by
      intro l
      induction l with
      | nil => rfl
      | cons a l ih => show ([_, _, _] ++ octs l).length = _; rw [List.length_append, ih]; show 3 + 3 * l.length = 3 * (l.length + 1); omega
    rw [this, h6]; omega
  refine BxA.seq (Sx.assign (d := .bytes (wrB ms)) (Ex.call (gl_urlsafe_b64encode H rfl) (callee H f_urlsafe) (Exs.cons (Ex.call (gl_bytes H rfl) calleeT (Exs.cons (Ex.name q0) Exs.nil) (fn_bytes (n := 0) ?_ ?_) (Nat.zero_le _) rfl) Exs.nil) (fn_urlsafe (n := n) H (b := octB ms) F.run0 (by rw [F.len]; omega)) (by omega) rfl) rfl rfl) ?_
  · intro o ho
    obtain ⟨k, hk, rfl⟩ := List.mem_map.mp ho
    have := octs_lt ms hlt k hk
    omega
  · rw [List.length_map]; omega
  have hok : OkD 1 (.list ((zsOf ms).reverse.map natD)) := OkD.list fun d hd => by
    obtain ⟨z, _, rfl⟩ := List.mem_map.mp hd
    exact OkD.int
  have hzl : (zsOf ms).length ≤ 6 := by
    have : ∀ {l : List Nat}, (∀ z ∈ l, 1 ≤ z) → l.length ≤ l.sum := by
      intro l
      induction l with
      | nil => intro _; exact Nat.le_refl _
      | cons a l ih =>
        intro h
        have h1 := h a (.head _)
        have h2 := ih fun z hz => h z (.tail _ hz)
        rw [List.length_cons, List.sum_cons]; omega
    have := this F.pos
    rw [F.sum] at this
    exact this
  have erev : D.list (pickD ((zsOf ms).map natD) Option.none Option.none (some (-1))) = .list ((zsOf ms).reverse.map natD) := by rw [pick_rev, List.map_reverse]
  refine BxA.seq (ρ' := put ρ₃ "written" (.sh (.bytes (wrB ms)))) (Sx.ite (b := (!true) || (false || (BoolOp.Or == BoolOp.And))) (Tr.bool (Trs.or (Tr.not (Tr.plain (Ex.call (gl_isinstance H rfl) calleeB (Exs.cons (Ex.name lk0) (Exs.cons (Ex.ty (gl_bytes H rfl)) Exs.nil)) (fn_isi_bytes (n := 0)) (Nat.zero_le _) rfl) rfl)) fun _ =>
    Trs.or (Tr.cmp (Ex.name (lk1 rfl q3)) (Ex.eq erev (Ex.sliceL (Ex.name (lk1 rfl q2)) rfl rfl ⟨_, rfl, Ex.neg Ex.int⟩ (by decide) (by rw [List.length_map]; omega))) (op_neSame hok (by omega)) rfl) fun _ => Trs.nil)) (fun h => by cases h) (fun _ => Bx.nil ⟨rfl, rfl⟩)) ?_
  exact hR _ (lk1 rfl q1) (lk1 rfl q2) lk0
end
end Mine
end

-- L5
section
open PySem PySem.W PyProof.Rows
set_option maxRecDepth 100000
namespace Mine
section
variable {W : Wd} {n m : Nat} {env : Env} {ρ : Rho} {x y : Str}
theorem cutE_len : ∀ (zs : List Nat) (t : Str), (cutE t zs).length = zs.length
  | [], t => by cases t; rfl
  | z :: zs, t => by show _ + 1 = _ + 1; rw [cutE_len zs]
set_option maxHeartbeats 2000000 in
-- the second half: the pieces, the cards and the cuttings
theorem law_second (H : Ok W) {L : Addr} {ms : List Nat} (h6 : ms.length = 6) (hlt : ∀ m ∈ ms, m < 16777216) (F : Facts ms) (hsok : ∀ s ∈ cutE (textOf ms) (zsOf ms), PyData.strOk s = true) (hm : lk ρ "modes" = some (.sh (.list (ms.map natD)))) (hs : lk ρ "sizes" = some (.sh (.list ((zsOf ms).map natD)))) (hw : lk ρ "written" = some (.sh (.bytes (wrB ms)))) :
    BxA W (n + 5) (envL L) ρ lRest (fun _ fl => fl = .ret (.bool true)) := by
  have hzl : (zsOf ms).length ≤ 6 := by
    have : ∀ {l : List Nat}, (∀ z ∈ l, 1 ≤ z) → l.length ≤ l.sum := by
      intro l
      induction l with
      | nil => intro _; exact Nat.le_refl _
      | cons a l ih =>
        intro h
        have h1 := h a (.head _)
        have h2 := ih fun z hz => h z (.tail _ hz)
        rw [List.length_cons, List.sum_cons]; omega
    have := this F.pos
    rw [F.sum] at this
    exact this
  have htl := text_len F
  have hml : (ms.map natD).length = 6 := by rw [List.length_map, h6]
  refine BxA.cons (SxA.heardIf H (zs := (zsOf ms).map fun z => ((z : Nat) : Int)) rfl rfl (hs.trans (by rw [List.map_map]; rfl)) (by rw [List.length_map]; omega)) ?_ (fun ρ' fl hn h => absurd h.2 hn)
  rintro ρ' ⟨rfl, _⟩
  -- pieces
  have hfp := fn_pieces (W := W) (n := n) H (t := textOf ms) (zs := zsOf ms) F.ne F.pos (by rw [F.sum]; exact htl) (by rw [htl]; omega)
  have hjt : D.str (Txt.join ⟨#[]⟩ ((wrB ms).toList.map fun c => chrS c.toNat)) = .str (textOf ms) := rfl
  have htx : (((wrB ms).toList.map fun c => chrS c.toNat).map (·.length)).sum = 24 := by rw [← join_len]; exact htl
  have hwl := wr_len F
  have Fc := F.cuts
  have hpl : (cutE (textOf ms) (zsOf ms)).length ≤ 6 := by rw [cutE_len]; exact hzl
  generalize cutE (textOf ms) (zsOf ms) = pc at hfp hsok Fc hpl
  generalize textOf ms = tx at hfp hjt
  generalize zsOf ms = zs at hfp hs
  generalize wrB ms = wb at hw hjt htx hwl
  refine BxA.seq (Sx.assign (d := .list (pc.map .str)) (Ex.call (gl_law_pieces H rfl) (callee H f_pieces) (Exs.cons (Ex.eq hjt (Ex.join (x := ⟨#[]⟩) (ys := wb.toList.map fun c => chrS c.toNat) Ex.strC rfl rfl ?_ rfl ?_)) (Exs.cons (Ex.name hs) Exs.nil)) hfp (Nat.le_refl _) rfl) rfl rfl) ?_
  · rw [List.map_map]
    refine Ex.comp (cap := []) (ds := byteDs wb) (Itx.of (Ex.name hw) iterOf_byt) (compOk rfl (fun C => trivial) (by show (["octet"] : List Str).Nodup; decide)) (by rw [List.length_map, Array.length_toList, hwl]; omega) (fun C => ?_) (fun _ => rfl)
    exact CompP.ofMap (fun c : UInt8 => D.int (c.toNat : Int)) _ fun c hc => Ex.call (gl_chr H rfl) calleeB (Exs.cons (Ex.name rfl) Exs.nil) (fn_chr (n := 0) (k := ((c.toNat : Nat) : Int)) (by omega) (by have := c.toNat_lt; omega)) (Nat.zero_le _) rfl
  · rw [htx, List.length_map, Array.length_toList, hwl]
    show 24 + 24 * 0 ≤ 16777216
    omega
  have p1 : lk (put ρ' "pieces" (.sh (.list (pc.map .str)))) "pieces" = some (.sh (.list (pc.map .str))) := lk0
  have p2 : lk (put ρ' "pieces" (.sh (.list (pc.map .str)))) "modes" = some (.sh (.list (ms.map natD))) := lk1 rfl hm
  generalize put ρ' "pieces" (.sh (.list (pc.map .str))) = ρ₁ at p1 p2
  -- signs
  refine BxA.seq (Sx.assign (d := .str signsS) (Ex.eq (by kernel_rfl) Ex.strC) rfl rfl) ?_
  have q1 := lk1 (x := "signs") (y := "pieces") (b := .sh (.str signsS)) rfl p1
  have q2 := lk1 (x := "signs") (y := "modes") (b := .sh (.str signsS)) rfl p2
  have q3 : lk (put ρ₁ "signs" (.sh (.str signsS))) "signs" = some (.sh (.str signsS)) := lk0
  generalize put ρ₁ "signs" (.sh (.str signsS)) = ρ₂ at q1 q2 q3
  -- cards
  refine BxA.seq (Sx.assign (d := .list ((ms.map cardOf).map .str)) ?_ rfl rfl) ?_
  · rw [List.map_map]
    refine Ex.compC (cap := [("signs", .sh (.str signsS))]) (ds := ms.map natD) (Itx.of (Ex.name q2) iterOf_list) ⟨rfl, fun _ _ => rfl, fun _ => rfl, ?_, rfl, rfl, rfl, fun _ _ => ⟨⟨_, rfl, q3⟩, .inl rfl, .inl rfl, rfl, trivial⟩, by show (["mode", "signs"] : List Str).Nodup; decide⟩ ?_ (fun C X => CompP.ofMap natD _ fun m hm => ?_) (fun _ => rfl)
    · decide
    · rw [List.length_map, h6]; omega
    · have hmlt := hlt m hm
      show Ex W (n + 5) _ _ _ (.str (cardOf m))
      refine Ex.join (x := ⟨#[]⟩) (ys := ([3, 2, 1, 0] : List Nat).map fun p => chrS (signsL.getD (m / 64 ^ p % 64) 0)) Ex.strC rfl rfl ?_ rfl ?_
      · rw [List.map_map]
        refine Ex.comp (cap := [("mode", .sh (natD m)), ("signs", .sh (.str signsS))]) (ds := ([3, 2, 1, 0] : List Nat).map natD) (Itx.of (Ex.tuple (Exs.cons Ex.int (Exs.cons Ex.int (Exs.cons Ex.int (Exs.cons Ex.int Exs.nil)))) rfl (show 4 ≤ 1000000 by omega)) iterOf_tup) (compOk rfl (fun C => ⟨⟨_, rfl, rfl⟩, .inl rfl, .inl rfl, rfl, ⟨_, rfl, rfl⟩, .inl rfl, .inl rfl, rfl, trivial⟩) (by show (["place", "mode", "signs"] : List Str).Nodup; decide)) (by rw [List.length_map]; show 4 ≤ 1000000; omega) (fun C => ?_) (fun _ => rfl)
        refine CompP.ofMap natD _ fun p hp => ?_
        have hp3 : p ≤ 3 := by simp at hp; omega
        have hpow : (64 : Int) ^ p = ((64 ^ p : Nat) : Int) := by push_cast; rfl
        have hpp : 0 < 64 ^ p := Nat.pow_pos (by omega)
        have hpl : 64 ^ p ≤ 64 ^ 3 := Nat.pow_le_pow_right (by omega) hp3
        have e : (((m : Nat) : Int).fdiv ((64 : Int) ^ ((p : Nat) : Int).toNat)).fmod 64 = ((m / 64 ^ p % 64 : Nat) : Int) := by
          rw [Int.toNat_natCast, hpow, fdiv_nat m hpp, show (64 : Int) = ((64 : Nat) : Int) from rfl, fmod_nat _ (by omega)]
        have hi : m / 64 ^ p % 64 < 64 := Nat.mod_lt _ (by omega)
        refine Ex.itemStr (k := ((m / 64 ^ p % 64 : Nat) : Int)) (Ex.name rfl) (Ex.eq (congrArg D.int e) (Ex.binop (Ex.binop (Ex.name rfl) (Ex.binop Ex.int (Ex.name rfl) (op_pow (by omega) (by omega) (by decide))) (op_fdiv ?_ ?_)) Ex.int (op_mod (by decide)))) (by omega) (by omega) ?_ (fun _ _ => rfl)
        · rw [Int.toNat_natCast, hpow]; omega
        · rw [Int.toNat_natCast, hpow, Int.natAbs_natCast]; omega
        · rw [Int.toNat_natCast]
          show (signsL.toArray)[m / 64 ^ p % 64]? = _
          rw [List.getElem?_toArray, List.getD_eq_getElem?_getD, List.getElem?_eq_getElem (show m / 64 ^ p % 64 < signsL.length from hi)]
          rfl
      · show 4 + 4 * 0 ≤ 16777216
        omega
  have r1 := lk1 (x := "cards") (y := "pieces") (b := .sh (.list ((ms.map cardOf).map .str))) rfl q1
  have r2 := lk1 (x := "cards") (y := "modes") (b := .sh (.list ((ms.map cardOf).map .str))) rfl q2
  have r3 : lk (put ρ₂ "cards" (.sh (.list ((ms.map cardOf).map .str)))) "cards" = some (.sh (.list ((ms.map cardOf).map .str))) := lk0
  generalize put ρ₂ "cards" (.sh (.list ((ms.map cardOf).map .str))) = ρ₃ at r1 r2 r3
  -- cuttings
  have hnl : (numsOf ms).length = 6 := by unfold numsOf; rw [List.length_map, h6]
  refine BxA.seq (Sx.assign (d := .list ((cutsOf (numsOf ms)).map wordsD)) (Ex.call (gl_law_cuttings H rfl) (callee H f_cuttings) (Exs.cons (d := .list ((numsOf ms).map .int)) ?_ Exs.nil) (fn_cuttings (n := n) H (by rw [hnl]; omega) (by rw [hnl]; omega)) (by omega) rfl) rfl rfl) ?_
  · rw [numsOf, List.map_map]
    exact Ex.comp (cap := []) (ds := ms.map natD) (Itx.of (Ex.name r2) iterOf_list) (compOk rfl (fun C => trivial) (by show (["mode"] : List Str).Nodup; decide)) (by rw [List.length_map, h6]; omega) (fun C => CompP.ofMap natD _ fun m hm => Ex.call (gl_law_number H rfl) (callee H f_number) (Exs.cons (Ex.name rfl) Exs.nil) (fn_number (n := 0) H) (by omega) rfl) (fun _ => rfl)
  have u1 := lk1 (x := "cuttings") (y := "pieces") (b := .sh (.list ((cutsOf (numsOf ms)).map wordsD))) rfl r1
  have u2 := lk1 (x := "cuttings") (y := "cards") (b := .sh (.list ((cutsOf (numsOf ms)).map wordsD))) rfl r3
  have u3 : lk (put ρ₃ "cuttings" (.sh (.list ((cutsOf (numsOf ms)).map wordsD)))) "cuttings" = some (.sh (.list ((cutsOf (numsOf ms)).map wordsD))) := lk0
  generalize put ρ₃ "cuttings" (.sh (.list ((cutsOf (numsOf ms)).map wordsD))) = ρ₄ at u1 u2 u3
  -- the end
  have hcl : (cutsOf (numsOf ms)).length = 1 := by
    have := congrArg List.length Fc
    rw [List.length_map] at this
    exact this
  have hws : ∀ ws ∈ cutsOf (numsOf ms), ws.length ≤ 6 ∧ ∀ w ∈ ws, w.length ≤ 6 ∧ ∀ k ∈ w, k < 6 := fun ws hws => by
    obtain ⟨c, _, rfl⟩ := List.mem_map.mp hws
    rw [hnl]
    obtain ⟨_, h1, h2⟩ := wordsOf_ok (N := 6) (by omega) c
    exact ⟨h2, fun w hw => ⟨wordsOf_len 6 c w hw, h1 w hw⟩⟩
  have hcard : ∀ m, (cardOf m).length = 4 := fun m => by
    unfold cardOf
    rw [join_len]; rfl
  have key : D.list ((cutsOf (numsOf ms)).map fun ws => .list (ws.map fun w => .str (wordS ms w))) = .list [.list (pc.reverse.map .str)] := by
    have := congrArg (fun l : List (List Str) => D.list (l.map fun ws => .list (ws.map .str))) Fc
    simp only [List.map_map] at this
    rw [show (cutsOf (numsOf ms)).map (fun ws => D.list (ws.map fun w => .str (wordS ms w))) = (cutsOf (numsOf ms)).map ((fun ws => D.list (ws.map .str)) ∘ fun ws => ws.map (wordS ms)) from List.map_congr_left fun ws _ => by simp only [Function.comp_apply, List.map_map]; rfl]
    exact this
  have hok : OkD 2 (.list [.list (pc.reverse.map .str)]) := OkD.list fun d hd => by
    rw [List.mem_singleton.mp hd]
    refine OkD.list fun d hd => ?_
    obtain ⟨s, hs, rfl⟩ := List.mem_map.mp hd
    exact OkD.str (hsok s (List.mem_reverse.mp hs))
  refine (Bx.ret (Ex.cmp (a := .list [.list (pc.reverse.map .str)]) (b := .list [.list (pc.reverse.map .str)]) (Ex.eq key ?_) (Ex.list (Exs.cons ?_ Exs.nil) rfl (show 1 ≤ 1000000 by omega)) (op_eqSame hok (by omega)) rfl)).toA
  · refine Ex.comp (cap := [("cards", .sh (.list ((ms.map cardOf).map .str)))]) (ds := (cutsOf (numsOf ms)).map wordsD) (Itx.of (Ex.name u3) iterOf_list) (compOk rfl (fun C => ⟨⟨_, rfl, u2⟩, .inl rfl, .inl rfl, rfl, trivial⟩) (by show (["words", "cards"] : List Str).Nodup; decide)) (by rw [List.length_map, hcl]; omega) (fun C => CompP.ofMap wordsD _ fun ws hw => ?_) (fun _ => rfl)
    obtain ⟨v1, v2⟩ := hws ws hw
    refine Ex.comp (cap := [("cards", .sh (.list ((ms.map cardOf).map .str)))]) (ds := ws.map wordD) (Itx.of (Ex.name rfl) iterOf_list) (compOk rfl (fun C => ⟨⟨_, rfl, rfl⟩, .inl rfl, .inl rfl, rfl, trivial⟩) (by show (["word", "cards"] : List Str).Nodup; decide)) (by rw [List.length_map]; omega) (fun C => CompP.ofMap wordD _ fun w hw => ?_) (fun _ => rfl)
    obtain ⟨v3, v4⟩ := v2 w hw
    refine Ex.join (x := ⟨#[]⟩) (ys := w.map fun k => (ms.map cardOf).getD k ⟨#[]⟩) Ex.strC rfl rfl ?_ rfl ?_
    · rw [List.map_map (l := w)]
      refine Ex.comp (cap := [("cards", .sh (.list ((ms.map cardOf).map .str)))]) (ds := w.map natD) (Itx.of (Ex.name rfl) iterOf_list) (compOk rfl (fun C => ⟨⟨_, rfl, rfl⟩, .inl rfl, .inl rfl, rfl, trivial⟩) (by show (["k", "cards"] : List Str).Nodup; decide)) (by rw [List.length_map]; omega) (fun C => CompP.ofMap natD _ fun k hk => ?_) (fun _ => rfl)
      exact Ex.strAt (xs := ms.map cardOf) (Ex.name rfl) (Ex.name rfl) (by rw [List.length_map, h6]; exact v4 k hk) (by rw [List.length_map, h6]; omega) (fun _ _ => rfl)
    · have : ∀ l : List Nat, (∀ k ∈ l, k < 6) → ((l.map fun k => (ms.map cardOf).getD k ⟨#[]⟩).map (·.length)).sum = 4 * l.length := by
        intro l
        induction l with
        | nil => intro _; rfl
        | cons a l ih =>
          intro h
          have ha := h a (.head _)
          rw [List.map_cons, List.map_cons, List.sum_cons, ih fun k hk => h k (.tail _ hk), List.length_cons]
          rw [List.getD_eq_getElem?_getD, List.getElem?_map, List.getElem?_eq_getElem (by omega)]
          show (cardOf _).length + _ = _
          rw [hcard]; omega
      rw [this w v4, List.length_map]
      show 4 * w.length + w.length * 0 ≤ _
      omega
  · have e : D.list (pickD (pc.map .str) Option.none Option.none (some (-1))) = .list (pc.reverse.map .str) := by rw [pick_rev, List.map_reverse]
    exact Ex.eq e (Ex.sliceL (Ex.name u1) rfl rfl ⟨_, rfl, Ex.neg Ex.int⟩ (by decide) (by rw [List.length_map]; omega))
end
end Mine
end

-- L6
section
open PySem PySem.W PyProof.Rows
set_option maxRecDepth 100000
namespace Mine
section
variable {W : Wd} {n m : Nat} {env : Env} {ρ : Rho} {x y : Str} {A : Around} {E : Value → Shared → Prop} {s : Shared} {V : List Addr}
theorem run_defA {a : Addr} {fd : FuncData} {body : List Stmt} {args : Args} {binds : List (Str × Value)} {ds : List D} {d : D} {Q : Value → Shared → Prop} (H : DefOk W a fd body (binds.map (·.1)))
    (hgen : fd.scope.isGenerator = false) (hbind : BindsTo s fd args binds) (hg : Gl W s.heap) (hA : AOk (n + 1) A) (hfr : A.frames = some []) (hr : RdL s.heap [] ds (binds.map (·.2)))
    (h : ∀ L, BxA W n (callEnvC fd L a) (shs (binds.map (·.1)) ds) body (fun _ fl => fl = .ret d)) (hQ : ∀ v s', Rd s'.heap [] d v → Ext s s' → Q v s') : wpAny W.M A (call (.ref a) args.pos args.kw) Q E s := by
  obtain ⟨oc, od, osl, hobj⟩ := H.obj
  have hkk : ∀ x v, (x, v) ∈ binds → ((x == ("__debug__" : Str)) || (x == ("__classdict__" : Str))) = false ∧ (fd.scope.names.lookup x = some .local ∨ fd.scope.names.lookup x = some .cell) := fun x v hx => by
    have q := List.all_eq_true.mp H.kinds x (List.mem_map_of_mem (f := (·.1)) hx)
    obtain ⟨q1, q2⟩ := Bool.and_eq_true_iff.mp q
    exact ⟨by simpa using q1, (Bool.or_eq_true_iff.mp q2).imp (fun e => beq_iff_eq.mp e) fun e => beq_iff_eq.mp e⟩
  have hA' := hA.dp
  have hU' := hA.un
  refine wpAny_call (call_cells (by show A.depth < 1000; omega) (hg.k a _ hobj) rfl hg.nl (codeRec_of hg.k H.code) H.body hbind H.clo (fun x hx => (hkk x.1 x.2 hx).2.imp id fun e => ⟨e, cellsFrom_some _ _ _ (.inl e)⟩) (fun s₁ x => ?_) H.co hgen H.kind)
  refine (h s.heap.objs.size).r s.heap [] s₁ _ _ _ ?_ ⟨hA.hd, by show A.depth + 1 + n ≤ 900; omega, by show A.units + 3 + 100 * n ≤ 9000; omega⟩ (Around.frames_deeper hfr) ?_
  · refine ⟨hg, x.toInCall.keep, H.kind, H.gl, H.bu, ⟨_, _, x.toInCall.ns, x.cell, ?_⟩, (shs_names _ _).nodup H.nodup, .nil, (fun _ h => nomatch h), (fun _ h => nomatch h), (fun a ha => nomatch ha), ?_, fun k c _ hk hc => ?_, fun k k' c hc hc' => name_of_addr x.apart (mem_of_lookup hc) (mem_of_lookup hc')⟩
    · refine EnvOk.shs (fun y v hy => ?_) (RdL.mono (fun b o xs k ho _ hn => ⟨x.toInCall.keep b o ho, by simpa using hn⟩) _ _ hr)
      obtain ⟨q1, q2⟩ := hkk y v hy
      have ek : (callEnvC fd s.heap.objs.size a).kindOf y = fd.scope.names.lookup y := rfl
      unfold lookIn
      rw [q1, if_neg Bool.false_ne_true]
      rcases q2 with q | q
      · rw [ek, q]
        exact bindL_at binds _ H.nodup hy (ek.trans q)
      · rw [ek, q]
        have : ((callEnvC fd s.heap.objs.size a).cells.lookup y).isSome = true := cellsFrom_some _ _ _ (.inl q)
        obtain ⟨c, hc⟩ := Option.isSome_iff_exists.mp this
        simp only [hc, Option.bind_some]
        exact bindC_at binds _ H.nodup hy (by rw [ek, q]; decide)
    · cases q : s.heap.get? (callEnvC fd s.heap.objs.size a).locals with
      | none => rfl
      | some o => exact absurd (Heap.lt_size q) (Nat.lt_irrefl _)
    · cases q : s.heap.get? c with
      | none => rfl
      | some o =>
        have h1 := x.above k c (mem_of_lookup hc)
        have h2 := Heap.lt_size q
        exact absurd (Nat.lt_trans h1 h2) (Nat.lt_irrefl _)
  · intro f s₂ ρ₂ fp₂ fl hR S₂ hf sx
    subst hR
    obtain ⟨v, rfl, hv⟩ := hf
    obtain ⟨h₁, tk, rfl⟩ := x.toInCall.same
    obtain ⟨more, g1, g2⟩ := sx.gens
    exact hQ v s₂ (Rd.mono (fun b o xs k ho _ hn => ⟨ho, fun hb => hn (List.mem_append_right _ hb)⟩) _ _ hv) ⟨S₂.keep, sx.os, more, g1, g2⟩
theorem law_run (H : Ok W) {script : List Int} (hl : script.length ≤ 63) (hF : ∀ ms : List Nat, ms.length = 6 → (∀ m ∈ ms, m < 16777216) → Facts ms ∧ ∀ s ∈ cutE (textOf ms) (zsOf ms), PyData.strOk s = true) {v : Value} {Q : Value → Shared → Prop} (hg : Gl W s.heap) (hA : AOk (n + 6) A) (hfr : A.frames = some [])
    (rv : Rd s.heap [] (.list (script.map .int)) v) (hQ : ∀ s', Ext s s' → Q (.bool true) s') : wpAny W.M A (call (.ref 174) [v]) Q E s := by
  refine run_defA (n := n + 5) (args := ⟨[v], []⟩) (binds := [("script", v)]) (ds := [.list (script.map .int)]) (d := .bool true) (defOk H f_law (fun _ => rfl) rfl rfl rfl rfl rfl (by show (["script"] : List Str).Nodup; decide) rfl) rfl (BindsTo.of_eq rfl) hg hA hfr ⟨v, [], rfl, rv, rfl⟩ (fun L => ?_) fun v' s' rv' e => ?_
  · rw [lP.2]
    have hrl : (pickD script Option.none (some ((60 : Nat) : Int)) Option.none).length ≤ 1000 := by rw [pick_upto, List.length_take]; omega
    generalize hrow : pickD script Option.none (some ((60 : Nat) : Int)) Option.none = row at hrl
    refine BxA.seq (Sx.assign (d := .list (row.map .int)) (Ex.eq (d := .list (pickD (script.map D.int) Option.none (some 60) Option.none)) (by rw [pick_map]; rw [← hrow]; rfl) (Ex.sliceL (Ex.name rfl) rfl ⟨_, rfl, Ex.int⟩ rfl (fun q => nomatch q) (by rw [List.length_map]; omega))) rfl rfl) ?_
    refine BxA.seq (Sx.assignOwn Exs.nil rfl rfl (show 0 ≤ 1000000 by omega)) ?_
    refine BxA.cons (law_modes H hrl (lk1 rfl lk0) lk0).toA ?_ (fun ρ' fl hn h => absurd h.1 hn)
    rintro ρ₁ ⟨_, ms, h6, hlt, hm⟩
    obtain ⟨F, hsok⟩ := hF ms h6 hlt
    refine BxA.conv (Conv.freeze hm) ?_
    exact law_first H h6 hlt F (lk0.trans (by rw [List.map_map]; rfl)) fun ρ' a b c => law_second H h6 hlt F hsok a b c
  · rw [show v' = .bool true from rv']
    exact hQ s' e
end
end Mine
end

-- T1
section
open PySem PySem.W PyProof.Rows
set_option maxRecDepth 100000
namespace Mine
theorem post_ok (args : List WData) : PySem.Challenge.rw_oy0076_01.row.claim.post args (.bool true) args = true := by
  show (WShape.has [] (.bool true) .bool && WTm.holds [] (.eq .res (.lit (.bool true))) { args := args, res := some (.bool true), after := args }) = true
  unfold WTm.holds
  rw [Bool.and_eq_true]
  refine ⟨by simp [WShape.has, WShape.arms], ?_⟩
  simp only [WTm.value]
  rw [show same (WData.bool true) (WData.bool true) = true from by simp [same]]
theorem ints_rd {h : Heap} {V : List Addr} {ns : List Int} {vs : List Value} (x : IntsAre vs ns) : RdL h V (ns.map .int) vs := by
  induction x with
  | nil => rfl
  | cons k t _ ih => exact ⟨_, _, rfl, ⟨t, rfl⟩, ih⟩
theorem law_good (hF : ∀ ms : List Nat, ms.length = 6 → (∀ m ∈ ms, m < 16777216) → Facts ms ∧ ∀ s ∈ cutE (textOf ms) (zsOf ms), PyData.strOk s = true) {prog : Program} {w : World} {s₁ : Shared} {mg mb : Str → Option Value} {fa a : Addr} {vs : List Value} {ns : List Int} {Q E : Value → Shared → Prop}
    (hg : s₁.heap.Ns mainGlobals mg) (hb : s₁.heap.Ns builtinsNs mb) (hbu : ∀ x : Str, x ≠ ("__name__" : Str) → mb x = bootBuiltins x) (hnl : s₁.heap.NoLimit) (KX : (hd.heap_39 w.params).In s₁.heap) (hl : ¬ ((63 : Nat) : Int) < (ns.length : Int))
    (ho : s₁.heap.get? a = some { cls := .type "list", data := .seq vs.toArray }) (hI : IntsAre vs ns) (hmg : mg "law" = some (.ref fa)) (hQ : ∀ s', Ext s₁ s' → Q (.bool true) s') : wpAny (model prog w) callerA (call (.ref fa) [.ref a]) Q E s₁ := by
  let W : Wd := { prog := prog, w := w, mg := mg, mb := mb, K := hd.heap_39 w.params }
  have hmgE : ∀ x, mg x = nsFind (mainEs w.params) x := fun x => by
    obtain ⟨o, es, ep, h1, h2, h3, h4⟩ := hg
    have hk : (hd.heap_39 w.params).lookup 3 = some o := by
      cases q : (hd.heap_39 w.params).lookup 3 with
      | none => cases (show (Option.isSome ((hd.heap_39 w.params).lookup 3)) = true from by rfl) ▸ (by rw [q]; rfl : Option.isSome ((hd.heap_39 w.params).lookup 3) = false)
      | some o' => have := KX 3 o' q; rw [show (3 : Addr) = mainGlobals from rfl, h1] at this; exact this.symm
    rw [← h4 x]
    have : mainEs w.params = es := by
      unfold mainEs
      rw [hk]
      obtain ⟨c, d, dt, sl⟩ := o
      have h2 : dt = .dict es ep := h2
      subst h2
      rfl
    rw [this]
  have H : Ok W := ⟨rfl, hmgE, hbu⟩
  have hfa : fa = 174 := by
    have e : nsFind (mainEs w.params) "law" = some (.ref 174) := by kernel_rfl
    rw [hmgE, e] at hmg
    cases hmg; rfl
  subst hfa
  refine law_run (W := W) (n := 0) H (script := ns) (by omega) hF ⟨hg, hb, hnl, KX⟩ ⟨rfl, by decide, by decide⟩ rfl ⟨a, vs.toArray, rfl, ⟨_, _, ho, rfl, ⟨rfl, rfl⟩, rfl⟩, (fun h => nomatch h), ints_rd hI⟩ hQ
end Mine
end

-- T2
section
open PySem PySem.W PyProof.Rows
set_option maxRecDepth 100000
namespace Mine
set_option maxHeartbeats 4000000 in
theorem law_holds (hF : ∀ ms : List Nat, ms.length = 6 → (∀ m ∈ ms, m < 16777216) → Facts ms ∧ ∀ s ∈ cutE (textOf ms) (zsOf ms), PyData.strOk s = true) : PySem.Challenge.rw_oy0076_01.Holds := hd (by
  k_fill
  intro w s₀ s₁ mg mb G Y fa o pm cd doc dV kV ho hd' hcd hD hmg hg args vals as hpre hlay hrd hwl hlo
  have KX := kIn_of Y
  have T := G.T
  wrow_args hpre hlay hrd hwl hlo
  rename_i ns _ _ _ _ _ _ _ a vs _ hL ra W1 r0 hI hr hc hc'
  have hW : ∃ vs' : List Value, s₁.heap.get? a = some { cls := .type "list", data := .seq vs'.toArray } := by
    cases W1 with
    | list h _ => exact ⟨_, h⟩
  obtain ⟨vs', ho'⟩ := hW
  have hv : vs' = vs := by
    obtain ⟨o', h1, h2, n', h3⟩ := hL
    rw [ho'] at h1; cases h1
    simpa using congrArg (fun d => match d with | Data.seq v _ => v.toList | _ => []) h3
  subst hv
  refine law_good hF T.g T.b T.builtins T.nolimit KX hc ho' hI hmg fun s' e => ⟨.inl ⟨.bool true, .bool true, [], rfl, fun _ => rfl, .bool true, post_ok _, fun _ => ⟨.nil, fun _ h => nomatch h⟩⟩, .of_keep e.keep, e.os, ?_⟩
  obtain ⟨more, h1, h2⟩ := e.gens
  rw [h1, hg]
  intro y hy
  exact h2 y (by simpa using hy))
end Mine
end

-- Q1
section
open PySem PySem.W PyProof.Rows
set_option maxRecDepth 100000
namespace Mine
/-- less, sign by sign -/
noncomputable def LL : List Int → List Int → Prop
  | _, [] => False
  | [], _ :: _ => True
  | a :: as, b :: bs => a < b ∨ (a = b ∧ LL as bs)
theorem LL.nil {a : List Int} (h : LL a []) : False := by cases a <;> exact h
theorem LL.irrefl : ∀ a : List Int, ¬ LL a a
  | [], h => h
  | a :: as, h => h.elim (fun h => absurd h (by omega)) fun h => LL.irrefl as h.2
theorem LL.trans : ∀ {a b c : List Int}, LL a b → LL b c → LL a c
  | _, [], _, h, _ => h.nil.elim
  | _, _ :: _, [], _, h => h.nil.elim
  | [], _ :: _, _ :: _, _, _ => trivial
  | a :: as, b :: bs, c :: cs, h1, h2 => by
    rcases h1 with h1 | ⟨h1, h1'⟩
    · rcases h2 with h2 | ⟨h2, _⟩
      · exact .inl (by omega)
      · exact .inl (by omega)
    · rcases h2 with h2 | ⟨h2, h2'⟩
      · exact .inl (by omega)
      · exact .inr ⟨by omega, LL.trans h1' h2'⟩
theorem LL.tri : ∀ a b : List Int, LL a b ∨ a = b ∨ LL b a
  | [], [] => .inr (.inl rfl)
  | [], _ :: _ => .inl trivial
  | _ :: _, [] => .inr (.inr trivial)
  | a :: as, b :: bs => by
    rcases Int.lt_trichotomy a b with h | h | h
    · exact .inl (.inl h)
    · rcases LL.tri as bs with h' | h' | h'
      · exact .inl (.inr ⟨h, h'⟩)
      · exact .inr (.inl (by rw [h, h']))
      · exact .inr (.inr (.inr ⟨h.symm, h'⟩))
    · exact .inr (.inr (.inl h))
theorem LL.asymm {a b : List Int} (h : LL a b) : ¬ LL b a := fun h' => LL.irrefl _ (h.trans h')
theorem LL.app {a b c d : List Int} (hl : a.length = b.length) : LL (a ++ c) (b ++ d) ↔ LL a b ∨ (a = b ∧ LL c d) := by
  induction a generalizing b with
  | nil =>
    cases b with
    | nil => exact ⟨fun h => .inr ⟨rfl, h⟩, fun h => h.elim (fun h => h.elim) fun h => h.2⟩
    | cons y ys => cases hl
  | cons x xs ih =>
    cases b with
    | nil => cases hl
    | cons y ys =>
      have ih := ih (b := ys) (by simpa using hl)
      show (x < y ∨ (x = y ∧ LL (xs ++ c) (ys ++ d))) ↔ (x < y ∨ (x = y ∧ LL xs ys)) ∨ (x :: xs = y :: ys ∧ LL c d)
      rw [ih]
      constructor
      · rintro (h | ⟨h, h' | ⟨h', h''⟩⟩)
        · exact .inl (.inl h)
        · exact .inl (.inr ⟨h, h'⟩)
        · exact .inr ⟨by rw [h, h'], h''⟩
      · rintro ((h | ⟨h, h'⟩) | ⟨h, h'⟩)
        · exact .inl h
        · exact .inr ⟨h, .inl h'⟩
        · cases h
          exact .inr ⟨rfl, .inr ⟨rfl, h'⟩⟩
theorem LL.pre : ∀ {a c : List Int}, c ≠ [] → LL a (a ++ c)
  | [], [], h => absurd rfl h
  | [], _ :: _, _ => trivial
  | a :: as, c, h => .inr ⟨rfl, LL.pre h⟩
/-- where the difference lies within -/
theorem LL.within : ∀ {a b : List Int} (c d : List Int), b.length ≤ a.length → LL a b → LL (a ++ c) (b ++ d)
  | _, [], _, _, _, h => h.nil.elim
  | [], _ :: _, _, _, hl, _ => by simp at hl
  | a :: as, b :: bs, c, d, hl, h => h.imp id fun h => ⟨h.1, LL.within c d (by simpa using hl) h.2⟩
theorem LL.right : ∀ {a b : List Int} (c : List Int), LL a b → LL a (b ++ c)
  | _, [], _, h => h.nil.elim
  | [], _ :: _, _, _ => trivial
  | a :: as, b :: bs, c, h => h.imp id fun h => ⟨h.1, LL.right c h.2⟩

theorem lexB_true : ∀ a b : List Int, lexB true a b = true ↔ LL a b
  | [], [] => by simp [lexB, LL]
  | [], _ :: _ => by simp [lexB, LL]
  | _ :: _, [] => by simp [lexB, LL]
  | a :: as, b :: bs => by
    have ih := lexB_true as bs
    show _ ↔ (a < b ∨ (a = b ∧ LL as bs))
    rw [← ih]
    by_cases h : a = b
    · subst h; simp [lexB]
    · simp [lexB, h]
theorem lexB_false : ∀ a b : List Int, lexB false a b = true ↔ (LL a b ∨ a = b)
  | [], [] => by simp [lexB, LL]
  | [], _ :: _ => by simp [lexB, LL]
  | _ :: _, [] => by simp [lexB, LL]
  | a :: as, b :: bs => by
    have ih := lexB_false as bs
    show _ ↔ ((a < b ∨ (a = b ∧ LL as bs)) ∨ a :: as = b :: bs)
    by_cases h : a = b
    · subst h
      simp [lexB, ih]
    · simp [lexB, h]

noncomputable def Lyn (w : List Int) : Prop := w ≠ [] ∧ ∀ t, 0 < t → t < w.length → LL w (w.drop t)
noncomputable def Rot (w : List Int) : Prop := ∀ t, 0 < t → t < w.length → LL w (w.drop t ++ w.take t)
theorem Lyn.rot {w : List Int} (h : Lyn w) : Rot w := fun t h0 h1 => by
  have := LL.within [] (w.take t) (by simp) (h.2 t h0 h1)
  rwa [List.append_nil] at this
theorem Rot.lyn {w : List Int} (hne : w ≠ []) (h : Rot w) : Lyn w := ⟨hne, fun t h0 h1 => by
  rcases LL.tri w (w.drop t) with h' | h' | h'
  · exact h'
  · have := congrArg List.length h'
    rw [List.length_drop] at this
    omega
  · exfalso
    have hvl : (w.drop t).length = w.length - t := List.length_drop
    generalize hv : w.drop t = v at h' hvl
    generalize hu : w.take t = u
    have hul : u.length = t := by rw [← hu, List.length_take]; omega
    have ew : w = u ++ v := by rw [← hu, ← hv, List.take_append_drop]
    have ew' : w = w.take v.length ++ w.drop v.length := (List.take_append_drop ..).symm
    have hl' : v.length = (w.take v.length).length := by rw [List.length_take]; omega
    have hzl : (w.drop v.length).length = u.length := by rw [List.length_drop]; omega
    generalize hz : w.drop v.length = z at ew' hzl
    generalize hv' : w.take v.length = v' at ew' hl'
    have r1 := h t h0 h1
    rw [hv, hu] at r1
    have h2 : LL (v ++ []) (v' ++ z) := by rw [List.append_nil, ← ew']; exact h'
    rcases (LL.app hl').mp h2 with h3 | ⟨h3, _⟩
    · have := (LL.app (c := u) (d := z) hl').mpr (.inl h3)
      rw [← ew'] at this
      exact this.asymm r1
    · subst h3
      rw [ew'] at r1
      have r2 : LL z u := ((LL.app rfl).mp r1).elim (fun q => absurd q (LL.irrefl _)) fun q => q.2
      have r3 := h v.length (by omega) (by omega)
      rw [hz, hv', ew] at r3
      rcases (LL.app hzl.symm).mp r3 with q | ⟨_, q⟩
      · exact q.asymm r2
      · exact LL.irrefl _ q⟩

-- words of a row y
noncomputable def seg (y : Nat → Int) (i z : Nat) : List Int := (List.range z).map fun r => y (i + r)
theorem seg_len (y : Nat → Int) (i z : Nat) : (seg y i z).length = z := by unfold seg; rw [List.length_map, List.length_range]
theorem seg_get {y : Nat → Int} {i z r : Nat} (h : r < z) : (seg y i z)[r]? = some (y (i + r)) := by
  unfold seg
  rw [List.getElem?_map, List.getElem?_range h]; rfl
theorem seg_app (y : Nat → Int) (i a b : Nat) : seg y i (a + b) = seg y i a ++ seg y (i + a) b := by
  unfold seg
  rw [List.range_add, List.map_append, List.map_map]
  congr 1
  apply List.map_congr_left
  intro r _
  show y (i + (a + r)) = y (i + a + r)
  rw [Nat.add_assoc]
theorem seg_drop (y : Nat → Int) (i z t : Nat) (h : t ≤ z) : (seg y i z).drop t = seg y (i + t) (z - t) := by
  have e : z = t + (z - t) := by omega
  rw [e, seg_app, List.drop_left' (seg_len ..)]
  congr 1; omega
theorem seg_take (y : Nat → Int) (i z t : Nat) (h : t ≤ z) : (seg y i z).take t = seg y i t := by
  have e : z = t + (z - t) := by omega
  rw [e, seg_app, List.take_left' (seg_len ..)]
/-- a factoring of the row from i to len into words that never rise, each Lyndon -/
noncomputable def FL (y : Nat → Int) (len : Nat) : Nat → List Nat → Prop
  | i, [] => i = len
  | i, z :: zs => 1 ≤ z ∧ i + z ≤ len ∧ Lyn (seg y i z) ∧ (∀ z' r, zs = z' :: r → ¬ LL (seg y i z) (seg y (i + z) z')) ∧ FL y len (i + z) zs
theorem FL.le {y : Nat → Int} {len : Nat} : ∀ {i : Nat} {zs : List Nat}, FL y len i zs → i ≤ len
  | i, [], h => by rw [show i = len from h]; exact Nat.le_refl _
  | i, z :: zs, h => by have := h.2.1; omega
theorem seg_drop' (y : Nat → Int) (i t r : Nat) : (seg y i (t + r)).drop t = seg y (i + t) r := by
  rw [seg_app, List.drop_left' (seg_len ..)]
/-- the last word is the least ending -/
theorem FL.last {y : Nat → Int} {len z : Nat} : ∀ {ls : List Nat} {i : Nat}, FL y len i (ls ++ [z]) → ∃ m, m + z = len ∧ FL y m i ls ∧ 1 ≤ z ∧ (∀ k r, i ≤ k → k + r = len → 1 ≤ r → k ≠ m → LL (seg y m z) (seg y k r)) ∧
    (∀ f r, ls ++ [z] = f :: r → ¬ LL (seg y i f) (seg y m z))
  | [], i, h => by
    obtain ⟨h1, h2, h3, h4, h5⟩ := h
    have h5 : i + z = len := h5
    refine ⟨i, h5, rfl, h1, fun k r k1 k2 k3 k4 => ?_, fun f r e => ?_⟩
    · obtain ⟨t, rfl⟩ := Nat.le.dest k1
      have e : z = t + r := Nat.add_left_cancel (h5.trans (k2.symm.trans (Nat.add_assoc ..)))
      have := h3.2 t (Nat.pos_of_ne_zero fun q => k4 (by rw [q]; rfl)) (by rw [seg_len, e]; exact Nat.lt_add_of_pos_right k3)
      rw [e, seg_drop'] at this
      rw [e]
      exact this
    · cases e
      exact LL.irrefl _
  | u :: ls, i, h => by
    obtain ⟨h1, h2, h3, h4, h5⟩ := h
    obtain ⟨m, i0, i1, i2, i4, i5⟩ := FL.last (ls := ls) h5
    have hle := i1.le
    have hfu : ¬ LL (seg y i u) (seg y m z) := by
      obtain ⟨f, r, e⟩ : ∃ f r, ls ++ [z] = f :: r := by
        cases ls with
        | nil => exact ⟨z, [], rfl⟩
        | cons a b => exact ⟨a, b ++ [z], rfl⟩
      have a1 := h4 f r e
      have a2 := i5 f r e
      intro hx
      rcases LL.tri (seg y i u) (seg y (i + u) f) with h' | h' | h'
      · exact a1 h'
      · rw [h'] at hx; exact a2 hx
      · exact a2 (h'.trans hx)
    refine ⟨m, i0, ⟨h1, hle, h3, fun z' r e => h4 z' (r ++ [z]) (by rw [e]; rfl), i1⟩, i2, fun k r k1 k2 k3 k4 => ?_, fun f r e => ?_⟩
    · rcases Nat.lt_or_ge k (i + u) with hk | hk
      · obtain ⟨v, hv⟩ := Nat.le.dest (Nat.le_of_lt hk)
        obtain ⟨w, hw⟩ := Nat.le.dest h2
        have er : r = v + w := Nat.add_left_cancel (k2.trans (hw.symm.trans (by rw [← hv, Nat.add_assoc])))
        have hw1 : 1 ≤ w := by
          rcases Nat.eq_zero_or_pos w with q | q
          · rw [q, Nat.add_zero] at hw
            rw [hw, ← i0] at hle
            exact absurd (Nat.le_trans (Nat.add_le_add_left i2 m) hle) (Nat.not_succ_le_self m)
          · exact q
        rw [er, seg_app, hv]
        have hs : LL (seg y m z) (seg y k v) ∨ seg y m z = seg y k v := by
          have hs : seg y i u = seg y k v ∨ LL (seg y i u) (seg y k v) := by
            obtain ⟨t, rfl⟩ := Nat.le.dest k1
            have eu : u = t + v := Nat.add_left_cancel (hv.symm.trans (Nat.add_assoc ..))
            have hv1 : 0 < v := Nat.pos_of_ne_zero fun q => by rw [q, Nat.add_zero] at hv; rw [hv] at hk; exact Nat.lt_irrefl _ hk
            rcases Nat.eq_zero_or_pos t with q | q
            · subst q
              rw [Nat.zero_add] at eu
              rw [eu]; exact .inl rfl
            · have := h3.2 t q (by rw [seg_len, eu]; exact Nat.lt_add_of_pos_right hv1)
              rw [eu, seg_drop'] at this
              rw [eu]; exact .inr this
          rcases LL.tri (seg y m z) (seg y i u) with h' | h' | h'
          · exact .inl (hs.elim (fun q => q ▸ h') fun q => h'.trans q)
          · rw [h']; exact hs.symm
          · exact absurd h' hfu
        rcases hs with h' | h'
        · exact h'.right _
        · rw [h']
          refine LL.pre fun q => ?_
          have := congrArg List.length q
          rw [seg_len] at this
          rw [this] at hw1
          exact Nat.not_succ_le_zero _ hw1
      · exact i4 k r hk k2 k3 k4
    · cases e
      exact hfu
end Mine
end

-- Q2
section
open PySem PySem.W PyProof.Rows
set_option maxRecDepth 100000
namespace Mine
section
variable {y : Nat → Int} {len : Nat}
theorem seg_cons (i z : Nat) : seg y i (z + 1) = y i :: seg y (i + 1) z := by
  rw [Nat.add_comm z 1, seg_app]; rfl
theorem LL.seg : ∀ {q a b i j : Nat}, q < a → q < b → (∀ r, r < q → y (i + r) = y (j + r)) → y (i + q) < y (j + q) → LL (seg y i a) (seg y j b)
  | 0, a + 1, b + 1, i, j, _, _, _, h => by rw [seg_cons, seg_cons]; exact .inl h
  | q + 1, a + 1, b + 1, i, j, ha, hb, he, h => by
    rw [seg_cons, seg_cons]
    refine .inr ⟨he 0 (Nat.succ_pos _), LL.seg (q := q) (Nat.lt_of_succ_lt_succ ha) (Nat.lt_of_succ_lt_succ hb) (fun r hr => ?_) ?_⟩
    · rw [Nat.add_right_comm i, Nat.add_right_comm j]
      exact he (r + 1) (Nat.succ_lt_succ hr)
    · rw [Nat.add_right_comm i, Nat.add_right_comm j]
      exact h
theorem seg_congr {i j z : Nat} (h : ∀ r, r < z → y (i + r) = y (j + r)) : seg y i z = seg y j z := by
  unfold Mine.seg
  apply List.map_congr_left
  intro r hr
  exact h r (List.mem_range.mp hr)
/-- less than each of its endings, the difference within -/
noncomputable def LyI (y : Nat → Int) (i p : Nat) : Prop := ∀ t, 0 < t → t < p → ∃ q, t + q < p ∧ (∀ r, r < q → y (i + r) = y (i + t + r)) ∧ y (i + q) < y (i + t + q)
theorem LyI.lyn {i p : Nat} (hp : 1 ≤ p) (h : LyI y i p) : Lyn (seg y i p) := by
  refine ⟨fun e => ?_, fun t h0 h1 => ?_⟩
  · have := congrArg List.length e
    rw [seg_len] at this
    rw [this] at hp; exact Nat.not_succ_le_zero _ hp
  · rw [seg_len] at h1
    obtain ⟨q, q1, q2, q3⟩ := h t h0 h1
    rw [seg_drop _ _ _ _ (Nat.le_of_lt h1)]
    exact LL.seg (q := q) (Nat.lt_of_le_of_lt (Nat.le_add_left _ _) q1) (Nat.lt_sub_iff_add_lt'.mpr q1) q2 q3
/-- of period p from s to a -/
noncomputable def Per (y : Nat → Int) (s p a : Nat) : Prop := ∀ i, s ≤ i → i + p < a → y (i + p) = y i
theorem Per.mul {s p a : Nat} (h : Per y s p a) : ∀ j r, s + j * p + r < a → y (s + j * p + r) = y (s + r)
  | 0, r, _ => by rw [Nat.zero_mul, Nat.add_zero]
  | j + 1, r, hr => by
    have e : s + (j + 1) * p + r = s + j * p + r + p := by rw [Nat.succ_mul, ← Nat.add_assoc, Nat.add_right_comm]
    rw [e] at hr ⊢
    rw [h _ (Nat.le_trans (Nat.le_add_right _ _) (Nat.le_add_right _ _)) hr]
    exact Per.mul h j r (Nat.lt_of_le_of_lt (Nat.le_add_right _ _) hr)
/-- a step down: where the word is longer than its period -/
theorem LyI.ext {s p b m : Nat} (hp : 1 ≤ p) (hl : LyI y s p) (h : Per y s p (b + p)) (hs : s ≤ b) (hm : b + p + 1 = s + m) (hlt : y b < y (b + p)) : LyI y s m := by
  intro t h0 h1
  obtain ⟨k, hk⟩ : ∃ k, s + t + k = b + p := Nat.le.dest (by omega)
  have htk : t + k < m := by omega
  have ht : t = t / p * p + t % p := by rw [Nat.mul_comm]; exact (Nat.div_add_mod t p).symm
  have htp : t % p < p := Nat.mod_lt _ hp
  generalize t / p = j at ht
  generalize t % p = t' at ht htp
  have lt_a : ∀ r, r < k → s + t + r < b + p := fun r hr => hk ▸ Nat.add_lt_add_left hr _
  have key : ∀ r, s + t + r < b + p → y (s + t + r) = y (s + t' + r) := fun r hr => by
    have e : s + t + r = s + j * p + (t' + r) := by rw [ht, Nat.add_assoc, Nat.add_assoc, Nat.add_assoc]
    rw [e] at hr ⊢
    rw [h.mul j _ hr, Nat.add_assoc]
  rcases Nat.eq_zero_or_pos t' with h' | h'
  · subst h'
    cases j with
    | zero => rw [Nat.zero_mul] at ht; rw [ht] at h0; exact absurd h0 (Nat.lt_irrefl 0)
    | succ i =>
      have hb : b = s + i * p + k := by
        have ht2 : t = i * p + p := by rw [ht, Nat.succ_mul]; rfl
        clear key lt_a hlt h hl hm h1 htk
        omega
      refine ⟨k, htk, fun r hr => (key r (lt_a r hr)).symm, ?_⟩
      have e2 : y b = y (s + k) := by
        rw [hb]
        exact h.mul i k (by rw [← hb]; exact Nat.lt_add_of_pos_right hp)
      rw [hk, ← e2]
      exact hlt
  · obtain ⟨q, q1, q2, q3⟩ := hl t' h' htp
    rcases Nat.lt_or_ge q k with hq | hq
    · refine ⟨q, Nat.lt_trans (Nat.add_lt_add_left hq t) htk, fun r hr => ?_, ?_⟩
      · rw [key r (lt_a r (Nat.lt_trans hr hq))]; exact q2 r hr
      · rw [key q (lt_a q hq)]; exact q3
    · cases j with
      | zero =>
        exfalso
        have : t = t' := by rw [ht, Nat.zero_mul, Nat.zero_add]
        clear key lt_a hlt h hl q2 q3
        omega
      | succ i =>
        have hb : b = s + i * p + (t' + k) := by
          have ht2 : t = i * p + p + t' := by rw [ht, Nat.succ_mul]
          clear key lt_a hlt h hl hm h1 htk q1 q2 q3 hq
          omega
        refine ⟨k, htk, fun r hr => ?_, ?_⟩
        · rw [key r (lt_a r hr)]; exact q2 r (Nat.lt_of_lt_of_le hr hq)
        · have e2 : y b = y (s + t' + k) := by
            rw [hb, h.mul i _ (by rw [← hb]; exact Nat.lt_add_of_pos_right hp), Nat.add_assoc]
          rw [hk]
          refine Int.lt_of_le_of_lt ?_ hlt
          rw [e2]
          rcases Nat.eq_or_lt_of_le hq with g | g
          · rw [g]; exact Int.le_of_lt q3
          · rw [q2 _ g]; exact Int.le_refl _
structure DInv (y : Nat → Int) (len s b p : Nat) : Prop where
  sb : s ≤ b
  pp : 1 ≤ p
  al : b + p ≤ len
  ly : LyI y s p
  per : Per y s p (b + p)
variable {c : Nat → Nat → Int}
noncomputable def CmpOf (y : Nat → Int) (len : Nat) (c : Nat → Nat → Int) : Prop := ∀ i j, i < len → j < len → (c i j = -1 ↔ y i < y j) ∧ (c i j = 0 ↔ y i = y j)
theorem duIn_inv (hc : CmpOf y len c) {s : Nat} : ∀ {f b p : Nat}, DInv y len s b p → b + p + f = len → ∃ b' p', duIn c s f b (b + p) = (b', b' + p') ∧ DInv y len s b' p' ∧ (b' + p' = len ∨ y (b' + p') < y b')
  | 0, b, p, h, hf => ⟨b, p, rfl, h, .inl hf⟩
  | f + 1, b, p, h, hf => by
    obtain ⟨h1, h2, h3, h4, h5⟩ := h
    have hbl : b + p < len := hf ▸ Nat.lt_add_of_pos_right (Nat.succ_pos f)
    obtain ⟨c1, c2⟩ := hc b (b + p) (Nat.lt_of_le_of_lt (Nat.le_add_right _ _) hbl) hbl
    unfold duIn
    by_cases hcm : (c b (b + p) == 0 || c b (b + p) == -1) = true
    · rw [if_pos hcm]
      by_cases hlt : c b (b + p) = -1
      · rw [if_pos (by rw [hlt]; rfl)]
        obtain ⟨m, hm⟩ : ∃ m, s + m = b + p + 1 := Nat.le.dest (Nat.le_trans h1 (Nat.le_trans (Nat.le_add_right b p) (Nat.le_succ _)))
        rw [← hm]
        refine duIn_inv hc ⟨Nat.le_refl _, ?_, by rw [hm]; exact hbl, h4.ext h2 h5 h1 hm.symm (c1.mp hlt), fun i i1 i2 => ?_⟩ (by rw [hm, Nat.add_assoc, Nat.add_comm 1]; exact hf)
        · clear c1 c2 hcm hlt h5 h4 hf hc
          omega
        · exact absurd (Nat.lt_of_add_lt_add_right i2) (Nat.not_lt.mpr i1)
      · rw [if_neg (by simpa using hlt)]
        have h0 : c b (b + p) = 0 := by
          rcases Bool.or_eq_true_iff.mp hcm with q | q
          · exact beq_iff_eq.mp q
          · exact absurd (beq_iff_eq.mp q) hlt
        rw [show b + p + 1 = b + 1 + p from Nat.add_right_comm ..]
        refine duIn_inv hc ⟨Nat.le_succ_of_le h1, h2, by rw [Nat.add_right_comm]; exact hbl, h4, fun i i1 i2 => ?_⟩ (by rw [Nat.add_right_comm b 1, Nat.add_assoc, Nat.add_comm 1]; exact hf)
        rw [Nat.add_right_comm b] at i2
        rcases Nat.eq_or_lt_of_le (Nat.le_of_lt_succ i2) with g | g
        · have : i = b := Nat.add_right_cancel g
          rw [this]
          exact (c2.mp h0).symm
        · exact h5 i i1 g
    · rw [if_neg hcm]
      refine ⟨b, p, rfl, ⟨h1, h2, h3, h4, h5⟩, .inr ?_⟩
      have n0 : c b (b + p) ≠ 0 := fun q => hcm (by rw [q]; rfl)
      have n1 : c b (b + p) ≠ -1 := fun q => hcm (by rw [q]; rfl)
      have m0 := mt c2.mpr n0
      have m1 := mt c1.mpr n1
      rcases Int.lt_trichotomy (y (b + p)) (y b) with g | g | g
      · exact g
      · exact absurd g.symm m0
      · exact absurd g m1
/-- the next word is none greater -/
theorem du_head {s b p s' j d z' : Nat} (h : DInv y len s b p) (ht : b + p = len ∨ y (b + p) < y b) (e : s' = s + j * p) (hb : b < s') (hd : s' + d = b + p) (hz : s' + z' ≤ len) : ¬ LL (seg y s p) (seg y s' z') := by
  obtain ⟨h1, h2, h3, h4, h5⟩ := h
  have hp : ∀ r, r < d → y (s' + r) = y (s + r) := fun r hr => by
    have : s' + r < b + p := hd ▸ Nat.add_lt_add_left hr _
    rw [e] at this ⊢; exact h5.mul j r this
  have hdp : d < p := Nat.lt_of_add_lt_add_left (show b + d < b + p from hd ▸ Nat.add_lt_add_right hb d)
  rcases Nat.lt_or_ge d z' with hdz | hdz
  · have hlt : y (b + p) < y b := ht.elim (fun q => absurd (Nat.lt_of_lt_of_le (Nat.add_lt_add_left hdz s') hz) (by rw [hd, q]; exact Nat.lt_irrefl _)) id
    cases j with
    | zero => rw [Nat.zero_mul, Nat.add_zero] at e; rw [e] at hb; exact absurd h1 (Nat.not_le.mpr hb)
    | succ i =>
      have hb2 : b = s + i * p + d := by
        have e2 : s' = s + i * p + p := by rw [e, Nat.succ_mul, Nat.add_assoc]
        rw [e2] at hd
        exact (Nat.add_right_cancel (show s + i * p + d + p = b + p from Nat.add_right_comm .. ▸ hd)).symm
      have hb3 : y b = y (s + d) := by
        rw [hb2]
        exact h5.mul i d (by rw [← hb2]; exact Nat.lt_add_of_pos_right h2)
      exact (LL.seg (q := d) hdz hdp (fun r hr => hp r hr) (by rw [hd, ← hb3]; exact hlt)).asymm
  · have e3 : seg y s' z' = seg y s z' := seg_congr fun r hr => hp r (Nat.lt_of_lt_of_le hr hdz)
    obtain ⟨u, hu⟩ := Nat.le.dest (Nat.le_of_lt (Nat.lt_of_le_of_lt hdz hdp))
    rw [e3, ← hu, seg_app]
    refine (LL.pre fun q => ?_).asymm
    have := congrArg List.length q
    rw [seg_len] at this
    rw [this] at hu
    exact absurd hu (Nat.ne_of_lt (Nat.lt_of_le_of_lt hdz hdp))
theorem duPush_ok {s b p : Nat} (h : DInv y len s b p) (ht : b + p = len ∨ y (b + p) < y b) : ∀ {f s₁ j : Nat}, s₁ = s + j * p → s₁ ≤ b + p → b + 1 ≤ f + s₁ →
    (duPush p b f s₁).2 ≤ b + p ∧ b < (duPush p b f s₁).2 ∧ (∀ lens, FL y len (duPush p b f s₁).2 lens → FL y len s₁ ((duPush p b f s₁).1 ++ lens))
  | 0, s₁, j, e, hs, hf => ⟨hs, by rw [Nat.zero_add] at hf; exact hf, fun lens hl => hl⟩
  | f + 1, s₁, j, e, hs, hf => by
    unfold duPush
    by_cases hb : s₁ ≤ b
    · rw [if_pos hb]
      have hal := h.al
      have e' : s₁ + p = s + (j + 1) * p := by rw [e, Nat.succ_mul, Nat.add_assoc]
      have hsp : s₁ + p ≤ b + p := Nat.add_le_add_right hb p
      obtain ⟨g1, g2, g3⟩ := duPush_ok h ht (f := f) (s₁ := s₁ + p) (j := j + 1) e' hsp (by
        refine Nat.le_trans hf ?_
        rw [Nat.add_assoc, Nat.add_comm 1]
        exact Nat.add_le_add_left (Nat.add_le_add_left h.pp _) _)
      refine ⟨g1, g2, fun lens hl => ?_⟩
      have lt_a : ∀ r, r < p → s₁ + r < b + p := fun r hr => Nat.add_lt_add_of_le_of_lt hb hr
      have hsg : seg y s₁ p = seg y s p := seg_congr fun r hr => by
        have := lt_a r hr
        rw [e] at this ⊢; exact h.per.mul j r this
      refine ⟨h.pp, Nat.le_trans hsp hal, by rw [hsg]; exact h.ly.lyn h.pp, fun z' r hz => ?_, g3 lens hl⟩
      rw [hsg]
      have hz : (duPush p b f (s₁ + p)).1 ++ lens = z' :: r := hz
      rcases Nat.lt_or_ge b (s₁ + p) with hx | hx
      · have h2 := g3 lens hl
        rw [hz] at h2
        obtain ⟨d, hd⟩ := Nat.le.dest hsp
        exact du_head h ht e' hx hd h2.2.1
      · have : z' = p := by
          cases f with
          | zero =>
            exfalso
            rw [Nat.zero_add, Nat.add_comm 1] at hf
            exact absurd (Nat.le_trans (Nat.add_le_add_left h.pp s₁) hx) (Nat.not_le.mpr (Nat.lt_of_lt_of_le (Nat.lt_succ_self b) hf))
          | succ f =>
            unfold duPush at hz
            rw [if_pos hx] at hz
            cases hz; rfl
        subst this
        have : seg y (s₁ + z') z' = seg y s z' := seg_congr fun r hr => by
          have := Nat.add_lt_add_of_le_of_lt hx hr
          rw [e'] at this ⊢; exact h.per.mul (j + 1) r this
        rw [this]
        exact LL.irrefl _
    · rw [if_neg hb]
      exact ⟨hs, Nat.lt_of_not_le hb, fun lens hl => hl⟩
theorem duGo_ok (hc : CmpOf y len c) : ∀ {f s : Nat}, len ≤ s + f → s ≤ len → FL y len s (duGo c len f s)
  | 0, s, hf, hs => Nat.le_antisymm hs hf
  | f + 1, s, hf, hs => by
    unfold duGo
    by_cases hl : s < len
    · rw [if_pos hl]
      obtain ⟨b, p, e, h, ht⟩ := duIn_inv hc (s := s) (f := len - (s + 1)) (b := s) (p := 1) ⟨Nat.le_refl _, Nat.le_refl _, hl, fun t t0 t1 => absurd t1 (Nat.not_lt.mpr t0), fun i i1 i2 => absurd (Nat.lt_of_add_lt_add_right i2) (Nat.not_lt.mpr i1)⟩ (Nat.add_sub_cancel' hl)
      rw [e]
      show FL y len s ((duPush (b + p - b) b (b + 1 - s) s).1 ++ duGo c len f (duPush (b + p - b) b (b + 1 - s) s).2)
      rw [Nat.add_sub_cancel_left]
      obtain ⟨g1, g2, g3⟩ := duPush_ok h ht (f := b + 1 - s) (s₁ := s) (j := 0) (by rw [Nat.zero_mul, Nat.add_zero]) (Nat.le_trans h.sb (Nat.le_add_right _ _)) (by rw [Nat.sub_add_cancel (Nat.le_succ_of_le h.sb)]; exact Nat.le_refl _)
      refine g3 _ (duGo_ok hc (Nat.le_trans hf ?_) (Nat.le_trans g1 h.al))
      rw [Nat.add_comm f 1, ← Nat.add_assoc]
      exact Nat.add_le_add_right (Nat.lt_of_le_of_lt h.sb g2) f
    · rw [if_neg hl]
      exact Nat.le_antisymm hs (Nat.not_lt.mp hl)
end
end Mine
end

-- Q3
section
open PySem PySem.W PyProof.Rows
set_option maxRecDepth 100000
namespace Mine
theorem and_nat (a b : Nat) : Builtin.bitAnd (a : Int) (b : Int) = ((a &&& b : Nat) : Int) := by
  have e1 : decide (0 ≤ (a : Int)) = true := decide_eq_true (by omega)
  have e2 : decide (0 ≤ (b : Int)) = true := decide_eq_true (by omega)
  unfold Builtin.bitAnd
  rw [e1, e2]
  simp
theorem hit_nat (m p : Nat) : (Builtin.bitAnd (m : Int) (p : Int) == (p : Int)) = decide (m &&& p = p) := by
  rw [and_nat, Bool.eq_iff_iff, beq_iff_eq, decide_eq_true_iff]
  omega
theorem and_pow (m i : Nat) : m &&& 2 ^ i = 2 ^ i ↔ m / 2 ^ i % 2 = 1 := by
  constructor
  · intro h
    have := congrArg (fun x => x.testBit i) h
    simp only [Nat.testBit_and, Nat.testBit_two_pow_self, Bool.and_true] at this
    rw [Nat.testBit_eq_decide_div_mod_eq] at this
    exact of_decide_eq_true this
  · intro h
    apply Nat.eq_of_testBit_eq
    intro j
    rw [Nat.testBit_and]
    by_cases hj : i = j
    · subst hj
      rw [Nat.testBit_two_pow_self, Nat.testBit_eq_decide_div_mod_eq, decide_eq_true h]; rfl
    · rw [Nat.testBit_two_pow_of_ne hj, Bool.and_false]
theorem and_or (m p q : Nat) : m &&& (p ||| q) = p ||| q ↔ m &&& p = p ∧ m &&& q = q := by
  constructor
  · intro h
    have key : ∀ i, (m.testBit i && (p.testBit i || q.testBit i)) = (p.testBit i || q.testBit i) := fun i => by
      have := congrArg (fun x => x.testBit i) h
      simpa only [Nat.testBit_and, Nat.testBit_or] using this
    constructor
    · apply Nat.eq_of_testBit_eq
      intro i
      have := key i
      rw [Nat.testBit_and]
      revert this
      cases m.testBit i <;> cases p.testBit i <;> cases q.testBit i <;> decide
    · apply Nat.eq_of_testBit_eq
      intro i
      have := key i
      rw [Nat.testBit_and]
      revert this
      cases m.testBit i <;> cases p.testBit i <;> cases q.testBit i <;> decide
  · rintro ⟨h1, h2⟩
    rw [Nat.and_or_distrib_left, h1, h2]
theorem and_kind (m : Nat) : m &&& 61440 = m / 4096 % 16 * 4096 := by
  have e : m / 4096 % 16 = m / 2 ^ 12 &&& 2 ^ 4 - 1 := by rw [Nat.and_two_pow_sub_one_eq_mod]
  rw [e]
  apply Nat.eq_of_testBit_eq
  intro i
  rw [show (61440 : Nat) = (2 ^ 4 - 1) * 2 ^ 12 from rfl, show (4096 : Nat) = 2 ^ 12 from rfl, Nat.testBit_and, Nat.testBit_mul_two_pow, Nat.testBit_mul_two_pow, Nat.testBit_and, Nat.testBit_div_two_pow]
  by_cases h : 12 ≤ i
  · rw [decide_eq_true h, Bool.true_and, Bool.true_and, show i - 12 + 12 = i by omega]
  · rw [decide_eq_false h, Bool.false_and, Bool.false_and, Bool.and_false]
/-- the digits -/
noncomputable def kD (m : Nat) : Nat := ([1, 6, 3, 1, 4, 1, 2, 1, 0, 1, 5, 1, 7, 1, 1, 1] : List Nat).getD (m / 4096 % 16) 0
noncomputable def xD (b a : Nat) : Nat := if b = 1 then 3 - a else a
noncomputable def bD (m i : Nat) : Nat := m / 2 ^ i % 2
noncomputable def tC (d : Nat) : Nat := ([45, 63, 98, 99, 100, 108, 112, 115] : List Nat).getD d 0
noncomputable def rC (d : Nat) : Nat := ([45, 114] : List Nat).getD d 0
noncomputable def wC (d : Nat) : Nat := ([45, 119] : List Nat).getD d 0
noncomputable def xC (d : Nat) : Nat := ([45, 83, 115, 120] : List Nat).getD d 0
noncomputable def oC (d : Nat) : Nat := ([45, 84, 116, 120] : List Nat).getD d 0
noncomputable def codes (m : Nat) : List Nat := [tC (kD m), rC (bD m 8), wC (bD m 7), xC (xD (bD m 6) (bD m 11)), rC (bD m 5), wC (bD m 4), xC (xD (bD m 3) (bD m 10)), rC (bD m 2), wC (bD m 1), oC (xD (bD m 0) (bD m 9))]
noncomputable def numN (m : Nat) : Nat := kD m * 4096 + (bD m 8 * 2048 + (bD m 7 * 1024 + (xD (bD m 6) (bD m 11) * 256 + (bD m 5 * 128 + (bD m 4 * 64 + (xD (bD m 3) (bD m 10) * 16 + (bD m 2 * 8 + (bD m 1 * 4 + xD (bD m 0) (bD m 9)))))))))
theorem bD_lt (m i : Nat) : bD m i < 2 := Nat.mod_lt _ (by omega)
theorem xD_lt (m i j : Nat) : xD (bD m i) (bD m j) < 4 := by
  have := bD_lt m j
  unfold xD
  split <;> omega
theorem kD_lt (m : Nat) : kD m < 8 := by
  have h : ∀ t : Nat, t < 16 → ([1, 6, 3, 1, 4, 1, 2, 1, 0, 1, 5, 1, 7, 1, 1, 1] : List Nat).getD t 0 < 8 := by decide
  exact h _ (Nat.mod_lt _ (by omega))
theorem bit_hit (m i : Nat) {p : Int} (hp : p = ((2 ^ i : Nat) : Int)) : (Builtin.bitAnd (m : Int) p == p) = decide (bD m i = 1) := by
  rw [hp, hit_nat]
  exact decide_eq_decide.mpr (and_pow m i)
theorem bit_hit2 (m i j : Nat) {p : Int} (hp : p = ((2 ^ i ||| 2 ^ j : Nat) : Int)) : (Builtin.bitAnd (m : Int) p == p) = decide (bD m i = 1 ∧ bD m j = 1) := by
  rw [hp, hit_nat]
  refine decide_eq_decide.mpr ?_
  rw [and_or, and_pow, and_pow]
  exact Iff.rfl
noncomputable def kRow (K : Int) : List (Int × Str) → Str
  | [] => "?"
  | (b, c) :: r => if (K == b) = true then c else kRow K r
theorem fm_kind (m : Nat) : ∀ r, fmChar (m : Int) 0 r = kRow (Builtin.bitAnd (m : Int) 61440) r
  | [] => rfl
  | (b, c) :: r => by
    show (if fmHit (m : Int) 0 b = true then c else fmChar (m : Int) 0 r) = _
    rw [fm_kind m r]; rfl
theorem fm_r (m i : Nat) {k p : Int} (hk : (k == 0) = false) (hp : p = ((2 ^ i : Nat) : Int)) {c : Str} {f : Nat → Nat} (h0 : "-" = chrS (f 0)) (h1 : c = chrS (f 1)) : fmChar (m : Int) k [(p, c)] = chrS (f (bD m i)) := by
  have := bD_lt m i
  have hb := bit_hit m i hp
  unfold fmChar fmHit
  rw [hk, if_neg Bool.false_ne_true, hb]
  unfold fmChar
  rw [hk, if_neg Bool.false_ne_true]
  by_cases h : bD m i = 1
  · rw [decide_eq_true h, if_pos rfl, h1, h]
  · rw [decide_eq_false h, if_neg Bool.false_ne_true, show bD m i = 0 by omega]
    exact h0
theorem fm_x (m i j : Nat) {k p q r : Int} (hk : (k == 0) = false) (hp : p = ((2 ^ i ||| 2 ^ j : Nat) : Int)) (hq : q = ((2 ^ j : Nat) : Int)) (hr : r = ((2 ^ i : Nat) : Int)) {c2 c1 c3 : Str} {f : Nat → Nat} (h0 : "-" = chrS (f 0)) (h1 : c1 = chrS (f 1)) (h2 : c2 = chrS (f 2)) (h3 : c3 = chrS (f 3)) :
    fmChar (m : Int) k [(p, c2), (q, c1), (r, c3)] = chrS (f (xD (bD m i) (bD m j))) := by
  have hi := bD_lt m i
  have hj := bD_lt m j
  have e1 := bit_hit2 m i j hp
  have e2 := bit_hit m j hq
  have e3 := bit_hit m i hr
  unfold fmChar fmHit
  rw [hk, if_neg Bool.false_ne_true, e1]
  unfold fmChar fmHit
  rw [hk, if_neg Bool.false_ne_true, e2]
  unfold fmChar fmHit
  rw [hk, if_neg Bool.false_ne_true, e3]
  unfold fmChar
  rw [hk, if_neg Bool.false_ne_true]
  generalize bD m i = a at hi
  generalize bD m j = b at hj
  have ha : a = 0 ∨ a = 1 := by omega
  have hb : b = 0 ∨ b = 1 := by omega
  rcases ha with rfl | rfl <;> rcases hb with rfl | rfl
  · exact h0
  · exact h1
  · exact h3
  · exact h2
theorem look_codes (m : Nat) : sl (lookOf (m : Int)) = codes m := by
  unfold lookOf
  rw [sl_join]
  have hk : fmChar (m : Int) 0 [(40960, ⟨#[108]⟩), (49152, ⟨#[115]⟩), (32768, ⟨#[45]⟩), (24576, ⟨#[98]⟩), (16384, ⟨#[100]⟩), (8192, ⟨#[99]⟩), (4096, ⟨#[112]⟩)] = chrS (tC (kD m)) := by
    rw [fm_kind, show (61440 : Int) = ((61440 : Nat) : Int) from rfl, and_nat, and_kind]
    have h : ∀ t : Nat, t < 16 → kRow ((t * 4096 : Nat) : Int) [(40960, ⟨#[108]⟩), (49152, ⟨#[115]⟩), (32768, ⟨#[45]⟩), (24576, ⟨#[98]⟩), (16384, ⟨#[100]⟩), (8192, ⟨#[99]⟩), (4096, ⟨#[112]⟩)] = chrS (tC (([1, 6, 3, 1, 4, 1, 2, 1, 0, 1, 5, 1, 7, 1, 1, 1] : List Nat).getD t 0)) := by decide
    exact h _ (Nat.mod_lt _ (by omega))
  have e : fmChars (m : Int) = [chrS (tC (kD m)), chrS (rC (bD m 8)), chrS (wC (bD m 7)), chrS (xC (xD (bD m 6) (bD m 11))), chrS (rC (bD m 5)), chrS (wC (bD m 4)), chrS (xC (xD (bD m 3) (bD m 10))), chrS (rC (bD m 2)), chrS (wC (bD m 1)), chrS (oC (xD (bD m 0) (bD m 9)))] := by
    unfold fmChars fmRows
    simp only [List.map_cons, List.map_nil]
    have e1 : fmChar (m : Int) 1 [(256, ⟨#[114]⟩)] = chrS (rC (bD m 8)) := fm_r m 8 rfl rfl rfl rfl
    have e2 : fmChar (m : Int) 2 [(128, ⟨#[119]⟩)] = chrS (wC (bD m 7)) := fm_r m 7 rfl rfl rfl rfl
    have e3 : fmChar (m : Int) 3 [(2112, ⟨#[115]⟩), (2048, ⟨#[83]⟩), (64, ⟨#[120]⟩)] = chrS (xC (xD (bD m 6) (bD m 11))) := fm_x m 6 11 rfl rfl rfl rfl rfl rfl rfl rfl
    have e4 : fmChar (m : Int) 4 [(32, ⟨#[114]⟩)] = chrS (rC (bD m 5)) := fm_r m 5 rfl rfl rfl rfl
    have e5 : fmChar (m : Int) 5 [(16, ⟨#[119]⟩)] = chrS (wC (bD m 4)) := fm_r m 4 rfl rfl rfl rfl
    have e6 : fmChar (m : Int) 6 [(1032, ⟨#[115]⟩), (1024, ⟨#[83]⟩), (8, ⟨#[120]⟩)] = chrS (xC (xD (bD m 3) (bD m 10))) := fm_x m 3 10 rfl rfl rfl rfl rfl rfl rfl rfl
    have e7 : fmChar (m : Int) 7 [(4, ⟨#[114]⟩)] = chrS (rC (bD m 2)) := fm_r m 2 rfl rfl rfl rfl
    have e8 : fmChar (m : Int) 8 [(2, ⟨#[119]⟩)] = chrS (wC (bD m 1)) := fm_r m 1 rfl rfl rfl rfl
    have e9 : fmChar (m : Int) 9 [(513, ⟨#[116]⟩), (512, ⟨#[84]⟩), (1, ⟨#[120]⟩)] = chrS (oC (xD (bD m 0) (bD m 9))) := fm_x m 0 9 rfl rfl rfl rfl rfl rfl rfl rfl
    rw [hk, e1, e2, e3, e4, e5, e6, e7, e8, e9]
  rw [e]
  rfl
theorem num_nat (m : Nat) : numOf (m : Int) = ((numN m : Nat) : Int) := by
  have f4096 := fdiv_nat m (b := 4096) (by omega)
  have f512 := fdiv_nat m (b := 512) (by omega)
  have p : ∀ i : Nat, (8 : Int) ^ ((i : Nat) : Int).toNat = ((8 ^ i : Nat) : Int) := fun i => by rw [Int.toNat_natCast]; push_cast; rfl
  have p2 : ∀ i : Nat, (2 : Int) ^ ((i : Nat) : Int).toNat = ((2 ^ i : Nat) : Int) := fun i => by rw [Int.toNat_natCast]; push_cast; rfl
  have step : ∀ (n i a : Nat), nstep (m : Int) (n : Int) ((i : Nat) : Int) = ((n * 16 + (m / 8 ^ i % 8 / 2 * 4 + xD (m / 8 ^ i % 8 % 2) (m / 512 / 2 ^ i % 2)) : Nat) : Int) := fun n i a => by
    unfold nstep
    have hp8 : 0 < 8 ^ i := Nat.pow_pos (by omega)
    have hp2 : 0 < 2 ^ i := Nat.pow_pos (by omega)
    rw [p, p2, fdiv_nat m hp8, show (8 : Int) = ((8 : Nat) : Int) from rfl, fmod_nat _ (by omega), show (2 : Int) = ((2 : Nat) : Int) from rfl, fdiv_nat _ (by omega), fmod_nat _ (by omega), show (512 : Int) = ((512 : Nat) : Int) from rfl, fdiv_nat _ (by omega), fdiv_nat _ hp2, fmod_nat _ (by omega)]
    have h1 : m / 8 ^ i % 8 % 2 < 2 := Nat.mod_lt _ (by omega)
    have h2 : m / 512 / 2 ^ i % 2 < 2 := Nat.mod_lt _ (by omega)
    generalize m / 8 ^ i % 8 = r at *
    generalize m / 512 / 2 ^ i % 2 = a at *
    generalize r % 2 = b at *
    unfold xD
    by_cases hb : b = 1
    · subst hb
      rw [if_pos (by rfl), if_pos rfl]
      omega
    · rw [if_neg (by simp; omega), if_neg hb]
      omega
  unfold numOf
  rw [show (4096 : Int) = ((4096 : Nat) : Int) from rfl, f4096, show (16 : Int) = ((16 : Nat) : Int) from rfl, fmod_nat _ (by omega), Int.toNat_natCast]
  have ht : numTbl.getD (m / 4096 % 16) 0 = ((kD m : Nat) : Int) := by
    have h : ∀ t : Nat, t < 16 → numTbl.getD t 0 = ((([1, 6, 3, 1, 4, 1, 2, 1, 0, 1, 5, 1, 7, 1, 1, 1] : List Nat).getD t 0 : Nat) : Int) := by decide
    exact h _ (Nat.mod_lt _ (by omega))
  rw [ht]
  show nstep (m : Int) (nstep (m : Int) (nstep (m : Int) ((kD m : Nat) : Int) ((2 : Nat) : Int)) ((1 : Nat) : Int)) ((0 : Nat) : Int) = _
  rw [step _ 2 0, step _ 1 0, step _ 0 0]
  congr 1
  have q : ∀ i j k : Nat, m / 8 ^ i % 8 / 2 * 4 = bD m (3 * i + 2) * 8 + bD m (3 * i + 1) * 4 ∧ m / 8 ^ i % 8 % 2 = bD m (3 * i) ∧ m / 512 / 2 ^ i % 2 = bD m (9 + i) := fun i _ _ => by
    have e8 : (8 : Nat) ^ i = 2 ^ (3 * i) := by rw [Nat.pow_mul]
    have g1 : m / 2 ^ (3 * i + 1) = m / 8 ^ i / 2 := by rw [Nat.pow_succ, ← Nat.div_div_eq_div_mul, e8]
    have g2 : m / 2 ^ (3 * i + 2) = m / 8 ^ i / 4 := by rw [Nat.pow_add, ← Nat.div_div_eq_div_mul, e8]
    have g3 : m / 2 ^ (9 + i) = m / 512 / 2 ^ i := by rw [Nat.pow_add, ← Nat.div_div_eq_div_mul]
    unfold bD
    rw [g1, g2, g3, ← e8]
    refine ⟨?_, Nat.mod_mod_of_dvd _ ⟨4, rfl⟩, rfl⟩
    generalize m / 8 ^ i = v
    have e1 : v % 8 / 2 = v / 2 % 4 := Nat.mod_mul_right_div_self v 2 4
    have e2 : v / 2 / 2 % 2 * 2 + v / 2 % 2 = v / 2 % 4 := by rw [Nat.mod_mul (a := 2) (b := 2) (x := v / 2), Nat.add_comm, Nat.mul_comm]
    rw [e1, ← e2, Nat.add_mul, Nat.mul_assoc, Nat.div_div_eq_div_mul]
  obtain ⟨a1, a2, a3⟩ : m / 8 ^ 2 % 8 / 2 * 4 = bD m 8 * 8 + bD m 7 * 4 ∧ m / 8 ^ 2 % 8 % 2 = bD m 6 ∧ m / 512 / 2 ^ 2 % 2 = bD m 11 := q 2 0 0
  obtain ⟨b1, b2, b3⟩ : m / 8 ^ 1 % 8 / 2 * 4 = bD m 5 * 8 + bD m 4 * 4 ∧ m / 8 ^ 1 % 8 % 2 = bD m 3 ∧ m / 512 / 2 ^ 1 % 2 = bD m 10 := q 1 0 0
  obtain ⟨c1, c2, c3⟩ : m / 8 ^ 0 % 8 / 2 * 4 = bD m 2 * 8 + bD m 1 * 4 ∧ m / 8 ^ 0 % 8 % 2 = bD m 0 ∧ m / 512 / 2 ^ 0 % 2 = bD m 9 := q 0 0 0
  rw [a1, a2, a3, b1, b2, b3, c1, c2, c3]
  unfold numN
  clear a1 a2 a3 b1 b2 b3 c1 c2 c3 step q ht p p2 f4096 f512
  simp only [Nat.add_mul, Nat.mul_assoc, Nat.add_assoc, Nat.reduceMul]
/-- lists and numbers that stand alike -/
noncomputable def Alike (as : List Nat) (x : Nat) (bs : List Nat) (y : Nat) : Prop := (as < bs ↔ x < y) ∧ (as = bs ↔ x = y)
theorem Alike.cons {as bs : List Nat} {x y : Nat} (h : Alike as x bs y) {B N : Nat} {f : Nat → Nat} (hf : ∀ a b, a < N → b < N → (f a < f b ↔ a < b) ∧ (f a = f b ↔ a = b)) {a b : Nat} (ha : a < N) (hb : b < N) (hx : x < B) (hy : y < B) :
    Alike (f a :: as) (a * B + x) (f b :: bs) (b * B + y) := by
  obtain ⟨h1, h2⟩ := h
  obtain ⟨f1, f2⟩ := hf a b ha hb
  have key : (a * B + x < b * B + y ↔ a < b ∨ (a = b ∧ x < y)) ∧ (a * B + x = b * B + y ↔ a = b ∧ x = y) := by
    rcases Nat.lt_trichotomy a b with h | h | h
    · have : (a + 1) * B ≤ b * B := Nat.mul_le_mul_right _ h
      rw [Nat.succ_mul] at this
      constructor <;> constructor <;> intro _ <;> omega
    · subst h
      constructor <;> constructor <;> intro _ <;> omega
    · have : (b + 1) * B ≤ a * B := Nat.mul_le_mul_right _ h
      rw [Nat.succ_mul] at this
      constructor <;> constructor <;> intro _ <;> omega
  constructor
  · rw [List.cons_lt_cons_iff, f1, f2, h1, key.1]
  · rw [List.cons.injEq, f2, h2, key.2]
theorem mono_t : ∀ a b, a < 8 → b < 8 → (tC a < tC b ↔ a < b) ∧ (tC a = tC b ↔ a = b) := by
  have : ∀ a < 8, ∀ b < 8, (tC a < tC b ↔ a < b) ∧ (tC a = tC b ↔ a = b) := by decide
  exact fun a b ha hb => this a ha b hb
theorem mono_r : ∀ a b, a < 2 → b < 2 → (rC a < rC b ↔ a < b) ∧ (rC a = rC b ↔ a = b) := by
  have : ∀ a < 2, ∀ b < 2, (rC a < rC b ↔ a < b) ∧ (rC a = rC b ↔ a = b) := by decide
  exact fun a b ha hb => this a ha b hb
theorem mono_w : ∀ a b, a < 2 → b < 2 → (wC a < wC b ↔ a < b) ∧ (wC a = wC b ↔ a = b) := by
  have : ∀ a < 2, ∀ b < 2, (wC a < wC b ↔ a < b) ∧ (wC a = wC b ↔ a = b) := by decide
  exact fun a b ha hb => this a ha b hb
theorem mono_x : ∀ a b, a < 4 → b < 4 → (xC a < xC b ↔ a < b) ∧ (xC a = xC b ↔ a = b) := by
  have : ∀ a < 4, ∀ b < 4, (xC a < xC b ↔ a < b) ∧ (xC a = xC b ↔ a = b) := by decide
  exact fun a b ha hb => this a ha b hb
theorem mono_o : ∀ a b, a < 4 → b < 4 → (oC a < oC b ↔ a < b) ∧ (oC a = oC b ↔ a = b) := by
  have : ∀ a < 4, ∀ b < 4, (oC a < oC b ↔ a < b) ∧ (oC a = oC b ↔ a = b) := by decide
  exact fun a b ha hb => this a ha b hb
theorem mix_lt {a N x B : Nat} (ha : a < N) (hx : x < B) : a * B + x < N * B := by
  have : (a + 1) * B ≤ N * B := Nat.mul_le_mul_right _ ha
  rw [Nat.succ_mul] at this
  exact Nat.lt_of_lt_of_le (Nat.add_lt_add_left hx _) this
theorem alike (m m' : Nat) : Alike (codes m) (numN m) (codes m') (numN m') := by
  have b := bD_lt m
  have b' := bD_lt m'
  have x := xD_lt m
  have x' := xD_lt m'
  have h0 : Alike [] 0 [] 0 := ⟨⟨fun h => absurd h (List.lt_irrefl _), fun h => absurd h (Nat.lt_irrefl 0)⟩, ⟨fun _ => rfl, fun _ => rfl⟩⟩
  have h1 := h0.cons (B := 1) mono_o (x 0 9) (x' 0 9) Nat.one_pos Nat.one_pos
  rw [Nat.mul_one, Nat.mul_one, Nat.add_zero, Nat.add_zero] at h1
  have l1 := x 0 9
  have l1' := x' 0 9
  have h2 := h1.cons (B := 4) mono_w (b 1) (b' 1) l1 l1'
  have l2 := mix_lt (b 1) l1
  have l2' := mix_lt (b' 1) l1'
  have h3 := h2.cons (B := 8) mono_r (b 2) (b' 2) l2 l2'
  have l3 := mix_lt (b 2) l2
  have l3' := mix_lt (b' 2) l2'
  have h4 := h3.cons (B := 16) mono_x (x 3 10) (x' 3 10) l3 l3'
  have l4 := mix_lt (x 3 10) l3
  have l4' := mix_lt (x' 3 10) l3'
  have h5 := h4.cons (B := 64) mono_w (b 4) (b' 4) l4 l4'
  have l5 := mix_lt (b 4) l4
  have l5' := mix_lt (b' 4) l4'
  have h6 := h5.cons (B := 128) mono_r (b 5) (b' 5) l5 l5'
  have l6 := mix_lt (b 5) l5
  have l6' := mix_lt (b' 5) l5'
  have h7 := h6.cons (B := 256) mono_x (x 6 11) (x' 6 11) l6 l6'
  have l7 := mix_lt (x 6 11) l6
  have l7' := mix_lt (x' 6 11) l6'
  have h8 := h7.cons (B := 1024) mono_w (b 7) (b' 7) l7 l7'
  have l8 := mix_lt (b 7) l7
  have l8' := mix_lt (b' 7) l7'
  have h9 := h8.cons (B := 2048) mono_r (b 8) (b' 8) l8 l8'
  have l9 := mix_lt (b 8) l8
  have l9' := mix_lt (b' 8) l8'
  exact h9.cons (B := 4096) mono_t (kD_lt m) (kD_lt m') l9 l9'
end Mine
end

-- Q4
section
open PySem PySem.W PyProof.Rows
set_option maxRecDepth 100000
namespace Mine
noncomputable def yOf (ms : List Nat) (i : Nat) : Int := (numsOf ms).getD i 0
theorem y_at {ms : List Nat} {i : Nat} (h : i < ms.length) : yOf ms i = ((numN ms[i] : Nat) : Int) := by
  unfold yOf numsOf
  rw [List.getD_eq_getElem?_getD, List.getElem?_map, List.getElem?_eq_getElem h]
  exact num_nat _
theorem look_at {ms : List Nat} {i : Nat} (h : i < ms.length) : sl ((looksOf ms).getD i ⟨#[]⟩) = codes ms[i] := by
  unfold looksOf
  rw [List.getD_eq_getElem?_getD, List.getElem?_map, List.getElem?_eq_getElem h]
  exact look_codes _
theorem cmp_of (ms : List Nat) : CmpOf (yOf ms) ms.length (cAt (looksOf ms)) := by
  intro i j hi hj
  rw [y_at hi, y_at hj]
  have e1 := look_at hi
  have e2 := look_at hj
  obtain ⟨a1, a2⟩ := alike ms[i] ms[j]
  obtain ⟨b1, b2⟩ := alike ms[j] ms[i]
  unfold cAt cmpS
  generalize (looksOf ms).getD i ⟨#[]⟩ = x at e1
  generalize (looksOf ms).getD j ⟨#[]⟩ = z at e2
  have e1 : x.cps.toList = _ := e1
  have e2 : z.cps.toList = _ := e2
  rw [e1, e2]
  generalize numN ms[i] = p at *
  generalize numN ms[j] = q at *
  have d1 : decide (codes ms[j] < codes ms[i]) = decide (q < p) := decide_eq_decide.mpr b1
  have d2 : decide (codes ms[i] < codes ms[j]) = decide (p < q) := decide_eq_decide.mpr a1
  rw [d1, d2]
  rcases Nat.lt_trichotomy p q with h | h | h
  · rw [decide_eq_true h, decide_eq_false (by omega : ¬ q < p)]
    constructor <;> constructor <;> intro hx <;> first | rfl | omega | (exact absurd hx (by decide))
  · rw [decide_eq_false (by omega : ¬ p < q), decide_eq_false (by omega : ¬ q < p)]
    constructor <;> constructor <;> intro hx <;> first | rfl | omega | (exact absurd hx (by decide))
  · rw [decide_eq_false (by omega : ¬ p < q), decide_eq_true h]
    constructor <;> constructor <;> intro hx <;> first | rfl | omega | (exact absurd hx (by decide))
theorem lt_app : ∀ {p q r t : List Nat}, p.length = q.length → (p ++ r < q ++ t ↔ p < q ∨ (p = q ∧ r < t))
  | [], [], r, t, _ => ⟨fun h => .inr ⟨rfl, h⟩, fun h => h.elim (fun h => absurd h (List.lt_irrefl _)) fun h => h.2⟩
  | [], _ :: _, _, _, h => by cases h
  | _ :: _, [], _, _, h => by cases h
  | a :: p, b :: q, r, t, h => by
    have ih := lt_app (r := r) (t := t) (show p.length = q.length by simpa using h)
    rw [List.cons_append, List.cons_append, List.cons_lt_cons_iff, List.cons_lt_cons_iff, ih, List.cons.injEq]
    constructor
    · rintro (h | ⟨h, h' | ⟨h', h''⟩⟩)
      · exact .inl (.inl h)
      · exact .inl (.inr ⟨h, h'⟩)
      · exact .inr ⟨⟨h, h'⟩, h''⟩
    · rintro ((h | ⟨h, h'⟩) | ⟨⟨h, h'⟩, h''⟩)
      · exact .inl h
      · exact .inr ⟨h, .inl h'⟩
      · exact .inr ⟨h, .inr ⟨h', h''⟩⟩
noncomputable def numI (m : Nat) : Int := ((numN m : Nat) : Int)
theorem flat_lt : ∀ A B : List Nat, (A.map codes).flatten < (B.map codes).flatten ↔ LL (A.map numI) (B.map numI)
  | _, [] => ⟨fun h => absurd h (List.not_lt_nil _), fun h => h.nil.elim⟩
  | [], b :: B => ⟨fun _ => trivial, fun _ => by
    show [] < codes b ++ _
    unfold codes
    exact List.nil_lt_cons _ _⟩
  | a :: A, b :: B => by
    have ih := flat_lt A B
    obtain ⟨a1, a2⟩ := alike a b
    show codes a ++ (A.map codes).flatten < codes b ++ (B.map codes).flatten ↔ numI a < numI b ∨ (numI a = numI b ∧ LL (A.map numI) (B.map numI))
    rw [lt_app (show (codes a).length = (codes b).length from rfl), ih, a1, a2]
    unfold numI
    constructor
    · rintro (h | ⟨h, h'⟩)
      · exact .inl (by omega)
      · exact .inr ⟨by omega, h'⟩
    · rintro (h | ⟨h, h'⟩)
      · exact .inl (by omega)
      · exact .inr ⟨by omega, h'⟩
theorem text_codes (ms : List Nat) (left k : Nat) : sl (textAt (looksOf ms) left k) = (((ms.take left).drop k).map codes).flatten := by
  unfold textAt
  rw [sl_join]
  unfold looksOf
  rw [← List.map_take, ← List.map_drop, List.map_map]
  congr 1
  apply List.map_congr_left
  intro m _
  exact look_codes m
theorem seg_nums {ms : List Nat} {left k : Nat} (hl : left ≤ ms.length) (hk : k ≤ left) : ((ms.take left).drop k).map numI = seg (yOf ms) k (left - k) := by
  apply List.ext_getElem?
  intro i
  rw [List.getElem?_map, List.getElem?_drop, List.getElem?_take]
  by_cases h : k + i < left
  · rw [if_pos h, seg_get (by omega), y_at (by omega), List.getElem?_eq_getElem (by omega)]; rfl
  · rw [if_neg h, List.getElem?_eq_none (by rw [seg_len]; omega)]; rfl
theorem text_lt {ms : List Nat} {left k k' : Nat} (hl : left ≤ ms.length) (hk : k ≤ left) (hk' : k' ≤ left) : sl (textAt (looksOf ms) left k) < sl (textAt (looksOf ms) left k') ↔ LL (seg (yOf ms) k (left - k)) (seg (yOf ms) k' (left - k')) := by
  rw [text_codes, text_codes, flat_lt, seg_nums hl hk, seg_nums hl hk']
theorem look_len (m : Nat) : (lookOf (m : Int)).length = 10 := by
  rw [← sl_len, look_codes]; rfl
theorem end_eq {ms : List Nat} : ∀ {f left : Nat} {ls : List Nat}, left ≤ f → left ≤ ms.length → FL (yOf ms) left 0 ls → endGo (looksOf ms) f left = ls.reverse := by
  have h10 : ∀ x ∈ looksOf ms, x.length = 10 := fun x hx => by
    obtain ⟨m, _, rfl⟩ := List.mem_map.mp hx
    exact look_len m
  have hlen : (looksOf ms).length = ms.length := List.length_map _
  have zero : ∀ {ls : List Nat}, FL (yOf ms) 0 0 ls → ls = [] := fun {ls} h => by
    cases ls with
    | nil => rfl
    | cons z zs => have := h.1; have := h.2.1; omega
  intro f
  induction f with
  | zero =>
    intro left ls hf hl h
    have : left = 0 := by omega
    subst this
    rw [zero h]; rfl
  | succ f ih =>
    intro left ls hf hl h
    rcases Nat.eq_zero_or_pos left with h0 | h0
    · subst h0
      rw [zero h]; rfl
    · obtain ⟨ls', z, rfl⟩ : ∃ ls' z, ls = ls' ++ [z] := by
        rcases List.eq_nil_or_concat ls with e | ⟨l', z, e⟩
        · subst e
          have h : 0 = left := h
          omega
        · exact ⟨l', z, by simpa using e⟩
      obtain ⟨m, i0, i1, i2, i4, _⟩ := FL.last h
      obtain ⟨f1, f2⟩ := first_least h10 (by rw [hlen]; exact hl) h0
      have hml : m < left := i0 ▸ Nat.lt_add_of_pos_right i2
      have hz : left - m = z := by rw [← i0, Nat.add_sub_cancel_left]
      have hfirst : firstOf (looksOf ms) left = m := by
        rcases Nat.decEq (firstOf (looksOf ms) left) m with hne | he
        · exfalso
          have a := (text_lt hl (Nat.le_of_lt f1) (Nat.le_of_lt hml)).mp (f2 m hml (fun e => hne e.symm))
          have b := i4 _ (left - firstOf (looksOf ms) left) (Nat.zero_le _) (Nat.add_sub_cancel' (Nat.le_of_lt f1)) (Nat.sub_pos_of_lt f1) hne
          rw [hz] at a
          exact a.asymm b
        · exact he
      unfold endGo
      rw [if_pos h0, hfirst, ih (Nat.le_of_lt_succ (Nat.lt_of_lt_of_le hml hf)) (Nat.le_trans (Nat.le_of_lt hml) hl) i1, List.reverse_append, hz]
      rfl
theorem FL.pos {y : Nat → Int} {len : Nat} : ∀ {i : Nat} {zs : List Nat}, FL y len i zs → (∀ z ∈ zs, 1 ≤ z) ∧ i + zs.sum = len
  | i, [], h => ⟨fun _ h => (nomatch h), h⟩
  | i, z :: zs, h => by
    obtain ⟨a, b⟩ := FL.pos h.2.2.2.2
    refine ⟨fun x hx => ?_, by rw [List.sum_cons]; omega⟩
    rcases List.mem_cons.mp hx with rfl | hx
    · exact h.1
    · exact a x hx
/-- the one factoring -/
theorem fl_six {ms : List Nat} (h6 : ms.length = 6) : FL (yOf ms) 6 0 (zsOf ms).reverse ∧ duGo (cAt (looksOf ms)) 6 6 0 = (zsOf ms).reverse ∧ ∀ L, FL (yOf ms) 6 0 L → L = (zsOf ms).reverse := by
  have hc := cmp_of ms
  rw [h6] at hc
  have h := duGo_ok hc (f := 6) (s := 0) (Nat.le_refl _) (Nat.zero_le _)
  have u : ∀ L, FL (yOf ms) 6 0 L → L = (zsOf ms).reverse := fun L hL => by
    have := end_eq (f := 6) (by omega) (by rw [h6]; omega) hL
    unfold zsOf
    rw [this, List.reverse_reverse]
  have e := u _ h
  exact ⟨e ▸ h, e, u⟩
end Mine
end

-- Q5
section
open PySem PySem.W PyProof.Rows
set_option maxRecDepth 100000
namespace Mine
noncomputable def idxS : Nat → List Nat → List (List Nat)
  | _, [] => []
  | i, z :: zs => (List.range z).map (fun r => i + r) :: idxS (i + z) zs
noncomputable def segS (y : Nat → Int) : Nat → List Nat → List (List Int)
  | _, [] => []
  | i, z :: zs => seg y i z :: segS y (i + z) zs
theorem spell_idx (nums : List Int) : ∀ (i : Nat) (zs : List Nat), spell nums (idxS i zs) = segS (fun k => nums.getD k 0) i zs
  | _, [] => rfl
  | i, z :: zs => by
    have ih := spell_idx nums (i + z) zs
    unfold spell at ih ⊢
    show _ :: _ = _ :: _
    rw [ih]
    congr 1
    unfold seg
    show ((List.range z).map _).map _ = _
    rw [List.map_map]; rfl
theorem segS_len {y : Nat → Int} : ∀ {i : Nat} {zs : List Nat}, (segS y i zs).length = zs.length
  | _, [] => rfl
  | i, z :: zs => by show _ + 1 = _ + 1; rw [segS_len]
theorem fl_iff {y : Nat → Int} {len : Nat} : ∀ {i : Nat} {zs : List Nat}, (∀ z ∈ zs, 1 ≤ z) → i + zs.sum = len →
    (FL y len i zs ↔ (∀ j, j + 1 < zs.length → ¬ LL ((segS y i zs).getD j []) ((segS y i zs).getD (j + 1) [])) ∧ ∀ w ∈ segS y i zs, Rot w)
  | i, [], _, hs => ⟨fun _ => ⟨fun j hj => by simp at hj, fun _ h => (nomatch h)⟩, fun _ => hs⟩
  | i, z :: zs, hp, hs => by
    rw [List.sum_cons] at hs
    have hz := hp z (.head _)
    have ih := fl_iff (y := y) (len := len) (i := i + z) (zs := zs) (fun x hx => hp x (.tail _ hx)) (by omega)
    constructor
    · rintro ⟨h1, h2, h3, h4, h5⟩
      obtain ⟨a, b⟩ := ih.mp h5
      refine ⟨fun j hj => ?_, fun w hw => ?_⟩
      · cases j with
        | zero =>
          cases zs with
          | nil => simp at hj
          | cons z' r => exact h4 z' r rfl
        | succ j => exact a j (by simpa using hj)
      · rcases List.mem_cons.mp hw with rfl | hw
        · exact h3.rot
        · exact b w hw
    · rintro ⟨a, b⟩
      refine ⟨hz, by omega, Rot.lyn (fun e => ?_) (b _ (.head _)), fun z' r e => ?_, ih.mpr ⟨fun j hj => ?_, fun w hw => b w (.tail _ hw)⟩⟩
      · have := congrArg List.length e
        rw [seg_len] at this
        simp at this; omega
      · subst e
        exact a 0 (by simp)
      · exact a (j + 1) (by simpa using hj)
theorem turns_rot (w : List Int) : (turns w).isEmpty = true ↔ Rot w := by
  unfold turns
  rw [List.isEmpty_iff, List.filter_eq_nil_iff]
  constructor
  · intro h t h0 h1
    have := h (t - 1) (List.mem_range.mpr (by omega))
    rw [show t - 1 + 1 = t by omega, lexB_false] at this
    rcases LL.tri w (w.drop t ++ w.take t) with q | q | q
    · exact q
    · exact absurd (.inr q.symm) this
    · exact absurd (.inl q) this
  · intro h i hi
    have hi := List.mem_range.mp hi
    have := h (i + 1) (by omega) (by omega)
    rw [lexB_false]
    rintro (q | q)
    · exact this.asymm q
    · rw [q] at this; exact LL.irrefl _ this
theorem cut_iff (sp : List (List Int)) : cutOk sp = true ↔ (∀ j, j + 1 < sp.length → ¬ LL (sp.getD j []) (sp.getD (j + 1) [])) ∧ ∀ w ∈ sp, Rot w := by
  unfold cutOk downs
  rw [Bool.and_eq_true, List.isEmpty_iff, List.isEmpty_iff, List.filter_eq_nil_iff, List.filter_eq_nil_iff]
  constructor
  · rintro ⟨h1, h2⟩
    refine ⟨fun j hj hl => h1 j (List.mem_range.mpr (by omega)) ((lexB_true _ _).mpr hl), fun w hw => (turns_rot w).mp ?_⟩
    have := h2 w hw
    simpa using this
  · rintro ⟨h1, h2⟩
    refine ⟨fun j hj hl => h1 j (by have := List.mem_range.mp hj; omega) ((lexB_true _ _).mp hl), fun w hw => ?_⟩
    rw [(turns_rot w).mpr (h2 w hw)]
    decide
noncomputable def lensOf (c : Nat) : List Nat := (wordsOf 6 c).map List.length
theorem words_six : ∀ c ∈ List.range 32, wordsOf 6 c = idxS 0 (lensOf c) ∧ (lensOf c).sum = 6 ∧ ∀ z ∈ lensOf c, 1 ≤ z := by decide +kernel
noncomputable def comps : Nat → Nat → List (List Nat)
  | 0, n => if n = 0 then [[]] else []
  | f + 1, n => if n = 0 then [[]] else (List.range n).flatMap fun z => (comps f (n - (z + 1))).map ((z + 1) :: ·)
theorem mem_comps : ∀ {f n : Nat} {l : List Nat}, (∀ z ∈ l, 1 ≤ z) → l.sum = n → n ≤ f → l ∈ comps f n
  | 0, n, [], _, hs, _ => by
    have : n = 0 := hs.symm
    subst this; exact .head _
  | f + 1, n, [], _, hs, _ => by
    have : n = 0 := hs.symm
    subst this
    unfold comps
    rw [if_pos rfl]; exact .head _
  | 0, n, z :: l, hp, hs, hf => by
    have := hp z (.head _)
    rw [List.sum_cons] at hs
    omega
  | f + 1, n, z :: l, hp, hs, hf => by
    have hz := hp z (.head _)
    rw [List.sum_cons] at hs
    unfold comps
    rw [if_neg (by omega)]
    refine List.mem_flatMap.mpr ⟨z - 1, List.mem_range.mpr (by omega), List.mem_map.mpr ⟨l, ?_, by rw [show z - 1 + 1 = z by omega]⟩⟩
    rw [show z - 1 + 1 = z by omega]
    exact mem_comps (fun x hx => hp x (.tail _ hx)) (by omega) (by omega)
theorem one_six : ∀ l ∈ comps 6 6, ((List.range 32).filter fun c => lensOf c == l).length = 1 := by decide +kernel
theorem cuts_one {ms : List Nat} (h6 : ms.length = 6) : cutsOf (numsOf ms) = [idxS 0 (zsOf ms).reverse] := by
  obtain ⟨hL, _, hu⟩ := fl_six h6
  generalize (zsOf ms).reverse = L at hL hu
  obtain ⟨hpos, hsum⟩ := hL.pos
  have hnl : (numsOf ms).length = 6 := by unfold numsOf; rw [List.length_map, h6]
  unfold cutsOf
  rw [hnl]
  have hf : (List.range (2 ^ (6 - 1))).filter (fun c => cutOk (spell (numsOf ms) (wordsOf 6 c))) = (List.range 32).filter fun c => lensOf c == L := by
    show (List.range 32).filter _ = _
    apply List.filter_congr
    intro c hc
    obtain ⟨w1, w2, w3⟩ := words_six c hc
    rw [w1, spell_idx, Bool.eq_iff_iff, cut_iff, segS_len, beq_iff_eq]
    have := fl_iff (y := yOf ms) (len := 6) (i := 0) w3 (by omega)
    constructor
    · intro h
      exact hu _ (this.mpr h)
    · intro h
      exact this.mp (by rw [h]; exact hL)
  rw [hf]
  have h1 := one_six L (mem_comps hpos (by omega) (by omega))
  obtain ⟨c, hc⟩ : ∃ c, ((List.range 32).filter fun c => lensOf c == L) = [c] := List.length_eq_one_iff.mp h1
  rw [hc]
  have hm : c ∈ (List.range 32).filter fun c => lensOf c == L := by rw [hc]; exact .head _
  obtain ⟨m1, m2⟩ := List.mem_filter.mp hm
  obtain ⟨w1, _, _⟩ := words_six c m1
  show [wordsOf 6 c] = _
  rw [w1, beq_iff_eq.mp m2]
end Mine
end

-- Q6
section
open PySem PySem.W PyProof.Rows
set_option maxRecDepth 100000
namespace Mine
noncomputable def six (m : Nat) : List Nat := [m / 64 ^ 3 % 64, m / 64 ^ 2 % 64, m / 64 ^ 1 % 64, m / 64 ^ 0 % 64]
noncomputable def cc (m : Nat) : List Nat := (six m).map fun i => signsL.getD i 0
theorem card_codes (m : Nat) : sl (cardOf m) = cc m := by
  unfold cardOf
  rw [sl_join]; rfl
theorem oct_back {ms : List Nat} (hlt : ∀ m ∈ ms, m < 16777216) : (octB ms).toList.map (·.toNat) = octs ms := by
  have h256 : ∀ o ∈ octs ms, o < 256 := by
    intro o ho
    obtain ⟨m, hm, ho⟩ := List.mem_flatMap.mp ho
    have := hlt m hm
    simp only [List.mem_cons, List.not_mem_nil, or_false] at ho
    omega
  unfold octB byteArr
  rw [List.toList_toArray, List.map_map, List.map_map]
  conv => rhs; rw [← List.map_id (octs ms)]
  apply List.map_congr_left
  intro o ho
  have := h256 o ho
  show ((o : Int).toNat.toUInt8).toNat = o
  rw [Int.toNat_natCast]
  show o % 256 = o
  omega
theorem lc_mod (lc o k : Nat) (hk : k ∣ 65536) (hk' : k ∣ 256) : lcNext lc o % k = o % k := by
  unfold lcNext
  rw [Nat.mod_mod_of_dvd _ hk]
  obtain ⟨c, hc⟩ := hk'
  rw [hc, Nat.mul_left_comm, Nat.mul_add_mod]
theorem lc_mod4 (lc o : Nat) : lcNext lc o % 4 = o % 4 := lc_mod lc o 4 ⟨16384, rfl⟩ ⟨64, rfl⟩
theorem lc_mod16 (lc o : Nat) : lcNext lc o % 16 = o % 16 := lc_mod lc o 16 ⟨4096, rfl⟩ ⟨16, rfl⟩
theorem lc_mod64 (lc o : Nat) : lcNext lc o % 64 = o % 64 := lc_mod lc o 64 ⟨1024, rfl⟩ ⟨4, rfl⟩
/-- the low bits of a / b -/
theorem div_mod_low (a b k : Nat) : a / b % k = a % (b * k) / b := (Nat.mod_mul_right_div_self a b k).symm
theorem lc_low (lc : Nat) {o : Nat} (ho : o < 256) (b k n : Nat) (hb : 0 < b) (e : b * k = 256 * n) (hn : 256 * n ∣ 65536) : lcNext lc o / b % k = (lc % n * 256 + o) / b := by
  rw [div_mod_low, e]
  congr 1
  unfold lcNext
  rw [Nat.mod_mod_of_dvd _ hn, Nat.mul_comm lc, Nat.mod_mul, Nat.mul_add_mod, Nat.mod_eq_of_lt ho, Nat.mul_add_div (by decide), Nat.div_eq_of_lt ho, Nat.add_zero, Nat.mul_comm 256, Nat.add_comm]
theorem lc_one (lc : Nat) {o : Nat} (ho : o < 256) : lcNext lc o / 4 % 64 = o / 4 := by
  rw [lc_low lc ho 4 64 1 (by decide) rfl ⟨256, rfl⟩, Nat.mod_one, Nat.zero_mul, Nat.zero_add]
theorem lc_two (lc : Nat) {o : Nat} (ho : o < 256) : lcNext lc o / 16 % 64 = lc % 4 * 16 + o / 16 := by
  rw [lc_low lc ho 16 64 4 (by decide) rfl ⟨64, rfl⟩, show lc % 4 * 256 + o = 16 * (lc % 4 * 16) + o by rw [← Nat.mul_assoc, Nat.mul_comm 16, Nat.mul_assoc], Nat.mul_add_div (by decide)]
theorem lc_three (lc : Nat) {o : Nat} (ho : o < 256) : lcNext lc o / 64 % 64 = lc % 16 * 4 + o / 64 := by
  rw [lc_low lc ho 64 64 16 (by decide) rfl ⟨16, rfl⟩, show lc % 16 * 256 + o = 64 * (lc % 16 * 4) + o by rw [← Nat.mul_assoc, Nat.mul_comm 64, Nat.mul_assoc], Nat.mul_add_div (by decide)]
/-- three octets, four signs -/
theorem join_low (x a b : Nat) : x / a % b * a + x % a = x % (a * b) := by rw [Nat.mod_mul, Nat.add_comm, Nat.mul_comm]
theorem run3 {o1 o2 o3 : Nat} (h1 : o1 < 256) (h2 : o2 < 256) (h3 : o3 < 256) (lc : Nat) (rest : List Nat) : ∃ lc', b64run (o1 :: o2 :: o3 :: rest) 0 lc = (o1 / 4 :: (o1 % 4 * 16 + o2 / 16) :: (o2 % 16 * 4 + o3 / 64) :: (o3 % 64) :: (b64run rest 0 lc').1, (b64run rest 0 lc').2) := by
  have e1 : ∀ l, b64emit l 8 8 = ([l / 4 % 64], 2) := fun l => rfl
  have e2 : ∀ l, b64emit l 10 10 = ([l / 16 % 64], 4) := fun l => rfl
  have e3 : ∀ l, b64emit l 12 12 = ([l / 64 % 64, l / 1 % 64], 0) := fun l => rfl
  refine ⟨lcNext (lcNext (lcNext lc o1) o2) o3, ?_⟩
  show ((b64emit (lcNext lc o1) 8 8).1 ++ (b64run (o2 :: o3 :: rest) (b64emit (lcNext lc o1) 8 8).2 (lcNext lc o1)).1, (b64run (o2 :: o3 :: rest) (b64emit (lcNext lc o1) 8 8).2 (lcNext lc o1)).2) = _
  rw [e1]
  show ([_] ++ ((b64emit (lcNext (lcNext lc o1) o2) 10 10).1 ++ (b64run (o3 :: rest) (b64emit (lcNext (lcNext lc o1) o2) 10 10).2 (lcNext (lcNext lc o1) o2)).1), (b64run (o3 :: rest) (b64emit (lcNext (lcNext lc o1) o2) 10 10).2 (lcNext (lcNext lc o1) o2)).2) = _
  rw [e2]
  show ([_] ++ ([_] ++ ((b64emit (lcNext (lcNext (lcNext lc o1) o2) o3) 12 12).1 ++ (b64run rest (b64emit (lcNext (lcNext (lcNext lc o1) o2) o3) 12 12).2 (lcNext (lcNext (lcNext lc o1) o2) o3)).1)), (b64run rest (b64emit (lcNext (lcNext (lcNext lc o1) o2) o3) 12 12).2 (lcNext (lcNext (lcNext lc o1) o2) o3)).2) = _
  rw [e3]
  have g1 : lcNext lc o1 / 4 % 64 = o1 / 4 := lc_one lc h1
  have g2 : lcNext (lcNext lc o1) o2 / 16 % 64 = o1 % 4 * 16 + o2 / 16 := by rw [lc_two _ h2, lc_mod4]
  have g3 : lcNext (lcNext (lcNext lc o1) o2) o3 / 64 % 64 = o2 % 16 * 4 + o3 / 64 := by rw [lc_three _ h3, lc_mod16]
  have g4 : lcNext (lcNext (lcNext lc o1) o2) o3 / 1 % 64 = o3 % 64 := by rw [Nat.div_one]; exact lc_mod64 _ _
  rw [g1, g2, g3, g4]
  rfl
theorem run_all : ∀ (ms : List Nat), (∀ m ∈ ms, m < 16777216) → ∀ lc, b64run (octs ms) 0 lc = (ms.flatMap six, 0)
  | [], _, lc => rfl
  | m :: ms, h, lc => by
    have hm := h m (.head _)
    obtain ⟨lc', e⟩ := run3 (o1 := m / 65536) (o2 := m / 256 % 256) (o3 := m % 256) (by omega) (by omega) (by omega) lc (octs ms)
    show b64run (m / 65536 :: m / 256 % 256 :: m % 256 :: octs ms) 0 lc = _
    rw [e, run_all ms (fun x hx => h x (.tail _ hx)) lc', List.flatMap_cons]
    unfold six
    have q1 : m / 65536 / 4 = m / 64 ^ 3 % 64 := by
      rw [Nat.div_div_eq_div_mul, Nat.mod_eq_of_lt (Nat.div_lt_of_lt_mul hm)]
    have q2 : m / 65536 % 4 * 16 + m / 256 % 256 / 16 = m / 64 ^ 2 % 64 := by
      rw [show (256 : Nat) = 16 * 16 from rfl, Nat.mod_mul_right_div_self, Nat.div_div_eq_div_mul]
      show m / (4096 * 16) % 4 * 16 + m / 4096 % 16 = m / 4096 % 64
      rw [← Nat.div_div_eq_div_mul]
      exact join_low _ 16 4
    have q3 : m / 256 % 256 % 16 * 4 + m % 256 / 64 = m / 64 ^ 1 % 64 := by
      rw [Nat.mod_mod_of_dvd _ (show 16 ∣ 256 from ⟨16, rfl⟩), show m % 256 / 64 = m / 64 % 4 from Nat.mod_mul_right_div_self m 64 4]
      show m / (64 * 4) % 16 * 4 + m / 64 % 4 = m / 64 % 64
      rw [← Nat.div_div_eq_div_mul]
      exact join_low _ 4 16
    have q4 : m % 256 % 64 = m / 64 ^ 0 % 64 := by
      rw [Nat.mod_mod_of_dvd _ (show 64 ∣ 256 from ⟨4, rfl⟩)]
      show m % 64 = m / 1 % 64
      rw [Nat.div_one]
    rw [q1, q2, q3, q4]
    rfl
theorem wr_all {ms : List Nat} (hlt : ∀ m ∈ ms, m < 16777216) : wrAt (octB ms) = ms.flatMap six ∧ (b64run ((octB ms).toList.map (·.toNat)) 0 0).2 = 0 := by
  unfold wrAt
  rw [oct_back hlt, run_all ms hlt 0]
  exact ⟨rfl, rfl⟩
theorem sign_at : ∀ i < 64, (urlTb.toArray.getD (((((b64l.getD i 0).toNat : Nat) : Int).toNat.toUInt8).toNat) ((((b64l.getD i 0).toNat : Nat) : Int).toNat.toUInt8)).toNat = signsL.getD i 0 := by decide +kernel
theorem six_lt {ms : List Nat} : ∀ i ∈ ms.flatMap six, i < 64 := by
  intro i hi
  obtain ⟨m, _, hi⟩ := List.mem_flatMap.mp hi
  unfold six at hi
  simp only [List.mem_cons, List.not_mem_nil, or_false] at hi
  rcases hi with rfl | rfl | rfl | rfl <;> exact Nat.mod_lt _ (by omega)
theorem text_all {ms : List Nat} (hlt : ∀ m ∈ ms, m < 16777216) : sl (textOf ms) = (ms.map cc).flatten := by
  have h1 : ∀ l : List UInt8, ((l.map fun c => chrS c.toNat).map sl).flatten = l.map (·.toNat) := by
    intro l
    induction l with
    | nil => rfl
    | cons a l ih => show [_] ++ _ = _; rw [ih]; rfl
  unfold textOf
  rw [sl_join, h1]
  unfold wrB trB enc byteArr b64D
  rw [(wr_all hlt).1, Array.toList_map, List.toList_toArray, List.map_map, List.map_map, List.map_map]
  have h2 : (ms.map cc).flatten = (ms.flatMap six).map fun i => signsL.getD i 0 := by
    rw [List.map_flatMap]; rfl
  rw [h2]
  apply List.map_congr_left
  intro i hi
  exact sign_at i (six_lt i hi)
-- the pieces
theorem idx_app : ∀ (i : Nat) (ls : List Nat) (z : Nat), idxS i (ls ++ [z]) = idxS i ls ++ [(List.range z).map fun r => i + ls.sum + r]
  | i, [], z => rfl
  | i, a :: ls, z => by
    show _ :: idxS (i + a) (ls ++ [z]) = _ :: (idxS (i + a) ls ++ [_])
    rw [idx_app (i + a) ls z, List.sum_cons, Nat.add_assoc]
theorem cc_len (m : Nat) : (cc m).length = 4 := rfl
theorem cc_flat_len : ∀ l : List Nat, ((l.map cc).flatten).length = 4 * l.length
  | [] => rfl
  | m :: l => by
    show (cc m ++ (l.map cc).flatten).length = _
    rw [List.length_append, cc_flat_len l, cc_len, List.length_cons]; omega
theorem word_codes {ms w : List Nat} (hw : ∀ k ∈ w, k < ms.length) : sl (wordS ms w) = ((w.map fun k => ms.getD k 0).map cc).flatten := by
  unfold wordS
  rw [sl_join, List.map_map, List.map_map]
  congr 1
  apply List.map_congr_left
  intro k hk
  have := hw k hk
  show sl ((ms.map cardOf).getD k ⟨#[]⟩) = cc (ms.getD k 0)
  rw [List.getD_eq_getElem?_getD, List.getD_eq_getElem?_getD, List.getElem?_map, List.getElem?_eq_getElem this]
  exact card_codes _
theorem clip_back (a k : Nat) (hk : 1 ≤ k) : clipAt (a + k) (-((k : Nat) : Int)) = a := by
  unfold clipAt
  rw [if_pos (by omega), show (-((k : Nat) : Int) + ((a + k : Nat) : Int)) = ((a : Nat) : Int) by omega]
  omega
theorem pieces_eq {ms : List Nat} : ∀ {L : List Nat} {t : Str}, (∀ z ∈ L, 1 ≤ z) → L.sum ≤ ms.length → sl t = ((ms.take L.sum).map cc).flatten → (cutE t L.reverse).reverse = (idxS 0 L).map (wordS ms) := by
  intro L
  generalize hn : L.length = n
  induction n generalizing L with
  | zero =>
    intro t _ _ _
    have : L = [] := List.eq_nil_of_length_eq_zero hn
    subst this
    cases t; rfl
  | succ n ih =>
    intro t hp hs ht
    obtain ⟨ls, z, rfl⟩ : ∃ ls z, L = ls ++ [z] := by
      rcases List.eq_nil_or_concat L with e | ⟨l', z, e⟩
      · subst e; cases hn
      · exact ⟨l', z, by simpa using e⟩
    have hz := hp z (List.mem_append_right _ (.head _))
    have hsum : (ls ++ [z]).sum = ls.sum + z := by rw [List.sum_append]; simp
    rw [hsum] at hs ht
    have hll : ls.length = n := by simpa using hn
    rw [List.reverse_append, idx_app, List.map_append]
    show (Txt.slice t (some (-((4 * z : Nat) : Int))) Option.none :: cutE (Txt.slice t Option.none (some (-((4 * z : Nat) : Int)))) ls.reverse).reverse = _
    have hll2 : (ms.take ls.sum).length = ls.sum := List.length_take_of_le (Nat.le_trans (Nat.le_add_right _ _) hs)
    have htl : (sl t).length = 4 * ls.sum + 4 * z := by rw [ht, cc_flat_len, List.length_take_of_le hs, Nat.mul_add]
    have hsplit : ms.take (ls.sum + z) = ms.take ls.sum ++ (ms.drop ls.sum).take z := by rw [List.take_add]
    have e1 : sl (Txt.slice t Option.none (some (-((4 * z : Nat) : Int)))) = ((ms.take ls.sum).map cc).flatten := by
      rw [sl_slice, pick_butLast _ _ (Nat.le_trans hz (Nat.le_mul_of_pos_left z (by decide))), htl, Nat.add_sub_cancel, ht, hsplit, List.map_append, List.flatten_append]
      exact List.take_left' (by rw [cc_flat_len, hll2])
    have e2 : sl (Txt.slice t (some (-((4 * z : Nat) : Int))) Option.none) = (((ms.drop ls.sum).take z).map cc).flatten := by
      have : pickD (sl t) (some (-((4 * z : Nat) : Int))) Option.none Option.none = (sl t).drop (4 * ls.sum) := by
        rw [pick_plain]
        show ((sl t).drop (clipAt (sl t).length (-((4 * z : Nat) : Int)))).take ((sl t).length - clipAt (sl t).length (-((4 * z : Nat) : Int))) = _
        have hc : clipAt (sl t).length (-((4 * z : Nat) : Int)) = 4 * ls.sum := by
          rw [htl]
          exact clip_back _ _ (Nat.le_trans hz (Nat.le_mul_of_pos_left z (by decide)))
        rw [hc, List.take_of_length_le (by rw [List.length_drop]; exact Nat.le_refl _)]
      rw [sl_slice, this, ht, hsplit, List.map_append, List.flatten_append]
      exact List.drop_left' (by rw [cc_flat_len, hll2])
    rw [List.reverse_cons, ih hll (fun x hx => hp x (List.mem_append_left _ hx)) (Nat.le_trans (Nat.le_add_right _ _) hs) e1]
    congr 1
    show [_] = [_]
    congr 1
    apply sl_inj
    rw [e2, word_codes (by
      intro k hk
      obtain ⟨r, hr, rfl⟩ := List.mem_map.mp hk
      have := List.mem_range.mp hr
      omega)]
    refine congrArg (fun l : List Nat => (l.map cc).flatten) ?_
    rw [List.map_map]
    apply List.ext_getElem?
    intro i
    rw [List.getElem?_map, List.getElem?_take, List.getElem?_drop]
    by_cases hi : i < z
    · rw [if_pos hi, List.getElem?_range hi]
      show _ = some (ms.getD (0 + ls.sum + i) 0)
      rw [Nat.zero_add, List.getD_eq_getElem?_getD, List.getElem?_eq_getElem (Nat.lt_of_lt_of_le (Nat.add_lt_add_left hi _) hs)]; rfl
    · rw [if_neg hi, List.getElem?_eq_none (by rw [List.length_range]; exact Nat.not_lt.mp hi)]; rfl
theorem signs_small : ∀ i, signsL.getD i 0 < 128 := by
  intro i
  rcases Nat.lt_or_ge i 64 with h | h
  · have : ∀ i < 64, signsL.getD i 0 < 128 := by decide
    exact this i h
  · rw [List.getD_eq_getElem?_getD, List.getElem?_eq_none (by show 64 ≤ i; exact h)]; decide
theorem facts {ms : List Nat} (h6 : ms.length = 6) (hlt : ∀ m ∈ ms, m < 16777216) : Facts ms ∧ ∀ s ∈ cutE (textOf ms) (zsOf ms), PyData.strOk s = true := by
  obtain ⟨f1, f2, _⟩ := fl_six h6
  obtain ⟨p1, p2⟩ := f1.pos
  have w := wr_all hlt
  have hpos : ∀ z ∈ zsOf ms, 1 ≤ z := fun z hz => p1 z (List.mem_reverse.mpr hz)
  have hsum : (zsOf ms).reverse.sum = 6 := by omega
  have hpc : (cutE (textOf ms) (zsOf ms)).reverse = (idxS 0 (zsOf ms).reverse).map (wordS ms) := by
    have := pieces_eq (ms := ms) (L := (zsOf ms).reverse) (t := textOf ms) p1 (by rw [hsum, h6]; omega) (by rw [text_all hlt, hsum, List.take_of_length_le (by omega)])
    rwa [List.reverse_reverse] at this
  refine ⟨⟨f2, fun e => ?_, hpos, by rw [List.sum_reverse] at hsum; exact hsum, w.2, ?_, ?_⟩, fun s hs => ?_⟩
  · rw [e] at hsum; cases hsum
  · rw [w.1]
    have : ∀ l : List Nat, (l.flatMap six).length = 4 * l.length := by
      intro l
      induction l with
      | nil => rfl
      | cons a l ih => rw [List.flatMap_cons, List.length_append, ih, List.length_cons]; show 4 + _ = _; omega
    rw [this, h6]
  · rw [cuts_one h6, hpc]; rfl
  · have hs : s ∈ (idxS 0 (zsOf ms).reverse).map (wordS ms) := by rw [← hpc]; exact List.mem_reverse.mpr hs
    obtain ⟨v, hv, rfl⟩ := List.mem_map.mp hs
    have hall : ∀ c ∈ sl (wordS ms v), c < 128 := by
      intro c hc
      unfold wordS at hc
      rw [sl_join] at hc
      obtain ⟨l, hl, hc⟩ := List.mem_flatten.mp hc
      obtain ⟨x, hx, rfl⟩ := List.mem_map.mp hl
      obtain ⟨k, _, rfl⟩ := List.mem_map.mp hx
      rw [List.getD_eq_getElem?_getD, List.getElem?_map] at hc
      cases q : ms[k]? with
      | none => rw [q] at hc; cases hc
      | some m =>
        rw [q] at hc
        have hc : c ∈ sl (cardOf m) := hc
        rw [card_codes] at hc
        obtain ⟨i, _, rfl⟩ := List.mem_map.mp hc
        exact signs_small i
    unfold PyData.strOk
    rw [Array.all_eq_true']
    intro c hc
    have := hall c (by unfold sl; simpa using hc)
    simpa using Nat.lt_trans this (by decide)
end Mine
end

open PySem PySem.W PyProof.Rows
set_option maxRecDepth 100000 in
theorem PySem.Challenge.cw_oy0076_01_holds : PySem.Challenge.rw_oy0076_01.Holds :=
  Mine.law_holds fun _ h6 hlt => Mine.facts h6 hlt
