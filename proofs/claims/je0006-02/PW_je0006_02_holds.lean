import PyProof.Rows.All
import Wide.All
import OpenK.AllK
import Wide.FinOn
import PySem.Challenge.RW_je0006_02
set_option Elab.async false
section
open PySem PySem.W PySem.Calls PyProof.Rows
set_option Elab.async false
set_option linter.unusedVariables false
namespace J

/-- a value without its token -/
def nv : Value → Value
  | .int i _ => .int i 0
  | .str s _ => .str s 0
  | .bytes b _ => .bytes b 0
  | .float x _ => .float x 0
  | v => v
@[simp] theorem nv_ref (a : Addr) : nv (.ref a) = .ref a := rfl
@[simp] theorem nv_none : nv .none = .none := rfl
@[simp] theorem nv_bool (b : Bool) : nv (.bool b) = .bool b := rfl
@[simp] theorem nv_type (n : String) : nv (.type n) = .type n := rfl
@[simp] theorem nv_builtin (n : String) : nv (.builtin n) = .builtin n := rfl
@[simp] theorem nv_int (i : Int) (t : Tok) : nv (.int i t) = .int i 0 := rfl
@[simp] theorem nv_str (x : Str) (t : Tok) : nv (.str x t) = .str x 0 := rfl
@[simp] theorem nv_bytes (x : Array UInt8) (t : Tok) : nv (.bytes x t) = .bytes x 0 := rfl
theorem nv_to_ref {v : Value} {a : Addr} (h : nv v = .ref a) : v = .ref a := by cases v <;> simp_all [nv]
theorem nv_to_none {v : Value} (h : nv v = .none) : v = .none := by cases v <;> simp_all [nv]
theorem nv_to_bool {v : Value} {b : Bool} (h : nv v = .bool b) : v = .bool b := by cases v <;> simp_all [nv]
theorem nv_to_type {v : Value} {n : String} (h : nv v = .type n) : v = .type n := by cases v <;> simp_all [nv]
theorem nv_to_builtin {v : Value} {n : String} (h : nv v = .builtin n) : v = .builtin n := by cases v <;> simp_all [nv]
theorem nv_to_int {v : Value} {i : Int} (h : nv v = .int i 0) : ∃ t, v = .int i t := by cases v <;> simp_all [nv]
theorem nv_to_str {v : Value} {x : Str} (h : nv v = .str x 0) : ∃ t, v = .str x t := by cases v <;> simp_all [nv]
theorem nv_to_bytes {v : Value} {x : Array UInt8} (h : nv v = .bytes x 0) : ∃ t, v = .bytes x t := by cases v <;> simp_all [nv]
def nf : Flow → Flow
  | .ret v => .ret (nv v)
  | f => f
@[simp] theorem nf_next : nf .next = .next := rfl
@[simp] theorem nf_cont : nf .cont = .cont := rfl
@[simp] theorem nf_brk : nf .brk = .brk := rfl
@[simp] theorem nf_ret (v : Value) : nf (.ret v) = .ret (nv v) := rfl

abbrev Loc := List (Str × Value)

/-- what the call has made, without tokens, hashes, epochs -/
inductive AO where
  | inst (C : Addr) (fs : Loc)
  | list (xs : List Value)
  | tup (xs : List Value)
  | dS (f : Str → Option Value) (n : Nat)
  | dB (f : List UInt8 → Option Value) (n : Nat)
  | dI (f : Int → Option Value) (n : Nat)
abbrev Ab := Addr → Option AO
def Ab.nil : Ab := fun _ => none
def Ab.put (σ : Ab) (a : Addr) (o : AO) : Ab := fun b => if b = a then some o else σ b
theorem put_same (σ : Ab) (a : Addr) (o : AO) : σ.put a o a = some o := by simp [Ab.put]
theorem put_ne {σ : Ab} {a b : Addr} {o : AO} (h : b ≠ a) : σ.put a o b = σ b := by simp [Ab.put, h]
theorem put_new {σ : Ab} {a b : Addr} {o o' : AO} (hb : σ b = some o') (ha : σ a = none) : σ.put a o b = some o' := by
  rw [put_ne, hb]; rintro rfl; rw [ha] at hb; cases hb

structure Cx where
  prog : Program
  w : World
  h₀ : Heap
  K : Frag
  p : Program
  loose : List Str
  mg : Str → Option Value
  mb : Str → Option Value
  X : K.In h₀
  T : TopRead p loose mg mb h₀
abbrev Cx.M (C : Cx) : Model := model C.prog C.w

def RO (C : Cx) (h : Heap) (a : Addr) : AO → Prop
  | .inst K fs => ∃ d m, a = d + 1 ∧ h.get? a = some (instObj K d) ∧ h.Ns1 d m ∧ ∀ x, (m x).map nv = fs.lookup x
  | .list xs => ∃ vs n, h.get? a = some { cls := .type "list", data := .seq vs n } ∧ vs.toList.map nv = xs
  | .tup xs => ∃ vs n, h.get? a = some { cls := .type "tuple", data := .seq vs n } ∧ vs.toList.map nv = xs
  | .dS f n => (a == sysModules) = false ∧ ∃ kvs, h.DictOf (PySem.strKind C.prog C.w) a kvs ∧ kvs.length ≤ n ∧ ∀ x, (valueAt kvs x).map nv = f x
  | .dB f n => (a == sysModules) = false ∧ ∃ kvs, h.DictOf (bytesKind C.prog C.w) a kvs ∧ kvs.length ≤ n ∧ ∀ x, (valueAt kvs x).map nv = f x
  | .dI f n => (a == sysModules) = false ∧ ∃ kvs, h.DictOf (PySem.intKind C.prog C.w) a kvs ∧ kvs.length ≤ n ∧ ∀ x, (valueAt kvs x).map nv = f x

/-- the addresses that σ speaks of: its objects, and the dicts of its instances -/
def dom (σ : Ab) (b : Addr) : Prop := (∃ o, σ b = some o) ∨ ∃ K fs, σ (b + 1) = some (.inst K fs)

def AO.isInst : AO → Bool
  | .inst .. => true
  | _ => false

theorem RO.keeps {C : Cx} {h h' : Heap} {a : Addr} {ao : AO} (x : RO C h a ao) (k0 : ∀ o, h.get? a = some o → h'.get? a = some o)
    (k1 : ∀ d o, a = d + 1 → ao.isInst = true → h.get? d = some o → h'.get? d = some o) : RO C h' a ao := by
  cases ao with
  | inst K fs =>
    obtain ⟨d, m, e, ho, hn, hf⟩ := x
    exact ⟨d, m, e, k0 _ ho, hn.at fun o => k1 d o e rfl, hf⟩
  | list xs => obtain ⟨vs, n, ho, e⟩ := x; exact ⟨vs, n, k0 _ ho, e⟩
  | tup xs => obtain ⟨vs, n, ho, e⟩ := x; exact ⟨vs, n, k0 _ ho, e⟩
  | dS f n => obtain ⟨h1, kvs, hd, hn, h3⟩ := x; exact ⟨h1, kvs, hd.at k0, hn, h3⟩
  | dB f n => obtain ⟨h1, kvs, hd, hn, h3⟩ := x; exact ⟨h1, kvs, hd.at k0, hn, h3⟩
  | dI f n => obtain ⟨h1, kvs, hd, hn, h3⟩ := x; exact ⟨h1, kvs, hd.at k0, hn, h3⟩

theorem RO.alive {C : Cx} {h : Heap} {a : Addr} {ao : AO} (x : RO C h a ao) : ∃ o, h.get? a = some o := by
  cases ao with
  | inst K fs => obtain ⟨d, m, e, ho, _⟩ := x; exact ⟨_, ho⟩
  | list xs => obtain ⟨vs, n, ho, e⟩ := x; exact ⟨_, ho⟩
  | tup xs => obtain ⟨vs, n, ho, e⟩ := x; exact ⟨_, ho⟩
  | dS f n => obtain ⟨h1, kvs, ⟨o, es, ep, ho, r⟩, h3⟩ := x; exact ⟨_, ho⟩
  | dB f n => obtain ⟨h1, kvs, ⟨o, es, ep, ho, r⟩, h3⟩ := x; exact ⟨_, ho⟩
  | dI f n => obtain ⟨h1, kvs, ⟨o, es, ep, ho, r⟩, h3⟩ := x; exact ⟨_, ho⟩

/-- the state's heap bears σ -/
structure St (C : Cx) (σ : Ab) (h : Heap) : Prop where
  keep : ∀ b o, C.h₀.get? b = some o → h.get? b = some o
  rep : ∀ a o, σ a = some o → RO C h a o
  new : ∀ b, dom σ b → C.h₀.get? b = none
  sep : ∀ b K fs, σ (b + 1) = some (.inst K fs) → σ b = none

theorem dom_of {σ : Ab} {a : Addr} {o : AO} (h : σ a = some o) : dom σ a := .inl ⟨o, h⟩
theorem St.alive {C : Cx} {σ : Ab} {h : Heap} (S : St C σ h) {b : Addr} (d : dom σ b) : ∃ o, h.get? b = some o := by
  rcases d with ⟨o, e⟩ | ⟨K, fs, e⟩
  · exact (S.rep b o e).alive
  · obtain ⟨d, m, e', ho, hn, hf⟩ := S.rep _ _ e
    obtain rfl : b = d := Nat.add_right_cancel e'
    obtain ⟨o, _, _, ho, _⟩ := hn
    exact ⟨o, ho⟩
theorem St.fresh {C : Cx} {σ : Ab} {h : Heap} (S : St C σ h) {b : Addr} (hb : h.objs.size ≤ b) : ¬ dom σ b := fun d => by
  obtain ⟨o, e⟩ := S.alive d
  exact absurd (Heap.lt_size e) (Nat.not_lt.mpr hb)
theorem St.none {C : Cx} {σ : Ab} {h : Heap} (S : St C σ h) {b : Addr} (hb : h.objs.size ≤ b) : σ b = none := by
  cases e : σ b with
  | none => rfl
  | some o => exact absurd (dom_of e) (S.fresh hb)

/-- what may change between two states; P: addresses of the frame's own -/
structure Mv (P : Addr → Prop) (σ σ' : Ab) (s s' : Shared) : Prop where
  kp : ∀ b o, s.heap.get? b = some o → ¬ dom σ b → ¬ P b → s'.heap.get? b = some o
  fr : ∀ b o, s.heap.get? b = some o → ¬ dom σ b → ¬ dom σ' b ∧ ∃ o', s'.heap.get? b = some o'
  os : s'.os = s.os
  gen : s.gens.size ≤ s'.gens.size ∧ (∀ g, g < s.gens.size → s'.gens[g]? = s.gens[g]?) ∧ (AllBare s.gens → AllBare s'.gens)
abbrev No : Addr → Prop := fun _ => False
def own (env : Env) (b : Addr) : Prop := b = env.locals ∨ ∃ x, env.cells.lookup x = some b

theorem Mv.refl (P : Addr → Prop) (σ : Ab) (s : Shared) : Mv P σ σ s s := ⟨fun _ _ e _ _ => e, fun _ o e n => ⟨n, o, e⟩, rfl, Nat.le_refl _, fun _ _ => rfl, id⟩
theorem Mv.trans {P : Addr → Prop} {σ σ' σ'' : Ab} {s s' s'' : Shared} (x : Mv P σ σ' s s') (y : Mv P σ' σ'' s' s'') : Mv P σ σ'' s s'' := by
  refine ⟨fun b o e n p => y.kp b o (x.kp b o e n p) (x.fr b o e n).1 p, fun b o e n => ?_, y.os.trans x.os, Nat.le_trans x.gen.1 y.gen.1, fun g hg => ?_, fun z => y.gen.2.2 (x.gen.2.2 z)⟩
  · obtain ⟨n', o', e'⟩ := x.fr b o e n
    exact y.fr b o' e' n'
  · rw [y.gen.2.1 g (Nat.lt_of_lt_of_le hg x.gen.1), x.gen.2.1 g hg]
theorem Mv.weaken {P P' : Addr → Prop} {σ σ' : Ab} {s s' : Shared} (x : Mv P σ σ' s s') (h : ∀ b, P b → P' b) : Mv P' σ σ' s s' := ⟨fun b o e n p => x.kp b o e n fun q => p (h b q), x.fr, x.os, x.gen⟩
/-- σ' says no more than σ -/
def Sub (σ' σ : Ab) : Prop := ∀ a o, σ' a = some o → σ a = some o
theorem Sub.refl (σ : Ab) : Sub σ σ := fun _ _ e => e
theorem Sub.trans {a b c : Ab} (x : Sub a b) (y : Sub b c) : Sub a c := fun _ _ e => y _ _ (x _ _ e)
theorem Sub.dom {σ σ' : Ab} (x : Sub σ' σ) {b : Addr} (d : dom σ' b) : dom σ b := by
  rcases d with ⟨o, e⟩ | ⟨K, fs, e⟩
  · exact .inl ⟨o, x _ _ e⟩
  · exact .inr ⟨K, fs, x _ _ e⟩
theorem St.sub {C : Cx} {σ σ' : Ab} {h : Heap} (S : St C σ h) (x : Sub σ' σ) : St C σ' h := by
  refine ⟨S.keep, fun a o e => S.rep a o (x _ _ e), fun b d => S.new b (x.dom d), fun b K fs e => ?_⟩
  cases q : σ' b with
  | none => rfl
  | some o => have := x _ _ q; rw [S.sep b K fs (x _ _ e)] at this; cases this
theorem Mv.sub {P : Addr → Prop} {σ σ' σ'' : Ab} {s s' : Shared} (x : Mv P σ σ' s s') (y : Sub σ'' σ') : Mv P σ σ'' s s' :=
  ⟨x.kp, fun b o e n => ⟨fun d => (x.fr b o e n).1 (y.dom d), (x.fr b o e n).2⟩, x.os, x.gen⟩

/-- only heap and tokens turn, and what σ does not know is as it was -/
theorem Mv.heap {P : Addr → Prop} {σ σ' : Ab} {s : Shared} {h' : Heap} {tk : Nat} (kp : ∀ b o, s.heap.get? b = some o → ¬ dom σ b → ¬ P b → h'.get? b = some o)
    (fr : ∀ b o, s.heap.get? b = some o → ¬ dom σ b → ¬ dom σ' b ∧ ∃ o', h'.get? b = some o') : Mv P σ σ' s { s with heap := h', toks := tk } :=
  ⟨kp, fr, rfl, Nat.le_refl _, fun _ _ => rfl, id⟩
theorem Mv.tok {P : Addr → Prop} {σ : Ab} {s : Shared} {tk : Nat} : Mv P σ σ s { s with toks := tk } := Mv.heap (fun _ _ e _ _ => e) fun _ o e n => ⟨n, o, e⟩

/-- the heap has grown, or an object that σ does not know has turned -/
theorem St.keeps {C : Cx} {σ : Ab} {h h' : Heap} (S : St C σ h) (k : ∀ b o, (dom σ b ∨ C.h₀.get? b = some o) → h.get? b = some o → h'.get? b = some o) : St C σ h' := by
  refine ⟨fun b o e => k b o (.inr e) (S.keep b o e), fun a o e => (S.rep a o e).keeps (fun o' => k a o' (.inl (dom_of e))) fun d o' hd hi hg => k d o' (.inl ?_) hg, S.new, S.sep⟩
  subst hd
  cases o with
  | inst K fs => exact .inr ⟨K, fs, e⟩
  | _ => cases hi
theorem St.ext {C : Cx} {σ : Ab} {h h' : Heap} (S : St C σ h) (k : ∀ b o, h.get? b = some o → h'.get? b = some o) : St C σ h' := S.keeps fun b o _ => k b o
theorem St.push {C : Cx} {σ : Ab} {h : Heap} (S : St C σ h) (o : Obj) : St C σ (h.push o) := S.ext fun _ _ e => Heap.get?_push_of_some _ e
theorem dom_put {σ : Ab} {a b : Addr} {o : AO} (d : dom (σ.put a o) b) (hi : o.isInst = false) : b = a ∨ dom σ b := by
  rcases d with ⟨o', e⟩ | ⟨K, fs, e⟩
  · by_cases q : b = a
    · exact .inl q
    · rw [put_ne q] at e; exact .inr (.inl ⟨o', e⟩)
  · by_cases q : b + 1 = a
    · rw [q, put_same] at e; cases e; cases hi
    · rw [put_ne q] at e; exact .inr (.inr ⟨K, fs, e⟩)

/-- a new object at a, laid into σ -/
theorem St.add {C : Cx} {σ : Ab} {h h' : Heap} (S : St C σ h) {a : Addr} {ao : AO} (hi : ao.isInst = false) (ha : h.objs.size ≤ a) (k : ∀ b o, h.get? b = some o → h'.get? b = some o) (r : RO C h' a ao) : St C (σ.put a ao) h' := by
  have S' := S.ext k
  have na := S.none ha
  refine ⟨S'.keep, fun b o e => ?_, fun b d => ?_, fun b K fs e => ?_⟩
  · by_cases q : b = a
    · subst q; rw [put_same] at e; cases e; exact r
    · rw [put_ne q] at e; exact S'.rep b o e
  · rcases dom_put d hi with rfl | d
    · cases q : C.h₀.get? b with
      | none => rfl
      | some o => exact absurd (Heap.lt_size (S.keep _ _ q)) (Nat.not_lt.mpr ha)
    · exact S.new b d
  · by_cases q : b + 1 = a
    · rw [q, put_same] at e; cases e; cases hi
    · rw [put_ne q] at e
      have := S.sep b K fs e
      by_cases q' : b = a
      · subst q'
        exact absurd (.inr ⟨K, fs, e⟩) (S.fresh ha)
      · rw [put_ne q']; exact this
theorem St.addMv {C : Cx} {P : Addr → Prop} {σ : Ab} {s : Shared} (S : St C σ s.heap) {a : Addr} {ao : AO} (hi : ao.isInst = false) (ha : s.heap.objs.size ≤ a) {h' : Heap} {tk : Nat} (k : ∀ b o, s.heap.get? b = some o → h'.get? b = some o) :
    Mv P σ (σ.put a ao) s { s with heap := h', toks := tk } := by
  refine Mv.heap (fun b o e _ _ => k b o e) fun b o e n => ⟨fun d => ?_, o, k b o e⟩
  rcases dom_put d hi with rfl | d
  · exact absurd (Heap.lt_size e) (Nat.not_lt.mpr ha)
  · exact n d
/-- an object of σ turns (no instance) -/
theorem St.upd {C : Cx} {σ : Ab} {h h' : Heap} (S : St C σ h) {a : Addr} {ao ao' : AO} (e : σ a = some ao) (hi : ao.isInst = false) (hi' : ao'.isInst = false) (k : ∀ b o, b ≠ a → h.get? b = some o → h'.get? b = some o) (r : RO C h' a ao') : St C (σ.put a ao') h' := by
  refine ⟨fun b o q => k b o ?_ (S.keep b o q), fun b o q => ?_, fun b d => ?_, fun b K fs q => ?_⟩
  · rintro rfl; rw [S.new b (dom_of e)] at q; cases q
  · by_cases z : b = a
    · subst z; rw [put_same] at q; cases q; exact r
    · rw [put_ne z] at q
      refine (S.rep b o q).keeps (fun o' => k b o' z) fun d o' hd hi2 hg => k d o' ?_ hg
      rintro rfl
      subst hd
      cases o with
      | inst K fs => rw [S.sep _ _ _ q] at e; cases e
      | _ => cases hi2
  · rcases dom_put d hi' with rfl | d
    · exact S.new b (dom_of e)
    · exact S.new b d
  · by_cases z : b + 1 = a
    · rw [z, put_same] at q; cases q; cases hi'
    · rw [put_ne z] at q
      by_cases z' : b = a
      · subst z'; rw [S.sep _ _ _ q] at e; cases e
      · rw [put_ne z']; exact S.sep _ _ _ q
theorem Mv.upd {P : Addr → Prop} {σ : Ab} {s : Shared} {a : Addr} {ao ao' : AO} (e : σ a = some ao) (hi' : ao'.isInst = false) {h' : Heap} {tk : Nat} (k : ∀ b o, b ≠ a → s.heap.get? b = some o → h'.get? b = some o) :
    Mv P σ (σ.put a ao') s { s with heap := h', toks := tk } := by
  refine Mv.heap (fun b o q n _ => k b o (fun z => n (z ▸ dom_of e)) q) fun b o q n => ⟨fun d => ?_, o, k b o (fun z => n (z ▸ dom_of e)) q⟩
  rcases dom_put d hi' with rfl | d
  · exact n (dom_of e)
  · exact n d
end J
end

section
open PySem PySem.W PySem.Calls PyProof.Rows
set_option Elab.async false
set_option linter.unusedVariables false
namespace J

/-- the frame of env bears the locals m (facts of those that are named) -/
structure FOk (C : Cx) (env : Env) (m : Loc) (σ : Ab) (h : Heap) : Prop where
  fn : env.scope.kind = .function
  gl : env.globals = mainGlobals
  bi : env.builtins = builtinsNs
  nd : ∀ b, own env b → ¬ dom σ b ∧ C.h₀.get? b = none
  ns : ∃ M, h.Ns env.locals M ∧ ∀ x v, m.lookup x = some v → env.kindOf x = some .local → ∃ u, M x = some u ∧ nv u = v
  cl : ∀ x c, env.cells.lookup x = some c → c ≠ env.locals ∧ ∃ v, h.IsCell c v
  ce : ∀ x v, m.lookup x = some v → env.kindOf x = some .cell ∨ env.kindOf x = some .free → ∃ c u, env.cells.lookup x = some c ∧ h.IsCell c (some u) ∧ nv u = v
  inj : ∀ x y c, env.cells.lookup x = some c → env.cells.lookup y = some c → x = y

theorem FOk.own_alive {C : Cx} {env : Env} {m : Loc} {σ : Ab} {h : Heap} (O : FOk C env m σ h) {b : Addr} (hb : own env b) : ∃ o, h.get? b = some o := by
  rcases hb with rfl | ⟨x, hx⟩
  · obtain ⟨M, ⟨o, _, _, ho, _⟩, _⟩ := O.ns; exact ⟨o, ho⟩
  · obtain ⟨_, v, o, ho, _⟩ := O.cl x b hx; exact ⟨o, ho⟩
theorem FOk.keeps {C : Cx} {env : Env} {m : Loc} {σ σ' : Ab} {h h' : Heap} (O : FOk C env m σ h) (k : ∀ b o, own env b → h.get? b = some o → h'.get? b = some o) (nd : ∀ b, own env b → ¬ dom σ' b) : FOk C env m σ' h' := by
  refine ⟨O.fn, O.gl, O.bi, fun b hb => ⟨nd b hb, (O.nd b hb).2⟩, ?_, ?_, ?_, O.inj⟩
  · obtain ⟨M, ⟨o, es, ep, ho, r⟩, hm⟩ := O.ns
    exact ⟨M, ⟨o, es, ep, k _ _ (.inl rfl) ho, r⟩, hm⟩
  · intro x c hc
    obtain ⟨h1, v, o, ho, hd⟩ := O.cl x c hc
    exact ⟨h1, v, o, k _ _ (.inr ⟨x, hc⟩) ho, hd⟩
  · intro x v hx hk
    obtain ⟨c, u, hc, ⟨o, ho, hd⟩, hu⟩ := O.ce x v hx hk
    exact ⟨c, u, hc, ⟨o, k _ _ (.inr ⟨x, hc⟩) ho, hd⟩, hu⟩
theorem FOk.mv {C : Cx} {env : Env} {m : Loc} {σ σ' : Ab} {s s' : Shared} (O : FOk C env m σ s.heap) (M : Mv No σ σ' s s') : FOk C env m σ' s'.heap :=
  O.keeps (fun b o hb e => M.kp b o e (O.nd b hb).1 id) fun b hb => by
    obtain ⟨o, e⟩ := O.own_alive hb
    exact (M.fr b o e (O.nd b hb).1).1
/-- fewer facts -/
theorem FOk.less {C : Cx} {env : Env} {m m' : Loc} {σ : Ab} {h : Heap} (O : FOk C env m σ h) (k : ∀ x v, m'.lookup x = some v → m.lookup x = some v) : FOk C env m' σ h := by
  obtain ⟨M, hM, hm⟩ := O.ns
  exact ⟨O.fn, O.gl, O.bi, O.nd, ⟨M, hM, fun x v e => hm x v (k x v e)⟩, O.cl, fun x v e => O.ce x v (k x v e), O.inj⟩

/-- the frames on the stack stand -/
def Fs (C : Cx) (A : Around) (σ : Ab) (h : Heap) : Prop := ∃ l, A.frames = some l ∧ h.FunFrames C.h₀ l ∧ ∀ env ∈ l, ∀ L, env.frame = some L → ¬ dom σ L
theorem FunFrames.turn {C : Cx} {h h' : Heap} : ∀ {l : List Env}, h.FunFrames C.h₀ l → (∀ env ∈ l, ∀ L o, env.frame = some L → h.get? L = some o → (∀ vs, o.data ≠ .fields vs) → ∃ o', h'.get? L = some o' ∧ ∀ vs, o'.data ≠ .fields vs) → h'.FunFrames C.h₀ l
  | [], _, _ => trivial
  | env :: l, ⟨a, ⟨L, o, hf, hn, ho, hd⟩, r⟩, k => ⟨a, (by
      obtain ⟨o', ho', hd'⟩ := k env (.head _) L o hf ho hd
      exact ⟨L, o', hf, hn, ho', hd'⟩), FunFrames.turn r fun e he => k e (.tail _ he)⟩
theorem Fs.mv {C : Cx} {A : Around} {σ σ' : Ab} {s s' : Shared} (x : Fs C A σ s.heap) (M : Mv No σ σ' s s') : Fs C A σ' s'.heap := by
  obtain ⟨l, hl, hf, hd⟩ := x
  refine ⟨l, hl, FunFrames.turn hf fun env he L o hL ho hv => ⟨o, M.kp L o ho (hd env he L hL) id, hv⟩, fun env he L hL => ?_⟩
  obtain ⟨L', o, hf', ho⟩ := PyProof.Rows.funFrames_in hf env he
  obtain rfl : L' = L := Option.some.inj (hf'.symm.trans hL)
  exact (M.fr L' o ho (hd env he L' hL)).1
theorem Fs.mvX {C : Cx} {A : Around} {env : Env} {m m' : Loc} {σ σ' : Ab} {s s' : Shared} (x : Fs C A σ s.heap) (M : Mv (own env) σ σ' s s') (O : FOk C env m σ s.heap) (O' : FOk C env m' σ' s'.heap) : Fs C A σ' s'.heap := by
  obtain ⟨l, hl, hf, hd⟩ := x
  refine ⟨l, hl, FunFrames.turn hf fun e he L o hL ho hv => ?_, fun e he L hL => ?_⟩
  · by_cases q : own env L
    · rcases q with rfl | ⟨y, hy⟩
      · obtain ⟨M', ⟨o', es, ep, ho', hd', _⟩, _⟩ := O'.ns
        exact ⟨o', ho', fun vs z => by rw [hd'] at z; cases z⟩
      · obtain ⟨_, v, o', ho', hd'⟩ := O'.cl y L hy
        exact ⟨o', ho', fun vs z => by rw [hd'] at z; cases z⟩
    · exact ⟨o, M.kp L o ho (hd e he L hL) q, hv⟩
  · obtain ⟨L', o, hf', ho⟩ := PyProof.Rows.funFrames_in hf e he
    obtain rfl : L' = L := Option.some.inj (hf'.symm.trans hL)
    exact (M.fr L' o ho (hd e he L' hL)).1

structure Wv (C : Cx) (A : Around) (σ₀ : Ab) (s₀ : Shared) (σ : Ab) (s : Shared) : Prop where
  st : St C σ s.heap
  fs : Fs C A σ s.heap
  mv : Mv No σ₀ σ s₀ s
structure Wd (C : Cx) (A : Around) (env : Env) (m : Loc) (σ₀ : Ab) (s₀ : Shared) (σ : Ab) (s : Shared) : Prop extends Wv C A σ₀ s₀ σ s where
  ok : FOk C env m σ s.heap
structure Wx (C : Cx) (A : Around) (env : Env) (m : Loc) (σ₀ : Ab) (s₀ : Shared) (σ : Ab) (s : Shared) : Prop where
  st : St C σ s.heap
  fs : Fs C A σ s.heap
  ok : FOk C env m σ s.heap
  mv : Mv (own env) σ₀ σ s₀ s

section
variable {α β γ δ : Type}
/-- a tree outside of any frame of ours -/
def TV (C : Cx) (A : Around) (t : Sem α) (n : α → β) (σ : Ab) (Q : β → Ab → Prop) : Prop :=
  ∀ σ₀ s₀ s (R : α → Shared → Prop) (E : Value → Shared → Prop), Wv C A σ₀ s₀ σ s → (∀ v s' σ', Wv C A σ₀ s₀ σ' s' → Q (n v) σ' → R v s') → wpAny C.M A t R E s
/-- a tree in the frame of env, which it leaves as it is -/
def TF (C : Cx) (A : Around) (env : Env) (m : Loc) (t : Sem α) (n : α → β) (σ : Ab) (Q : β → Ab → Prop) : Prop :=
  ∀ σ₀ s₀ s (R : α → Shared → Prop) (E : Value → Shared → Prop), Wd C A env m σ₀ s₀ σ s → (∀ v s' σ', Wd C A env m σ₀ s₀ σ' s' → Q (n v) σ' → R v s') → wpAny C.M A t R E s
/-- a tree in the frame of env, which it may turn -/
def TS (C : Cx) (A : Around) (env : Env) (m : Loc) (t : Sem α) (n : α → β) (σ : Ab) (Q : β → Loc → Ab → Prop) : Prop :=
  ∀ σ₀ s₀ s (R : α → Shared → Prop) (E : Value → Shared → Prop), Wx C A env m σ₀ s₀ σ s → (∀ v s' m' σ', Wx C A env m' σ₀ s₀ σ' s' → Q (n v) m' σ' → R v s') → wpAny C.M A t R E s
abbrev TE (C : Cx) (A : Around) (env : Env) (m : Loc) (e : Expr) (σ : Ab) (Q : Value → Ab → Prop) : Prop := TF C A env m (eval e env) nv σ Q
abbrev TB (C : Cx) (A : Around) (env : Env) (m : Loc) (e : Expr) (σ : Ab) (Q : Bool → Ab → Prop) : Prop := TF C A env m (isTrue e env (eval e env)) id σ Q
abbrev TX (C : Cx) (A : Around) (env : Env) (m : Loc) (st : Stmt) (σ : Ab) (Q : Flow → Loc → Ab → Prop) : Prop := TS C A env m (exec st env) nf σ Q
abbrev TXs (C : Cx) (A : Around) (env : Env) (m : Loc) (l : List Stmt) (σ : Ab) (Q : Flow → Loc → Ab → Prop) : Prop := TS C A env m (execs l env) nf σ Q

variable {C : Cx} {A : Around} {env : Env} {m : Loc} {σ σ₀ σ' : Ab} {s s₀ s' : Shared}
theorem Wv.start (S : St C σ s.heap) (F : Fs C A σ s.heap) : Wv C A σ s σ s := ⟨S, F, Mv.refl ..⟩
theorem Wv.step (W : Wv C A σ₀ s₀ σ s) (x : Wv C A σ s σ' s') : Wv C A σ₀ s₀ σ' s' := ⟨x.st, x.fs, W.mv.trans x.mv⟩
theorem Wv.go (W : Wv C A σ₀ s₀ σ s) (S : St C σ' s'.heap) (M : Mv No σ σ' s s') : Wv C A σ₀ s₀ σ' s' := ⟨S, W.fs.mv M, W.mv.trans M⟩
theorem Wv.tok (W : Wv C A σ₀ s₀ σ s) (t : Nat) : Wv C A σ₀ s₀ σ { s with toks := t } := W.go (s' := { s with toks := t }) W.st Mv.tok
theorem Wd.step (W : Wd C A env m σ₀ s₀ σ s) (x : Wv C A σ s σ' s') : Wd C A env m σ₀ s₀ σ' s' := ⟨W.toWv.step x, W.ok.mv x.mv⟩
theorem Wd.go (W : Wd C A env m σ₀ s₀ σ s) (S : St C σ' s'.heap) (M : Mv No σ σ' s s') : Wd C A env m σ₀ s₀ σ' s' := ⟨W.toWv.go S M, W.ok.mv M⟩
theorem Wd.tok (W : Wd C A env m σ₀ s₀ σ s) (t : Nat) : Wd C A env m σ₀ s₀ σ { s with toks := t } := W.go (s' := { s with toks := t }) W.st Mv.tok
theorem Wd.sub (W : Wd C A env m σ₀ s₀ σ s) (x : Sub σ' σ) : Wd C A env m σ₀ s₀ σ' s :=
  ⟨⟨W.st.sub x, let ⟨l, a, b, c⟩ := W.fs; ⟨l, a, b, fun e he L hL d => c e he L hL (x.dom d)⟩, W.mv.sub x⟩, W.ok.keeps (fun _ _ _ e => e) fun b hb d => (W.ok.nd b hb).1 (x.dom d)⟩
theorem Wv.sub (W : Wv C A σ₀ s₀ σ s) (x : Sub σ' σ) : Wv C A σ₀ s₀ σ' s :=
  ⟨W.st.sub x, let ⟨l, a, b, c⟩ := W.fs; ⟨l, a, b, fun e he L hL d => c e he L hL (x.dom d)⟩, W.mv.sub x⟩
theorem Wx.sub (W : Wx C A env m σ₀ s₀ σ s) (x : Sub σ' σ) : Wx C A env m σ₀ s₀ σ' s :=
  ⟨W.st.sub x, let ⟨l, a, b, c⟩ := W.fs; ⟨l, a, b, fun e he L hL d => c e he L hL (x.dom d)⟩, W.ok.keeps (fun _ _ _ e => e) fun b hb d => (W.ok.nd b hb).1 (x.dom d), W.mv.sub x⟩
theorem Wx.wd (W : Wx C A env m σ₀ s₀ σ s) : Wd C A env m σ s σ s := ⟨⟨W.st, W.fs, Mv.refl ..⟩, W.ok⟩
theorem Wx.step (W : Wx C A env m σ₀ s₀ σ s) (x : Wd C A env m σ s σ' s') : Wx C A env m σ₀ s₀ σ' s' := ⟨x.st, x.fs, x.ok, W.mv.trans (x.mv.weaken fun _ => False.elim)⟩
theorem Wx.less (W : Wx C A env m σ₀ s₀ σ s) {m' : Loc} (k : ∀ x v, m'.lookup x = some v → m.lookup x = some v) : Wx C A env m' σ₀ s₀ σ s := ⟨W.st, W.fs, W.ok.less k, W.mv⟩

theorem TV.mono {t : Sem α} {n : α → β} {Q Q' : β → Ab → Prop} (h : TV C A t n σ Q) (k : ∀ v σ', Q v σ' → Q' v σ') : TV C A t n σ Q' := fun σ₀ s₀ s R E W r => h σ₀ s₀ s R E W fun v s' σ' W' q => r v s' σ' W' (k _ _ q)
theorem TF.mono {t : Sem α} {n : α → β} {Q Q' : β → Ab → Prop} (h : TF C A env m t n σ Q) (k : ∀ v σ', Q v σ' → Q' v σ') : TF C A env m t n σ Q' := fun σ₀ s₀ s R E W r => h σ₀ s₀ s R E W fun v s' σ' W' q => r v s' σ' W' (k _ _ q)
theorem TS.mono {t : Sem α} {n : α → β} {Q Q' : β → Loc → Ab → Prop} (h : TS C A env m t n σ Q) (k : ∀ v m' σ', Q v m' σ' → Q' v m' σ') : TS C A env m t n σ Q' := fun σ₀ s₀ s R E W r => h σ₀ s₀ s R E W fun v s' m' σ' W' q => r v s' m' σ' W' (k _ _ _ q)
/-- forget -/
theorem TV.drop {t : Sem α} {n : α → β} {Q : β → Ab → Prop} (h : TV C A t n σ fun v σ' => ∃ σ'', Sub σ'' σ' ∧ Q v σ'') : TV C A t n σ Q := fun σ₀ s₀ s R E W r => h σ₀ s₀ s R E W fun v s' σ' W' ⟨σ'', x, q⟩ => r v s' σ'' (W'.sub x) q
theorem TF.drop {t : Sem α} {n : α → β} {Q : β → Ab → Prop} (h : TF C A env m t n σ fun v σ' => ∃ σ'', Sub σ'' σ' ∧ Q v σ'') : TF C A env m t n σ Q := fun σ₀ s₀ s R E W r => h σ₀ s₀ s R E W fun v s' σ' W' ⟨σ'', x, q⟩ => r v s' σ'' (W'.sub x) q
theorem TS.drop {t : Sem α} {n : α → β} {Q : β → Loc → Ab → Prop} (h : TS C A env m t n σ fun v m' σ' => ∃ m'' σ'', (∀ x u, m''.lookup x = some u → m'.lookup x = some u) ∧ Sub σ'' σ' ∧ Q v m'' σ'') : TS C A env m t n σ Q :=
  fun σ₀ s₀ s R E W r => h σ₀ s₀ s R E W fun v s' m' σ' W' ⟨m'', σ'', k, x, q⟩ => r v s' m'' σ'' ((W'.less k).sub x) q
theorem TV.pre {t : Sem α} {n : α → β} {Q : β → Ab → Prop} (x : Sub σ' σ) (h : TV C A t n σ' Q) : TV C A t n σ Q := fun σ₀ s₀ s R E W r => h σ₀ s₀ s R E (W.sub x) r
theorem TS.pre {t : Sem α} {n : α → β} {Q : β → Loc → Ab → Prop} {m' : Loc} (k : ∀ x v, m'.lookup x = some v → m.lookup x = some v) (x : Sub σ' σ) (h : TS C A env m' t n σ' Q) : TS C A env m t n σ Q := fun σ₀ s₀ s R E W r => h σ₀ s₀ s R E ((W.less k).sub x) r
/-- a tree outside of the frame, seen from the frame -/
theorem TV.tf {t : Sem α} {n : α → β} {Q : β → Ab → Prop} (h : TV C A t n σ Q) : TF C A env m t n σ Q := fun σ₀ s₀ s R E W r => h σ s s R E (Wv.start W.st W.fs) fun v s' σ' W' q => r v s' σ' (W.step W') q
theorem TF.ts {t : Sem α} {n : α → β} {Q : β → Loc → Ab → Prop} (h : TF C A env m t n σ fun v σ' => Q v m σ') : TS C A env m t n σ Q := fun σ₀ s₀ s R E W r => h σ s s R E W.wd fun v s' σ' W' q => r v s' m σ' (W.step W') q

theorem TV.pure {a : α} {n : α → β} {Q : β → Ab → Prop} (h : Q (n a) σ) : TV C A (pure a : Sem α) n σ Q := fun σ₀ s₀ s R E W r => wpAny_pure (r a s σ W h)
theorem TF.pure {a : α} {n : α → β} {Q : β → Ab → Prop} (h : Q (n a) σ) : TF C A env m (pure a : Sem α) n σ Q := fun σ₀ s₀ s R E W r => wpAny_pure (r a s σ W h)
theorem TS.pure {a : α} {n : α → β} {Q : β → Loc → Ab → Prop} (h : Q (n a) m σ) : TS C A env m (pure a : Sem α) n σ Q := fun σ₀ s₀ s R E W r => wpAny_pure (r a s m σ W h)
theorem TV.bind {t : Sem α} {f : α → Sem γ} {n : α → β} {n' : γ → δ} {Q : δ → Ab → Prop} (h : TV C A t n σ fun v σ' => ∀ u, n u = v → TV C A (f u) n' σ' Q) : TV C A (t >>= f) n' σ Q := fun σ₀ s₀ s R E W r =>
  wpAny_bind (h σ₀ s₀ s _ E W fun v s' σ' W' q => q v rfl σ₀ s₀ s' R E W' r)
theorem TF.bind {t : Sem α} {f : α → Sem γ} {n : α → β} {n' : γ → δ} {Q : δ → Ab → Prop} (h : TF C A env m t n σ fun v σ' => ∀ u, n u = v → TF C A env m (f u) n' σ' Q) : TF C A env m (t >>= f) n' σ Q := fun σ₀ s₀ s R E W r =>
  wpAny_bind (h σ₀ s₀ s _ E W fun v s' σ' W' q => q v rfl σ₀ s₀ s' R E W' r)
theorem TS.bind {t : Sem α} {f : α → Sem γ} {n : α → β} {n' : γ → δ} {Q : δ → Loc → Ab → Prop} (h : TS C A env m t n σ fun v m' σ' => ∀ u, n u = v → TS C A env m' (f u) n' σ' Q) : TS C A env m (t >>= f) n' σ Q := fun σ₀ s₀ s R E W r =>
  wpAny_bind (h σ₀ s₀ s _ E W fun v s' m' σ' W' q => q v rfl σ₀ s₀ s' R E W' r)
theorem TF.holding {t : Sem α} {vs : List Value} {n : α → β} {Q : β → Ab → Prop} (h : TF C A env m t n σ Q) : TF C A env m (holding vs t) n σ Q := fun σ₀ s₀ s R E W r => wpAny_holding (h σ₀ s₀ s R E W r)
theorem TV.holding {t : Sem α} {vs : List Value} {n : α → β} {Q : β → Ab → Prop} (h : TV C A t n σ Q) : TV C A (holding vs t) n σ Q := fun σ₀ s₀ s R E W r => wpAny_holding (h σ₀ s₀ s R E W r)
theorem TS.holding {t : Sem α} {vs : List Value} {n : α → β} {Q : β → Loc → Ab → Prop} (h : TS C A env m t n σ Q) : TS C A env m (holding vs t) n σ Q := fun σ₀ s₀ s R E W r => wpAny_holding (h σ₀ s₀ s R E W r)
theorem TF.standAt {pos : Pos} {t : Sem α} {n : α → β} {Q : β → Ab → Prop} (h : TF C A env m t n σ Q) : TF C A env m (standAt pos >>= fun _ => t) n σ Q := fun σ₀ s₀ s R E W r => wpAny_bind (wpAny_standAt (h σ₀ s₀ s R E W r))
theorem TS.standAt {pos : Pos} {t : Sem α} {n : α → β} {Q : β → Loc → Ab → Prop} (h : TS C A env m t n σ Q) : TS C A env m (PySem.standAt pos >>= fun _ => t) n σ Q := fun σ₀ s₀ s R E W r => wpAny_bind (wpAny_standAt (h σ₀ s₀ s R E W r))
/-- the heart of most rules: a tree by its own wp lemma that leaves σ as it is -/
theorem TV.lift {t : Sem α} {n : α → β} {Q : β → Ab → Prop} (h : ∀ s (R : α → Shared → Prop) (E : Value → Shared → Prop), St C σ s.heap → (∀ v s' σ', St C σ' s'.heap → Mv No σ σ' s s' → Q (n v) σ' → R v s') → wpAny C.M A t R E s) : TV C A t n σ Q :=
  fun σ₀ s₀ s R E W r => h s R E W.st fun v s' σ' S' M q => r v s' σ' (W.go S' M) q
theorem TF.lift {t : Sem α} {n : α → β} {Q : β → Ab → Prop} (h : ∀ s (R : α → Shared → Prop) (E : Value → Shared → Prop), St C σ s.heap → FOk C env m σ s.heap → (∀ v s' σ', St C σ' s'.heap → Mv No σ σ' s s' → Q (n v) σ' → R v s') → wpAny C.M A t R E s) : TF C A env m t n σ Q :=
  fun σ₀ s₀ s R E W r => h s R E W.st W.ok fun v s' σ' S' M q => r v s' σ' (W.go S' M) q
end
end J
end

section
open PySem PySem.W PySem.Calls PyProof.Rows
set_option Elab.async false
set_option linter.unusedVariables false
namespace J

/-- e is v, and nothing turns -/
def EV (C : Cx) (A : Around) (env : Env) (m : Loc) (σ : Ab) (e : Expr) (v : Value) : Prop := ∀ Q : Value → Ab → Prop, Q v σ → TE C A env m e σ Q
/-- the test e is b, and nothing turns -/
def EB (C : Cx) (A : Around) (env : Env) (m : Loc) (σ : Ab) (e : Expr) (b : Bool) : Prop := ∀ Q : Bool → Ab → Prop, Q b σ → TB C A env m e σ Q

section
variable {C : Cx} {A : Around} {env : Env} {m : Loc} {σ σ₀ σ' : Ab} {s s₀ s' : Shared}

theorem EV.run {e : Expr} {v : Value} (h : EV C A env m σ e v) {R : Value → Shared → Prop} {E : Value → Shared → Prop} (W : Wd C A env m σ₀ s₀ σ s) (k : ∀ u s', nv u = v → Wd C A env m σ₀ s₀ σ s' → R u s') : wpAny C.M A (eval e env) R E s :=
  h (fun u σ' => u = v ∧ σ' = σ) ⟨rfl, rfl⟩ σ₀ s₀ s R E W fun u s' σ' W' ⟨e1, e2⟩ => k u s' e1 (e2 ▸ W')
theorem EB.run {e : Expr} {b : Bool} (h : EB C A env m σ e b) {R : Bool → Shared → Prop} {E : Value → Shared → Prop} (W : Wd C A env m σ₀ s₀ σ s) (k : ∀ s', Wd C A env m σ₀ s₀ σ s' → R b s') : wpAny C.M A (isTrue e env (eval e env)) R E s :=
  h (fun u σ' => u = b ∧ σ' = σ) ⟨rfl, rfl⟩ σ₀ s₀ s R E W fun u s' σ' W' ⟨e1, e2⟩ => (show u = b from e1) ▸ k s' (e2 ▸ W')
theorem EV.of {e : Expr} {v : Value} (h : ∀ σ₀ s₀ s (R : Value → Shared → Prop) (E : Value → Shared → Prop), Wd C A env m σ₀ s₀ σ s → (∀ u s', nv u = v → Wd C A env m σ₀ s₀ σ s' → R u s') → wpAny C.M A (eval e env) R E s) : EV C A env m σ e v :=
  fun Q q σ₀ s₀ s R E W r => h σ₀ s₀ s R E W fun u s' hu W' => r u s' σ W' (hu ▸ q)
theorem EB.of {e : Expr} {b : Bool} (h : ∀ σ₀ s₀ s (R : Bool → Shared → Prop) (E : Value → Shared → Prop), Wd C A env m σ₀ s₀ σ s → (∀ s', Wd C A env m σ₀ s₀ σ s' → R b s') → wpAny C.M A (isTrue e env (eval e env)) R E s) : EB C A env m σ e b :=
  fun Q q σ₀ s₀ s R E W r => h σ₀ s₀ s R E W fun s' W' => r b s' σ W' q
theorem EV.te {e : Expr} {v : Value} {Q : Value → Ab → Prop} (h : EV C A env m σ e v) (q : Q v σ) : TE C A env m e σ Q := h Q q
theorem EB.tb {e : Expr} {b : Bool} {Q : Bool → Ab → Prop} (h : EB C A env m σ e b) (q : Q b σ) : TB C A env m e σ Q := h Q q

-- NAMES
theorem EV_loc {x : Str} {pos : Pos} {v : Value} (hv : m.lookup x = some v) (hl : env.kindOf x = some .local) (hd : (x == ("__debug__" : Str)) = false := by decide) : EV C A env m σ (.Name x pos) v :=
  EV.of fun σ₀ s₀ s R E W k => by
    obtain ⟨M, hM, hm⟩ := W.ok.ns
    obtain ⟨u, hu, e⟩ := hm x v hv hl
    exact wpAny_Name (wpAny_loadName_local W.ok.fn hl hM hu (k u s e W)) hd
theorem EV_cell {x : Str} {pos : Pos} {v : Value} (hv : m.lookup x = some v) (hl : env.kindOf x = some .cell) (hd : (x == ("__debug__" : Str)) = false := by decide) : EV C A env m σ (.Name x pos) v :=
  EV.of fun σ₀ s₀ s R E W k => by
    obtain ⟨c, u, hc, hcell, e⟩ := W.ok.ce x v hv (.inl hl)
    exact wpAny_Name (wpAny_loadName_cell W.ok.fn hl hc hcell (k u s e W)) hd
theorem EV_free {x : Str} {pos : Pos} {v : Value} (hv : m.lookup x = some v) (hl : env.kindOf x = some .free) (hn : (x == ("__classdict__" : Str)) = false := by decide) (hd : (x == ("__debug__" : Str)) = false := by decide) : EV C A env m σ (.Name x pos) v :=
  EV.of fun σ₀ s₀ s R E W k => by
    obtain ⟨c, u, hc, hcell, e⟩ := W.ok.ce x v hv (.inr hl)
    exact wpAny_Name (wpAny_loadName_free W.ok.fn hl hc hcell (k u s e W) hn) hd
theorem EV_glob {x : Str} {pos : Pos} {v : Value} (hv : nsIn C.K mainGlobals x = some (some v)) (hl : env.kindOf x = some .globalImplicit) (hd : (x == ("__debug__" : Str)) = false := by decide) : EV C A env m σ (.Name x pos) (nv v) :=
  EV.of fun σ₀ s₀ s R E W k => Name_function_global W.ok.fn hl (loadGlobal_global (env := env) (W.ok.gl ▸ C.T.g.keeps W.st.keep) (mg_of C.X C.T.g hv) (k v s rfl W)) hd
theorem EV_built {x : Str} {pos : Pos} {v : Value} (hv : nsIn C.K mainGlobals x = some none) (hb : bootBuiltins x = some v) (hl : env.kindOf x = some .globalImplicit) (hn : x ≠ "__name__" := by decide) (hd : (x == ("__debug__" : Str)) = false := by decide) : EV C A env m σ (.Name x pos) (nv v) :=
  EV.of fun σ₀ s₀ s R E W k => Name_function_global W.ok.fn hl (loadGlobal_builtin (env := env) (W.ok.gl ▸ C.T.g.keeps W.st.keep) (mg_none_of C.X C.T.g hv) (W.ok.bi ▸ C.T.b.keeps W.st.keep) ((C.T.builtins x hn).trans hb) (k v s rfl W)) hd

-- CONSTANTS
theorem EV_int {i : Int} {k : Nat} {pos : Pos} : EV C A env m σ (.Constant (.int i) k pos) (.int i 0) := EV.of fun σ₀ s₀ s R E W r => wpAny_Constant_int (r _ _ rfl (W.tok _))
theorem EV_str {x : Str} {k : Nat} {pos : Pos} : EV C A env m σ (.Constant (.str x) k pos) (.str x 0) := EV.of fun σ₀ s₀ s R E W r => wpAny_Constant_str (r _ _ rfl (W.tok _))
theorem EV_none {k : Nat} {pos : Pos} : EV C A env m σ (.Constant .none k pos) .none := EV.of fun σ₀ s₀ s R E W r => wpAny_Constant_none (r _ _ rfl W)
theorem EV_bool {b : Bool} {k : Nat} {pos : Pos} : EV C A env m σ (.Constant (.bool b) k pos) (.bool b) := EV.of fun σ₀ s₀ s R E W r => wpAny_Constant_bool (r _ _ rfl W)
theorem EV_bytes {b : List UInt8} {k : Nat} {pos : Pos} : EV C A env m σ (.Constant (.bytes b) k pos) (.bytes b.toArray 0) := EV.of fun σ₀ s₀ s R E W r => by
  show wpAny _ _ (mkTextBytes b.toArray) _ _ _
  unfold mkTextBytes
  exact wpAny_bind (wpAny_fresh (wpAny_pure (r _ _ rfl (W.tok _))))

-- ARITHMETIC
theorem EV_bin {l r : Expr} {op : Operator} {pos : Pos} {a b v : Value} (hl : EV C A env m σ l a) (hr : EV C A env m σ r b)
    (h : ∀ a' b', nv a' = a → nv b' = b → ∀ s (R : Value → Shared → Prop) (E : Value → Shared → Prop), St C σ s.heap → (∀ u tk, nv u = v → R u { s with toks := tk }) → wpAny C.M A (binaryOp op a' b') R E s) :
    EV C A env m σ (.BinOp l op r pos) v := EV.of fun σ₀ s₀ s R E W k =>
  wpAny_BinOp (hl.run W fun a' s₁ ha W₁ => hr.run W₁ fun b' s₂ hb W₂ => h a' b' ha hb s₂ R E W₂.st fun u tk hu => k u _ hu (W₂.tok tk))
theorem EV_add {l r : Expr} {pos : Pos} {a b : Int} (hl : EV C A env m σ l (.int a 0)) (hr : EV C A env m σ r (.int b 0)) : EV C A env m σ (.BinOp l .Add r pos) (.int (a + b) 0) :=
  EV_bin hl hr fun a' b' ha hb s R E S k => by obtain ⟨t, rfl⟩ := nv_to_int ha; obtain ⟨u, rfl⟩ := nv_to_int hb; exact PyProof.Rows.add_int (k _ _ rfl)
theorem EV_sub {l r : Expr} {pos : Pos} {a b : Int} (hl : EV C A env m σ l (.int a 0)) (hr : EV C A env m σ r (.int b 0)) : EV C A env m σ (.BinOp l .Sub r pos) (.int (a - b) 0) :=
  EV_bin hl hr fun a' b' ha hb s R E S k => by obtain ⟨t, rfl⟩ := nv_to_int ha; obtain ⟨u, rfl⟩ := nv_to_int hb; exact PyProof.Rows.sub_int (k _ _ rfl)
theorem EV_mul {l r : Expr} {pos : Pos} {a b : Int} (hl : EV C A env m σ l (.int a 0)) (hr : EV C A env m σ r (.int b 0)) (hm : IntMulOk a b) : EV C A env m σ (.BinOp l .Mult r pos) (.int (a * b) 0) :=
  EV_bin hl hr fun a' b' ha hb s R E S k => by obtain ⟨t, rfl⟩ := nv_to_int ha; obtain ⟨u, rfl⟩ := nv_to_int hb; exact PyProof.Rows.mul_int (k _ _ rfl) hm
theorem EV_mod {l r : Expr} {pos : Pos} {a b : Int} (hl : EV C A env m σ l (.int a 0)) (hr : EV C A env m σ r (.int b 0)) (hb0 : b ≠ 0) : EV C A env m σ (.BinOp l .Mod r pos) (.int (a.fmod b) 0) :=
  EV_bin hl hr fun a' b' ha hb s R E S k => by obtain ⟨t, rfl⟩ := nv_to_int ha; obtain ⟨u, rfl⟩ := nv_to_int hb; exact PyProof.Rows.mod_int hb0 (k _ _ rfl)

-- TESTS
theorem EB_val {e : Expr} {v : Value} {b : Bool} (h : EV C A env m σ e v)
    (ht : ∀ u, nv u = v → ∀ s (R : Bool → Shared → Prop) (E : Value → Shared → Prop), St C σ s.heap → (∀ tk, R b { s with toks := tk }) → wpAny C.M A (truthy u) R E s)
    (he : ∀ whole, isTrue e env whole = (do let v ← whole; standAt e.pos; holding [v] (truthy v)) := by intro _; rfl) : EB C A env m σ e b := EB.of fun σ₀ s₀ s R E W k =>
  isTrue_plain (h.run W fun u s₁ hu W₁ => ht u hu s₁ R E W₁.st fun tk => k _ (W₁.tok tk)) (he _)
theorem EB_not {x : Expr} {pos : Pos} {b : Bool} (h : EB C A env m σ x b) : EB C A env m σ (.UnaryOp .Not x pos) (!b) := EB.of fun σ₀ s₀ s R E W k => isTrue_not (h.run W fun s' W' => k s' W')
theorem EB_and_nil {pos : Pos} : EB C A env m σ (.BoolOp .And [] pos) true := EB.of fun σ₀ s₀ s R E W k => isTrue_and_nil (k s W)
theorem EB_or_nil {pos : Pos} : EB C A env m σ (.BoolOp .Or [] pos) false := EB.of fun σ₀ s₀ s R E W k => isTrue_or_nil (k s W)
theorem EB_and {x : Expr} {rest : List Expr} {pos : Pos} {b c : Bool} (h : EB C A env m σ x b) (h' : b = true → EB C A env m σ (.BoolOp .And rest pos) c) : EB C A env m σ (.BoolOp .And (x :: rest) pos) (b && c) := EB.of fun σ₀ s₀ s R E W k =>
  isTrue_and (h.run W fun s' W' => by
    cases b with
    | true => rw [if_pos rfl]; exact (h' rfl).run W' fun s'' W'' => k s'' W''
    | false => rw [if_neg Bool.false_ne_true]; exact k s' W')
theorem EB_or {x : Expr} {rest : List Expr} {pos : Pos} {b c : Bool} (h : EB C A env m σ x b) (h' : b = false → EB C A env m σ (.BoolOp .Or rest pos) c) : EB C A env m σ (.BoolOp .Or (x :: rest) pos) (b || c) := EB.of fun σ₀ s₀ s R E W k =>
  isTrue_or (h.run W fun s' W' => by
    cases b with
    | true => rw [if_pos rfl]; exact k s' W'
    | false => rw [if_neg Bool.false_ne_true]; exact (h' rfl).run W' fun s'' W'' => k s'' W'')
theorem EB_cmp {l r : Expr} {op : CmpOp} {pos : Pos} {a b : Value} {v : Bool} (hl : EV C A env m σ l a) (hr : EV C A env m σ r b)
    (h : ∀ a' b', nv a' = a → nv b' = b → ∀ s (R : Value → Shared → Prop) (E : Value → Shared → Prop), St C σ s.heap → (∀ tk, R (.bool v) { s with toks := tk }) → wpAny C.M A (compareOp op a' b') R E s)
    (hm : behindInMarks op r = false := by with_unfolding_all rfl) :
    EB C A env m σ (.Compare l [op] [r] pos) v := EB.of fun σ₀ s₀ s R E W k =>
  wpAny_isTrue_Compare1 (hl.run W fun a' s₁ ha W₁ => hr.run W₁ fun b' s₂ hb W₂ => h a' b' ha hb s₂ _ E W₂.st fun tk => wpAny_truthy_bool (k _ (W₂.tok tk))) hm
theorem EV_cmp {l r : Expr} {op : CmpOp} {pos : Pos} {a b : Value} {v : Bool} (hl : EV C A env m σ l a) (hr : EV C A env m σ r b)
    (h : ∀ a' b', nv a' = a → nv b' = b → ∀ s (R : Value → Shared → Prop) (E : Value → Shared → Prop), St C σ s.heap → (∀ tk, R (.bool v) { s with toks := tk }) → wpAny C.M A (compareOp op a' b') R E s)
    (hm : behindInMarks op r = false := by with_unfolding_all rfl) :
    EV C A env m σ (.Compare l [op] [r] pos) (.bool v) := EV.of fun σ₀ s₀ s R E W k =>
  wpAny_Compare1 (hl.run W fun a' s₁ ha W₁ => hr.run W₁ fun b' s₂ hb W₂ => h a' b' ha hb s₂ _ E W₂.st fun tk => k _ _ rfl (W₂.tok tk)) hm

/-- a comparison of two values: the op gives the bool, and nothing turns -/
def Cmp (C : Cx) (A : Around) (σ : Ab) (op : CmpOp) (a b : Value) (v : Bool) : Prop :=
  ∀ a' b', nv a' = a → nv b' = b → ∀ s (R : Value → Shared → Prop) (E : Value → Shared → Prop), St C σ s.heap → (∀ tk, R (.bool v) { s with toks := tk }) → wpAny C.M A (compareOp op a' b') R E s
theorem Cmp.eq_int (a b : Int) : Cmp C A σ .Eq (.int a 0) (.int b 0) (decide (a = b)) := fun a' b' ha hb s R E S k => by
  obtain ⟨t, rfl⟩ := nv_to_int ha; obtain ⟨u, rfl⟩ := nv_to_int hb; exact PyProof.Rows.eq_int (k _)
theorem Cmp.ne_int (a b : Int) : Cmp C A σ .NotEq (.int a 0) (.int b 0) (!decide (a = b)) := fun a' b' ha hb s R E S k => by
  obtain ⟨t, rfl⟩ := nv_to_int ha; obtain ⟨u, rfl⟩ := nv_to_int hb; exact PyProof.Rows.ne_int (k _)
theorem Cmp.lt_int (a b : Int) : Cmp C A σ .Lt (.int a 0) (.int b 0) (decide (a < b)) := fun a' b' ha hb s R E S k => by
  obtain ⟨t, rfl⟩ := nv_to_int ha; obtain ⟨u, rfl⟩ := nv_to_int hb; exact PyProof.Rows.lt_int (k _)
theorem Cmp.gt_int (a b : Int) : Cmp C A σ .Gt (.int a 0) (.int b 0) (decide (b < a)) := fun a' b' ha hb s R E S k => by
  obtain ⟨t, rfl⟩ := nv_to_int ha; obtain ⟨u, rfl⟩ := nv_to_int hb; exact PyProof.Rows.gt_int (k _)
theorem Cmp.eq_str (a b : Str) : Cmp C A σ .Eq (.str a 0) (.str b 0) (a == b) := fun a' b' ha hb s R E S k => by
  obtain ⟨t, rfl⟩ := nv_to_str ha; obtain ⟨u, rfl⟩ := nv_to_str hb; exact PyProof.Rows.eq_str (k _)
theorem Cmp.is_none (a : Value) (ha : a = .none ∨ (∃ r, a = .ref r) ∨ (∃ b, a = .bool b) ∨ (∃ i, a = .int i 0) ∨ (∃ i, a = .str i 0) ∨ (∃ i, a = .bytes i 0)) : Cmp C A σ .Is a .none (a == .none) := fun a' b' ha' hb s R E S k => by
  obtain rfl := nv_to_none hb
  rcases ha with rfl | ⟨r, rfl⟩ | ⟨b, rfl⟩ | ⟨i, rfl⟩ | ⟨i, rfl⟩ | ⟨i, rfl⟩
  · obtain rfl := nv_to_none ha'; exact wpAny_is_plain rfl (k _)
  · obtain rfl := nv_to_ref ha'; exact wpAny_is_plain rfl (k _)
  · obtain rfl := nv_to_bool ha'; exact wpAny_is_plain rfl (k _)
  · obtain ⟨t, rfl⟩ := nv_to_int ha'; exact wpAny_is_plain rfl (k _)
  · obtain ⟨t, rfl⟩ := nv_to_str ha'; exact wpAny_is_plain rfl (k _)
  · obtain ⟨t, rfl⟩ := nv_to_bytes ha'; exact wpAny_is_plain rfl (k _)
end
end J
end

section
open PySem PySem.W PySem.Calls PyProof.Rows
set_option Elab.async false
set_option linter.unusedVariables false
namespace J
section
variable {C : Cx} {A : Around} {env : Env} {m : Loc} {σ σ₀ σ' : Ab} {s s₀ s' : Shared}

theorem St.K (S : St C σ s.heap) : C.K.In s.heap := C.X.keeps S.keep
/-- the instance at a, as the kit says it -/
theorem St.inst {h : Heap} (S : St C σ h) {a K : Addr} {fs : Loc} (e : σ a = some (.inst K fs)) :
    ∃ d od, InstAt h a (instObj K d) K (some od) ∧ ∀ x v, fs.lookup x = some v → ∃ u, nv u = v ∧ lookIn x od = some (some u) := by
  obtain ⟨d, m, rfl, ho, ⟨od, es, ep, hd, hdat, hk, hu, hm⟩, hf⟩ := S.rep a _ e
  refine ⟨d, od, ⟨ho, rfl, rfl, hd⟩, fun x v hx => ?_⟩
  have := hf x
  rw [hx] at this
  cases hq : m x with
  | none => rw [hq] at this; cases this
  | some u =>
    rw [hq] at this
    refine ⟨u, by simpa using this, ?_⟩
    unfold lookIn
    rw [hdat]
    have hn := hm x
    rw [hq] at hn
    unfold nsFind findBy at hn
    rw [← Array.find?_toList] at hn
    dsimp only
    cases hz : es.toList.find? (·.key.isStr x) with
    | none => rw [hz] at hn; cases hn
    | some en => rw [hz] at hn; simpa using hn

def attrOwn (K : Frag) (C : Addr) (x : Str) : Bool := plainGet K C x && hasDictIn K C && (match findIn K (.ref C) x with | some attr => noGet K attr | none => false)
theorem handedIn_nv {u v : Value} (h : nv u = v) (hv : handedIn v = true) : handedIn u = true := by
  subst h
  cases u <;> simp_all [nv, handedIn]
theorem getAttr_inst {a K : Addr} {fs : Loc} {x : Str} {v : Value} {expr : Bool} (S : St C σ s.heap) (e : σ a = some (.inst K fs)) (hx : fs.lookup x = some v) (hk : attrOwn C.K K x = true) (hv : handedIn v = true)
    {R : Value → Shared → Prop} {E : Value → Shared → Prop} (k : ∀ u, nv u = v → R u { s with toks := s.toks + 1 }) : wpAny C.M A (getAttr (.ref a) x expr) R E s := by
  obtain ⟨d, od, I, hf⟩ := S.inst e
  obtain ⟨u, hu, hl⟩ := hf x v hx
  unfold attrOwn at hk
  simp only [Bool.and_eq_true] at hk
  obtain ⟨⟨h1, h2⟩, h3⟩ := hk
  split at h3
  · rename_i attr ha
    exact get_value S.K I (plainGet_of h1).1 (findObj_own h2 ha h3 hl) (handedIn_nv hu hv) (k u hu)
  · cases h3
theorem EV_attr {o : Expr} {a K : Addr} {fs : Loc} {x : Str} {v : Value} {pos : Pos} (ho : EV C A env m σ o (.ref a)) (e : σ a = some (.inst K fs)) (hx : fs.lookup x = some v) (hk : attrOwn C.K K x = true) (hv : handedIn v = true := by rfl)
    (he : eval (.Attribute o x pos) env = (do
      let r ← eval o env
      standAt pos.atName
      let r' ← holding [r] (getAttr r x true)
      letTemporaryGo o r r'
      pure r') := by with_unfolding_all rfl) : EV C A env m σ (.Attribute o x pos) v := EV.of fun σ₀ s₀ s R E W k =>
  Attribute_any_ (ho.run W fun u s₁ hu W₁ => by
    obtain rfl := nv_to_ref hu
    exact getAttr_inst W₁.st e hx hk hv fun u' hu' => k u' _ hu' (W₁.tok _)) he

-- truth of values
def Tru (C : Cx) (A : Around) (σ : Ab) (v : Value) (b : Bool) : Prop :=
  ∀ u, nv u = v → ∀ s (R : Bool → Shared → Prop) (E : Value → Shared → Prop), St C σ s.heap → (∀ tk, R b { s with toks := tk }) → wpAny C.M A (truthy u) R E s
theorem Tru.bool (b : Bool) : Tru C A σ (.bool b) b := fun u hu s R E S k => by obtain rfl := nv_to_bool hu; exact wpAny_truthy_bool (k _)
theorem Tru.inst {a K : Addr} {fs : Loc} (e : σ a = some (.inst K fs)) (hs : findIn C.K (.ref K) "__bool__" = some none) (hl : findIn C.K (.ref K) "__len__" = some none) : Tru C A σ (.ref a) true := fun u hu s R E S k => by
  obtain rfl := nv_to_ref hu
  obtain ⟨d, od, I, _⟩ := S.inst e
  unfold truthy
  refine wpAny_bind (m := callSpecial? (.ref a) (Str.ofString "__bool__")) (wpAny_bind (wpAny_bind (I.type.here ((looks_findIn S.K hs).here (wpAny_pure ?_)))))
  refine wpAny_bind (wpAny_bind (I.type.here ((looks_findIn S.K hl).here ?_)))
  exact wpAny_pure (k _)

-- lists, tuples
theorem St.isList {h : Heap} (S : St C σ h) {a : Addr} {xs : List Value} (e : σ a = some (.list xs)) : ∃ vs : Array Value, h.IsList a vs ∧ vs.toList.map nv = xs := by
  obtain ⟨vs, n, ho, hx⟩ := S.rep a _ e
  exact ⟨vs, ⟨_, ho, rfl, n, rfl⟩, hx⟩
theorem St.isTup {h : Heap} (S : St C σ h) {a : Addr} {xs : List Value} (e : σ a = some (.tup xs)) : ∃ vs : Array Value, IsTup h a vs ∧ vs.toList.map nv = xs := by
  obtain ⟨vs, n, ho, hx⟩ := S.rep a _ e
  exact ⟨vs, ⟨_, ho, rfl, n, rfl⟩, hx⟩
theorem get_of_map {vs : Array Value} {xs : List Value} (h : vs.toList.map nv = xs) {i : Nat} {v : Value} (hi : xs[i]? = some v) : ∃ u, vs[i]? = some u ∧ nv u = v := by
  subst h
  rw [List.getElem?_map, Array.getElem?_toList] at hi
  obtain ⟨u, hu, rfl⟩ := Option.map_eq_some_iff.mp hi
  exact ⟨u, hu, rfl⟩
theorem size_of_map {vs : Array Value} {xs : List Value} (h : vs.toList.map nv = xs) : vs.size = xs.length := by subst h; simp
/-- the value at a place, by an int -/
def Itm (C : Cx) (A : Around) (σ : Ab) (o i v : Value) : Prop :=
  ∀ o' i', nv o' = o → nv i' = i → ∀ s (R : Value → Shared → Prop) (E : Value → Shared → Prop), St C σ s.heap → (∀ u tk, nv u = v → R u { s with toks := tk }) → ∀ value slice : Expr, (∀ o i, subscripted slice false o i = operate [o, i] (getItem o i)) → wpAny C.M A (subscriptTail value slice o' i') R E s
theorem Itm.list {a : Addr} {xs : List Value} {i : Int} {v : Value} (e : σ a = some (.list xs)) (h0 : 0 ≤ i) (hf : i < 2 ^ 63) (hx : xs[i.toNat]? = some v) : Itm C A σ (.ref a) (.int i 0) v := fun o' i' ho hi s R E S k value slice hs => by
  obtain rfl := nv_to_ref ho
  obtain ⟨t, rfl⟩ := nv_to_int hi
  obtain ⟨vs, hl, hm⟩ := S.isList e
  obtain ⟨u, hu, hv⟩ := get_of_map hm hx
  exact tail_any hl.typeIs slot_list_getitem.lookup (wpAny_getItem_list hl h0 hf hu (k u s.toks hv)) (hs _ _)
theorem Itm.tup {a : Addr} {xs : List Value} {i : Nat} {v : Value} (e : σ a = some (.tup xs)) (hf : i < 1000) (hx : xs[i]? = some v) : Itm C A σ (.ref a) (.int i 0) v := fun o' i' ho hi s R E S k value slice hs => by
  obtain rfl := nv_to_ref ho
  obtain ⟨t, rfl⟩ := nv_to_int hi
  obtain ⟨vs, hl, hm⟩ := S.isTup e
  obtain ⟨u, hu, hv⟩ := get_of_map hm hx
  obtain ⟨ot, hot, hotc, _⟩ := id hl
  have hlt : i < vs.size := (Array.getElem?_eq_some_iff.mp hu).1
  refine tail_any (T := "tuple") ⟨ot, hot, hotc⟩ slot_tuple_getitem.lookup (PyProof.Rows.getItem_tuple (j := i) hl (by omega) (by omega) ?_ hu (k u s.toks hv)) (hs _ _)
  have e2 : ((i : Int) < (vs.size : Int)) := Int.ofNat_lt.mpr hlt
  simp [seqIndex?]
  omega
theorem EV_item {o i : Expr} {vo vi v : Value} {pos : Pos} (ho : EV C A env m σ o vo) (hi : EV C A env m σ i vi) (h : Itm C A σ vo vi v)
    (hs : ∀ o i', subscripted i false o i' = operate [o, i'] (getItem o i') := by intro _ _; with_unfolding_all rfl) : EV C A env m σ (.Subscript o i pos) v := EV.of fun σ₀ s₀ s R E W k =>
  PyProof.Rows.Subscript_ (ho.run W fun u s₁ hu W₁ => hi.run W₁ fun j s₂ hj W₂ => h u j hu hj s₂ R E W₂.st (fun w tk hw => k w _ hw (W₂.tok tk)) _ _ hs)

-- dicts
theorem isStrKind {x : Str} {t : Tok} : (PySem.strKind C.prog C.w).is x (.str x t) = true := by simp [PySem.strKind, Value.isStrOf]
theorem isBytesKind {x : List UInt8} {t : Tok} : (bytesKind C.prog C.w).is x (.bytes x.toArray t) = true := bytesKind_is _ _ _ _
theorem isIntKind {x : Int} {t : Tok} : (PySem.intKind C.prog C.w).is x (.int x t) = true := by simp [PySem.intKind, Value.isInt]
theorem Cmp.in_dS {a : Addr} {f : Str → Option Value} {n : Nat} {x : Str} (e : σ a = some (.dS f n)) : Cmp C A σ .In (.str x 0) (.ref a) (f x).isSome := fun x' a' hx ha s R E S k => by
  obtain ⟨t, rfl⟩ := nv_to_str hx
  obtain rfl := nv_to_ref ha
  obtain ⟨h1, kvs, hd, hn, hf⟩ := S.rep a _ e
  have hg := hd.mapOf
  refine wpAny_in_of isStrKind h1 hg ?_
  have : (valueAt kvs x).isSome = (f x).isSome := by rw [← hf x, Option.isSome_map]
  rw [this]; exact k _
theorem Cmp.notIn_dS {a : Addr} {f : Str → Option Value} {n : Nat} {x : Str} (e : σ a = some (.dS f n)) : Cmp C A σ .NotIn (.str x 0) (.ref a) (!(f x).isSome) := fun x' a' hx ha s R E S k => by
  obtain ⟨t, rfl⟩ := nv_to_str hx
  obtain rfl := nv_to_ref ha
  obtain ⟨h1, kvs, hd, hn, hf⟩ := S.rep a _ e
  have hg := hd.mapOf
  refine wpAny_notIn_of isStrKind h1 hg ?_
  have : (valueAt kvs x).isSome = (f x).isSome := by rw [← hf x, Option.isSome_map]
  rw [this]; exact k _
theorem Cmp.in_dI {a : Addr} {f : Int → Option Value} {n : Nat} {x : Int} (e : σ a = some (.dI f n)) : Cmp C A σ .In (.int x 0) (.ref a) (f x).isSome := fun x' a' hx ha s R E S k => by
  obtain ⟨t, rfl⟩ := nv_to_int hx
  obtain rfl := nv_to_ref ha
  obtain ⟨h1, kvs, hd, hn, hf⟩ := S.rep a _ e
  have hg := hd.mapOf
  refine wpAny_in_of isIntKind h1 hg ?_
  have : (valueAt kvs x).isSome = (f x).isSome := by rw [← hf x, Option.isSome_map]
  rw [this]; exact k _
theorem Itm.dS {a : Addr} {f : Str → Option Value} {n : Nat} {x : Str} {v : Value} (e : σ a = some (.dS f n)) (hx : f x = some v) : Itm C A σ (.ref a) (.str x 0) v := fun o' i' ho hi s R E S k value slice hs => by
  obtain rfl := nv_to_ref ho
  obtain ⟨t, rfl⟩ := nv_to_str hi
  obtain ⟨h1, kvs, hd, hn, hf⟩ := S.rep a _ e
  have hg := hd.mapOf
  have := hf x
  rw [hx] at this
  obtain ⟨u, hu, hv⟩ := Option.map_eq_some_iff.mp this
  exact tail_any hg.typeIs slot_dict_getitem.lookup (wpAny_getItem_of isStrKind hg hu (k u _ hv)) (hs _ _)
end
end J
end

section
open PySem PySem.W PySem.Calls PyProof.Rows
set_option Elab.async false
set_option linter.unusedVariables false
namespace J
section
variable {C : Cx} {A : Around} {env : Env} {m : Loc} {σ σ₀ σ' : Ab} {s s₀ s' : Shared}

-- a step that turns the heap elsewhere
theorem Wd.ext (W : Wd C A env m σ₀ s₀ σ s) {h' : Heap} {tk : Nat} (k : ∀ b o, s.heap.get? b = some o → h'.get? b = some o) : Wd C A env m σ₀ s₀ σ { s with heap := h', toks := tk } :=
  W.go (s' := { s with heap := h', toks := tk }) (W.st.ext k) (Mv.heap (fun b o e _ _ => k b o e) fun b o e n => ⟨n, o, k b o e⟩)
theorem Wv.ext (W : Wv C A σ₀ s₀ σ s) {h' : Heap} {tk : Nat} (k : ∀ b o, s.heap.get? b = some o → h'.get? b = some o) : Wv C A σ₀ s₀ σ { s with heap := h', toks := tk } :=
  W.go (s' := { s with heap := h', toks := tk }) (W.st.ext k) (Mv.heap (fun b o e _ _ => k b o e) fun b o e n => ⟨n, o, k b o e⟩)
theorem Wx.ext (W : Wx C A env m σ₀ s₀ σ s) {h' : Heap} {tk : Nat} (k : ∀ b o, s.heap.get? b = some o → h'.get? b = some o) : Wx C A env m σ₀ s₀ σ { s with heap := h', toks := tk } := W.step (W.wd.ext k)

theorem lookup_cons_self {x : Str} {v : Value} {m : Loc} : List.lookup x ((x, v) :: m) = some v := by simp [List.lookup]
theorem lookup_cons_ne {x y : Str} {v : Value} {m : Loc} (h : x ≠ y) : List.lookup x ((y, v) :: m) = m.lookup x := by
  rw [List.lookup_cons]
  have : (x == y) = false := by simpa using h
  rw [this]

-- STORES
theorem FOk.storeL (O : FOk C env m σ s.heap) {x : Str} {u : Value} {M : Str → Option Value} {h' : Heap} (hl : env.kindOf x = some .local) (hM : ∀ y v, m.lookup y = some v → env.kindOf y = some .local → ∃ u, M y = some u ∧ nv u = v)
    (hn : h'.Ns env.locals (fun y => if y = x then some u else M y)) (hs : Heap.SameBut env.locals s.heap h') : FOk C env ((x, nv u) :: m) σ h' := by
  refine ⟨O.fn, O.gl, O.bi, O.nd, ⟨_, hn, fun y v hy hk => ?_⟩, fun y c hc => ?_, fun y v hy hk => ?_, O.inj⟩
  · by_cases q : y = x
    · subst q; rw [lookup_cons_self] at hy; cases hy; exact ⟨u, by simp, rfl⟩
    · rw [lookup_cons_ne q] at hy; rw [if_neg q]; exact hM y v hy hk
  · obtain ⟨h1, v, o, ho, hd⟩ := O.cl y c hc
    exact ⟨h1, v, o, (hs.2 c h1).trans ho, hd⟩
  · have q : y ≠ x := by rintro rfl; rw [hl] at hk; rcases hk with hk | hk <;> cases hk
    rw [lookup_cons_ne q] at hy
    obtain ⟨c, u', hc, ⟨o, ho, hd⟩, hu⟩ := O.ce y v hy hk
    exact ⟨c, u', hc, ⟨o, (hs.2 c (O.cl y c hc).1).trans ho, hd⟩, hu⟩
theorem FOk.storeC (O : FOk C env m σ s.heap) {x : Str} {c : Addr} {u : Value} {h' : Heap} (hl : env.kindOf x = some .cell) (hc : env.cells.lookup x = some c)
    (hn : h'.IsCell c (some u)) (hs : Heap.SameBut c s.heap h') : FOk C env ((x, nv u) :: m) σ h' := by
  have hcL := (O.cl x c hc).1
  refine ⟨O.fn, O.gl, O.bi, O.nd, ?_, fun y c' hc' => ?_, fun y v hy hk => ?_, O.inj⟩
  · obtain ⟨M, hM, hm⟩ := O.ns
    refine ⟨M, hM.sameBut hs (Ne.symm hcL), fun y v hy hk => ?_⟩
    have q : y ≠ x := by rintro rfl; rw [hl] at hk; cases hk
    rw [lookup_cons_ne q] at hy; exact hm y v hy hk
  · obtain ⟨h1, v, o, ho, hd⟩ := O.cl y c' hc'
    by_cases q : c' = c
    · subst q; exact ⟨h1, _, hn⟩
    · exact ⟨h1, v, o, (hs.2 c' q).trans ho, hd⟩
  · by_cases q : y = x
    · subst q; rw [lookup_cons_self] at hy; cases hy; exact ⟨c, u, hc, hn, rfl⟩
    · rw [lookup_cons_ne q] at hy
      obtain ⟨c', u', hc', ⟨o, ho, hd⟩, hu⟩ := O.ce y v hy hk
      have q' : c' ≠ c := by rintro rfl; exact q (O.inj _ _ _ hc' hc)
      exact ⟨c', u', hc', ⟨o, (hs.2 c' q').trans ho, hd⟩, hu⟩
theorem Wx.turnOwn (W : Wx C A env m σ₀ s₀ σ s) {m' : Loc} {b : Addr} {h' : Heap} {tk : Nat} (hb : J.own env b) (hs : Heap.SameBut b s.heap h') (ha : ∃ o, h'.get? b = some o) (O' : FOk C env m' σ h') : Wx C A env m' σ₀ s₀ σ { s with heap := h', toks := tk } := by
  obtain ⟨nd, nh⟩ := W.ok.nd b hb
  have M : Mv (J.own env) σ σ s { s with heap := h', toks := tk } := Mv.heap (fun c o e _ n => (hs.2 c (fun q => n (q ▸ hb))).trans e) fun c o e n => ⟨n, (by
    by_cases q : c = b
    · subst q; exact ha
    · exact ⟨o, (hs.2 c q).trans e⟩)⟩
  refine ⟨W.st.keeps fun c o hc e => (hs.2 c ?_).trans e, W.fs.mvX (s' := { s with heap := h', toks := tk }) M W.ok O', O', W.mv.trans M⟩
  rintro rfl
  rcases hc with d | q
  · exact nd d
  · rw [nh] at q; cases q
theorem Wx.storeL (W : Wx C A env m σ₀ s₀ σ s) {x : Str} {u : Value} {R : Unit → Shared → Prop} {E : Value → Shared → Prop} (hl : env.kindOf x = some .local)
    (k : ∀ s', Wx C A env ((x, nv u) :: m) σ₀ s₀ σ s' → R () s') : wpAny C.M A (storeName env x u) R E s := by
  obtain ⟨M, hM, hm⟩ := W.ok.ns
  refine wpAny_storeName_local hl hM (fun h' hn hs => k _ (W.turnOwn (.inl rfl) hs ?_ (W.ok.storeL hl hm hn hs))) ?_
  · obtain ⟨o, _, _, ho, _⟩ := hn; exact ⟨o, ho⟩
  · rw [W.ok.fn]; rfl
theorem Wx.storeC (W : Wx C A env m σ₀ s₀ σ s) {x : Str} {u : Value} {R : Unit → Shared → Prop} {E : Value → Shared → Prop} (hl : env.kindOf x = some .cell) (hc : ∃ c, env.cells.lookup x = some c)
    (k : ∀ s', Wx C A env ((x, nv u) :: m) σ₀ s₀ σ s' → R () s') : wpAny C.M A (storeName env x u) R E s := by
  obtain ⟨c, hc⟩ := hc
  obtain ⟨_, v₀, hv⟩ := W.ok.cl x c hc
  refine wpAny_storeName_cell W.ok.fn hl hc hv fun h' hn hs => ?_
  have := W.turnOwn (tk := s.toks) (.inr ⟨x, hc⟩) hs (let ⟨o, ho, _⟩ := hn; ⟨o, ho⟩) (W.ok.storeC hl hc hn hs)
  exact k _ this
/-- the name takes a store -/
def Sto (env : Env) (x : Str) : Prop := env.kindOf x = some .local ∨ (env.kindOf x = some .cell ∧ ∃ c, env.cells.lookup x = some c)
theorem Wx.store (W : Wx C A env m σ₀ s₀ σ s) {x : Str} {u : Value} {R : Unit → Shared → Prop} {E : Value → Shared → Prop} (h : Sto env x)
    (k : ∀ s', Wx C A env ((x, nv u) :: m) σ₀ s₀ σ s' → R () s') : wpAny C.M A (storeName env x u) R E s := by
  rcases h with hl | ⟨hl, hc⟩
  · exact W.storeL hl k
  · exact W.storeC hl hc k

-- STATEMENTS
theorem TE.use {e : Expr} {Q : Value → Ab → Prop} (h : TE C A env m e σ Q) (W : Wx C A env m σ₀ s₀ σ s) {R : Value → Shared → Prop} {E : Value → Shared → Prop} (k : ∀ v s' σ', Wx C A env m σ₀ s₀ σ' s' → Q (nv v) σ' → R v s') : wpAny C.M A (eval e env) R E s :=
  h σ s s R E W.wd fun v s' σ' W' q => k v s' σ' (W.step W') q
theorem TF.use {α β : Type} {t : Sem α} {n : α → β} {Q : β → Ab → Prop} (h : TF C A env m t n σ Q) (W : Wx C A env m σ₀ s₀ σ s) {R : α → Shared → Prop} {E : Value → Shared → Prop} (k : ∀ v s' σ', Wx C A env m σ₀ s₀ σ' s' → Q (n v) σ' → R v s') : wpAny C.M A t R E s :=
  h σ s s R E W.wd fun v s' σ' W' q => k v s' σ' (W.step W') q
theorem TXs_nil {Q : Flow → Loc → Ab → Prop} (h : Q .next m σ) : TXs C A env m [] σ Q := fun σ₀ s₀ s R E W k => wpAny_execs_nil (k _ _ _ _ W h)
theorem TXs_cons {st : Stmt} {rest : List Stmt} {Q : Flow → Loc → Ab → Prop} (h : TX C A env m st σ fun f m' σ' => match f with | .next => TXs C A env m' rest σ' Q | f => Q f m' σ') : TXs C A env m (st :: rest) σ Q := fun σ₀ s₀ s R E W k => by
  refine wpAny_execs_cons (h σ₀ s₀ s _ E W fun f s' m' σ' W' q => ?_)
  cases f with
  | next => exact q σ₀ s₀ s' R E W' k
  | brk => exact k _ _ _ _ W' q
  | cont => exact k _ _ _ _ W' q
  | ret v => exact k _ _ _ _ W' q
theorem TX_assign {x : Str} {pos' pos : Pos} {value : Expr} {Q : Flow → Loc → Ab → Prop} (hx : Sto env x) (h : TE C A env m value σ fun v σ' => Q .next ((x, v) :: m) σ')
    (hs : swapsWith value (some (.Name x pos')) pos.line env = pure false := by rfl) : TX C A env m (.Assign [.Name x pos'] value pos) σ Q := fun σ₀ s₀ s R E W k =>
  wpAny_Assign_Name (h.use W fun v s' σ' W' q => W'.store hx fun s'' W'' => k _ _ _ _ W'' q) hs
theorem TX_expr {e : Expr} {pos : Pos} {Q : Flow → Loc → Ab → Prop} (h : TE C A env m e σ fun _ σ' => Q .next m σ')
    (hi : interactive env = false := by rfl) (hs : swapsWith e none pos.line env = pure false := by rfl) : TX C A env m (.Expr e pos) σ Q := fun σ₀ s₀ s R E W k =>
  wpAny_Expr_any (h.use W fun v s' σ' W' q => k _ _ _ _ W' q) hi hs
theorem TX_ret {e : Expr} {pos : Pos} {Q : Flow → Loc → Ab → Prop} (h : TE C A env m e σ fun v σ' => Q (.ret v) m σ') : TX C A env m (.Return (some e) pos) σ Q := fun σ₀ s₀ s R E W k =>
  wpAny_Return_some (h.use W fun v s' σ' W' q => k _ _ _ _ W' q)
theorem TX_if {test : Expr} {body orelse : List Stmt} {pos : Pos} {Q : Flow → Loc → Ab → Prop} (h : TB C A env m test σ fun b σ' => if b = true then TXs C A env m body σ' Q else TXs C A env m orelse σ' Q) : TX C A env m (.If test body orelse pos) σ Q := fun σ₀ s₀ s R E W k =>
  wpAny_If (TF.use h W fun b s' σ' W' q => by
    cases b with
    | true => rw [if_pos rfl]; exact (show TXs C A env m body σ' Q by simpa using q) σ₀ s₀ s' R E W' k
    | false => rw [if_neg Bool.false_ne_true]; exact (show TXs C A env m orelse σ' Q by simpa using q) σ₀ s₀ s' R E W' k)
theorem TX_ifB {test : Expr} {body orelse : List Stmt} {pos : Pos} {b : Bool} {Q : Flow → Loc → Ab → Prop} (ht : EB C A env m σ test b) (h1 : b = true → TXs C A env m body σ Q) (h2 : b = false → TXs C A env m orelse σ Q) : TX C A env m (.If test body orelse pos) σ Q :=
  TX_if (ht.tb (by cases b with | true => rw [if_pos rfl]; exact h1 rfl | false => rw [if_neg Bool.false_ne_true]; exact h2 rfl))
theorem TX_pass {pos : Pos} {Q : Flow → Loc → Ab → Prop} (h : Q .next m σ) : TX C A env m (.Pass pos) σ Q := fun σ₀ s₀ s R E W k => wpAny_Pass (k _ _ _ _ W h)
theorem TX_continue {pos : Pos} {Q : Flow → Loc → Ab → Prop} (h : Q .cont m σ) : TX C A env m (.Continue pos) σ Q := fun σ₀ s₀ s R E W k => wpAny_Continue (k _ _ _ _ W h)
theorem TE_if {test a b : Expr} {pos : Pos} {Q : Value → Ab → Prop} {c : Bool} (ht : EB C A env m σ test c) (h1 : c = true → TE C A env m a σ Q) (h2 : c = false → TE C A env m b σ Q) : TE C A env m (.IfExp test a b pos) σ Q := fun σ₀ s₀ s R E W k =>
  wpAny_IfExp (ht.run W fun s' W' => by
    cases c with
    | true => rw [if_pos rfl]; exact h1 rfl σ₀ s₀ s' R E W' k
    | false => rw [if_neg Bool.false_ne_true]; exact h2 rfl σ₀ s₀ s' R E W' k)
theorem EV_if {test a b : Expr} {pos : Pos} {c : Bool} {v : Value} (ht : EB C A env m σ test c) (h1 : c = true → EV C A env m σ a v) (h2 : c = false → EV C A env m σ b v) : EV C A env m σ (.IfExp test a b pos) v :=
  fun Q q => TE_if ht (fun h => h1 h Q q) fun h => h2 h Q q
end
end J
end

section
open PySem PySem.W PySem.Calls PyProof.Rows
set_option Elab.async false
set_option linter.unusedVariables false
namespace J
section
variable {C : Cx} {A : Around} {env : Env} {m : Loc} {σ σ₀ σ' : Ab} {s s₀ s' : Shared}

/-- the locals that a call lays -/
def locOf (binds : List (Str × Value)) : Loc := (binds.map fun p => (p.1, nv p.2)).reverse
theorem lookup_locOf {binds : List (Str × Value)} {x : Str} {v : Value} (h : (locOf binds).lookup x = some v) : ∃ u, binds.reverse.lookup x = some u ∧ nv u = v := by
  unfold locOf at h
  rw [← List.map_reverse] at h
  generalize binds.reverse = l at h ⊢
  induction l with
  | nil => cases h
  | cons p r ih =>
    obtain ⟨y, u⟩ := p
    rw [List.map_cons, List.lookup_cons] at h
    rw [List.lookup_cons]
    cases q : x == y with
    | true => rw [q] at h; exact ⟨u, rfl, by simpa using h⟩
    | false => rw [q] at h; exact ih h

theorem Wv.size (W : Wv C A σ₀ s₀ σ s) : C.h₀.get? s.heap.objs.size = none := by
  cases q : C.h₀.get? s.heap.objs.size with
  | none => rfl
  | some o => exact absurd (Heap.lt_size (W.st.keep _ _ q)) (Nat.lt_irrefl _)

/-- a call, as code -/
def TC (C : Cx) (A : Around) (f : Value) (us : List Value) (σ : Ab) (Q : Value → Ab → Prop) : Prop :=
  ∀ σ₀ s₀ s (R : Value → Shared → Prop) (E : Value → Shared → Prop), Wv C A σ₀ s₀ σ s → (∀ v s' σ', Wv C A σ₀ s₀ σ' s' → Q (nv v) σ' → R v s') →
    codeAny C.M A (.call f ⟨us, []⟩) (fun r s' => match r with | .ok (.ret v) => R v s' | .ok _ => False | .error e => E e s') s
theorem TC.tv {f : Value} {us : List Value} {Q : Value → Ab → Prop} (h : TC C A f us σ Q) : TV C A (call f us) nv σ Q := fun σ₀ s₀ s R E W k => wpAny_call (h σ₀ s₀ s R E W k)
theorem TC.mono {f : Value} {us : List Value} {Q Q' : Value → Ab → Prop} (h : TC C A f us σ Q) (k : ∀ v σ', Q v σ' → Q' v σ') : TC C A f us σ Q' := fun σ₀ s₀ s R E W r => h σ₀ s₀ s R E W fun v s' σ' W' q => r v s' σ' W' (k _ _ q)
theorem TC.drop {f : Value} {us : List Value} {Q : Value → Ab → Prop} (h : TC C A f us σ fun v σ' => ∃ σ'', Sub σ'' σ' ∧ Q v σ'') : TC C A f us σ Q := fun σ₀ s₀ s R E W r => h σ₀ s₀ s R E W fun v s' σ' W' ⟨σ'', x, q⟩ => r v s' σ'' (W'.sub x) q
theorem TC.pre {f : Value} {us : List Value} {Q : Value → Ab → Prop} (x : Sub σ' σ) (h : TC C A f us σ' Q) : TC C A f us σ Q := fun σ₀ s₀ s R E W r => h σ₀ s₀ s R E (W.sub x) r

/-- a call of a def of the text -/
theorem TC_call {f : Addr} {oc : Value} {od : Option Addr} {osl : Array (Option Value)} {fd : FuncData} {body : List Stmt} {args : List Value} {binds : List (Str × Value)} {Q : Value → Ab → Prop}
    (hA : A.depth < recursionLimit) (hf : C.K.lookup f = some ⟨oc, od, .func fd, osl⟩) (hcd : codeIn C.K fd.code fd.qualname = true) (hbody : fd.body = .stmts body)
    (hb : ∀ S, peek C.K S (bindArgs fd ⟨args, []⟩) = some binds) (hcell : ∀ x ∈ fd.scope.names, x.2 ≠ .cell) (hloc : ∀ x ∈ binds, fd.scope.names.lookup x.1 = some .local)
    (h : ∀ L, ¬ dom σ L → TXs C (A.deeper (callEnv fd L f)) (callEnv fd L f) (locOf binds) body σ fun fl _ σ' => Q (match fl with | .ret v => v | _ => .none) σ')
    (hco : fd.scope.isCoroutine = false := by rfl) (hgen : fd.scope.isGenerator = false := by rfl) (hk : fd.scope.kind = .function := by rfl)
    (hgl : fd.globals = mainGlobals := by rfl) (hbi : fd.builtins = builtinsNs := by rfl) (hcl : fd.closure = [] := by rfl) : TC C A (.ref f) args σ Q := fun σ₀ s₀ s R E W k => by
  have nL : ¬ dom σ s.heap.objs.size := W.st.fresh (Nat.le_refl _)
  have hL0 : C.h₀.get? s.heap.objs.size = none := W.size
  have hown : ∀ b, own (callEnv fd s.heap.objs.size f) b ↔ b = s.heap.objs.size := fun b => by
    unfold own callEnv newEnv
    simp [hcl]
  refine codeAny_call_def hA (W.st.K _ _ hf) rfl (C.T.nolimit.keeps W.st.keep) (codeRec_of W.st.K hcd) hbody (kp_binds W.st.K hb) hcell hloc (fun h₁ hns hk₁ => ?_) hco hgen hk
  have S₁ : St C σ h₁ := W.st.ext hk₁
  have O₁ : FOk C (callEnv fd s.heap.objs.size f) (locOf binds) σ h₁ := by
    refine ⟨hk, hgl, hbi, fun b hb => ?_, ⟨_, hns, fun x v hx _ => ?_⟩, fun x c hc => ?_, fun x v hx hkk => ?_, fun x y c hc _ => ?_⟩
    · rw [(hown b).mp hb]; exact ⟨nL, hL0⟩
    · exact lookup_locOf hx
    · exact absurd hc (by unfold callEnv newEnv; simp [hcl])
    · obtain ⟨u, hu, _⟩ := lookup_locOf hx
      have hmem : (x, u) ∈ binds := List.mem_reverse.mp (by
        have : ∀ l : List (Str × Value), l.lookup x = some u → (x, u) ∈ l := fun l => by
          induction l with
          | nil => intro q; cases q
          | cons p r ih =>
            intro q
            obtain ⟨y, w⟩ := p
            rw [List.lookup_cons] at q
            cases z : x == y with
            | true => rw [z] at q; cases q; rw [eq_of_beq z]; exact .head _
            | false => rw [z] at q; exact .tail _ (ih q)
        exact this _ hu)
      have := hloc _ hmem
      have hkk' : fd.scope.names.lookup x = some .cell ∨ fd.scope.names.lookup x = some .free := hkk
      rw [this] at hkk'
      rcases hkk' with q | q <;> cases q
    · exact absurd hc (by unfold callEnv newEnv; simp [hcl])
  have F₁ : Fs C (A.deeper (callEnv fd s.heap.objs.size f)) σ h₁ := by
    obtain ⟨l, hl, hf, hd⟩ := W.fs
    refine ⟨callEnv fd s.heap.objs.size f :: l, Around.frames_deeper hl, .cons (L := s.heap.objs.size) (by show fd.scope.kind ≠ .module; rw [hk]; decide) rfl hns hL0 (FunFrames.turn hf fun e he L o hL ho hv => ⟨o, hk₁ L o ho, hv⟩), fun e he L hL => ?_⟩
    rcases List.mem_cons.mp he with rfl | he
    · obtain rfl : s.heap.objs.size = L := Option.some.inj hL
      exact nL
    · exact hd e he L hL
  refine h _ nL σ { s with heap := h₁, toks := s.toks + binds.length } _ _ _ ⟨S₁, F₁, O₁, Mv.refl ..⟩ fun fl s' m' σ' W' q => ?_
  have M : Mv No σ σ' s s' := by
    refine ⟨fun b o e n _ => W'.mv.kp b o (hk₁ b o e) n fun z => ?_, fun b o e n => W'.mv.fr b o (hk₁ b o e) n, W'.mv.os, W'.mv.gen⟩
    rw [(hown b).mp z] at e
    exact absurd (Heap.lt_size e) (Nat.lt_irrefl _)
  cases fl with
  | ret v => exact k v s' σ' (W.go W'.st M) q
  | next => exact k .none s' σ' (W.go W'.st M) q
  | brk => exact k .none s' σ' (W.go W'.st M) q
  | cont => exact k .none s' σ' (W.go W'.st M) q

-- ARGUMENTS
abbrev TAs (C : Cx) (A : Around) (env : Env) (m : Loc) (pos : Pos) (es : List Expr) (σ : Ab) (Q : List Value → Ab → Prop) : Prop := TF C A env m (spliced (backTo pos (starEach es env))) (List.map nv) σ Q
theorem TAs_nil {pos : Pos} {Q : List Value → Ab → Prop} (h : Q [] σ) : TAs C A env m pos [] σ Q := fun σ₀ s₀ s R E W k => spliced_none (k [] s σ W h)
theorem TAs_cons {pos : Pos} {e : Expr} {es : List Expr} {Q : List Value → Ab → Prop} (h : TE C A env m e σ fun v σ' => TAs C A env m pos es σ' fun vs σ'' => Q (v :: vs) σ'')
    (he : starEach (e :: es) env = (false, eval e env) :: starEach es env := by rfl) : TAs C A env m pos (e :: es) σ Q := fun σ₀ s₀ s R E W k =>
  spliced_more (h σ₀ s₀ s _ E W fun v s' σ' W' q => q σ₀ s₀ s' _ E W' fun vs s'' σ'' W'' q' => k (v :: vs) s'' σ'' W'' q') he
/-- the arguments are all read-only -/
inductive EVs (C : Cx) (A : Around) (env : Env) (m : Loc) (σ : Ab) : List Expr → List Value → Prop
  | nil : EVs C A env m σ [] []
  | cons {e : Expr} {es : List Expr} {v : Value} {vs : List Value} : EV C A env m σ e v → EVs C A env m σ es vs → starEach (e :: es) env = (false, eval e env) :: starEach es env → EVs C A env m σ (e :: es) (v :: vs)
theorem EVs.tas {pos : Pos} {es : List Expr} {vs : List Value} {Q : List Value → Ab → Prop} (h : EVs C A env m σ es vs) (q : Q vs σ) : TAs C A env m pos es σ Q := by
  induction h generalizing Q with
  | nil => exact TAs_nil q
  | cons he hs hx ih => exact TAs_cons (he.te (ih q)) hx

/-- f is called with the values as; the answer, whatever tokens they bear -/
def CallR (C : Cx) (A : Around) (f : Value) (as : List Value) (σ : Ab) (Q : Value → Ab → Prop) : Prop := ∀ us, us.map nv = as → TV C A (call f us) nv σ Q

theorem CallR.run {f : Value} {as us : List Value} {Q : Value → Ab → Prop} (h : CallR C A f as σ Q) (hu : us.map nv = as) (W : Wd C A env m σ₀ s₀ σ s) {R : Value → Shared → Prop} {E : Value → Shared → Prop}
    (k : ∀ v s' σ', Wd C A env m σ₀ s₀ σ' s' → Q (nv v) σ' → R v s') : wpAny C.M A (call f us) R E s := (h us hu).tf σ₀ s₀ s R E W k
theorem callWith_own0 {pos : Pos} {f : Value} {first : List Value} {Q : Value → Ab → Prop} (hk : keepIn C.K f = true) (h : CallR C A f (first.map nv) σ Q) :
    TF C A env m (callWith pos f first (backTo pos (starEach [] env)) []) nv σ Q := fun σ₀ s₀ s R E W k =>
  callWith_K0 W.st.K hk (h.run (by simp) W k)
theorem callWith_own {pos : Pos} {f : Value} {first : List Value} {e : Expr} {es : List Expr} {Q : Value → Ab → Prop} (hk : keepIn C.K f = true)
    (h : TAs C A env m pos (e :: es) σ fun vs σ' => CallR C A f (first.map nv ++ vs) σ' Q)
    (he : starEach (e :: es) env = (false, eval e env) :: starEach es env := by rfl) (hp : (backTo pos (starEach es env)).any (·.1) = false := by rfl) :
    TF C A env m (callWith pos f first (backTo pos (starEach (e :: es) env)) []) nv σ Q := fun σ₀ s₀ s R E W k =>
  callWith_K C.X hk (h σ₀ s₀ s _ E W fun vs s' σ' W' q => ⟨W'.st.K, q.run (by simp) W' k⟩) he hp

/-- a call of a def or class by its global name -/
theorem TE_call {x : Str} {p pos : Pos} {f : Value} {e : Expr} {es : List Expr} {Q : Value → Ab → Prop} (hf : EV C A env m σ (.Name x p) f) (hr : nv f = f → ∀ u, nv u = f → u = f) (hk : keepIn C.K f = true) (hn : nv f = f)
    (h : TAs C A env m pos (e :: es) σ fun vs σ' => CallR C A f vs σ' Q)
    (he : starEach (e :: es) env = (false, eval e env) :: starEach es env := by rfl) (hp : (backTo pos (starEach es env)).any (·.1) = false := by rfl) :
    TE C A env m (.Call (.Name x p) (e :: es) [] pos) σ Q := fun σ₀ s₀ s R E W k =>
  wpAny_Call_NameR (hf.run W fun u s₁ hu W₁ => by
    obtain rfl := hr hn u hu
    exact callWith_own (first := []) hk h he hp σ₀ s₀ s₁ R E W₁ k)
theorem TE_call0 {x : Str} {p pos : Pos} {f : Value} {Q : Value → Ab → Prop} (hf : EV C A env m σ (.Name x p) f) (hr : nv f = f → ∀ u, nv u = f → u = f) (hk : keepIn C.K f = true) (hn : nv f = f)
    (h : CallR C A f [] σ Q) : TE C A env m (.Call (.Name x p) [] [] pos) σ Q := fun σ₀ s₀ s R E W k =>
  wpAny_Call_NameR (hf.run W fun u s₁ hu W₁ => by
    obtain rfl := hr hn u hu
    exact callWith_own0 (first := []) hk h σ₀ s₀ s₁ R E W₁ k)

-- METHODS of own classes
def methIn (K : Frag) (C : Addr) (x : Str) (f : Addr) : Bool := plainGet K C x && findIn K (.ref C) x == some (some (.ref f)) && typeIn K (.ref f) == some (.type "function") && keepIn K (.ref f)
theorem getMethod_inst {a K f : Addr} {fs : Loc} {x : Str} {pl : Sem Bool} (S : St C σ s.heap) (e : σ a = some (.inst K fs)) (hx : fs.lookup x = none) (hk : methIn C.K K x f = true) {R : Value × List Value → Shared → Prop} {E : Value → Shared → Prop}
    (k : R (.ref f, [.ref a]) s) : wpAny C.M A (getMethod (.ref a) x pl) R E s := by
  obtain ⟨d, m, rfl, ho, ⟨od, es, ep, hd, hdat, hk', hu, hm⟩, hf⟩ := S.rep a _ e
  unfold methIn at hk
  simp only [Bool.and_eq_true, beq_iff_eq] at hk
  obtain ⟨⟨⟨h1, h2⟩, h3⟩, h4⟩ := hk
  refine method_fn (od := some od) S.K ⟨ho, rfl, rfl, hd⟩ (plainGet_of h1).1 (plainGet_of h1).2 h2 h3 ?_ k
  have hn := hm x
  have := hf x
  rw [hx] at this
  have hmx : m x = none := by cases q : m x with | none => rfl | some u => rw [q] at this; cases this
  rw [hmx] at hn
  show (lookIn x od).map _ = _
  unfold lookIn
  rw [hdat]
  unfold nsFind findBy at hn
  rw [← Array.find?_toList] at hn
  dsimp only
  cases hz : es.toList.find? (·.key.isStr x) with
  | some en => rw [hz] at hn; cases hn
  | none =>
    have : es.toList.any (·.refKey) = false := by
      rw [List.any_eq_false]
      intro en he
      obtain ⟨n, t, h⟩ := hk' en (Array.mem_toList_iff.mp he)
      simp [DictEntry.refKey, h]
    simp [this]
/-- o.x(e, ..) of an instance -/
theorem TE_meth {o : Expr} {x : Str} {apos pos : Pos} {a K f : Addr} {fs : Loc} {e : Expr} {es : List Expr} {pl : Sem Bool} {Q : Value → Ab → Prop} (ho : EV C A env m σ o (.ref a)) (hi : σ a = some (.inst K fs)) (hx : fs.lookup x = none) (hk : methIn C.K K x f = true)
    (h : TAs C A env m pos (e :: es) σ fun vs σ' => CallR C A (.ref f) (.ref a :: vs) σ' Q)
    (he : eval (.Call (.Attribute o x apos) (e :: es) [] pos) env = (do
      let ov ← eval o env
      standAt apos.atName
      let (f, first) ← holding [ov] (getMethod ov x pl)
      callWith pos f first (backTo pos (starEach (e :: es) env)) []) := by rfl)
    (he' : starEach (e :: es) env = (false, eval e env) :: starEach es env := by rfl) (hp : (backTo pos (starEach es env)).any (·.1) = false := by rfl) :
    TE C A env m (.Call (.Attribute o x apos) (e :: es) [] pos) σ Q := fun σ₀ s₀ s R E W k =>
  MethodCall_ (ho.run W fun u s₁ hu W₁ => by
    obtain rfl := nv_to_ref hu
    refine getMethod_inst W₁.st hi hx hk ?_
    unfold methIn at hk
    simp only [Bool.and_eq_true] at hk
    exact callWith_own (first := [.ref a]) hk.2 h he' hp σ₀ s₀ s₁ R E W₁ k) he
theorem TE_meth0 {o : Expr} {x : Str} {apos pos : Pos} {a K f : Addr} {fs : Loc} {pl : Sem Bool} {Q : Value → Ab → Prop} (ho : EV C A env m σ o (.ref a)) (hi : σ a = some (.inst K fs)) (hx : fs.lookup x = none) (hk : methIn C.K K x f = true)
    (h : CallR C A (.ref f) [.ref a] σ Q)
    (he : eval (.Call (.Attribute o x apos) [] [] pos) env = (do
      let ov ← eval o env
      standAt apos.atName
      let (f, first) ← holding [ov] (getMethod ov x pl)
      callWith pos f first (backTo pos (starEach [] env)) []) := by rfl) :
    TE C A env m (.Call (.Attribute o x apos) [] [] pos) σ Q := fun σ₀ s₀ s R E W k =>
  MethodCall_ (ho.run W fun u s₁ hu W₁ => by
    obtain rfl := nv_to_ref hu
    refine getMethod_inst W₁.st hi hx hk ?_
    unfold methIn at hk
    simp only [Bool.and_eq_true] at hk
    exact callWith_own0 (first := [.ref a]) hk.2 h σ₀ s₀ s₁ R E W₁ k) he
end
end J
end

section
open PySem PySem.W PySem.Calls PyProof.Rows
set_option Elab.async false
set_option linter.unusedVariables false
namespace J
section
variable {C : Cx} {A : Around} {env : Env} {m : Loc} {σ σ₀ σ' : Ab} {s s₀ s' : Shared}

-- a field of an instance turns
theorem St.updInst {h h' : Heap} (S : St C σ h) {d K : Addr} {fs fs' : Loc} (e : σ (d + 1) = some (.inst K fs)) (k : ∀ b o, b ≠ d → h.get? b = some o → h'.get? b = some o) (r : RO C h' (d + 1) (.inst K fs')) : St C (σ.put (d + 1) (.inst K fs')) h' := by
  have nd : σ d = Option.none := S.sep d K fs e
  have dd : dom σ d := .inr ⟨K, fs, e⟩
  have hdom : ∀ b, dom (σ.put (d + 1) (.inst K fs')) b → dom σ b := by
    rintro b (⟨o', q⟩ | ⟨K', fs2, q⟩)
    · by_cases z : b = d + 1
      · subst z; exact dom_of e
      · rw [put_ne z] at q; exact .inl ⟨o', q⟩
    · by_cases z : b + 1 = d + 1
      · obtain rfl : b = d := Nat.add_right_cancel z; exact dd
      · rw [put_ne z] at q; exact .inr ⟨K', fs2, q⟩
  refine ⟨fun b o q => k b o ?_ (S.keep b o q), fun b o q => ?_, fun b db => S.new b (hdom b db), fun b K' fs2 q => ?_⟩
  · rintro rfl; rw [S.new b dd] at q; cases q
  · by_cases z : b = d + 1
    · subst z; rw [put_same] at q; cases q; exact r
    · rw [put_ne z] at q
      refine (S.rep b o q).keeps (fun o' => k b o' (fun w => by rw [w, nd] at q; cases q)) fun d' o' hd hi hg => k d' o' (fun w => z (by rw [hd, w])) hg
  · by_cases z : b + 1 = d + 1
    · obtain rfl : b = d := Nat.add_right_cancel z
      rw [put_ne (Nat.ne_of_lt (Nat.lt_succ_self b))]; exact nd
    · rw [put_ne z] at q
      have := S.sep b K' fs2 q
      by_cases z' : b = d + 1
      · rw [z'] at this; rw [this] at e; cases e
      · rw [put_ne z']; exact this
theorem Mv.updInst {P : Addr → Prop} {d K : Addr} {fs fs' : Loc} (e : σ (d + 1) = some (.inst K fs)) {h' : Heap} {tk : Nat} (k : ∀ b o, b ≠ d → s.heap.get? b = some o → h'.get? b = some o) :
    Mv P σ (σ.put (d + 1) (.inst K fs')) s { s with heap := h', toks := tk } := by
  have dd : dom σ d := .inr ⟨K, fs, e⟩
  refine Mv.heap (fun b o q n _ => k b o (fun z => n (z ▸ dd)) q) fun b o q n => ⟨?_, o, k b o (fun z => n (z ▸ dd)) q⟩
  rintro (⟨o', w⟩ | ⟨K', fs2, w⟩)
  · by_cases z : b = d + 1
    · subst z; exact n (dom_of e)
    · rw [put_ne z] at w; exact n (.inl ⟨o', w⟩)
  · by_cases z : b + 1 = d + 1
    · obtain rfl : b = d := Nat.add_right_cancel z; exact n dd
    · rw [put_ne z] at w; exact n (.inr ⟨K', fs2, w⟩)

def setsIn (K : Frag) (C : Addr) (x : Str) : Bool := findIn K (.ref C) "__setattr__" == some (some (.builtin "object.__setattr__")) && plainOver K C && takerIn K C x == some none && (clsIn K C).any (·.hasDict)
theorem within_of {mA : Str → Option Value} {fs : Loc} (h : ∀ x, (mA x).map nv = fs.lookup x) : Within mA (fs.map (·.1)) := fun y hy => by
  have := h y
  cases q : mA y with
  | none => exact absurd q hy
  | some u =>
    rw [q] at this
    have : ∀ l : Loc, l.lookup y = some (nv u) → y ∈ l.map (·.1) := fun l => by
      induction l with
      | nil => intro z; cases z
      | cons p r ih =>
        intro z
        obtain ⟨x, w⟩ := p
        rw [List.lookup_cons] at z
        cases c : y == x with
        | true => rw [eq_of_beq c]; exact .head _
        | false => rw [c] at z; exact .tail _ (ih z)
    exact this fs (by rw [← ‹Option.map nv (some u) = fs.lookup y›]; rfl)
open Builtin Builtin.ObjectAttr in
theorem setAttr_inst {a K : Addr} {fs : Loc} {x : Str} {u : Value} (W : Wd C A env m σ₀ s₀ σ s) (e : σ a = some (.inst K fs)) (hk : setsIn C.K K x = true) (hz : fs.length ≤ 1000)
    {R : Unit → Shared → Prop} {E : Value → Shared → Prop} (k : ∀ s', Wd C A env m σ₀ s₀ (σ.put a (.inst K ((x, nv u) :: fs))) s' → R () s') : wpAny C.M A (setAttr (.ref a) x u) R E s := by
  obtain ⟨d, mA, rfl, ho, hn, hf⟩ := W.st.rep a _ e
  obtain ⟨od, es, ep, hd, hdat, hk', hu, hm⟩ := id hn
  unfold setsIn at hk
  simp only [Bool.and_eq_true, beq_iff_eq] at hk
  obtain ⟨⟨⟨h1, h2⟩, h3⟩, h4⟩ := hk
  obtain ⟨cd, hc, hd'⟩ := any_some h4
  have I : InstAt s.heap (d + 1) (instObj K d) K (some od) := ⟨ho, rfl, rfl, hd⟩
  refine set_plain W.st.K I h1 (osa_open (s := { s with toks := s.toks + 1 }) W.st.K I h2 h3 fun b => ?_)
  refine wpAny_bind (wpAny_pure (wpAny_bind (wpAny_bind (wpAny_loadPart ho (wpAny_bind ((looks_clsIn W.st.K hc) _ _ _ _ (fun _ _ e => e) ?_))))))
  rw [hd']
  refine wpAny_pure (a := some d) (wpAny_bind (wpAny_pure (wpAny_bind ?_)))
  refine wpAny_nsSet1 hn fun h' hn' hs => ?_
  obtain ⟨oD, esD, epD, hoD, hdD, hcD⟩ := hn'.count (Within.cons x u (within_of hf))
  refine wpAny_bind (wpAny_lookBehind hoD (by rw [hdD]; exact pastItsLine_dict (Nat.le_trans hcD (by rw [List.length_cons, List.length_map, sizeLine_eq]; omega))) ?_)
  refine wpAny_pure ?_
  have kk : ∀ b o, b ≠ d → s.heap.get? b = some o → h'.get? b = some o := fun b o hb q => (hs.2 b hb).trans q
  refine k _ (W.go (s' := { s with heap := h', toks := _ }) (W.st.updInst e kk ⟨d, _, rfl, kk _ _ (Nat.ne_of_gt (Nat.lt_succ_self d)) ho, hn', fun y => ?_⟩) (Mv.updInst e kk))
  by_cases q : y = x
  · subst q; rw [lookup_cons_self]; simp
  · rw [lookup_cons_ne q, if_neg q]; exact hf y
theorem TX_setAttr {o value : Expr} {x : Str} {pos' pos : Pos} {Q : Flow → Loc → Ab → Prop}
    (h : TE C A env m value σ fun v σ' => ∃ a K fs, EV C A env m σ' o (.ref a) ∧ σ' a = some (.inst K fs) ∧ setsIn C.K K x = true ∧ fs.length ≤ 1000 ∧ Q .next m (σ'.put a (.inst K ((x, v) :: fs))))
    (hs : swapsWith value (some (.Attribute o x pos')) pos.line env = pure false := by rfl) : TX C A env m (.Assign [.Attribute o x pos'] value pos) σ Q := fun σ₀ s₀ s R E W k =>
  plainObj_wpAny_Assign_Attribute (h.use W fun v s₁ σ₁ W₁ ⟨a, K, fs, ho, e, hk, hz, q⟩ => ho.run W₁.wd fun u s₂ hu W₂ => by
    obtain rfl := nv_to_ref hu
    exact setAttr_inst W₂ e hk hz fun s₃ W₃ => k _ _ _ _ (W₁.step W₃) q) hs

-- a new instance
theorem depth_make (A : Around) (Ca : Addr) (us : List Value) : (A.under (.builtin "type.__call__" ⟨.ref Ca :: us, []⟩)).depth = A.depth + 1 := depth_under_make ..
theorem TC_make {Ca fI : Addr} {us : List Value} {Q : Value → Ab → Prop} (hm : makesIn C.K Ca = true) (hi : findIn C.K (.ref Ca) "__init__" = some (some (.ref fI))) (hf : typeIn C.K (.ref fI) = some (.type "function"))
    (h : ∀ a, σ a = none → TC C (A.under (.builtin "type.__call__" ⟨.ref Ca :: us, []⟩)) (.ref fI) (.ref a :: us) (σ.put a (.inst Ca [])) fun v σ' => v = .none ∧ Q (.ref a) σ') : TC C A (.ref Ca) us σ Q := fun σ₀ s₀ s R E W k => by
  have S := W.st
  have n0 := S.fresh (Nat.le_refl s.heap.objs.size)
  have n1 := S.fresh (Nat.le_succ s.heap.objs.size)
  have e0 := S.none (Nat.le_refl s.heap.objs.size)
  have e1 := S.none (Nat.le_succ s.heap.objs.size)
  have e2 := S.none (Nat.le_succ_of_le (Nat.le_succ s.heap.objs.size))
  have kk : ∀ b o, s.heap.get? b = some o → ((s.heap.push emptyDict).push (instObj Ca s.heap.objs.size)).get? b = some o := fun b o e => Heap.get?_push_of_some _ (Heap.get?_push_of_some _ e)
  have hx : ((s.heap.push emptyDict).push (instObj Ca s.heap.objs.size)).get? (s.heap.objs.size + 1) = some (instObj Ca s.heap.objs.size) := by
    have := Heap.get?_push_size (s.heap.push emptyDict) (o := instObj Ca s.heap.objs.size) rfl
    rwa [Heap.size_push] at this
  have hd : ((s.heap.push emptyDict).push (instObj Ca s.heap.objs.size)).get? s.heap.objs.size = some emptyDict := Heap.get?_push_of_some _ (Heap.get?_push_size _ rfl)
  have hns : ((s.heap.push emptyDict).push (instObj Ca s.heap.objs.size)).Ns1 s.heap.objs.size fun _ => none := .of_empty ⟨_, #[], 0, hd, rfl, fun _ he => by simp at he, fun _ => rfl⟩
  have hdom : ∀ b, dom (σ.put (s.heap.objs.size + 1) (.inst Ca [])) b → b = s.heap.objs.size ∨ b = s.heap.objs.size + 1 ∨ dom σ b := by
    rintro b (⟨o', w⟩ | ⟨K', fs2, w⟩)
    · by_cases z : b = s.heap.objs.size + 1
      · exact .inr (.inl z)
      · rw [put_ne z] at w; exact .inr (.inr (.inl ⟨o', w⟩))
    · by_cases z : b + 1 = s.heap.objs.size + 1
      · exact .inl (Nat.add_right_cancel z)
      · rw [put_ne z] at w; exact .inr (.inr (.inr ⟨K', fs2, w⟩))
  have S₁ : St C (σ.put (s.heap.objs.size + 1) (.inst Ca [])) ((s.heap.push emptyDict).push (instObj Ca s.heap.objs.size)) := by
    have S' := S.ext kk
    refine ⟨S'.keep, fun b o q => ?_, fun b db => ?_, fun b K' fs2 q => ?_⟩
    · by_cases z : b = s.heap.objs.size + 1
      · subst z; rw [put_same] at q; cases q
        exact ⟨s.heap.objs.size, _, rfl, hx, hns, fun _ => rfl⟩
      · rw [put_ne z] at q; exact S'.rep b o q
    · rcases hdom b db with rfl | rfl | d
      · exact W.size
      · cases q : C.h₀.get? (s.heap.objs.size + 1) with
        | none => rfl
        | some o => exact absurd (Heap.lt_size (S.keep _ _ q)) (Nat.not_lt.mpr (Nat.le_succ _))
      · exact S.new b d
    · by_cases z : b + 1 = s.heap.objs.size + 1
      · obtain rfl := Nat.add_right_cancel z
        rw [put_ne (Nat.ne_of_lt (Nat.lt_succ_self _))]; exact e0
      · rw [put_ne z] at q
        have := S.sep b K' fs2 q
        by_cases z' : b = s.heap.objs.size + 1
        · rw [z', e2] at q; cases q
        · rw [put_ne z']; exact this
  have M₁ : Mv No σ (σ.put (s.heap.objs.size + 1) (.inst Ca [])) s { s with heap := (s.heap.push emptyDict).push (instObj Ca s.heap.objs.size) } := by
    have := Mv.heap (P := No) (σ := σ) (σ' := σ.put (s.heap.objs.size + 1) (.inst Ca [])) (s := s) (tk := s.toks) (h' := (s.heap.push emptyDict).push (instObj Ca s.heap.objs.size)) (fun b o e _ _ => kk b o e) fun b o e n => ⟨fun d => by
      rcases hdom b d with rfl | rfl | d
      · exact absurd (Heap.lt_size e) (Nat.lt_irrefl _)
      · exact absurd (Heap.lt_size e) (Nat.not_lt.mpr (Nat.le_succ _))
      · exact n d, o, kk b o e⟩
    exact this
  have W₁ := W.go (s' := { s with heap := (s.heap.push emptyDict).push (instObj Ca s.heap.objs.size) }) S₁ M₁
  have z := h (s.heap.objs.size + 1) e1
  refine make_core (h := s.heap) (g := s.gens) (d := s.drawn) (t := s.toks) (os := s.os) (makes_of S.K hm) (looks_findIn S.K hi) (fun self => bind_fn S.K self hf) (.inl rfl) ?_
  refine codeAny_mono (z σ₀ s₀ _ (fun v s' => v = .none ∧ R (.ref (s.heap.objs.size + 1)) s') E ⟨W₁.st, (by obtain ⟨l, hl, hr⟩ := W₁.fs; exact ⟨l, hl, hr⟩), W₁.mv⟩ fun v s' σ' W' q => ⟨nv_to_none q.1, k _ s' σ' ⟨W'.st, (by obtain ⟨l, hl, hr⟩ := W'.fs; exact ⟨l, hl, hr⟩), W'.mv⟩ q.2⟩) fun r s' x => ?_
  rcases r with e | (_ | _ | _ | v)
  · exact x
  · exact x
  · exact x
  · exact x
  · exact x
end
end J
end

section
open PySem PySem.W PySem.Calls PyProof.Rows
set_option Elab.async false
set_option linter.unusedVariables false
namespace J
section
variable {C : Cx} {A : Around} {env : Env} {m : Loc} {σ σ₀ σ' : Ab} {s s₀ s' : Shared}

theorem Wx.trans (W : Wx C A env m σ₀ s₀ σ s) {m' : Loc} (x : Wx C A env m' σ s σ' s') : Wx C A env m' σ₀ s₀ σ' s' := ⟨x.st, x.fs, x.ok, W.mv.trans x.mv⟩
theorem Wx.self (W : Wx C A env m σ₀ s₀ σ s) : Wx C A env m σ s σ s := ⟨W.st, W.fs, W.ok, Mv.refl ..⟩
theorem TS.run {α β : Type} {t : Sem α} {n : α → β} {Q : β → Loc → Ab → Prop} (h : TS C A env m t n σ Q) (W : Wx C A env m σ₀ s₀ σ s) {R : α → Shared → Prop} {E : Value → Shared → Prop}
    (k : ∀ v s' m' σ', Wx C A env m' σ₀ s₀ σ' s' → Mv (own env) σ σ' s s' → Q (n v) m' σ' → R v s') : wpAny C.M A t R E s :=
  h σ s s R E W.self fun v s' m' σ' W' q => k v s' m' σ' (W.trans W') W'.mv q

/-- an address that only the loop knows -/
structure Off (C : Cx) (A : Around) (env : Env) (σ : Ab) (I : Addr) : Prop where
  nd : ¬ dom σ I
  no : ¬ own env I
  nh : C.h₀.get? I = none
  nf : ∀ l, A.frames = some l → ∀ e ∈ l, e.frame ≠ some I
theorem Off.mv {P : Addr → Prop} {I : Addr} (x : Off C A env σ I) (M : Mv P σ σ' s s') (a : ∃ o, s.heap.get? I = some o) : Off C A env σ' I := ⟨let ⟨o, e⟩ := a; (M.fr I o e x.nd).1, x.no, x.nh, x.nf⟩
theorem Wx.off (W : Wx C A env m σ₀ s₀ σ s) {I : Addr} (x : Off C A env σ I) (h0 : s₀.heap.get? I = none) {h' : Heap} {tk : Nat} (hs : ∀ b o, b ≠ I → s.heap.get? b = some o → h'.get? b = some o) : Wx C A env m σ₀ s₀ σ { s with heap := h', toks := tk } := by
  have hI : ∀ b, own env b → b ≠ I := fun b hb q => x.no (q ▸ hb)
  refine ⟨W.st.keeps fun b o hb e => hs b o ?_ e, ?_, W.ok.keeps (fun b o hb e => hs b o (hI b hb) e) fun b hb => (W.ok.nd b hb).1, ?_⟩
  · rintro rfl
    rcases hb with d | q
    · exact x.nd d
    · rw [x.nh] at q; cases q
  · obtain ⟨l, hl, hf, hd⟩ := W.fs
    exact ⟨l, hl, FunFrames.turn hf fun e he L o hL ho hv => ⟨o, hs L o (fun q => x.nf l hl e he (q ▸ hL)) ho, hv⟩, hd⟩
  · refine ⟨fun b o e n p => hs b o (fun q => ?_) (W.mv.kp b o e n p), fun b o e n => ⟨(W.mv.fr b o e n).1, ?_⟩, W.mv.os, W.mv.gen⟩
    · rw [q, h0] at e; cases e
    · obtain ⟨o', e'⟩ := (W.mv.fr b o e n).2
      exact ⟨o', hs b o' (fun q => by rw [q, h0] at e; cases e) e'⟩

/-- an iterator: its own object is at I; P i: i items are drawn; Sd: what it asks of σ -/
structure Iter (C : Cx) (A : Around) (it : Value) (I : Addr) (n : Nat) (val : Nat → Value) (P : Nat → Heap → Prop) (Sd : Ab → Prop) : Prop where
  next : ∀ i σ s (R : Option Value → Shared → Prop) (E : Value → Shared → Prop), i < n → P i s.heap → St C σ s.heap → Sd σ →
    (∀ u h' tk, nv u = val i → P (i + 1) h' → (∀ b o, b ≠ I → s.heap.get? b = some o → h'.get? b = some o) → R (some u) { s with heap := h', toks := tk }) → wpAny C.M A (pyNext it) R E s
  stop : ∀ σ s (R : Option Value → Shared → Prop) (E : Value → Shared → Prop), P n s.heap → St C σ s.heap → Sd σ →
    (∀ h' tk, (∀ b o, b ≠ I → s.heap.get? b = some o → h'.get? b = some o) → R none { s with heap := h', toks := tk }) → wpAny C.M A (pyNext it) R E s
  keep : ∀ i h h', P i h → (∀ o, h.get? I = some o → h'.get? I = some o) → P i h'
  alive : ∀ i h, P i h → ∃ o, h.get? I = some o
  owned : ∀ target i s v (R : Unit → Shared → Prop) (E : Value → Shared → Prop), P i s.heap → R () s → wpAny C.M A (letOwnedTupleGo target it v) R E s
  self : ∀ i s (R : Value → Shared → Prop) (E : Value → Shared → Prop), P i s.heap → R it s → wpAny C.M A (pyIter it) R E s

/-- the loop from the iterator on -/
theorem forLoop_core {target : Expr} {it : Value} {I : Addr} {n : Nat} {val : Nat → Value} {P : Nat → Heap → Prop} {Sd : Ab → Prop} {body : List Stmt} {Q : Flow → Loc → Ab → Prop} (T : Iter C A it I n val P Sd) (Iv : Nat → Loc → Ab → Prop)
    (step : ∀ i m' σ' u, i < n → nv u = val i → Sd σ' → Iv i m' σ' → TS C A env m' (assign target env u) (fun _ => ()) σ' fun _ m₁ σ₁ => TXs C A env m₁ body σ₁ fun f m₂ σ₂ => match f with
      | .next | .cont => Sd σ₂ ∧ Iv (i + 1) m₂ σ₂
      | .brk => Q .next m₂ σ₂
      | .ret v => Q (.ret v) m₂ σ₂)
    (done : ∀ m' σ', Sd σ' → Iv n m' σ' → Q .next m' σ')
    (W : Wx C A env m σ₀ s₀ σ s) (hO : Off C A env σ I) (h0 : s₀.heap.get? I = none) (hP : P 0 s.heap) (hS : Sd σ) (hJ : Iv 0 m σ) {R : Flow → Shared → Prop} {E : Result → Shared → Prop}
    (k : ∀ f s' m' σ', Wx C A env m' σ₀ s₀ σ' s' → Q (nf f) m' σ' → R f s') :
    codeAny C.M A (.forLoop target it body [] env) (fun r s' => match r with | .ok f => R f s' | .error e => E (.error e) s') s := by
  refine codeAny_forLoop_any (fun j s' => ∃ i m' σ', j = n - i ∧ i ≤ n ∧ Wx C A env m' σ₀ s₀ σ' s' ∧ Off C A env σ' I ∧ P i s'.heap ∧ Sd σ' ∧ Iv i m' σ') ?_ n ⟨0, m, σ, rfl, Nat.zero_le _, W, hO, hP, hS, hJ⟩
  rintro j s₁ ⟨i, m₁, σ₁, rfl, hi, W₁, O₁, P₁, S₁, J₁⟩
  rcases Nat.lt_or_ge i n with hlt | hge
  · refine T.next i σ₁ s₁ _ _ hlt P₁ W₁.st S₁ fun u h' tk hu hP' hk => ?_
    have W₂ := W₁.off O₁ h0 (tk := tk) hk
    have a₂ : ∃ o, h'.get? I = some o := T.alive _ _ hP'
    refine T.owned target (i + 1) _ u _ _ hP' ?_
    refine (step i m₁ σ₁ u hlt hu S₁ J₁).run W₂ fun _ s₃ m₃ σ₃ W₃ M₃ q₃ => ?_
    have P₃ : P (i + 1) s₃.heap := T.keep _ _ _ hP' fun o e => M₃.kp I o e O₁.nd O₁.no
    have O₃ : Off C A env σ₃ I := O₁.mv (s := { s₁ with heap := h', toks := tk }) M₃ a₂
    refine q₃.run W₃ fun f s₄ m₄ σ₄ W₄ M₄ q₄ => ?_
    have P₄ : P (i + 1) s₄.heap := T.keep _ _ _ P₃ fun o e => M₄.kp I o e O₃.nd O₃.no
    have O₄ : Off C A env σ₄ I := O₃.mv M₄ (T.alive _ _ P₃)
    cases f with
    | next => exact ⟨n - (i + 1), by omega, i + 1, m₄, σ₄, rfl, hlt, W₄, O₄, P₄, q₄.1, q₄.2⟩
    | cont => exact ⟨n - (i + 1), by omega, i + 1, m₄, σ₄, rfl, hlt, W₄, O₄, P₄, q₄.1, q₄.2⟩
    | brk => exact k .next s₄ m₄ σ₄ W₄ q₄
    | ret v => exact k (.ret v) s₄ m₄ σ₄ W₄ q₄
  · obtain rfl : i = n := Nat.le_antisymm hi hge
    refine T.stop σ₁ s₁ _ _ P₁ W₁.st S₁ fun h' tk hk => ?_
    have W₂ := W₁.off O₁ h0 (tk := tk) hk
    exact wpAny_execs_nil (k .next _ m₁ σ₁ W₂ (done m₁ σ₁ S₁ J₁))

theorem Wx.newOff (W : Wx C A env m σ₀ s₀ σ s) : Off C A env σ s.heap.objs.size := by
  refine ⟨W.st.fresh (Nat.le_refl _), fun h => ?_, ?_, fun l hl e he q => ?_⟩
  · obtain ⟨o, e⟩ := W.ok.own_alive h
    exact absurd (Heap.lt_size e) (Nat.lt_irrefl _)
  · cases q : C.h₀.get? s.heap.objs.size with
    | none => rfl
    | some o => exact absurd (Heap.lt_size (W.st.keep _ _ q)) (Nat.lt_irrefl _)
  · obtain ⟨l', hl', hf, hd⟩ := W.fs
    obtain rfl : l' = l := Option.some.inj (hl'.symm.trans hl)
    obtain ⟨L, o, hL, ho⟩ := PyProof.Rows.funFrames_in hf e he
    obtain rfl : L = s.heap.objs.size := Option.some.inj (hL.symm.trans q)
    exact absurd (Heap.lt_size ho) (Nat.lt_irrefl _)

theorem letOwned_plain {target : Expr} {I : Addr} {v : Value} {T : String} {vs : Array Value} {R : Unit → Shared → Prop} {E : Value → Shared → Prop} (h : ∃ o, s.heap.get? I = some o ∧ o.cls = .type T ∧ o.data = .fields vs ∧ ["enumerate", "zip", "dict_itemiterator", "dict_reverseitemiterator", "odict_iterator", "itertools.zip_longest", "itertools.pairwise"].contains T = false) (r : R () s) :
    wpAny C.M A (letOwnedTupleGo target (.ref I) v) R E s := by
  obtain ⟨o, ho, hc, hd, hT⟩ := h
  have key : ∀ a, wpAny C.M A (do
      let o ← load I
      match o.cls, o.data with
      | .type n, .fields vs =>
        if ["enumerate", "zip", "dict_itemiterator", "dict_reverseitemiterator", "odict_iterator", "itertools.zip_longest", "itertools.pairwise"].contains n && vs[0]? == some (rawInt a) then
          rule "for.unpacks-the-owned-tuple"
          updateField I 0 .none
      | _, _ => pure ()) R E s := fun a => by
    refine wpAny_bind (wpAny_load ho ?_)
    rw [hc, hd]
    dsimp only
    rw [hT, Bool.false_and, if_neg Bool.false_ne_true]
    exact wpAny_pure r
  cases target <;> first | exact wpAny_pure r | (cases v <;> first | exact wpAny_pure r | exact key _)
theorem listIter_at' {h : Heap} {I l : Addr} {i : Nat} (x : h.IsListIter I l i) : ∃ o, h.get? I = some o ∧ o.cls = .type "list_iterator" ∧ o.data = .fields #[.ref l, .int i 0] ∧ ["enumerate", "zip", "dict_itemiterator", "dict_reverseitemiterator", "odict_iterator", "itertools.zip_longest", "itertools.pairwise"].contains "list_iterator" = false := let ⟨o, a, b, c⟩ := x; ⟨o, a, b, c, by decide⟩

/-- a list's iterator -/
theorem Iter.list {I l : Addr} {xs : List Value} (hh : A.handled = none) (hne : l ≠ I) : Iter C A (.ref I) I xs.length (fun i => xs.getD i .none) (fun i h => h.IsListIter I l i) (fun σ => σ l = some (.list xs)) := by
  refine ⟨fun i σ s R E hi hP S e k => ?_, fun σ s R E hP S e k => ?_, fun i h h' hP hk => hP.at hk, fun i h hP => let ⟨o, ho, _⟩ := hP; ⟨o, ho⟩, fun target i s v R E hP r => ?_, fun i s R E hP r => wpAny_pyIter_listiter hP r⟩
  · obtain ⟨vs, hl, hm⟩ := S.isList e
    have hx : xs[i]? = some xs[i] := List.getElem?_eq_getElem hi
    obtain ⟨u, hu, hv⟩ := get_of_map hm hx
    refine wpAny_pyNext_list_item hP hl hu fun h' hP' hs => k u h' s.toks (by rw [hv, List.getD_eq_getElem?_getD, hx]; rfl) hP' fun b o hb e => (hs.2 b hb).trans e
  · obtain ⟨vs, hl, hm⟩ := S.isList e
    have hx : vs[xs.length]? = none := by rw [Array.getElem?_eq_none_iff, size_of_map hm]; exact Nat.le_refl _
    exact wpAny_pyNext_list_end hh hP hl hx fun h' he => k h' s.toks fun b o hb e => he b o hb e
  · exact letOwned_plain (listIter_at' hP) r

theorem Wd.newOff (W : Wd C A env m σ₀ s₀ σ s) : Off C A env σ s.heap.objs.size := Wx.newOff (σ₀ := σ) (s₀ := s) ⟨W.st, W.fs, W.ok, Mv.refl ..⟩
theorem get_size (h : Heap) : h.get? h.objs.size = none := by
  cases q : h.get? h.objs.size with
  | none => rfl
  | some o => exact absurd (Heap.lt_size q) (Nat.lt_irrefl _)
theorem Mv.old {P : Addr → Prop} (M : Mv P σ σ' s s') {I : Addr} (h : s'.heap.get? I = none) (nd : ¬ dom σ I) : s.heap.get? I = none := by
  cases q : s.heap.get? I with
  | none => rfl
  | some o => obtain ⟨o', e⟩ := (M.fr I o q nd).2; rw [h] at e; cases e

theorem Wd.self (W : Wd C A env m σ₀ s₀ σ s) : Wd C A env m σ s σ s := ⟨⟨W.st, W.fs, Mv.refl ..⟩, W.ok⟩
/-- what a loop runs over -/
def Src (C : Cx) (A : Around) (env : Env) (m : Loc) (σ : Ab) (iter : Expr) (n : Nat) (val : Nat → Value) (Sd : Ab → Prop) : Prop :=
  ∀ σ₀ s₀ s (R : Value → Shared → Prop) (E E' : Value → Shared → Prop), Wd C A env m σ₀ s₀ σ s →
    (∀ I P s', Wd C A env m σ₀ s₀ σ s' → s.heap.get? I = none → Off C A env σ I → P 0 s'.heap → Iter C A (.ref I) I n val P Sd → R (.ref I) s') →
    wpAny C.M A (eval iter env) (fun x s₁ => wpAny C.M A (pyIter x) R E' s₁) E s

theorem Src.list {iter : Expr} {l : Addr} {xs : List Value} (hh : A.handled = none) (hi : EV C A env m σ iter (.ref l)) (hl : σ l = some (.list xs)) : Src C A env m σ iter xs.length (fun i => xs.getD i .none) (fun σ' => σ' l = some (.list xs)) := fun σ₀ s₀ s R E E' W k => by
  refine hi.run W.self fun u s₁ hu W₁ => ?_
  obtain rfl := nv_to_ref hu
  obtain ⟨vs, hls, hm⟩ := W₁.st.isList hl
  refine wpAny_pyIter_list hls ?_
  obtain ⟨ol, hol, _⟩ := id hls
  have kk : ∀ b o, s₁.heap.get? b = some o → (s₁.heap.push { cls := .type "list_iterator", data := .fields #[.ref l, .int 0 0] }).get? b = some o := fun b o e => Heap.get?_push_of_some _ e
  have nI : s.heap.get? s₁.heap.objs.size = none := W₁.mv.old (get_size _) (W₁.st.fresh (Nat.le_refl _))
  exact k s₁.heap.objs.size _ _ ((W.step W₁.toWv).ext (tk := s₁.toks) kk) nI W₁.newOff ⟨_, Heap.get?_push_size _ rfl, rfl, rfl⟩ (Iter.list (I := s₁.heap.objs.size) hh (Nat.ne_of_lt (Heap.lt_size hol)))

/-- for target in (a list): body -/
theorem TX_for {target iter : Expr} {body : List Stmt} {pos : Pos} {n : Nat} {val : Nat → Value} {Sd : Ab → Prop} {Q : Flow → Loc → Ab → Prop} (hi : Src C A env m σ iter n val Sd) (hl : Sd σ) (Iv : Nat → Loc → Ab → Prop) (hJ : Iv 0 m σ)
    (step : ∀ i m' σ' u, i < n → nv u = val i → Sd σ' → Iv i m' σ' → TS C A env m' (assign target env u) (fun _ => ()) σ' fun _ m₁ σ₁ => TXs C A env m₁ body σ₁ fun f m₂ σ₂ => match f with
      | .next | .cont => Sd σ₂ ∧ Iv (i + 1) m₂ σ₂
      | .brk => Q .next m₂ σ₂
      | .ret v => Q (.ret v) m₂ σ₂)
    (done : ∀ m' σ', Sd σ' → Iv n m' σ' → Q .next m' σ')
    (hs : ∀ x, foldedSetIterable iter env x = pure x := by intro _; rfl) : TX C A env m (.For target iter body [] pos) σ Q := fun σ₀ s₀ s R E W k => by
  refine wpAny_For (hi σ s s _ _ _ W.wd fun I P s₁ W₁ h0 hO hP hI => ?_) hs
  have X₁ : Wx C A env m σ s σ s₁ := W.self.step W₁
  refine codeAny_mono (forLoop_core (E := fun r s' => match r with | .ok _ => True | .error e => cameBackBy C.M A env E e s') hI Iv step done X₁ hO h0 hP hl hJ fun f s' m' σ' W' q => k f s' m' σ' (W.trans W') q) fun r s' x => ?_
  cases r <;> exact x

theorem TS_name {x : Str} {pos : Pos} {u : Value} {Q : Unit → Loc → Ab → Prop} (hx : Sto env x) (h : Q () ((x, nv u) :: m) σ) : TS C A env m (assign (.Name x pos) env u) (fun _ => ()) σ Q := fun σ₀ s₀ s R E W k =>
  wpAny_assign_Name (W.store hx fun s' W' => k _ _ _ _ W' h)
end
end J
end

section
open PySem PySem.W PySem.Calls PyProof.Rows
set_option Elab.async false
set_option linter.unusedVariables false
namespace J
section
variable {C : Cx} {A : Around} {env : Env} {m : Loc} {σ σ₀ σ' : Ab} {s s₀ s' : Shared}

theorem EVs.run {pos : Pos} {es : List Expr} {vs : List Value} (h : EVs C A env m σ es vs) (W : Wd C A env m σ₀ s₀ σ s) {R : List Value → Shared → Prop} {E : Value → Shared → Prop} (k : ∀ us s', us.map nv = vs → Wd C A env m σ₀ s₀ σ s' → R us s') :
    wpAny C.M A (spliced (backTo pos (starEach es env))) R E s :=
  h.tas (Q := fun us σ' => us = vs ∧ σ' = σ) ⟨rfl, rfl⟩ σ₀ s₀ s R E W fun us s' σ' W' ⟨e1, e2⟩ => k us s' e1 (e2 ▸ W')
theorem map_one {us : List Value} {a : Value} (h : us.map nv = [a]) : ∃ u, us = [u] ∧ nv u = a := by
  rcases us with _ | ⟨ua, _ | ⟨ub, us⟩⟩ <;> simp_all
theorem map_two {us : List Value} {a b : Value} (h : us.map nv = [a, b]) : ∃ u v, us = [u, v] ∧ nv u = a ∧ nv v = b := by
  rcases us with _ | ⟨ua, _ | ⟨ub, _ | ⟨uc, us⟩⟩⟩
  · simp at h
  · simp at h
  · exact ⟨ua, ub, rfl, by simpa using h⟩
  · simp at h
theorem Iter.range {I : Addr} (hh : A.handled = none) (a : Int) (n : Nat) : Iter C A (.ref I) I n (fun i => .int (a + (i : Int)) 0) (fun i h => IsRangeIter h I (a + (i : Nat) * 1) ((n : Int) - (i : Nat)) 1) (fun _ => True) := by
  have Wk := PyProof.Rows.LCg.range_walks (prog := C.prog) (w := C.w) (A := A) (I := I) hh a n
  refine ⟨fun i σ s R E hi hP S _ k => ?_, fun σ s R E hP S _ k => ?_, fun i h h' hP hk => hk _ hP, fun i h hP => ⟨_, hP⟩, fun target i s v R E hP r => ?_, fun i s R E hP r => Wk.self i s R E hP r⟩
  · refine Wk.item i s R E hi hP fun v h' tk hv hP' hk => ?_
    obtain ⟨t, rfl⟩ := hv
    exact k _ h' tk rfl hP' fun b o hb e => hk b o (by simpa using hb) e
  · exact Wk.done s R E hP fun h' tk hk => k h' tk fun b o hb e => hk b o (by simpa using hb) e
  · exact letOwned_plain (T := "range_iterator") ⟨_, hP, rfl, rfl, by decide⟩ r
theorem push_keeps {h : Heap} (o : Obj) : ∀ b q, h.get? b = some q → (h.push o).get? b = some q := fun b q e => Heap.get?_push_of_some _ e
/-- a new object that σ does not know -/
theorem Wd.push (W : Wd C A env m σ₀ s₀ σ s) (o : Obj) (tk : Nat) : Wd C A env m σ₀ s₀ σ { s with heap := s.heap.push o, toks := tk } := W.ext (push_keeps o)
theorem Src.rangeCore {a b : Int} {n : Nat} {t u v : Tok} {r : Addr} (hh : A.handled = none) (W : Wd C A env m σ₀ s₀ σ s) (hr : IsRange s.heap r a b 1 t u v) (hsm : Builtin.Range.small a b 1 = true) (hn : Builtin.Range.rangeSize a b 1 = (n : Int)) {R : Value → Shared → Prop} {E : Value → Shared → Prop}
    (k : ∀ I P s', Wd C A env m σ₀ s₀ σ s' → s.heap.get? I = none → Off C A env σ I → P 0 s'.heap → Iter C A (.ref I) I n (fun i => .int (a + (i : Int)) 0) P (fun _ => True) → R (.ref I) s') : wpAny C.M A (pyIter (.ref r)) R E s := by
  refine wpAny_pyIter_range hr hsm ?_
  refine k s.heap.objs.size _ _ (W.push _ s.toks) (get_size _) W.newOff ?_ (Iter.range hh a n)
  show IsRangeIter _ _ _ _ _
  rw [hn]
  simpa using Heap.get?_push_size _ rfl
theorem Wd.noneOld {h : Heap} (W : Wd C A env m σ s σ' s') {I : Addr} (e : s'.heap.get? I = none) (nd : ¬ dom σ I) : s.heap.get? I = none := W.mv.old e nd
theorem Off.same {I : Addr} (x : Off C A env σ I) : ¬ dom σ I := x.nd
/-- range(a, b) -/
theorem Src.range2 {x : Str} {p pos : Pos} {ea eb : Expr} {a b : Int} {n : Nat} (hh : A.handled = none) (hf : EV C A env m σ (.Name x p) (.type "range")) (ha : EV C A env m σ ea (.int a 0)) (hb : EV C A env m σ eb (.int b 0)) (hn : Builtin.Range.rangeSize a b 1 = (n : Int))
    (hsm : Builtin.Range.small a b 1 = true) (h1 : starEach [ea, eb] env = (false, eval ea env) :: starEach [eb] env := by rfl) (h2 : starEach [eb] env = (false, eval eb env) :: starEach [] env := by rfl)
    (hplain : (backTo pos (starEach [eb] env)).any (·.1) = false := by rfl) :
    Src C A env m σ (.Call (.Name x p) [ea, eb] [] pos) n (fun i => .int (a + (i : Int)) 0) (fun _ => True) := fun σ₀ s₀ s R E E' W k => by
  refine wpAny_Call_NameR (hf.run W.self fun u s₁ hu W₁ => ?_)
  obtain rfl := nv_to_type hu
  refine callWith_type1 ((EVs.cons ha (.cons hb .nil h2) h1).run W₁ fun us s₂ hus W₂ => ?_) h1 hplain
  obtain ⟨ua, ub, rfl, h3, h4⟩ := map_two hus
  obtain ⟨ta, rfl⟩ := nv_to_int h3
  obtain ⟨tb, rfl⟩ := nv_to_int h4
  refine call_range_2 ?_
  refine Src.rangeCore hh (W₂.push _ (s₂.toks + 1)) (IsRange.new ..) hsm hn fun I P s' W' h0 hO hP hI => k I P s' (W.step W'.toWv) ?_ hO hP hI
  refine (W₂.push { cls := .type "range", data := .fields #[.int a ta, .int b tb, .int 1 s₂.toks] } (s₂.toks + 1)).mv.old h0 hO.nd
/-- range(b) -/
theorem Src.range1 {x : Str} {p pos : Pos} {eb : Expr} {b : Int} {n : Nat} (hh : A.handled = none) (hf : EV C A env m σ (.Name x p) (.type "range")) (hb : EV C A env m σ eb (.int b 0)) (hn : Builtin.Range.rangeSize 0 b 1 = (n : Int))
    (hsm : Builtin.Range.small 0 b 1 = true) (h2 : starEach [eb] env = (false, eval eb env) :: starEach [] env := by rfl)
    (hplain : (backTo pos (starEach [] env)).any (·.1) = false := by rfl) :
    Src C A env m σ (.Call (.Name x p) [eb] [] pos) n (fun i => .int (0 + (i : Int)) 0) (fun _ => True) := fun σ₀ s₀ s R E E' W k => by
  refine wpAny_Call_NameR (hf.run W.self fun u s₁ hu W₁ => ?_)
  obtain rfl := nv_to_type hu
  refine callWith_type1 ((EVs.cons hb .nil h2).run W₁ fun us s₂ hus W₂ => ?_) h2 hplain
  obtain ⟨ub, rfl, h4⟩ := map_one hus
  obtain ⟨tb, rfl⟩ := nv_to_int h4
  refine call_range_1 ?_
  refine Src.rangeCore hh (W₂.push _ (s₂.toks + 1 + 1)) (IsRange.new ..) hsm hn fun I P s' W' h0 hO hP hI => k I P s' (W.step W'.toWv) ?_ hO hP hI
  refine (W₂.push { cls := .type "range", data := .fields #[.int 0 s₂.toks, .int b tb, .int 1 (s₂.toks + 1)] } (s₂.toks + 1 + 1)).mv.old h0 hO.nd
/-- the signs of a text -/
theorem Src.str {iter : Expr} {x : Str} (hh : A.handled = none) (hi : EV C A env m σ iter (.str x 0)) (ha : x.cps.all (· < 128) = true) : Src C A env m σ iter x.cps.size (fun i => .str ⟨#[x.cps.getD i 0]⟩ 0) (fun _ => True) := fun σ₀ s₀ s R E E' W k => by
  refine hi.run W.self fun u s₁ hu W₁ => ?_
  obtain ⟨t, rfl⟩ := nv_to_str hu
  refine wpAny_pyIter_ascii ha ?_
  refine k s₁.heap.objs.size (fun i h => h.IsStrIter s₁.heap.objs.size "str_ascii_iterator" x t i) _ ((W.step W₁.toWv).push _ s₁.toks) (W₁.mv.old (get_size _) (W₁.st.fresh (Nat.le_refl _))) W₁.newOff ⟨_, Heap.get?_push_size _ rfl, rfl, rfl⟩ ?_
  have Wk := Walks.strAscii (prog := C.prog) (w := C.w) hh s₁.heap.objs.size x t
  refine ⟨fun i σ s R E hi hP S _ k => ?_, fun σ s R E hP S _ k => ?_, fun i h h' hP hk => ?_, fun i h hP => ?_, fun target i s v R E hP r => ?_, fun i s R E hP r => Wk.self i s R E hP r⟩
  · refine Wk.item i s R E hi hP fun v h' tk hv hP' hk => ?_
    obtain ⟨c, u, hc, rfl⟩ := hv
    refine k _ h' tk ?_ hP' fun b o hb e => hk b o (by simpa using hb) e
    rw [nv_str]
    obtain ⟨h1, rfl⟩ := Array.getElem?_eq_some_iff.mp hc
    simp [Array.getD, h1]
  · exact Wk.done s R E hP fun h' tk hk => k h' tk fun b o hb e => hk b o (by simpa using hb) e
  · obtain ⟨o, ho, r⟩ := hP; exact ⟨o, hk _ ho, r⟩
  · obtain ⟨o, ho, r⟩ := hP; exact ⟨o, ho⟩
  · obtain ⟨o, ho, h1, h2⟩ := hP
    exact letOwned_plain (T := "str_ascii_iterator") ⟨o, ho, h1, h2, by decide⟩ r
end
end J
end

section
open PySem PySem.W PySem.Calls PyProof.Rows
set_option Elab.async false
set_option linter.unusedVariables false
namespace J
section
variable {C : Cx} {A : Around} {env : Env} {m : Loc} {σ σ₀ σ' : Ab} {s s₀ s' : Shared}

theorem Wd.off (W : Wd C A env m σ₀ s₀ σ s) {I : Addr} (x : Off C A env σ I) (h0 : s₀.heap.get? I = none) {h' : Heap} {tk : Nat} (hs : ∀ b o, b ≠ I → s.heap.get? b = some o → h'.get? b = some o) : Wd C A env m σ₀ s₀ σ { s with heap := h', toks := tk } := by
  have hI : ∀ b, own env b → b ≠ I := fun b hb q => x.no (q ▸ hb)
  refine ⟨⟨W.st.keeps fun b o hb e => hs b o ?_ e, ?_, ?_⟩, W.ok.keeps (fun b o hb e => hs b o (hI b hb) e) fun b hb => (W.ok.nd b hb).1⟩
  · rintro rfl
    rcases hb with d | q
    · exact x.nd d
    · rw [x.nh] at q; cases q
  · obtain ⟨l, hl, hf, hd⟩ := W.fs
    exact ⟨l, hl, FunFrames.turn hf fun e he L o hL ho hv => ⟨o, hs L o (fun q => x.nf l hl e he (q ▸ hL)) ho, hv⟩, hd⟩
  · refine ⟨fun b o e n p => hs b o (fun q => ?_) (W.mv.kp b o e n p), fun b o e n => ⟨(W.mv.fr b o e n).1, ?_⟩, W.mv.os, W.mv.gen⟩
    · rw [q, h0] at e; cases e
    · obtain ⟨o', e'⟩ := (W.mv.fr b o e n).2
      exact ⟨o', hs b o' (fun q => by rw [q, h0] at e; cases e) e'⟩
theorem St.addOff {h : Heap} (S : St C σ h) {a : Addr} {ao : AO} (hi : ao.isInst = false) (na : ¬ dom σ a) (nh : C.h₀.get? a = Option.none) (r : RO C h a ao) : St C (σ.put a ao) h := by
  refine ⟨S.keep, fun b o e => ?_, fun b d => ?_, fun b K fs e => ?_⟩
  · by_cases q : b = a
    · subst q; rw [put_same] at e; cases e; exact r
    · rw [put_ne q] at e; exact S.rep b o e
  · rcases dom_put d hi with rfl | d
    · exact nh
    · exact S.new b d
  · by_cases q : b + 1 = a
    · rw [q, put_same] at e; cases e; cases hi
    · rw [put_ne q] at e
      have := S.sep b K fs e
      by_cases q' : b = a
      · subst q'; exact absurd (.inr ⟨K, fs, e⟩) na
      · rw [put_ne q']; exact this
/-- an object that only we know comes into σ -/
theorem Wd.addOff (W : Wd C A env m σ₀ s₀ σ s) {a : Addr} {ao : AO} (x : Off C A env σ a) (h0 : s₀.heap.get? a = none) (hi : ao.isInst = false) (r : RO C s.heap a ao) : Wd C A env m σ₀ s₀ (σ.put a ao) s := by
  refine ⟨⟨W.st.addOff hi x.nd x.nh r, ?_, ?_⟩, W.ok.keeps (fun b o hb e => e) fun b hb d => ?_⟩
  · obtain ⟨l, hl, hf, hd⟩ := W.fs
    refine ⟨l, hl, hf, fun e he L hL d => ?_⟩
    rcases dom_put d hi with rfl | d
    · exact x.nf l hl e he hL
    · exact hd e he L hL d
  · refine ⟨W.mv.kp, fun b o e n => ⟨fun d => ?_, (W.mv.fr b o e n).2⟩, W.mv.os, W.mv.gen⟩
    rcases dom_put d hi with rfl | d
    · rw [h0] at e; cases e
    · exact (W.mv.fr b o e n).1 d
  · rcases dom_put d hi with rfl | d
    · exact x.no hb
    · exact (W.ok.nd b hb).1 d

theorem cm_loop {prog : Program} {w : World} {elt target iter : Expr} {ifs : List Expr} {scope : Scope} {pos : Pos} {it acc : Value} {env : Env} {R : Result → Shared → Prop} (I : Nat → Shared → Prop)
    (turn : ∀ n s, I n s → wpAny (model prog w) A (pyNext it) (fun r s₁ => match r with
      | none => R (.ok .next) s₁
      | some v => wpAny (model prog w) A (letOwnedTupleGo target it v) (fun _ s₀ => wpAny (model prog w) A (assign target env v) (fun _ s₂ =>
          wpAny (model prog w) A (forIn ifs true fun c r => if r = true then do let ok ← isTrue c env (eval c env); pure (ForInStep.yield ok) else pure (ForInStep.yield r)) (fun ok s₃ => if ok = true then wpAny (model prog w) A (eval elt env) (fun x s₄ =>
            wpAny (model prog w) A (call (.builtin "list.append") [acc, x]) (fun _ s₅ => ∃ m, m < n ∧ I m s₅) (notedBy (model prog w) A env fun e s' => R (.error e) s') s₄) (notedBy (model prog w) A env fun e s' => R (.error e) s') s₃
            else ∃ m, m < n ∧ I m s₃) (notedBy (model prog w) A env fun e s' => R (.error e) s') s₂)
          (notedBy (model prog w) A env fun e s' => R (.error e) s') s₀) (notedBy (model prog w) A env fun e s' => R (.error e) s') s₁) (notedBy (model prog w) A env fun e s' => R (.error e) s') s)
    (n : Nat) (h : I n s) : codeAny (model prog w) A (.compLoop (.ListComp elt [⟨target, iter, ifs, 0⟩] scope pos) 0 it acc env) R s := by
  refine codeAny_loop rfl I (fun n s hI => ?_) n h
  show wpAny _ A ((compTurn (.ListComp elt [⟨target, iter, ifs, 0⟩] scope pos) 0 it acc env).onRaise (fun x => do noteFrame x env; theTreesLotGoes x)) _ _ s
  refine wpAny_noted ?_
  rw [compTurn_list]
  refine wpAny_bind (wpAny_standAt (wpAny_bind (wpAny_mono (turn n s hI) (fun r s₁ h₁ => ?_) fun _ _ h' => h')))
  cases r with
  | none => exact wpAny_pure h₁
  | some v =>
    refine wpAny_bind (wpAny_mono h₁ (fun _ s₀ h₀' => ?_) fun _ _ h' => h')
    refine wpAny_bind (wpAny_mono h₀' (fun _ s₂ h₂ => ?_) fun _ _ h' => h')
    refine wpAny_bind (wpAny_mono h₂ (fun okb s₃ h₃ => ?_) fun _ _ h' => h')
    cases okb with
    | false => exact wpAny_pure ⟨rfl, h₃⟩
    | true => exact wpAny_bind (wpAny_bind (wpAny_mono h₃ (fun x s₄ h₄ => wpAny_bind (wpAny_mono h₄ (fun _ s₅ h₅ => wpAny_pure (wpAny_pure ⟨rfl, h₅⟩)) fun _ _ h' => h')) fun _ _ h' => h'))

abbrev TIfs (C : Cx) (A : Around) (env : Env) (m : Loc) (ifs : List Expr) (σ : Ab) (Q : Bool → Ab → Prop) : Prop :=
  TF C A env m (forIn ifs true fun c r => if r = true then do let ok ← isTrue c env (eval c env); pure (ForInStep.yield ok) else pure (ForInStep.yield r)) id σ Q
theorem TIfs_nil {Q : Bool → Ab → Prop} (h : Q true σ) : TIfs C A env m [] σ Q := fun σ₀ s₀ s R E W k => wpAny_tests_nil (k _ _ _ W h)
theorem TIfs_one {c : Expr} {Q : Bool → Ab → Prop} (h : TB C A env m c σ Q) : TIfs C A env m [c] σ Q := fun σ₀ s₀ s R E W k => wpAny_tests_one (h σ₀ s₀ s R E W k)

/-- the targets of a comprehension are laid: fs -/
def Tgt (C : Cx) (A : Around) (env : Env) (σ : Ab) (target : Expr) (u : Value) (fs : Loc) : Prop :=
  ∀ s M (R : Unit → Shared → Prop) (E : Value → Shared → Prop), St C σ s.heap → s.heap.Ns env.locals M → C.h₀.get? env.locals = none → ¬ dom σ env.locals →
    (∀ h' M' tk, h'.Ns env.locals M' → (∀ x v, fs.lookup x = some v → ∃ u, M' x = some u ∧ nv u = v) → (∀ b o, b ≠ env.locals → s.heap.get? b = some o → h'.get? b = some o) → R () { s with heap := h', toks := tk }) →
    wpAny C.M A (assign target env u) R E s
theorem Tgt.name {x : Str} {pos : Pos} {u : Value} (hk : env.scope.kind = .function) (hl : env.kindOf x = some .local) : Tgt C A env σ (.Name x pos) u [(x, nv u)] := fun s M R E S hM _ _ k => by
  refine wpAny_assign_Name (wpAny_storeName_local hl hM (fun h' hn hs => k h' _ _ hn (fun y v hy => ?_) fun b o hb e => hs.extBut b o hb e) (by rw [hk]; rfl))
  by_cases q : y = x
  · subst q; rw [lookup_cons_self] at hy; cases hy; exact ⟨u, by simp, rfl⟩
  · rw [lookup_cons_ne q] at hy; cases hy
theorem Tgt.pair {x y : Str} {px py tp : Pos} {kk : Nat} {T : Addr} {a b : Value} (hh : A.handled = none) (hk : env.scope.kind = .function) (hx : env.kindOf x = some .local) (hy : env.kindOf y = some .local) (hxy : x ≠ y) (hT : σ T = some (.tup [a, b])) :
    Tgt C A env σ (.Tuple [.Name x px, .Name y py] kk tp) (.ref T) [(x, a), (y, b)] := fun s M R E S hM _ _ k => by
  obtain ⟨vs, ht, hm⟩ := S.isTup hT
  obtain ⟨u, v, hv, h3, h4⟩ := map_two hm
  obtain rfl : vs = #[u, v] := Array.toList_inj.mp hv
  refine kcp_assign (m := M) hh ht hx hy (by rw [hk]; rfl) hM fun h' tk hn hs => k h' _ tk hn (fun z w hz => ?_) hs
  by_cases q : z = x
  · subst q; rw [lookup_cons_self] at hz; cases hz; exact ⟨u, by simp [hxy], h3⟩
  · rw [lookup_cons_ne q] at hz
    by_cases q' : z = y
    · subst q'; rw [lookup_cons_self] at hz; cases hz; exact ⟨v, by simp, h4⟩
    · rw [lookup_cons_ne q'] at hz; cases hz

/-- the frame of a comprehension at Cc: what it has captured -/
theorem FOk.comp {h : Heap} {scope : Scope} {cl : List (Str × Addr)} {Cc : Addr} {mc fs : Loc} {M : Str → Option Value} (O : FOk C env m σ h) (hk : scope.kind = .function) (hcl : ∀ x c, cl.lookup x = some c → env.cells.lookup x = some c) (hCc : ∀ x c, env.cells.lookup x = some c → c ≠ Cc)
    (hmc : ∀ x v, mc.lookup x = some v → (compEnvC scope cl Cc env).kindOf x ≠ some .local ∧ (cl.lookup x).isSome = true ∧ m.lookup x = some v ∧ (env.kindOf x = some .cell ∨ env.kindOf x = some .free))
    (hfs : ∀ x v, fs.lookup x = some v → (compEnvC scope cl Cc env).kindOf x = some .local ∧ ∃ u, M x = some u ∧ nv u = v)
    (hM : h.Ns Cc M) (nd : ¬ dom σ Cc) (nh : C.h₀.get? Cc = none) : FOk C (compEnvC scope cl Cc env) (fs ++ mc) σ h := by
  have hlk : ∀ x v, (fs ++ mc).lookup x = some v → fs.lookup x = some v ∨ (fs.lookup x = none ∧ mc.lookup x = some v) := fun x v e => by
    rw [List.lookup_append] at e
    cases q : fs.lookup x with
    | none => rw [q] at e; exact .inr ⟨rfl, by simpa using e⟩
    | some u => rw [q] at e; exact .inl (by simpa using e)
  have hc' : ∀ x c, (compEnvC scope cl Cc env).cells.lookup x = some c → env.cells.lookup x = some c := hcl
  refine ⟨hk, O.gl, O.bi, fun b hb => ?_, ⟨M, hM, fun x v e hl => ?_⟩, fun x c hc => ⟨hCc x c (hcl x c hc), (O.cl x c (hcl x c hc)).2⟩, fun x v e hl => ?_, fun x y c h1 h2 => O.inj x y c (hcl x c h1) (hcl y c h2)⟩
  · rcases hb with rfl | ⟨x, hx⟩
    · exact ⟨nd, nh⟩
    · exact O.nd b (.inr ⟨x, hcl x b hx⟩)
  · rcases hlk x v e with e | ⟨_, e⟩
    · exact (hfs x v e).2
    · exact absurd hl (hmc x v e).1
  · rcases hlk x v e with e | ⟨_, e⟩
    · rw [(hfs x v e).1] at hl; rcases hl with q | q <;> cases q
    · obtain ⟨_, h2, h3, h4⟩ := hmc x v e
      obtain ⟨c, u, hc, hcell, hu⟩ := O.ce x v h3 h4
      obtain ⟨c', hc'⟩ := Option.isSome_iff_exists.mp h2
      have := hcl x c' hc'
      rw [hc] at this; cases this
      exact ⟨c, u, hc', hcell, hu⟩

end
end J
end

section
open PySem PySem.W PySem.Calls PyProof.Rows
set_option Elab.async false
set_option linter.unusedVariables false
namespace J
section
variable {C : Cx} {A : Around} {env : Env} {m : Loc} {σ σ₀ σ' : Ab} {s s₀ s' : Shared}

/-- one turn of a comprehension -/
def CTurn (C : Cx) (A : Around) (env : Env) (scope : Scope) (cl : List (Str × Addr)) (mc : Loc) (target elt : Expr) (ifs : List Expr) (n : Nat) (val : Nat → Value) (Sd : Ab → Prop) (Iv : Nat → List Value → Ab → Prop) : Prop :=
  ∀ Cc i ys σ' u, i < n → nv u = val i → Sd σ' → Iv i ys σ' → ∃ fs, Tgt C A (compEnvC scope cl Cc env) σ' target u fs ∧ (∀ x v, fs.lookup x = some v → (compEnvC scope cl Cc env).kindOf x = some .local) ∧
    TIfs C A (compEnvC scope cl Cc env) (fs ++ mc) ifs σ' fun b σ₁ => if b = true then TE C A (compEnvC scope cl Cc env) (fs ++ mc) elt σ₁ fun v σ₂ => Sd σ₂ ∧ Iv (i + 1) (ys ++ [v]) σ₂ else Sd σ₁ ∧ Iv (i + 1) ys σ₁

structure CSt (C : Cx) (A : Around) (env : Env) (m : Loc) (σ : Ab) (s : Shared) (I D Cc : Addr) (P : Nat → Heap → Prop) (i : Nat) (ys : List Value) (σ' : Ab) (s' : Shared) : Prop where
  w : Wd C A env m σ s σ' s'
  oI : Off C A env σ' I
  oD : Off C A env σ' D
  oC : Off C A env σ' Cc
  p : P i s'.heap
  c : ∃ M, s'.heap.Ns Cc M
  d : ∃ vs, s'.heap.PlainList D vs ∧ vs.toList.map nv = ys

theorem comp_loop {elt target iter : Expr} {ifs : List Expr} {scope : Scope} {pos : Pos} {cl : List (Str × Addr)} {mc : Loc} {I D Cc : Addr} {n : Nat} {val : Nat → Value} {P : Nat → Heap → Prop} {Sd : Ab → Prop} {R : Result → Shared → Prop}
    (T : Iter C A (.ref I) I n val P Sd) (Iv : Nat → List Value → Ab → Prop) (turn : CTurn C A env scope cl mc target elt ifs n val Sd Iv)
    (hn : n ≤ sizeLine) (hk : scope.kind = .function) (hcl : ∀ x c, cl.lookup x = some c → env.cells.lookup x = some c)
    (hmc : ∀ Cc x v, mc.lookup x = some v → (compEnvC scope cl Cc env).kindOf x ≠ some .local ∧ (cl.lookup x).isSome = true ∧ m.lookup x = some v ∧ (env.kindOf x = some .cell ∨ env.kindOf x = some .free))
    (hI : s.heap.get? I = none) (hD : s.heap.get? D = none) (hC : s.heap.get? Cc = none) (hID : I ≠ D) (hIC : I ≠ Cc) (hDC : D ≠ Cc)
    (X : CSt C A env m σ s I D Cc P 0 [] σ' s') (hS : Sd σ') (hJ : Iv 0 [] σ')
    (k : ∀ (ys : List Value) (σ'' : Ab) (s'' : Shared), CSt C A env m σ s I D Cc P n ys σ'' s'' → Sd σ'' → Iv n ys σ'' → ∀ (h' : Heap) (tk : Nat), (∀ b o, b ≠ I → s''.heap.get? b = some o → h'.get? b = some o) → R (.ok .next) { s'' with heap := h', toks := tk }) :
    codeAny C.M A (.compLoop (.ListComp elt [⟨target, iter, ifs, 0⟩] scope pos) 0 (.ref I) (.ref D) (compEnvC scope cl Cc env)) R s' := by
  refine cm_loop (fun j s₁ => ∃ i ys σ₁, j = n - i ∧ i ≤ n ∧ ys.length ≤ i ∧ CSt C A env m σ s I D Cc P i ys σ₁ s₁ ∧ Sd σ₁ ∧ Iv i ys σ₁) ?_ n ⟨0, [], σ', rfl, Nat.zero_le _, Nat.le_refl _, X, hS, hJ⟩
  rintro j s₁ ⟨i, ys, σ₁, rfl, hi, hly, X₁, S₁, J₁⟩
  have hfr : ∀ x c, env.cells.lookup x = some c → c ≠ Cc := fun x c hc q => X₁.oC.no (.inr ⟨x, q ▸ hc⟩)
  rcases Nat.lt_or_ge i n with hlt | hge
  · refine T.next i σ₁ s₁ _ _ hlt X₁.p X₁.w.st S₁ fun u h' tk hu hP' hk' => ?_
    have W₂ := X₁.w.off X₁.oI hI (tk := tk) hk'
    obtain ⟨M, hM⟩ := X₁.c
    have hM₂ : h'.Ns Cc M := hM.at' fun o e => hk' _ o (Ne.symm hIC) e
    refine T.owned target (i + 1) _ u _ _ hP' ?_
    obtain ⟨fs, ht, hfs, hturn⟩ := turn Cc i ys σ₁ u hlt hu S₁ J₁
    refine ht { s₁ with heap := h', toks := tk } M _ _ W₂.st hM₂ X₁.oC.nh X₁.oC.nd fun h₃ M₃ tk₃ hM₃ hf₃ hk₃ => ?_
    have W₃ := W₂.off X₁.oC hC (tk := tk₃) hk₃
    have O₃ : FOk C (compEnvC scope cl Cc env) (fs ++ mc) σ₁ h₃ := W₃.ok.comp hk hcl hfr (hmc Cc) (fun x v e => ⟨hfs x v e, hf₃ x v e⟩) hM₃ X₁.oC.nd X₁.oC.nh
    have P₃ : P (i + 1) h₃ := T.keep _ _ _ hP' fun o e => hk₃ I o hIC e
    obtain ⟨vs, hvs, hys⟩ := X₁.d
    have D₃ : h₃.PlainList D vs := hvs.at fun o e => hk₃ D o hDC (hk' D o (Ne.symm hID) e)
    have aI : ∃ o, h₃.get? I = some o := T.alive _ _ P₃
    have aD : ∃ o, h₃.get? D = some o := let ⟨_, e⟩ := D₃; ⟨_, e⟩
    have aC : ∃ o, h₃.get? Cc = some o := let ⟨o, _, _, e, _⟩ := hM₃; ⟨o, e⟩
    refine hturn σ₁ _ { s₁ with heap := h₃, toks := tk₃ } _ _ ⟨⟨W₃.st, W₃.fs, Mv.refl ..⟩, O₃⟩ fun b s₄ σ₄ W₄ q₄ => ?_
    have Z₄ : ∀ {σ₅ s₅}, Wv C A σ₁ { s₁ with heap := h₃, toks := tk₃ } σ₅ s₅ → CSt C A env m σ s I D Cc P (i + 1) ys σ₅ s₅ := fun {σ₅ s₅} V => by
      refine ⟨W₃.step V, X₁.oI.mv V.mv aI, X₁.oD.mv V.mv aD, X₁.oC.mv V.mv aC, T.keep _ _ _ P₃ fun o e => V.mv.kp I o e X₁.oI.nd id, ⟨M₃, hM₃.at' fun o e => V.mv.kp Cc o e X₁.oC.nd id⟩, vs, D₃.at fun o e => V.mv.kp D o e X₁.oD.nd id, hys⟩
    cases b with
    | false =>
      rw [if_neg Bool.false_ne_true]
      have q₄ : Sd σ₄ ∧ Iv (i + 1) ys σ₄ := by simpa using q₄
      exact ⟨n - (i + 1), by omega, i + 1, ys, σ₄, rfl, hlt, Nat.le_succ_of_le hly, Z₄ W₄.toWv, q₄.1, q₄.2⟩
    | true =>
      rw [if_pos rfl]
      have q₄ : TE C A (compEnvC scope cl Cc env) (fs ++ mc) elt σ₄ fun v σ₂ => Sd σ₂ ∧ Iv (i + 1) (ys ++ [v]) σ₂ := by simpa using q₄
      refine q₄ σ₁ _ s₄ _ _ W₄ fun v s₅ σ₅ W₅ q₅ => ?_
      have X₅ := Z₄ W₅.toWv
      obtain ⟨vs₅, hvs₅, hys₅⟩ := X₅.d
      have hsz : vs₅.size ≤ sizeLine := by rw [size_of_map hys₅]; omega
      refine wpAny_list_append_plain hvs₅ (fun h₆ hl₆ hs₆ => ?_) hsz
      have W₆ := X₅.w.off X₅.oD hD (tk := s₅.toks) (h' := h₆) fun b o hb e => hs₆.extBut b o hb e
      refine ⟨n - (i + 1), by omega, i + 1, ys ++ [nv v], σ₅, rfl, hlt, by simp; omega, ⟨W₆, X₅.oI, X₅.oD, X₅.oC, T.keep _ _ _ X₅.p fun o e => hs₆.extBut I o hID e, ?_, vs₅.push v, hl₆, ?_⟩, q₅.1, q₅.2⟩
      · obtain ⟨M, hM⟩ := X₅.c
        exact ⟨M, hM.sameBut hs₆ (Ne.symm hDC)⟩
      · rw [Array.toList_push, List.map_append, hys₅]; rfl
  · obtain rfl : i = n := Nat.le_antisymm hi hge
    refine T.stop σ₁ s₁ _ _ X₁.p X₁.w.st S₁ fun h' tk hk' => ?_
    exact k ys σ₁ s₁ X₁ S₁ J₁ h' tk hk'

/-- after a comprehension: the list is at D, and Cc is only ours -/
theorem comp_block {elt target iter : Expr} {ifs : List Expr} {scope : Scope} {pos : Pos} {cl : List (Str × Addr)} {mc : Loc} {I : Addr} {n : Nat} {val : Nat → Value} {P : Nat → Heap → Prop} {Sd : Ab → Prop} {E : Value → Shared → Prop} {RR : Value → Addr → Result → Shared → Prop}
    (T : Iter C A (.ref I) I n val P Sd) (Iv : Nat → List Value → Ab → Prop) (turn : CTurn C A env scope cl mc target elt ifs n val Sd Iv)
    (hn : n ≤ sizeLine) (hk : scope.kind = .function) (hcell : ∀ y ∈ scope.names, y.2 ≠ .cell) (hcl : ∀ x c, cl.lookup x = some c → env.cells.lookup x = some c)
    (hmc : ∀ Cc x v, mc.lookup x = some v → (compEnvC scope cl Cc env).kindOf x ≠ some .local ∧ (cl.lookup x).isSome = true ∧ m.lookup x = some v ∧ (env.kindOf x = some .cell ∨ env.kindOf x = some .free))
    (W : Wd C A env m σ s σ s') (hI : s.heap.get? I = none) (oI : Off C A env σ I) (hP : P 0 s'.heap) (aI : ∃ o, s'.heap.get? I = some o) (hS : Sd σ) (hJ : Iv 0 [] σ)
    (k : ∀ (ys : List Value) (σ'' : Ab) (s'' : Shared) (D Cc : Addr), Wd C A env m σ s (σ''.put D (.list ys)) s'' → σ'' D = none → Sd σ'' → Iv n ys σ'' → Off C A env (σ''.put D (.list ys)) Cc → s.heap.get? Cc = none → (∃ M, s''.heap.Ns Cc M) → RR (.ref D) Cc (.ok .next) s'') :
    wpAny C.M A (newList []) (fun acc s₃ => wpAny C.M A (newFunctionEnv scope env.globals cl [] env.qual none .none (some env)) (fun cenv s₄ =>
      codeAny C.M A (.compStart (.ListComp elt [⟨target, iter, ifs, 0⟩] scope pos) 0 (.ref I) acc { cenv with scope := relabel scope env }) (RR acc cenv.locals) s₄) E s₃) E s' := by
  refine wpAny_newObj_type (wpAny_newFunctionEnv hcell (by intro y hy; simp at hy) (fun h₁ hns₁ hsb₁ => ?_) hk)
  dsimp only at hns₁ hsb₁ ⊢
  generalize hH2 : s'.heap.push { cls := .type "list", dict := none, data := .seq ([] : List Value).toArray } = H2 at hns₁ hsb₁ ⊢
  have hC : H2.objs.size = s'.heap.objs.size + 1 := by rw [← hH2, Heap.size_push]
  have hDC : s'.heap.objs.size ≠ H2.objs.size := by rw [hC]; exact Nat.ne_of_lt (Nat.lt_succ_self _)
  have below : ∀ b, b < s'.heap.objs.size → b ≠ H2.objs.size ∧ b ≠ s'.heap.objs.size := fun b hb => ⟨by rw [hC]; exact Nat.ne_of_lt (Nat.lt_succ_of_lt hb), Nat.ne_of_lt hb⟩
  have old : ∀ b o, s'.heap.get? b = some o → h₁.get? b = some o := fun b o e => hsb₁.extBut b o (below b (Heap.lt_size e)).1 (Heap.get?_push_of_some _ (hH2 ▸ Heap.get?_push_of_some _ e))
  have hacc : h₁.PlainList s'.heap.objs.size #[] := ⟨_, hsb₁.extBut _ _ hDC (Heap.get?_push_of_some _ (hH2 ▸ Heap.get?_push_size _ rfl))⟩
  have W₁ : Wd C A env m σ s σ { s' with heap := h₁, toks := s'.toks + ([] : List (Str × Value)).length } := W.ext old
  have fresh : ∀ a, s'.heap.objs.size ≤ a → s'.heap.get? a = none := fun a ha => by
    cases e : s'.heap.get? a with
    | none => rfl
    | some o' => exact absurd (Heap.lt_size e) (Nat.not_lt.mpr ha)
  have offN : ∀ a, s'.heap.objs.size ≤ a → Off C A env σ a := fun a ha => by
    refine ⟨W.st.fresh ha, fun h => ?_, ?_, fun l hl e he q => ?_⟩
    · obtain ⟨o, e⟩ := W.ok.own_alive h
      exact absurd (Heap.lt_size e) (Nat.not_lt.mpr ha)
    · cases q : C.h₀.get? a with
      | none => rfl
      | some o => exact absurd (Heap.lt_size (W.st.keep _ _ q)) (Nat.not_lt.mpr ha)
    · obtain ⟨l', hl', hf, hd⟩ := W.fs
      obtain rfl : l' = l := Option.some.inj (hl'.symm.trans hl)
      obtain ⟨L, o, hL, ho⟩ := PyProof.Rows.funFrames_in hf e he
      obtain rfl : L = a := Option.some.inj (hL.symm.trans q)
      exact absurd (Heap.lt_size ho) (Nat.not_lt.mpr ha)
  have hsN : ∀ a, s'.heap.objs.size ≤ a → s.heap.get? a = none := fun a ha => W.mv.old (fresh a ha) (offN a ha).nd
  have hCs : s'.heap.objs.size ≤ H2.objs.size := by rw [hC]; exact Nat.le_succ _
  obtain ⟨oi, hoi⟩ := aI
  have hIb := below I (Heap.lt_size hoi)
  have X : CSt C A env m σ s I s'.heap.objs.size H2.objs.size P 0 [] σ { s' with heap := h₁, toks := s'.toks + ([] : List (Str × Value)).length } :=
    ⟨W₁, oI, offN _ (Nat.le_refl _), offN _ hCs, T.keep _ _ _ hP fun o e => old I o e, ⟨_, hns₁⟩, #[], hacc, rfl⟩
  have loop : ∀ s₃ : Shared, s₃ = { s' with heap := h₁, toks := s'.toks + ([] : List (Str × Value)).length } →
      codeAny C.M A (.compLoop (.ListComp elt [⟨target, iter, ifs, 0⟩] scope pos) 0 (.ref I) (.ref s'.heap.objs.size) (compEnvC scope cl H2.objs.size env)) (RR (.ref s'.heap.objs.size) H2.objs.size) s₃ := by
    rintro s₃ rfl
    refine comp_loop T Iv turn hn hk hcl hmc hI (hsN _ (Nat.le_refl _)) (hsN _ hCs) hIb.2 hIb.1 hDC X hS hJ fun ys σ'' s'' X' S' J' h' tk hk' => ?_
    have W' := X'.w.off X'.oI hI (tk := tk) hk'
    obtain ⟨vs, hvs, hys⟩ := X'.d
    have D' : h'.PlainList s'.heap.objs.size vs := hvs.at fun o e => hk' _ o (Ne.symm hIb.2) e
    have D'' : RO C h' s'.heap.objs.size (.list ys) := let ⟨n, e⟩ := D'; ⟨vs, n, e, hys⟩
    have W'' := W'.addOff X'.oD (hsN _ (Nat.le_refl _)) rfl D''
    refine k ys σ'' _ _ _ W'' ?_ S' J' ⟨fun d => ?_, X'.oC.no, X'.oC.nh, X'.oC.nf⟩ (hsN _ hCs) ?_
    · cases q : σ'' s'.heap.objs.size with
      | none => rfl
      | some o => exact absurd (dom_of q) X'.oD.nd
    · rcases dom_put d rfl with q | d
      · exact hDC q.symm
      · exact X'.oC.nd d
    · obtain ⟨M, hM⟩ := X'.c
      exact ⟨M, hM.at' fun o e => hk' _ o (Ne.symm hIb.1) e⟩
  exact codeAny_compStart_list (loop _ rfl) (T.self 0 _ _ _ X.p (loop _ rfl))

/-- a list comprehension -/
theorem TE_comp {elt target iter : Expr} {ifs : List Expr} {scope : Scope} {pos : Pos} {cl : List (Str × Addr)} {mc : Loc} {n : Nat} {val : Nat → Value} {Sd : Ab → Prop} {Q : Value → Ab → Prop}
    (hi : Src C A env m σ iter n val Sd) (hl : Sd σ) (Iv : Nat → List Value → Ab → Prop) (hJ : Iv 0 [] σ) (turn : CTurn C A env scope cl mc target elt ifs n val Sd Iv)
    (done : ∀ ys σ' D, Sd σ' → Iv n ys σ' → σ' D = none → Q (.ref D) (σ'.put D (.list ys)))
    (hn : n ≤ sizeLine) (hclos : closureFor scope env = pure cl) (hcl : ∀ x c, cl.lookup x = some c → env.cells.lookup x = some c)
    (hmc : ∀ Cc x v, mc.lookup x = some v → (compEnvC scope cl Cc env).kindOf x ≠ some .local ∧ (cl.lookup x).isSome = true ∧ m.lookup x = some v ∧ (env.kindOf x = some .cell ∨ env.kindOf x = some .free))
    (hk : scope.kind = .function := by rfl) (hcell : ∀ y ∈ scope.names, y.2 ≠ .cell := by decide) (hnames : ∀ x ∈ scope.names, x.2 = .local → scope.names.lookup x.1 = some .local := by decide)
    (hs : ∀ x, foldedSetIterable iter env x = pure x := by intro _; rfl) : TE C A env m (.ListComp elt [⟨target, iter, ifs, 0⟩] scope pos) σ Q := fun σ₀ s₀ s R E W k => by
  rw [eval_ListComp]
  refine wpAny_comprehension_free (use := none) rfl hs hclos hk hnames (hi σ s s _ _ _ W.self fun I P s₂ W₂ h0 hO hP hI => ?_)
  refine comp_block (RR := fun acc C' => compPost C.M A E none R acc C') hI Iv turn hn hk hcell hcl hmc W₂ h0 hO hP (hI.alive _ _ hP) hl hJ fun ys σ'' s'' D Cc W' nD S' J' oC hC hM => ?_
  obtain ⟨M, hM⟩ := hM
  refine ⟨M, hM, fun h' hs' => ?_⟩
  have W'' := W'.off (tk := s''.toks) oC hC (h' := h') fun b o hb e => hs'.extBut b o hb e
  exact k (.ref D) _ _ (W.step W''.toWv) (done ys σ'' D S' J' nD)

/-- x = [..], where the two are on one line -/
theorem TX_assignComp {elt target iter : Expr} {ifs : List Expr} {scope : Scope} {pos spos py : Pos} {y : Str} {cl : List (Str × Addr)} {mc : Loc} {n : Nat} {val : Nat → Value} {Sd : Ab → Prop} {Q : Flow → Loc → Ab → Prop}
    (hy : env.kindOf y = some .local) (hi : Src C A env m σ iter n val Sd) (hl : Sd σ) (Iv : Nat → List Value → Ab → Prop) (hJ : Iv 0 [] σ) (turn : CTurn C A env scope cl mc target elt ifs n val Sd Iv)
    (done : ∀ ys σ' D, Sd σ' → Iv n ys σ' → σ' D = none → Q .next ((y, .ref D) :: m) (σ'.put D (.list ys)))
    (hn : n ≤ sizeLine) (hclos : closureFor scope env = pure cl) (hcl : ∀ x c, cl.lookup x = some c → env.cells.lookup x = some c)
    (hmc : ∀ Cc x v, mc.lookup x = some v → (compEnvC scope cl Cc env).kindOf x ≠ some .local ∧ (cl.lookup x).isSome = true ∧ m.lookup x = some v ∧ (env.kindOf x = some .cell ∨ env.kindOf x = some .free))
    (hsw : swapsWith (.ListComp elt [⟨target, iter, ifs, 0⟩] scope pos) (some (.Name y py)) spos.line env = pure true)
    (hk : scope.kind = .function := by rfl) (hcell : ∀ y ∈ scope.names, y.2 ≠ .cell := by decide) (hnames : ∀ x ∈ scope.names, x.2 = .local → scope.names.lookup x.1 = some .local := by decide)
    (hs : ∀ x, foldedSetIterable iter env x = pure x := by intro _; rfl) : TX C A env m (.Assign [.Name y py] (.ListComp elt [⟨target, iter, ifs, 0⟩] scope pos) spos) σ Q := fun σ₀ s₀ s R E W k => by
  show wpAny _ A (exec (.Assign [.Name y py] (.ListComp elt [⟨target, iter, ifs, 0⟩] scope pos) spos) env) R E s
  rw [exec_Assign_Name_used _ _ _ _ hsw]
  refine wpAny_bind (wpAny_standAt (wpAny_bind ?_))
  show wpAny _ A (do let _ ← comprehension (.ListComp elt [⟨target, iter, ifs, 0⟩] scope pos) scope env _ (newList []) false (eval iter env) (some (assign (.Name y py) env))) _ _ s
  refine wpAny_bind (wpAny_mono (wpAny_comprehension_free (use := some (assign (.Name y py) env)) (Q := fun _ s' => R .next s') rfl hs hclos hk hnames (hi σ s s _ _ _ W.wd fun I P s₂ W₂ h0 hO hP hI => ?_)) (fun _ s' hq => wpAny_pure (wpAny_pure hq)) fun _ _ e => e)
  refine comp_block (RR := fun acc C' => compPost C.M A E (some (assign (.Name y py) env)) (fun _ s' => R .next s') acc C') hI Iv turn hn hk hcell hcl hmc W₂ h0 hO hP (hI.alive _ _ hP) hl hJ fun ys σ'' s'' D Cc W' nD S' J' oC hC hM => ?_
  obtain ⟨M, hM⟩ := hM
  show wpAny _ A (assign (.Name y py) env (.ref D)) _ _ _
  have X' : Wx C A env m σ s (σ''.put D (.list ys)) s'' := W.self.step W'
  refine wpAny_assign_Name (X'.self.storeL hy fun s₃ W₃ => ?_)
  refine ⟨M, hM.at' fun o e => W₃.mv.kp Cc o e oC.nd oC.no, fun h' hs' => ?_⟩
  have W'' := (X'.trans W₃).off (tk := s₃.toks) oC hC (h' := h') fun b o hb e => hs'.extBut b o hb e
  exact k .next _ _ _ (W.trans W'') (done ys σ'' D S' J' nD)
end
end J
end

section
open PySem PySem.W PySem.Calls PyProof.Rows
set_option Elab.async false
set_option linter.unusedVariables false
namespace J
section
variable {C : Cx} {A : Around} {env : Env} {m : Loc} {σ σ₀ σ' : Ab} {s s₀ s' : Shared}

theorem Wd.alloc (W : Wd C A env m σ₀ s₀ σ s) {ao : AO} (hi : ao.isInst = false) (o : Obj) (tk : Nat) (r : RO C (s.heap.push o) s.heap.objs.size ao) : Wd C A env m σ₀ s₀ (σ.put s.heap.objs.size ao) { s with heap := s.heap.push o, toks := tk } :=
  W.go (s' := { s with heap := s.heap.push o, toks := tk }) (W.st.add hi (Nat.le_refl _) (push_keeps o) r) (W.st.addMv hi (Nat.le_refl _) (push_keeps o))
theorem Wd.newNone (W : Wd C A env m σ₀ s₀ σ s) : σ s.heap.objs.size = none := W.st.none (Nat.le_refl _)
theorem Wd.upd (W : Wd C A env m σ₀ s₀ σ s) {a : Addr} {ao ao' : AO} (e : σ a = some ao) (hi : ao.isInst = false) (hi' : ao'.isInst = false) {h' : Heap} (tk : Nat) (k : ∀ b o, b ≠ a → s.heap.get? b = some o → h'.get? b = some o) (r : RO C h' a ao') : Wd C A env m σ₀ s₀ (σ.put a ao') { s with heap := h', toks := tk } :=
  W.go (s' := { s with heap := h', toks := tk }) (W.st.upd e hi hi' k r) (Mv.upd e hi' k)

-- DISPLAYS
theorem TE_list {elts : List Expr} {pos : Pos} {Q : Value → Ab → Prop} (h : TAs C A env m pos elts σ fun vs σ' => vs.length ≤ sizeLine ∧ ∀ D, σ' D = none → Q (.ref D) (σ'.put D (.list vs))) : TE C A env m (.List elts pos) σ Q := fun σ₀ s₀ s R E W k =>
  wpAny_List_spliced (h σ₀ s₀ s _ E W fun vs s' σ' W' q => ⟨by simpa using q.1, k _ _ _ (W'.alloc (ao := .list (vs.map nv)) rfl { cls := .type "list", data := .seq vs.toArray } s'.toks ⟨vs.toArray, _, Heap.get?_push_size _ rfl, rfl⟩) (q.2 _ W'.newNone)⟩)
theorem TE_tup {elts : List Expr} {x1 : Nat} {pos : Pos} {Q : Value → Ab → Prop} (h : TAs C A env m pos elts σ fun vs σ' => vs.length ≤ sizeLine ∧ ∀ D, σ' D = none → Q (.ref D) (σ'.put D (.tup vs))) : TE C A env m (.Tuple elts x1 pos) σ Q := fun σ₀ s₀ s R E W k =>
  wpAny_Tuple_spliced (h σ₀ s₀ s _ E W fun vs s' σ' W' q => ⟨by simpa using q.1, k _ _ _ (W'.alloc (ao := .tup (vs.map nv)) rfl { cls := .type "tuple", data := .seq vs.toArray } s'.toks ⟨vs.toArray, _, Heap.get?_push_size _ rfl, rfl⟩) (q.2 _ W'.newNone)⟩)
theorem TE_dict0 {pos : Pos} {Q : Value → Ab → Prop} (ao : AO) (hao : ao = .dS (fun _ => none) 0 ∨ ao = .dB (fun _ => none) 0 ∨ ao = .dI (fun _ => none) 0) (h : ∀ D, σ D = none → Q (.ref D) (σ.put D ao)) : TE C A env m (.Dict [] [] pos) σ Q := fun σ₀ s₀ s R E W k => by
  refine wpAny_Dict_empty ?_
  have hsys : (s.heap.objs.size == sysModules) = false := by
    have h1 : mainGlobals < s.heap.objs.size := by
      obtain ⟨o, _, _, ho, _⟩ := C.T.g
      exact Heap.lt_size (W.st.keep _ _ ho)
    have h2 : (sysModules : Nat) < mainGlobals := by decide
    have h3 : s.heap.objs.size ≠ sysModules := fun q => Nat.lt_irrefl _ (Nat.lt_trans (q ▸ h1) h2)
    simpa using h3
  have hi : ao.isInst = false := by rcases hao with rfl | rfl | rfl <;> rfl
  refine k _ _ _ (W.alloc hi { cls := .type "dict", data := .dict #[] } s.toks ?_) (h _ W.newNone)
  rcases hao with rfl | rfl | rfl
  · exact ⟨hsys, [], Heap.DictOf.new _, Nat.le_refl _, fun _ => rfl⟩
  · exact ⟨hsys, [], Heap.DictOf.new _, Nat.le_refl _, fun _ => rfl⟩
  · exact ⟨hsys, [], Heap.DictOf.new _, Nat.le_refl _, fun _ => rfl⟩

-- NUMBERS, TEXTS
theorem EV_fdiv {l r : Expr} {pos : Pos} {a b : Int} (hl : EV C A env m σ l (.int a 0)) (hr : EV C A env m σ r (.int b 0)) (hb0 : b ≠ 0) (hs : b.natAbs < 1073741824) : EV C A env m σ (.BinOp l .FloorDiv r pos) (.int (a.fdiv b) 0) :=
  EV_bin hl hr fun a' b' ha hb s R E S k => by obtain ⟨t, rfl⟩ := nv_to_int ha; obtain ⟨u, rfl⟩ := nv_to_int hb; exact PyProof.Rows.floordiv_int hb0 (k _ _ rfl) (.inl (PyProof.noPylong_small hs))
theorem Itm.str {x : Str} {i : Nat} {c : Nat} (hi : i < 1000) (hc : x.cps[i]? = some c) : Itm C A σ (.str x 0) (.int i 0) (.str ⟨#[c]⟩ 0) := fun o' i' ho hii s R E S k value slice hs => by
  obtain ⟨t, rfl⟩ := nv_to_str ho
  obtain ⟨u, rfl⟩ := nv_to_int hii
  have hlt : i < x.cps.size := (Array.getElem?_eq_some_iff.mp hc).1
  refine tail_any (T := "str") (typeIs_str s x t) slot_str_getitem.lookup (PyProof.Rows.getItem_str (by simp; omega) ?_ (k _ _ rfl)) (hs _ _)
  have e2 : ((i : Int) < (x.cps.size : Int)) := Int.ofNat_lt.mpr hlt
  have e3 : seqIndex? (i : Int) x.length = some i := by
    have h0 : ¬ ((i : Int) < 0) := by omega
    have e4 : ((i : Int) < (x.length : Int)) := e2
    have h1 : (0 ≤ (i : Int)) := by omega
    unfold seqIndex?
    simp only [h0, if_false, e4, h1, decide_true, Bool.and_self, if_true, Int.toNat_natCast]
  rw [e3]
  exact hc
theorem TX_aug {x : Str} {pos' pos : Pos} {e : Expr} {a b : Int} {Q : Flow → Loc → Ab → Prop} (hx : env.kindOf x = some .local) (hv : m.lookup x = some (.int a 0)) (he : EV C A env m σ e (.int b 0)) (h : Q .next ((x, .int (a + b) 0) :: m) σ) :
    TX C A env m (.AugAssign (.Name x pos') .Add e pos) σ Q := fun σ₀ s₀ s R E W k => by
  refine wpAny_AugAssign_Name ?_
  obtain ⟨M, hM, hm⟩ := W.ok.ns
  obtain ⟨u, hu, e'⟩ := hm x _ hv hx
  refine wpAny_loadName_local W.ok.fn hx hM hu ?_
  obtain ⟨t, rfl⟩ := nv_to_int e'
  refine he.run W.wd fun v s₁ hv W₁ => ?_
  obtain ⟨t', rfl⟩ := nv_to_int hv
  have W₁' := W.step W₁
  refine PyProof.Rows.iadd_int ?_
  exact (W₁'.step (W₁'.wd.tok _)).storeL hx fun s₂ W₂ => k .next _ _ _ W₂ h

-- DICTS
theorem valueAt_stored {K : Type} [DecidableEq K] (kvs : List (K × Value)) (k : K) (v : Value) (x : K) : valueAt (stored kvs k v) x = if x = k then some v else valueAt kvs x := by
  unfold stored valueAt
  split
  · rename_i h
    induction kvs with
    | nil => simp at h
    | cons p r ih =>
      obtain ⟨y, w⟩ := p
      by_cases q : y = k
      · subst q
        by_cases q2 : x = y
        · subst q2; simp
        · have : ∀ r : List (K × Value), ((r.map fun kv => if kv.1 = y then (kv.1, v) else kv).find? fun kv => decide (kv.1 = x)).map (·.2) = (r.find? fun kv => decide (kv.1 = x)).map (·.2) := fun r => by
            induction r with
            | nil => rfl
            | cons p r ih =>
              obtain ⟨z, w⟩ := p
              by_cases q3 : z = y
              · subst q3; simp [List.find?_cons, Ne.symm q2, ih]; simpa using ih
              · by_cases q4 : z = x
                · subst q4; simp [q3]
                · simp [List.find?_cons, q3, q4]; simpa using ih
          have := this r
          simp [List.find?_cons, Ne.symm q2, q2]; simpa using this
      · have h' : (r.any fun kv => decide (kv.1 = k)) = true := by simpa [q] using h
        have ih := ih h'
        by_cases q2 : y = x
        · subst q2; simp [q]
        · simp [List.find?_cons, q, q2]; simpa using ih
  · rename_i h
    rw [List.find?_append]
    by_cases q : x = k
    · subst q
      have : (kvs.find? fun kv => decide (kv.1 = x)) = none := by
        rw [List.find?_eq_none]
        intro p hp e
        exact h (List.any_eq_true.mpr ⟨p, hp, e⟩)
      simp [this]
    · cases z : kvs.find? fun kv => decide (kv.1 = x) with
      | none => simp [q, Ne.symm q]
      | some p => simp [q]
end
end J
end

section
open PySem PySem.W PySem.Calls PyProof.Rows
set_option Elab.async false
set_option linter.unusedVariables false
namespace J
section
variable {C : Cx} {A : Around} {env : Env} {m : Loc} {σ σ₀ σ' : Ab} {s s₀ s' : Shared}

theorem callWith_bi {pos : Pos} {id : String} {first : List Value} {e : Expr} {es : List Expr} {Q : Value → Ab → Prop}
    (h : TAs C A env m pos (e :: es) σ fun vs σ' => CallR C A (.builtin id) (first.map nv ++ vs) σ' Q)
    (he : starEach (e :: es) env = (false, eval e env) :: starEach es env := by rfl) (hp : (backTo pos (starEach es env)).any (·.1) = false := by rfl) :
    TF C A env m (callWith pos (.builtin id) first (backTo pos (starEach (e :: es) env)) []) nv σ Q := fun σ₀ s₀ s R E W k => by
  have h' := fun (E : Value → Shared → Prop) => h σ₀ s₀ s (fun us s₁ => wpAny C.M A (call (.builtin id) (first ++ us)) R E s₁) E W fun us s' σ' W' q => q.run (by simp) W' k
  rw [he] at h' ⊢
  exact callWith_builtin (by show (false || (backTo pos (starEach es env)).any (·.1)) = false; rw [hp]; rfl) (evalArgs_plain (h' E))
/-- a builtin by its global name -/
theorem TE_bcall {x : Str} {p pos : Pos} {id : String} {e : Expr} {es : List Expr} {Q : Value → Ab → Prop} (hf : EV C A env m σ (.Name x p) (.builtin id))
    (h : TAs C A env m pos (e :: es) σ fun vs σ' => CallR C A (.builtin id) vs σ' Q)
    (he : starEach (e :: es) env = (false, eval e env) :: starEach es env := by rfl) (hp : (backTo pos (starEach es env)).any (·.1) = false := by rfl) :
    TE C A env m (.Call (.Name x p) (e :: es) [] pos) σ Q := fun σ₀ s₀ s R E W k =>
  wpAny_Call_NameR (hf.run W fun u s₁ hu W₁ => by
    obtain rfl := nv_to_builtin hu
    exact callWith_bi (first := []) h he hp σ₀ s₀ s₁ R E W₁ k)
/-- the class of a builtin object of σ -/
def AO.T : AO → String
  | .inst .. => "object"
  | .list _ => "list"
  | .tup _ => "tuple"
  | _ => "dict"
theorem St.typeIs (S : St C σ s.heap) {a : Addr} {ao : AO} (e : σ a = some ao) (hi : ao.isInst = false) : s.TypeIs (.ref a) ao.T ∧ ∃ o, s.heap.get? a = some o ∧ o.dict = Option.none := by
  have r := S.rep a ao e
  cases ao with
  | inst => cases hi
  | list xs => obtain ⟨vs, n, ho, _⟩ := r; exact ⟨⟨_, ho, rfl⟩, _, ho, rfl⟩
  | tup xs => obtain ⟨vs, n, ho, _⟩ := r; exact ⟨⟨_, ho, rfl⟩, _, ho, rfl⟩
  | dS f n => obtain ⟨_, kvs, ⟨o, es, ep, ho, hx, r⟩, _⟩ := r; exact ⟨⟨o, ho, hx.1⟩, o, ho, hx.2.1⟩
  | dB f n => obtain ⟨_, kvs, ⟨o, es, ep, ho, hx, r⟩, _⟩ := r; exact ⟨⟨o, ho, hx.1⟩, o, ho, hx.2.1⟩
  | dI f n => obtain ⟨_, kvs, ⟨o, es, ep, ho, hx, r⟩, _⟩ := r; exact ⟨⟨o, ho, hx.1⟩, o, ho, hx.2.1⟩
/-- o.x(e, ..) of a builtin object -/
theorem TE_bmeth {o : Expr} {x : Str} {apos pos : Pos} {a : Addr} {ao : AO} {id : String} {e : Expr} {es : List Expr} {pl : Sem Bool} {Q : Value → Ab → Prop} (ho : EV C A env m σ o (.ref a)) (ha : σ a = some ao) (hi : ao.isInst = false)
    (pa : PlainAttrs ao.T) (slot : Slot ao.T x id) (hty : typeOf (.builtin id) = pure (.type "method_descriptor"))
    (h : TAs C A env m pos (e :: es) σ fun vs σ' => CallR C A (.builtin id) (.ref a :: vs) σ' Q)
    (he : eval (.Call (.Attribute o x apos) (e :: es) [] pos) env = (do
      let ov ← eval o env
      standAt apos.atName
      let (f, first) ← holding [ov] (getMethod ov x pl)
      callWith pos f first (backTo pos (starEach (e :: es) env)) []) := by rfl)
    (he' : starEach (e :: es) env = (false, eval e env) :: starEach es env := by rfl) (hp : (backTo pos (starEach es env)).any (·.1) = false := by rfl) :
    TE C A env m (.Call (.Attribute o x apos) (e :: es) [] pos) σ Q := fun σ₀ s₀ s R E W k =>
  MethodCall_ (ho.run W fun u s₁ hu W₁ => by
    obtain rfl := nv_to_ref hu
    obtain ⟨hT, hd⟩ := W₁.st.typeIs ha hi
    refine getMethod_builtin hT pa slot hty (fun b hb => by cases hb; exact hd) ?_
    exact callWith_bi (first := [.ref a]) h he' hp σ₀ s₀ s₁ R E W₁ k) he

theorem CallR.of {f : Value} {as : List Value} {Q : Value → Ab → Prop} (h : ∀ us, us.map nv = as → ∀ σ₀ s₀ s (R : Value → Shared → Prop) (E : Value → Shared → Prop), Wv C A σ₀ s₀ σ s → (∀ v s' σ', Wv C A σ₀ s₀ σ' s' → Q (nv v) σ' → R v s') → wpAny C.M A (call f us) R E s) : CallR C A f as σ Q :=
  fun us hu σ₀ s₀ s R E W k => h us hu σ₀ s₀ s R E W k
theorem Wv.upd (W : Wv C A σ₀ s₀ σ s) {a : Addr} {ao ao' : AO} (e : σ a = some ao) (hi : ao.isInst = false) (hi' : ao'.isInst = false) {h' : Heap} (tk : Nat) (k : ∀ b o, b ≠ a → s.heap.get? b = some o → h'.get? b = some o) (r : RO C h' a ao') : Wv C A σ₀ s₀ (σ.put a ao') { s with heap := h', toks := tk } :=
  W.go (s' := { s with heap := h', toks := tk }) (W.st.upd e hi hi' k r) (Mv.upd e hi' k)
theorem Wv.alloc (W : Wv C A σ₀ s₀ σ s) {ao : AO} (hi : ao.isInst = false) (o : Obj) (tk : Nat) (r : RO C (s.heap.push o) s.heap.objs.size ao) : Wv C A σ₀ s₀ (σ.put s.heap.objs.size ao) { s with heap := s.heap.push o, toks := tk } :=
  W.go (s' := { s with heap := s.heap.push o, toks := tk }) (W.st.add hi (Nat.le_refl _) (push_keeps o) r) (W.st.addMv hi (Nat.le_refl _) (push_keeps o))

theorem map_cons2 {us : List Value} {a b : Value} (h : us.map nv = [a, b]) : ∃ u v, us = [u, v] ∧ nv u = a ∧ nv v = b := map_two h
theorem map_three {us : List Value} {a b c : Value} (h : us.map nv = [a, b, c]) : ∃ u v w, us = [u, v, w] ∧ nv u = a ∧ nv v = b ∧ nv w = c := by
  rcases us with _ | ⟨ua, us⟩
  · simp at h
  · obtain ⟨h1, h2⟩ := List.cons.inj h
    obtain ⟨u, v, rfl, h3, h4⟩ := map_two h2
    exact ⟨ua, u, v, rfl, h1, h3, h4⟩
/-- l.append(v) -/
theorem call_append {l : Addr} {xs : List Value} {v : Value} {Q : Value → Ab → Prop} (hl : σ l = some (.list xs)) (hn : xs.length ≤ sizeLine) (h : Q .none (σ.put l (.list (xs ++ [v])))) : CallR C A (.builtin "list.append") [.ref l, v] σ Q := CallR.of fun us hu σ₀ s₀ s R E W k => by
  obtain ⟨u, w, rfl, h1, h2⟩ := map_two hu
  obtain rfl := nv_to_ref h1
  obtain ⟨vs, n, ho, hx⟩ := W.st.rep l _ hl
  refine wpAny_list_append_plain (items := vs) ⟨n, ho⟩ (fun h' hl' hs' => ?_) (by rw [size_of_map hx]; exact hn)
  refine k .none _ _ (W.upd hl rfl rfl s.toks (fun b o hb e => hs'.extBut b o hb e) ?_) h
  obtain ⟨n', ho'⟩ := hl'
  exact ⟨_, n', ho', by rw [Array.toList_push, List.map_append, hx, ← h2]; rfl⟩
/-- l.extend(b) -/
theorem call_extend {l b : Addr} {xs ys : List Value} {Q : Value → Ab → Prop} (hl : σ l = some (.list xs)) (hb : σ b = some (.list ys)) (hn : xs.length + ys.length ≤ 1000) (h : Q .none (σ.put l (.list (xs ++ ys)))) : CallR C A (.builtin "list.extend") [.ref l, .ref b] σ Q := CallR.of fun us hu σ₀ s₀ s R E W k => by
  obtain ⟨u, w, rfl, h1, h2⟩ := map_two hu
  obtain rfl := nv_to_ref h1
  obtain rfl := nv_to_ref h2
  obtain ⟨vs, n, ho, hx⟩ := W.st.rep l _ hl
  obtain ⟨ws, n2, ho2, hy⟩ := W.st.rep b _ hb
  have e1 := size_of_map hx
  have e2 := size_of_map hy
  have hs : (1000 : Nat) ≤ sizeLine := by decide
  refine call_meets PySem.F.slot_list_extend ⟨_, ho, rfl⟩ PySem.F.entry_list_extend (PySem.F.args_list_extend_2 _ _) (PySem.AutoSeq1.list_extend_list_list_0 l vs n b ws n2 ?_ (by omega) (by omega)) ⟨ho, ho2, ?_⟩
  · have : ¬ (vs.size + ws.size > sizeLine) := by omega
    simp [Builtin.List.listTooLong, this]
  · have e3 : (s.heap.update l (Obj.mapSeq fun x => x ++ ws)).get? l = some (Obj.mapSeq (fun x => x ++ ws) { cls := .type "list", data := .seq vs n }) := Heap.get?_update_self _ ho rfl
    exact k .none _ _ (W.upd (ao' := .list (xs ++ ys)) hl rfl rfl s.toks (fun b o hb e => (Heap.SameBut.update ..).extBut b o hb e) ⟨_, _, e3, by simp [hx, hy]⟩) h
/-- l.insert(0, v) -/
theorem call_insert0 {l : Addr} {xs : List Value} {v : Value} {Q : Value → Ab → Prop} (hl : σ l = some (.list xs)) (hn : xs.length ≤ 1000) (h : Q .none (σ.put l (.list (v :: xs)))) : CallR C A (.builtin "list.insert") [.ref l, .int 0 0, v] σ Q := CallR.of fun us hu σ₀ s₀ s R E W k => by
  obtain ⟨u, i, w, rfl, h1, h2, h3⟩ := map_three hu
  obtain rfl := nv_to_ref h1
  obtain ⟨t, rfl⟩ := nv_to_int h2
  obtain ⟨vs, n, ho, hx⟩ := W.st.rep l _ hl
  have e1 := size_of_map hx
  have hs : (1000 : Nat) ≤ sizeLine := by decide
  refine call_meets PySem.F.slot_list_insert ⟨_, ho, rfl⟩ PySem.F.entry_list_insert (PySem.F.args_list_insert_3 _ _ _) (PySem.AutoSeq1.list_insert_list_int_val_1 l vs n 0 t w (by simp [Builtin.List.listFitsIndex]) (by omega)) ⟨ho, ?_⟩
  have e3 := Heap.get?_update_self (Obj.mapSeq fun xs => have k := if (0 : Int) < 0 then ((0 : Int) + (xs.size : Int)).toNat else min (0 : Int).toNat xs.size; (xs.extract 0 k).push w ++ xs.extract k) ho rfl
  exact k .none _ _ (W.upd (ao' := .list (v :: xs)) hl rfl rfl s.toks (fun b o hb e => (Heap.SameBut.update ..).extBut b o hb e) ⟨_, _, e3, by simp [hx, h3]⟩) h

-- dict.get, d[k] = v
theorem getD_nvS {kvs : List ((Str) × Value)} {f : Str → Option Value} (hf : ∀ x, (valueAt kvs x).map nv = f x) (x : Str) (d : Value) : nv ((valueAt kvs x).getD d) = (f x).getD (nv d) := by
  rw [← hf x]; cases valueAt kvs x <;> rfl
theorem call_get1S {d : Addr} {f : Str → Option Value} {n : Nat} {x : Str} {Q : Value → Ab → Prop} (hd : σ d = some (.dS f n)) (h : Q ((f x).getD .none) σ) : CallR C A (.builtin "dict.get") [.ref d, .str x 0] σ Q := CallR.of fun us hu σ₀ s₀ s R E W k => by
  obtain ⟨u, w, rfl, h1, h2⟩ := map_two hu
  obtain rfl := nv_to_ref h1
  obtain ⟨t, rfl⟩ := nv_to_str h2
  obtain ⟨hs, kvs, hdo, hn, hf⟩ := W.st.rep d _ hd
  refine call_meetsIn PySem.F.slot_dict_get hdo.mapOf.typeIs PySem.F.entry_dict_get (PySem.F.args_dict_get_2 _ _) (meets_dict_get (PySem.strKind C.prog C.w) d isStrKind hs) ⟨_, hdo.mapOf, k _ _ _ (W.tok (s.toks + 1)) ?_⟩
  rw [getD_nvS hf x .none]; exact h
theorem call_get2S {d : Addr} {f : Str → Option Value} {n : Nat} {x : Str} {v : Value} {Q : Value → Ab → Prop} (hd : σ d = some (.dS f n)) (h : Q ((f x).getD v) σ) : CallR C A (.builtin "dict.get") [.ref d, .str x 0, v] σ Q := CallR.of fun us hu σ₀ s₀ s R E W k => by
  obtain ⟨u, w, w2, rfl, h1, h2, h3⟩ := map_three hu
  obtain rfl := nv_to_ref h1
  obtain ⟨t, rfl⟩ := nv_to_str h2
  obtain ⟨hs, kvs, hdo, hn, hf⟩ := W.st.rep d _ hd
  refine call_meetsIn PySem.F.slot_dict_get hdo.mapOf.typeIs PySem.F.entry_dict_get (PySem.F.args_dict_get_3 _ _ _) (meets_dict_get_default (PySem.strKind C.prog C.w) d isStrKind hs w2) ⟨_, hdo.mapOf, k _ _ _ (W.tok (s.toks + 1)) ?_⟩
  rw [getD_nvS hf x w2, h3]; exact h
/-- d[x] = v -/
theorem TX_setS {o i value : Expr} {pos' pos : Pos} {d : Addr} {f : Str → Option Value} {n : Nat} {x : Str} {Q : Flow → Loc → Ab → Prop}
    (h : TE C A env m value σ fun v σ' => EV C A env m σ' o (.ref d) ∧ EV C A env m σ' i (.str x 0) ∧ σ' d = some (.dS f n) ∧ n ≤ sizeLine ∧ Q .next m (σ'.put d (.dS (fun y => if y = x then some v else f y) (n + 1))))
    (hs : swapsWith value (some (.Subscript o i pos')) pos.line env = pure false := by rfl) : TX C A env m (.Assign [.Subscript o i pos'] value pos) σ Q := fun σ₀ s₀ s R E W k => by
  refine wpAny_Assign_Subscript (h.use W fun v s₁ σ₁ W₁ ⟨ho, hi, hd, hnl, q⟩ => ho.run W₁.wd fun u s₂ hu W₂ => hi.run W₂ fun w s₃ hw W₃ => ?_) hs
  obtain rfl := nv_to_ref hu
  obtain ⟨t, rfl⟩ := nv_to_str hw
  obtain ⟨hsy, kvs, hdo, hn, hf⟩ := W₃.st.rep d _ hd
  refine wpAny_setItem_pairs (knd := PySem.strKind C.prog C.w) isStrKind hdo (fun h' hdo' hs' => ?_) (Nat.le_trans hn hnl)
  refine k .next _ _ _ (W₁.step (W₃.upd (ao' := .dS (fun y => if y = x then some (nv v) else f y) (n + 1)) hd rfl rfl (s₃.toks + 1) (fun b o hb e => hs'.extBut b o hb e) ⟨hsy, _, hdo', Nat.le_trans (stored_length_le _ _ _) (Nat.succ_le_succ hn), fun y => ?_⟩)) q
  rw [valueAt_stored]
  by_cases q : y = x
  · simp [q]
  · simp only [if_neg q]; exact hf y
theorem getD_nvB {kvs : List ((List UInt8) × Value)} {f : List UInt8 → Option Value} (hf : ∀ x, (valueAt kvs x).map nv = f x) (x : List UInt8) (d : Value) : nv ((valueAt kvs x).getD d) = (f x).getD (nv d) := by
  rw [← hf x]; cases valueAt kvs x <;> rfl
theorem call_get1B {d : Addr} {f : List UInt8 → Option Value} {n : Nat} {x : List UInt8} {Q : Value → Ab → Prop} (hd : σ d = some (.dB f n)) (h : Q ((f x).getD .none) σ) : CallR C A (.builtin "dict.get") [.ref d, .bytes x.toArray 0] σ Q := CallR.of fun us hu σ₀ s₀ s R E W k => by
  obtain ⟨u, w, rfl, h1, h2⟩ := map_two hu
  obtain rfl := nv_to_ref h1
  obtain ⟨t, rfl⟩ := nv_to_bytes h2
  obtain ⟨hs, kvs, hdo, hn, hf⟩ := W.st.rep d _ hd
  refine call_meetsIn PySem.F.slot_dict_get hdo.mapOf.typeIs PySem.F.entry_dict_get (PySem.F.args_dict_get_2 _ _) (meets_dict_get (bytesKind C.prog C.w) d isBytesKind hs) ⟨_, hdo.mapOf, k _ _ _ (W.tok (s.toks + 1)) ?_⟩
  rw [getD_nvB hf x .none]; exact h
theorem call_get2B {d : Addr} {f : List UInt8 → Option Value} {n : Nat} {x : List UInt8} {v : Value} {Q : Value → Ab → Prop} (hd : σ d = some (.dB f n)) (h : Q ((f x).getD v) σ) : CallR C A (.builtin "dict.get") [.ref d, .bytes x.toArray 0, v] σ Q := CallR.of fun us hu σ₀ s₀ s R E W k => by
  obtain ⟨u, w, w2, rfl, h1, h2, h3⟩ := map_three hu
  obtain rfl := nv_to_ref h1
  obtain ⟨t, rfl⟩ := nv_to_bytes h2
  obtain ⟨hs, kvs, hdo, hn, hf⟩ := W.st.rep d _ hd
  refine call_meetsIn PySem.F.slot_dict_get hdo.mapOf.typeIs PySem.F.entry_dict_get (PySem.F.args_dict_get_3 _ _ _) (meets_dict_get_default (bytesKind C.prog C.w) d isBytesKind hs w2) ⟨_, hdo.mapOf, k _ _ _ (W.tok (s.toks + 1)) ?_⟩
  rw [getD_nvB hf x w2, h3]; exact h
/-- d[x] = v -/
theorem TX_setB {o i value : Expr} {pos' pos : Pos} {d : Addr} {f : List UInt8 → Option Value} {n : Nat} {x : List UInt8} {Q : Flow → Loc → Ab → Prop}
    (h : TE C A env m value σ fun v σ' => EV C A env m σ' o (.ref d) ∧ EV C A env m σ' i (.bytes x.toArray 0) ∧ σ' d = some (.dB f n) ∧ n ≤ sizeLine ∧ Q .next m (σ'.put d (.dB (fun y => if y = x then some v else f y) (n + 1))))
    (hs : swapsWith value (some (.Subscript o i pos')) pos.line env = pure false := by rfl) : TX C A env m (.Assign [.Subscript o i pos'] value pos) σ Q := fun σ₀ s₀ s R E W k => by
  refine wpAny_Assign_Subscript (h.use W fun v s₁ σ₁ W₁ ⟨ho, hi, hd, hnl, q⟩ => ho.run W₁.wd fun u s₂ hu W₂ => hi.run W₂ fun w s₃ hw W₃ => ?_) hs
  obtain rfl := nv_to_ref hu
  obtain ⟨t, rfl⟩ := nv_to_bytes hw
  obtain ⟨hsy, kvs, hdo, hn, hf⟩ := W₃.st.rep d _ hd
  refine wpAny_setItem_pairs (knd := bytesKind C.prog C.w) isBytesKind hdo (fun h' hdo' hs' => ?_) (Nat.le_trans hn hnl)
  refine k .next _ _ _ (W₁.step (W₃.upd (ao' := .dB (fun y => if y = x then some (nv v) else f y) (n + 1)) hd rfl rfl (s₃.toks + 1) (fun b o hb e => hs'.extBut b o hb e) ⟨hsy, _, hdo', Nat.le_trans (stored_length_le _ _ _) (Nat.succ_le_succ hn), fun y => ?_⟩)) q
  rw [valueAt_stored]
  by_cases q : y = x
  · simp [q]
  · simp only [if_neg q]; exact hf y
theorem getD_nvI {kvs : List ((Int) × Value)} {f : Int → Option Value} (hf : ∀ x, (valueAt kvs x).map nv = f x) (x : Int) (d : Value) : nv ((valueAt kvs x).getD d) = (f x).getD (nv d) := by
  rw [← hf x]; cases valueAt kvs x <;> rfl
theorem call_get1I {d : Addr} {f : Int → Option Value} {n : Nat} {x : Int} {Q : Value → Ab → Prop} (hd : σ d = some (.dI f n)) (h : Q ((f x).getD .none) σ) : CallR C A (.builtin "dict.get") [.ref d, .int x 0] σ Q := CallR.of fun us hu σ₀ s₀ s R E W k => by
  obtain ⟨u, w, rfl, h1, h2⟩ := map_two hu
  obtain rfl := nv_to_ref h1
  obtain ⟨t, rfl⟩ := nv_to_int h2
  obtain ⟨hs, kvs, hdo, hn, hf⟩ := W.st.rep d _ hd
  refine call_meetsIn PySem.F.slot_dict_get hdo.mapOf.typeIs PySem.F.entry_dict_get (PySem.F.args_dict_get_2 _ _) (meets_dict_get (PySem.intKind C.prog C.w) d isIntKind hs) ⟨_, hdo.mapOf, k _ _ _ (W.tok (s.toks + 1)) ?_⟩
  rw [getD_nvI hf x .none]; exact h
theorem call_get2I {d : Addr} {f : Int → Option Value} {n : Nat} {x : Int} {v : Value} {Q : Value → Ab → Prop} (hd : σ d = some (.dI f n)) (h : Q ((f x).getD v) σ) : CallR C A (.builtin "dict.get") [.ref d, .int x 0, v] σ Q := CallR.of fun us hu σ₀ s₀ s R E W k => by
  obtain ⟨u, w, w2, rfl, h1, h2, h3⟩ := map_three hu
  obtain rfl := nv_to_ref h1
  obtain ⟨t, rfl⟩ := nv_to_int h2
  obtain ⟨hs, kvs, hdo, hn, hf⟩ := W.st.rep d _ hd
  refine call_meetsIn PySem.F.slot_dict_get hdo.mapOf.typeIs PySem.F.entry_dict_get (PySem.F.args_dict_get_3 _ _ _) (meets_dict_get_default (PySem.intKind C.prog C.w) d isIntKind hs w2) ⟨_, hdo.mapOf, k _ _ _ (W.tok (s.toks + 1)) ?_⟩
  rw [getD_nvI hf x w2, h3]; exact h
/-- d[x] = v -/
theorem TX_setI {o i value : Expr} {pos' pos : Pos} {d : Addr} {f : Int → Option Value} {n : Nat} {x : Int} {Q : Flow → Loc → Ab → Prop}
    (h : TE C A env m value σ fun v σ' => EV C A env m σ' o (.ref d) ∧ EV C A env m σ' i (.int x 0) ∧ σ' d = some (.dI f n) ∧ n ≤ sizeLine ∧ Q .next m (σ'.put d (.dI (fun y => if y = x then some v else f y) (n + 1))))
    (hs : swapsWith value (some (.Subscript o i pos')) pos.line env = pure false := by rfl) : TX C A env m (.Assign [.Subscript o i pos'] value pos) σ Q := fun σ₀ s₀ s R E W k => by
  refine wpAny_Assign_Subscript (h.use W fun v s₁ σ₁ W₁ ⟨ho, hi, hd, hnl, q⟩ => ho.run W₁.wd fun u s₂ hu W₂ => hi.run W₂ fun w s₃ hw W₃ => ?_) hs
  obtain rfl := nv_to_ref hu
  obtain ⟨t, rfl⟩ := nv_to_int hw
  obtain ⟨hsy, kvs, hdo, hn, hf⟩ := W₃.st.rep d _ hd
  refine wpAny_setItem_pairs (knd := PySem.intKind C.prog C.w) isIntKind hdo (fun h' hdo' hs' => ?_) (Nat.le_trans hn hnl)
  refine k .next _ _ _ (W₁.step (W₃.upd (ao' := .dI (fun y => if y = x then some (nv v) else f y) (n + 1)) hd rfl rfl (s₃.toks + 1) (fun b o hb e => hs'.extBut b o hb e) ⟨hsy, _, hdo', Nat.le_trans (stored_length_le _ _ _) (Nat.succ_le_succ hn), fun y => ?_⟩)) q
  rw [valueAt_stored]
  by_cases q : y = x
  · simp [q]
  · simp only [if_neg q]; exact hf y
end
end J
end

section
open PySem PySem.W PySem.Calls PyProof.Rows
set_option Elab.async false
set_option linter.unusedVariables false
namespace J
section
variable {C : Cx} {A : Around} {env : Env} {m : Loc} {σ σ₀ σ' : Ab} {s s₀ s' : Shared}

theorem Tru.none : Tru C A σ .none false := fun u hu s R E S k => by obtain rfl := nv_to_none hu; exact PyProof.Rows.truthy_none (k s.toks)
theorem EB_tru {e : Expr} {v : Value} {b : Bool} (h : EV C A env m σ e v) (ht : Tru C A σ v b) (he : ∀ whole, isTrue e env whole = (do let v ← whole; standAt e.pos; holding [v] (truthy v)) := by intro _; rfl) : EB C A env m σ e b := EB_val h ht he
theorem nv_to_float {v : Value} {x : UInt64} (h : nv v = .float x 0) : ∃ t, v = .float x t := by cases v <;> simp_all [nv]

-- len
theorem call_len {l : Addr} {xs : List Value} {Q : Value → Ab → Prop} (hl : σ l = some (.list xs)) (hn : xs.length ≤ 1000) (h : Q (.int xs.length 0) σ) : CallR C A (.builtin "len") [.ref l] σ Q := CallR.of fun us hu σ₀ s₀ s R E W k => by
  obtain ⟨u, rfl, h1⟩ := map_one hu
  obtain rfl := nv_to_ref h1
  obtain ⟨vs, hls, hx⟩ := W.st.isList hl
  have e1 := size_of_map hx
  refine call_len_list hls (by omega) (k _ _ _ (W.tok _) ?_)
  rw [nv_int, e1]; exact h
theorem call_len0 {l : Addr} {items : Array Value} {n : Nat} {Q : Value → Ab → Prop} (hl : C.h₀.IsList l items) (hn : items.size = n) (hf : (n : Int) < 2 ^ 63) (h : Q (.int n 0) σ) : CallR C A (.builtin "len") [.ref l] σ Q := CallR.of fun us hu σ₀ s₀ s R E W k => by
  obtain ⟨u, rfl, h1⟩ := map_one hu
  obtain rfl := nv_to_ref h1
  obtain ⟨o, ho, r⟩ := hl
  refine call_len_list (items := items) ⟨o, W.st.keep _ _ ho, r⟩ (by rw [hn]; exact hf) (k _ _ _ (W.tok _) ?_)
  rw [nv_int, hn]; exact h

-- isinstance
theorem not_loader {v : Value} {a : Addr} (h : nv v = .ref a) : v ≠ .builtin "__main__.__loader__#opaque" := by
  obtain rfl := nv_to_ref h; intro q; cases q
theorem call_isinst {a K D : Addr} {fs : Loc} {Q : Value → Ab → Prop} (ha : σ a = some (.inst K fs)) (e : isIn C.K (.ref K) D = true) (h : Q (.bool true) σ) : CallR C A (.builtin "isinstance") [.ref a, .ref D] σ Q := CallR.of fun us hu σ₀ s₀ s R E W k => by
  obtain ⟨u, v, rfl, h1, h2⟩ := map_two hu
  obtain rfl := nv_to_ref h1
  obtain rfl := nv_to_ref h2
  obtain ⟨d, od, I, _⟩ := W.st.inst ha
  exact isi_call W.st.K (fun M => I.type) e (by intro q; cases q) (k _ _ _ W h)
theorem call_isKind {v : Value} {t : Value} {c : Value} {b : Bool} {H : Heap → Prop} {Q : Value → Ab → Prop} (hc : nv c = c) (hZ : ∀ u, nv u = v → KitX C.K u t H ∧ u ≠ .builtin "__main__.__loader__#opaque") (hH : ∀ h, St C σ h → H h) (e : kitOne C.K t c = some b) (hcu : ∀ u, nv u = c → u = c) (h : Q (.bool b) σ) : CallR C A (.builtin "isinstance") [v, c] σ Q := CallR.of fun us hu σ₀ s₀ s R E W k => by
  obtain ⟨u, w, rfl, h1, h2⟩ := map_two hu
  obtain rfl := hcu w h2
  obtain ⟨Z, hx⟩ := hZ u h1
  exact kia_one Z W.st.K (hH _ W.st) e hx fun tk => k _ _ _ (W.tok tk) h
theorem call_isList {a : Addr} {xs : List Value} {Q : Value → Ab → Prop} (ha : σ a = some (.list xs)) (e : kitOne C.K (.type "list") (.type "list") = some true) (h : Q (.bool true) σ) : CallR C A (.builtin "isinstance") [.ref a, .type "list"] σ Q :=
  call_isKind (H := KitAt a "list") rfl (fun u hu => by obtain rfl := nv_to_ref hu; exact ⟨kitx_list, by intro q; cases q⟩) (fun h S => by obtain ⟨vs, n, ho, _⟩ := S.rep a _ ha; exact ⟨_, ho, rfl⟩) e (fun u hu => nv_to_type hu) h
theorem call_isBytes {x : List UInt8} {Q : Value → Ab → Prop} (e : kitOne C.K (.type "bytes") (.type "bytes") = some true) (h : Q (.bool true) σ) : CallR C A (.builtin "isinstance") [.bytes x.toArray 0, .type "bytes"] σ Q :=
  call_isKind (H := fun _ => True) rfl (fun u hu => by obtain ⟨t, rfl⟩ := nv_to_bytes hu; exact ⟨kitx_bytes, by intro q; cases q⟩) (fun h S => trivial) e (fun u hu => nv_to_type hu) h
theorem call_isStr {x : Str} {c : Value} {b : Bool} {Q : Value → Ab → Prop} (hc : ∀ u, nv u = c → u = c) (hcc : nv c = c) (e : kitOne C.K (.type "str") c = some b) (h : Q (.bool b) σ) : CallR C A (.builtin "isinstance") [.str x 0, c] σ Q :=
  call_isKind (H := fun _ => True) hcc (fun u hu => by obtain ⟨t, rfl⟩ := nv_to_str hu; exact ⟨kitx_str, by intro q; cases q⟩) (fun h S => trivial) e hc h

-- list + list, l[:]
theorem TE_cat {l r : Expr} {pos : Pos} {a b : Addr} {xs ys : List Value} {Q : Value → Ab → Prop} (hl : TE C A env m l σ fun v σ' => v = .ref a ∧ TE C A env m r σ' fun w σ'' => w = .ref b ∧ σ'' a = some (.list xs) ∧ σ'' b = some (.list ys) ∧ xs.length + ys.length ≤ 1000 ∧ ∀ D, σ'' D = none → Q (.ref D) (σ''.put D (.list (xs ++ ys)))) :
    TE C A env m (.BinOp l .Add r pos) σ Q := fun σ₀ s₀ s R E W k =>
  wpAny_BinOp (hl σ₀ s₀ s _ E W fun u s₁ σ₁ W₁ ⟨h1, hr⟩ => hr σ₀ s₀ s₁ _ E W₁ fun w s₂ σ₂ W₂ ⟨h2, ha, hb, hn, q⟩ => by
    obtain rfl := nv_to_ref h1
    obtain rfl := nv_to_ref h2
    obtain ⟨vs, n, ho, hx⟩ := W₂.st.rep a _ ha
    obtain ⟨ws, n2, ho2, hy⟩ := W₂.st.rep b _ hb
    have e1 := size_of_map hx
    have e2 := size_of_map hy
    have hs : (1000 : Nat) ≤ sizeLine := by decide
    exact PySem.P.add_list ho ho2 (k _ _ _ (W₂.alloc (ao := .list (xs ++ ys)) rfl _ s₂.toks ⟨_, _, Heap.get?_push_size _ rfl, by simp [hx, hy]⟩) (q _ W₂.newNone)) (by omega))
theorem slice_all (items : Array Value) : slicePick items Option.none Option.none Option.none = items := by
  have e : slicePick items Option.none Option.none Option.none = slicePick items (some ((0 : Nat) : Int)) Option.none Option.none := by
    unfold slicePick
    congr 2
  rw [e, slicePick_from items 0 (Nat.zero_le _)]; simp
theorem TE_sliceAll {o : Expr} {p pos : Pos} {a : Addr} {xs : List Value} {Q : Value → Ab → Prop} (ho : EV C A env m σ o (.ref a)) (ha : σ a = some (.list xs)) (hn : xs.length ≤ 1000) (h : ∀ D, σ D = none → Q (.ref D) (σ.put D (.list xs)))
    (ht : ∀ ov r, letTemporaryGo o ov r = pure () := by intro _ _; rfl) : TE C A env m (.Subscript o (.Slice none none none p) pos) σ Q := fun σ₀ s₀ s R E W k =>
  wpAny_Subscript_list_slice (ho.run W fun u s₁ hu W₁ => by
    obtain rfl := nv_to_ref hu
    rw [evalPart_none]
    refine wpAny_pure (wpAny_pure ?_)
    obtain ⟨vs, n, hoo, hx⟩ := W₁.st.rep a _ ha
    have e1 := size_of_map hx
    have hs : (1000 : Nat) ≤ sizeLine := by decide
    refine ⟨a, vs, none, none, rfl, ⟨_, hoo, rfl, _, rfl⟩, by omega, .none, .none, ?_⟩
    have W₂ := W₁.push { cls := .type "slice", data := .fields #[.none, .none, .none] } s₁.toks
    have hz : (s₁.heap.push { cls := .type "slice", data := .fields #[.none, .none, .none] }).objs.size = s₁.heap.objs.size + 1 := Heap.size_push ..
    have W₃ := W₂.alloc (ao := .list xs) rfl { cls := .type "list", data := .seq (slicePick vs none none none) } s₁.toks ⟨_, _, Heap.get?_push_size _ rfl, by rw [slice_all]; exact hx⟩
    rw [← hz]
    exact k _ _ _ W₃ (h _ W₂.newNone)) ht
end
end J
end

section
open PySem PySem.W PySem.Calls PyProof.Rows
set_option Elab.async false
set_option linter.unusedVariables false
namespace J
section
variable {C : Cx} {A : Around} {env : Env} {m : Loc} {σ σ₀ σ' : Ab} {s s₀ s' : Shared}

-- set()
theorem TE_set0 {x : Str} {p pos : Pos} {Q : Value → Ab → Prop} (hf : EV C A env m σ (.Name x p) (.type "set")) (h : ∀ D, Q (.ref D) σ) (hx : starEach [] env = [] := by rfl) : TE C A env m (.Call (.Name x p) [] [] pos) σ Q := fun σ₀ s₀ s R E W k =>
  wpAny_Call_NameR (hf.run W fun u s₁ hu W₁ => by
    obtain rfl := nv_to_type hu
    rw [hx]
    exact PySem.callWith_type rfl (PySem.evalArgs_none (call_set_0 fun led => k _ _ _ (W₁.push _ s₁.toks) (h _))))

-- int.to_bytes(20, 'big')
def big20 (x : Int) : List UInt8 := (PySem.W.KTBy.low x 20).reverse
theorem call_toBytes {x : Int} {Q : Value → Ab → Prop} (h0 : 0 ≤ x) (h1 : x < 256) (h : Q (.bytes (big20 x).toArray 0) σ) : CallR C A (.builtin "int.to_bytes") [.int x 0, .int 20 0, .str (PySem.Str.ofString "big") 0] σ Q := CallR.of fun us hu σ₀ s₀ s R E W k => by
  obtain ⟨u, v, w, rfl, h3, h4, h5⟩ := map_three hu
  obtain ⟨t, rfl⟩ := nv_to_int h3
  obtain ⟨t2, rfl⟩ := nv_to_int h4
  obtain ⟨t3, rfl⟩ := nv_to_str h5
  have hb : Builtin.Int.intBits x ≤ 160 := Nat.le_trans (KTBy.bits_le (k := 1) (B := 256) rfl h0 h1) (by decide)
  refine wpAny_call_entry KTBy.slot (typeIs_int s x t) KTBy.entry ?_ (KTBy.args _ _ _)
  show wpAny _ _ (Builtin.Int.intOfSelf (.int x t) >>= fun y => _) _ _ s
  refine wpAny_bind (wpAny_of_eq (a := x) rfl ?_)
  show wpAny _ _ (Builtin.Int.intBindNamed "to_bytes" ["length", "byteorder", "signed"] 0 2 [.int 20 t2, .str (PySem.Str.ofString "big") t3] [] >>= fun l => _) _ _ s
  refine wpAny_bind (wpAny_of_eq (a := [some (.int 20 t2), some (.str (PySem.Str.ofString "big") t3), Option.none]) (by kernel_rfl) ?_)
  show wpAny _ _ (Builtin.Int.intIndex "int.to_bytes" (.int 20 t2) >>= fun n => _) _ _ s
  refine wpAny_bind (wpAny_of_eq (a := (20 : Int)) rfl ?_)
  refine KTBy.if_not (by show (decide ((20 : Int) < -(2 ^ 63 : Int)) || decide ((20 : Int) ≥ 2 ^ 63)) = false; rw [decide_eq_false (show ¬ ((20 : Int) < -(2 ^ 63 : Int)) by omega), decide_eq_false (show ¬ ((20 : Int) ≥ 2 ^ 63) by omega)]; rfl) ?_
  refine wpAny_bind (wpAny_of_eq (a := PySem.Str.ofString "big") (by kernel_rfl) ?_)
  refine wpAny_bind (wpAny_of_eq (a := false) rfl ?_)
  refine wpAny_bind (wpAny_of_eq (a := false) (by kernel_rfl) ?_)
  refine wpAny_ite_false (decide_eq_false (show ¬ ((20 : Int) < 0) by omega)) ?_
  refine wpAny_ite_false (decide_eq_false (show ¬ ((20 : Int) > 2 ^ 63 - 1 - 33) by omega)) ?_
  refine wpAny_ite_false (decide_eq_false (show ¬ ((20 : Int) > (sizeLine : Int)) by rw [sizeLine_eq]; omega)) ?_
  refine KTBy.if_not (by show (decide (x < 0) && !false) = false; rw [decide_eq_false (show ¬ x < 0 by omega)]; rfl) ?_
  refine KTBy.if_not (by show (_ && decide ((Builtin.Int.intBits x : Int) > 8 * (20 : Int))) = false; rw [decide_eq_false (show ¬ ((Builtin.Int.intBits x : Int) > 8 * (20 : Int)) by omega), Bool.and_false]) ?_
  refine wpAny_bind (wpAny_mkBytes (wpAny_pure ⟨_, rfl, k _ _ _ (W.tok _) ?_⟩) ?_)
  · exact h
  · show (List.reverse (KTBy.low x 20)).length ≤ sizeLine
    rw [List.length_reverse, KTBy.low_length]; decide
set_option maxRecDepth 100000 in
/-- o.to_bytes(..) of an int -/
theorem TE_toBytes {o : Expr} {apos pos : Pos} {x : Int} {e : Expr} {es : List Expr} {pl : Sem Bool} {Q : Value → Ab → Prop} (ho : EV C A env m σ o (.int x 0))
    (h : TAs C A env m pos (e :: es) σ fun vs σ' => CallR C A (.builtin "int.to_bytes") (.int x 0 :: vs) σ' Q)
    (he : eval (.Call (.Attribute o (PySem.Str.ofString "to_bytes") apos) (e :: es) [] pos) env = (do
      let ov ← eval o env
      standAt apos.atName
      let (f, first) ← holding [ov] (getMethod ov (PySem.Str.ofString "to_bytes") pl)
      callWith pos f first (backTo pos (starEach (e :: es) env)) []) := by rfl)
    (he' : starEach (e :: es) env = (false, eval e env) :: starEach es env := by rfl) (hp : (backTo pos (starEach es env)).any (·.1) = false := by rfl) :
    TE C A env m (.Call (.Attribute o (PySem.Str.ofString "to_bytes") apos) (e :: es) [] pos) σ Q := fun σ₀ s₀ s R E W k =>
  MethodCall_ (ho.run W fun u s₁ hu W₁ => by
    obtain ⟨t, rfl⟩ := nv_to_int hu
    exact KTBy.method (callWith_bi (first := [.int x t]) h he' hp σ₀ s₀ s₁ R E W₁ k)) he

-- ASSIGNMENTS
theorem TS_attr {o : Expr} {x : Str} {pos : Pos} {u : Value} {a K : Addr} {fs : Loc} {Q : Unit → Loc → Ab → Prop} (ho : EV C A env m σ o (.ref a)) (e : σ a = some (.inst K fs)) (hk : setsIn C.K K x = true) (hz : fs.length ≤ 1000)
    (h : Q () m (σ.put a (.inst K ((x, nv u) :: fs)))) : TS C A env m (assign (.Attribute o x pos) env u) (fun _ => ()) σ Q := fun σ₀ s₀ s R E W k => by
  rw [assign_Attribute]
  refine wpAny_bind (wpAny_holding (ho.run W.wd fun ov s₁ hu W₁ => ?_))
  obtain rfl := nv_to_ref hu
  refine wpAny_bind (wpAny_standAt (wpAny_bind (wpAny_holding (setAttr_inst W₁ e hk hz fun s₂ W₂ => ?_))))
  intro Γ p hΓ
  simp only [Sem.wp_release]
  exact k () _ _ _ (W.step W₂) h
/-- targets, in order -/
def TIn (C : Cx) (A : Around) (env : Env) (m : Loc) (ts : List (Value → Sem Unit)) (vs : List Value) (σ : Ab) (Q : Loc → Ab → Prop) : Prop :=
  ∀ us, us.map nv = vs → TS C A env m (assignInOrder ts us) (fun _ => ()) σ fun _ m' σ' => Q m' σ'
theorem TIn.nil {Q : Loc → Ab → Prop} (h : Q m σ) : TIn C A env m [] [] σ Q := fun us hu σ₀ s₀ s R E W k => by
  obtain rfl : us = [] := by simpa using hu
  exact PyProof.Rows.assignInOrder_nil (k _ _ _ _ W h)
theorem TIn.cons {t : Value → Sem Unit} {ts : List (Value → Sem Unit)} {v : Value} {vs : List Value} {Q : Loc → Ab → Prop} (h : ∀ u, nv u = v → TS C A env m (t u) (fun _ => ()) σ fun _ m' σ' => TIn C A env m' ts vs σ' Q) : TIn C A env m (t :: ts) (v :: vs) σ Q := fun us hu σ₀ s₀ s R E W k => by
  rcases us with _ | ⟨u, us⟩
  · simp at hu
  · obtain ⟨h1, h2⟩ := List.cons.inj hu
    exact PyProof.Rows.assignInOrder_cons (h u h1 σ₀ s₀ s _ E W fun v s' m' σ' W' q => q us h2 σ₀ s₀ s' _ E W' k)
theorem TS_tupT {elts : List Expr} {kk : Nat} {pos : Pos} {T : Addr} {vs : List Value} {Q : Unit → Loc → Ab → Prop} (hh : A.handled = none) (hT : σ T = some (.tup vs)) (hn : (assignEach elts env).length = vs.length) (hstar : (assignEach elts env).findIdx? (·.1) = none)
    (h : TIn C A env m ((assignEach elts env).map (·.2)) vs σ fun m' σ' => Q () m' σ') : TS C A env m (assign (.Tuple elts kk pos) env (.ref T)) (fun _ => ()) σ Q := fun σ₀ s₀ s R E W k => by
  obtain ⟨us, ht, hm⟩ := W.st.isTup hT
  refine wpAny_assign_Tuple hh ht (by rw [size_of_map hm]; exact hn) hstar fun h' he => ?_
  exact h us.toList hm σ₀ s₀ _ R E (W.ext (tk := s.toks) fun b o e => he b o (Nat.ne_of_lt (Heap.lt_size e)) e) k
theorem TS_tupL {elts : List Expr} {kk : Nat} {pos : Pos} {l : Addr} {vs : List Value} {Q : Unit → Loc → Ab → Prop} (hh : A.handled = none) (hl : σ l = some (.list vs)) (hn : (assignEach elts env).length = vs.length) (hstar : (assignEach elts env).findIdx? (·.1) = none)
    (h : TIn C A env m ((assignEach elts env).map (·.2)) vs σ fun m' σ' => Q () m' σ') : TS C A env m (assign (.Tuple elts kk pos) env (.ref l)) (fun _ => ()) σ Q := fun σ₀ s₀ s R E W k => by
  obtain ⟨us, ht, hm⟩ := W.st.isList hl
  show wpAny _ _ (assign (.Tuple elts kk pos) env (.ref l)) _ _ _
  rw [assign_Tuple]
  refine wpAny_bind (wpAny_standAt ?_)
  unfold unpack
  rw [hn, hstar, ← size_of_map hm]
  refine wpAny_bind (wpAny_holding (kun_itemsOf hh ht fun h' he => ?_))
  exact h us.toList hm σ₀ s₀ _ R E (W.ext (tk := s.toks) fun b o e => he b o (Nat.ne_of_lt (Heap.lt_size e)) e) k
/-- one target of any shape -/
theorem TX_assignT {t value : Expr} {pos : Pos} {Q : Flow → Loc → Ab → Prop} (h : TE C A env m value σ fun v σ' => ∀ u, nv u = v → TS C A env m (assign t env u) (fun _ => ()) σ' fun _ m' σ'' => Q .next m' σ'')
    (hs : swapsWithSole [t] value pos.line env = pure false := by rfl) (hw : swappedStores [t] value env = pure none := by rfl) (ha : (assignEach [t] env).map (·.2) = [assign t env] := by rfl) : TX C A env m (.Assign [t] value pos) σ Q := fun σ₀ s₀ s R E W k => by
  refine wpAny_Assign_stores (h.use W fun v s₁ σ₁ W₁ q => ?_) hs hw
  rw [ha]
  exact q v rfl σ₀ s₀ s₁ _ E W₁ fun _ s₂ m' σ₂ W₂ q₂ => k .next _ _ _ W₂ q₂
/-- x, y = (.., ..), both names of one line -/
theorem TX_swap2 {t value : Expr} {x y : Str} {pos : Pos} {Q : Flow → Loc → Ab → Prop} (hh : A.handled = none) (hx : Sto env x) (hy : Sto env y) (h : TE C A env m value σ fun v σ' => ∃ T a b, v = .ref T ∧ σ' T = some (.tup [a, b]) ∧ Q .next ((x, a) :: (y, b) :: m) σ')
    (hs : swapsWithSole [t] value pos.line env = pure false := by rfl) (hw : swappedStores [t] value env = pure (some [x, y]) := by rfl) : TX C A env m (.Assign [t] value pos) σ Q := fun σ₀ s₀ s R E W k => by
  show wpAny _ _ (exec (.Assign [t] value pos) env) _ _ _
  rw [exec_Assign_arm]
  refine wpAny_bind (wpAny_standAt ?_)
  rw [hs]
  refine wpAny_bind (wpAny_pure ?_)
  rw [if_neg (by decide)]
  refine wpAny_bind (h.use W fun v s₁ σ₁ W₁ ⟨T, a, b, hv, hT, q⟩ => ?_)
  obtain rfl := nv_to_ref hv
  rw [hw]
  refine wpAny_bind (wpAny_pure ?_)
  obtain ⟨us, ht, hm⟩ := W₁.st.isTup hT
  obtain ⟨u, v, huv, h1, h2⟩ := map_two hm
  have hz : us.size = 2 := by rw [size_of_map hm]; rfl
  unfold assignStores
  dsimp only
  refine wpAny_bind (wpAny_rule (wpAny_bind ?_))
  have hlen : ([x, y] : List Str).length = us.size := by rw [hz]; rfl
  rw [hlen]
  refine unpackItems_tuple hh ht fun h' he => ?_
  have W₂ := W₁.ext (tk := s₁.toks) fun b o e => he b o (Nat.ne_of_lt (Heap.lt_size e)) e
  rw [huv]
  show wpAny _ _ (assignInOrder [bindName env y, bindName env x] [v, u] >>= _) _ _ _
  refine wpAny_bind (PyProof.Rows.assignInOrder_cons ?_)
  refine wpAny_bindName (W₂.store hy fun s₃ W₃ => PyProof.Rows.assignInOrder_cons (wpAny_bindName (W₃.store hx fun s₄ W₄ => PyProof.Rows.assignInOrder_nil (wpAny_pure (k .next _ _ _ W₄ ?_)))))
  rw [h1, h2]; exact q
end
end J
end

section
open PySem PySem.W PySem.Calls PyProof.Rows
set_option Elab.async false
set_option linter.unusedVariables false
namespace J
section
variable {C : Cx} {A : Around} {env : Env} {m : Loc} {σ σ₀ σ' : Ab} {s s₀ s' : Shared}
theorem put_put {σ : Ab} {a : Addr} {o o' : AO} : (σ.put a o).put a o' = σ.put a o' := by
  funext b; unfold Ab.put; split <;> simp_all
theorem CallR.tc {f : Value} {as : List Value} {Q : Value → Ab → Prop} (h : ∀ us, us.map nv = as → TC C A f us σ Q) : CallR C A f as σ Q := fun us hu => (h us hu).tv
theorem nvnv (v : Value) : nv (nv v) = nv v := by cases v <;> rfl
theorem nv_fix_ref {a : Addr} : nv (.ref a) = .ref a → ∀ u, nv u = .ref a → u = .ref a := fun _ u h => nv_to_ref h
theorem depth_deeper (A : Around) (e : Env) : (A.deeper e).depth = A.depth + 1 := rfl
theorem handled_deeper (A : Around) (e : Env) : (A.deeper e).handled = A.handled := rfl
theorem depth_make' (A : Around) (K : Addr) (us : List Value) : (A.under (.builtin "type.__call__" ⟨.ref K :: us, []⟩)).depth = A.depth + 1 := rfl
/-- what a call leaves as it was -/
def Kps (σ σ' : Ab) (P : Addr → Prop) : Prop := ∀ a o, σ a = some o → ¬ P a → σ' a = some o
theorem TC_fn {f : Addr} {oc : Value} {od : Option Addr} {osl : Array (Option Value)} {fd : FuncData} {body : List Stmt} {args : List Value} {binds : List (Str × Value)} {Q : Value → Ab → Prop}
    (hA : A.depth < recursionLimit) (hf : C.K.lookup f = some ⟨oc, od, .func fd, osl⟩) (hcd : codeIn C.K fd.code fd.qualname = true) (hbody : fd.body = .stmts body)
    (hb : ∀ S, peek C.K S (bindArgs fd ⟨args, []⟩) = some binds) (hcell : ∀ x ∈ fd.scope.names, x.2 ≠ .cell) (hloc : ∀ x ∈ binds, fd.scope.names.lookup x.1 = some .local) (hm : locOf binds = m)
    (h : ∀ L A', A'.depth = A.depth + 1 → A'.handled = A.handled → A'.units = A.units + 3 → TXs C A' (callEnv fd L f) m body σ fun fl _ σ' => Q (match fl with | .ret v => v | _ => .none) σ')
    (hco : fd.scope.isCoroutine = false := by rfl) (hgen : fd.scope.isGenerator = false := by rfl) (hk : fd.scope.kind = .function := by rfl)
    (hgl : fd.globals = mainGlobals := by rfl) (hbi : fd.builtins = builtinsNs := by rfl) (hcl : fd.closure = [] := by rfl) : TC C A (.ref f) args σ Q :=
  TC_call hA hf hcd hbody hb hcell hloc (fun L _ => by rw [hm]; exact h L _ rfl rfl rfl) hco hgen hk hgl hbi hcl
/-- a builtin's answer as a test -/
theorem EB_bcall {x : Str} {p pos : Pos} {id : String} {e : Expr} {es : List Expr} {b : Bool} (hf : EV C A env m σ (.Name x p) (.builtin id))
    (h : ∀ Q : Value → Ab → Prop, Q (.bool b) σ → TAs C A env m pos (e :: es) σ fun vs σ' => CallR C A (.builtin id) vs σ' Q)
    (he : starEach (e :: es) env = (false, eval e env) :: starEach es env := by rfl) (hp : (backTo pos (starEach es env)).any (·.1) = false := by rfl)
    (ht : ∀ whole, isTrue (.Call (.Name x p) (e :: es) [] pos) env whole = (do let v ← whole; standAt (Expr.Call (.Name x p) (e :: es) [] pos).pos; PySem.holding [v] (truthy v)) := by intro _; rfl) :
    EB C A env m σ (.Call (.Name x p) (e :: es) [] pos) b :=
  EB_val (v := .bool b) (fun Q q => TE_bcall hf (h Q q) he hp) (Tru.bool b) ht
theorem put_comm {σ : Ab} {a b : Addr} {o o' : AO} (h : a ≠ b) : (σ.put a o).put b o' = (σ.put b o').put a o := by
  funext c; unfold Ab.put; by_cases h1 : c = b
  · subst h1; simp [Ne.symm h]
  · simp [h1]
theorem TXs_seq {st : Stmt} {rest : List Stmt} {Q : Flow → Loc → Ab → Prop} (Mid : Loc → Ab → Prop) (h : TX C A env m st σ fun f m' σ' => match f with | .next => Mid m' σ' | f => Q f m' σ')
    (k : ∀ m' σ', Mid m' σ' → TXs C A env m' rest σ' Q) : TXs C A env m (st :: rest) σ Q :=
  TXs_cons (TS.mono h fun f m' σ' q => by cases f with | next => exact k m' σ' q | _ => exact q)
/-- m says all that m₀ says -/
def Ext (m₀ m : Loc) : Prop := ∀ x v, m₀.lookup x = some v → m.lookup x = some v
theorem Ext.refl : Ext m m := fun _ _ h => h
theorem Ext.cons {m₀ : Loc} {x : Str} {v : Value} (h : Ext m₀ m) (hx : m₀.lookup x = none) : Ext m₀ ((x, v) :: m) := fun y w hy => by
  rw [lookup_cons_ne]
  · exact h y w hy
  · rintro rfl; rw [hx] at hy; cases hy
theorem Ext.pre {m₀ : Loc} {l : List Stmt} {Q : Flow → Loc → Ab → Prop} (e : Ext m₀ m) (h : TXs C A env m₀ l σ Q) : TXs C A env m l σ Q := TS.pre e (Sub.refl σ) h
theorem Ext.nil : Ext [] m := fun x v h => by cases h
theorem Ext.add {m₀ : Loc} {x : Str} {v : Value} (h : m.lookup x = some v) (r : Ext m₀ m) : Ext ((x, v) :: m₀) m := fun y w hy => by
  by_cases q : y = x
  · subst q; rw [lookup_cons_self] at hy; cases hy; exact h
  · rw [lookup_cons_ne q] at hy; exact r y w hy
end
end J
end

section
open PySem PySem.W PySem.Calls PyProof.Rows
set_option Elab.async false
set_option linter.unusedVariables false
namespace J
mutual
/-- plain data in σ -/
inductive Dat (σ : Ab) : Value → PyData → Prop
  | none : Dat σ .none .none
  | bool (b : Bool) : Dat σ (.bool b) (.bool b)
  | int (i : Int) : Dat σ (.int i 0) (.int i)
  | str (x : Str) : Dat σ (.str x 0) (.str x)
  | list {a : Addr} {xs : List Value} {ds : List PyData} : σ a = some (.list xs) → DatAll σ xs ds → Dat σ (.ref a) (.list ds)
  | tup {a : Addr} {xs : List Value} {ds : List PyData} : σ a = some (.tup xs) → DatAll σ xs ds → Dat σ (.ref a) (.tuple ds)
inductive DatAll (σ : Ab) : List Value → List PyData → Prop
  | nil : DatAll σ [] []
  | cons {v : Value} {vs : List Value} {d : PyData} {ds : List PyData} : Dat σ v d → DatAll σ vs ds → DatAll σ (v :: vs) (d :: ds)
end
section
variable {C : Cx} {A : Around} {env : Env} {m : Loc} {σ σ₀ σ' : Ab} {s s₀ s' : Shared}
mutual
theorem Dat.reads {h : Heap} (S : St C σ h) : ∀ {v : Value} {d : PyData}, Dat σ v d → ∀ u, nv u = v → ∃ as, Reads h u d as
  | _, _, .none, u, hu => by obtain rfl := nv_to_none hu; exact ⟨_, .none⟩
  | _, _, .bool b, u, hu => by obtain rfl := nv_to_bool hu; exact ⟨_, .bool b⟩
  | _, _, .int i, u, hu => by obtain ⟨t, rfl⟩ := nv_to_int hu; exact ⟨_, .int i t⟩
  | _, _, .str x, u, hu => by obtain ⟨t, rfl⟩ := nv_to_str hu; exact ⟨_, .str x t⟩
  | _, _, .list ha hd, u, hu => by
    obtain rfl := nv_to_ref hu
    obtain ⟨vs, n, ho, hx⟩ := S.rep _ _ ha
    obtain ⟨as, r⟩ := DatAll.reads S hd vs.toList hx
    exact ⟨_, .list ho rfl rfl r⟩
  | _, _, .tup ha hd, u, hu => by
    obtain rfl := nv_to_ref hu
    obtain ⟨vs, n, ho, hx⟩ := S.rep _ _ ha
    obtain ⟨as, r⟩ := DatAll.reads S hd vs.toList hx
    exact ⟨_, .tuple ho rfl rfl r⟩
theorem DatAll.reads {h : Heap} (S : St C σ h) : ∀ {vs : List Value} {ds : List PyData}, DatAll σ vs ds → ∀ us : List Value, us.map nv = vs → ∃ as, ReadsAll h us ds as
  | _, _, .nil, us, hu => by
    obtain rfl : us = [] := by simpa using hu
    exact ⟨_, .nil⟩
  | _, _, .cons hd ht, us, hu => by
    rcases us with _ | ⟨u, us⟩
    · simp at hu
    · obtain ⟨h1, h2⟩ := List.cons.inj hu
      obtain ⟨as, r⟩ := Dat.reads S hd u h1
      obtain ⟨bs, r'⟩ := DatAll.reads S ht us h2
      exact ⟨_, .cons r r'⟩
end
theorem Cmp.eq_dat {a b : Value} {da db : PyData} (ha : Dat σ a da) (hb : Dat σ b db) (la : SeqAt.shaped da = true) (lb : SeqAt.shaped db = true) (hu : A.units + 64 < cLine) : Cmp C A σ .Eq a b (PyData.eqv da db) := fun a' b' ha' hb' s R E S k => by
  obtain ⟨as, ra⟩ := ha.reads S a' ha'
  obtain ⟨bs, rb⟩ := hb.reads S b' hb'
  exact eq_dataH ra rb la lb hu (k s.toks)
theorem Cmp.ne_dat {a b : Value} {da db : PyData} (ha : Dat σ a da) (hb : Dat σ b db) (la : SeqAt.shaped da = true) (lb : SeqAt.shaped db = true) (hu : A.units + 64 < cLine) : Cmp C A σ .NotEq a b (!PyData.eqv da db) := fun a' b' ha' hb' s R E S k => by
  obtain ⟨as, ra⟩ := ha.reads S a' ha'
  obtain ⟨bs, rb⟩ := hb.reads S b' hb'
  exact ne_dataH ra rb la lb hu (k s.toks)
def iV (xs : List Int) : List Value := xs.map fun i => .int i 0
theorem dat_ints {l : Addr} {xs : List Int} (h : σ l = some (.list (iV xs))) : Dat σ (.ref l) (.list (xs.map .int)) := by
  refine .list h ?_
  clear h
  induction xs with
  | nil => exact .nil
  | cons x xs ih => exact .cons (.int x) ih
theorem eqvAll_ints : ∀ xs ys : List Int, PyData.eqvAll (xs.map .int) (ys.map .int) = decide (xs = ys)
  | [], [] => by simp [PyData.eqvAll]
  | [], y :: ys => by simp [PyData.eqvAll]
  | x :: xs, [] => by simp [PyData.eqvAll]
  | x :: xs, y :: ys => by
    simp only [List.map_cons, PyData.eqvAll, PyData.eqv, eqvAll_ints xs ys]
    by_cases h1 : x = y <;> by_cases h2 : xs = ys <;> simp [h1, h2]
theorem eqv_ints (xs ys : List Int) : PyData.eqv (.list (xs.map .int)) (.list (ys.map .int)) = decide (xs = ys) := by rw [PyData.eqv, eqvAll_ints]
theorem canLay_ints : ∀ xs : List Int, PyData.canLayAll0 (xs.map .int) = true
  | [] => by simp [PyData.canLayAll0]
  | x :: xs => by simp [PyData.canLayAll0, PyData.canLay0, canLay_ints xs]
theorem depth_ints : ∀ xs : List Int, PyData.depthAll (xs.map .int) = 0
  | [] => by simp [PyData.depthAll]
  | x :: xs => by simp [PyData.depthAll, PyData.depth, depth_ints xs]
theorem shaped_ints (xs : List Int) : SeqAt.shaped (.list (xs.map .int)) = true := by simp [SeqAt.shaped, PyData.canLay0, canLay_ints, PyData.depth, depth_ints]
theorem Cmp.ne_ints {l b : Addr} {xs ys : List Int} (hl : σ l = some (.list (iV xs))) (hb : σ b = some (.list (iV ys))) (hu : A.units + 64 < cLine) : Cmp C A σ .NotEq (.ref l) (.ref b) (!decide (xs = ys)) := by
  rw [← eqv_ints]; exact Cmp.ne_dat (dat_ints hl) (dat_ints hb) (shaped_ints _) (shaped_ints _) hu
theorem Cmp.ne_bool (a b : Bool) (hu : A.units + 64 < cLine) : Cmp C A σ .NotEq (.bool a) (.bool b) (!(a == b)) := by
  have := Cmp.ne_dat (C := C) (A := A) (σ := σ) (.bool a) (.bool b) (by simp [SeqAt.shaped, PyData.canLay0, PyData.depth]) (by simp [SeqAt.shaped, PyData.canLay0, PyData.depth]) hu
  simpa [PyData.eqv] using this
def oV : Option Int → Value
  | none => .none
  | some i => .int i 0
theorem Cmp.ne_opt (a b : Option Int) (hu : A.units + 64 < cLine) : Cmp C A σ .NotEq (oV a) (oV b) (!decide (a = b)) := by
  have sn : SeqAt.shaped .none = true := by simp [SeqAt.shaped, PyData.canLay0, PyData.depth]
  have si : ∀ i, SeqAt.shaped (.int i) = true := fun i => by simp [SeqAt.shaped, PyData.canLay0, PyData.depth]
  cases a with
  | none =>
    cases b with
    | none => have := Cmp.ne_dat (C := C) (A := A) (σ := σ) .none .none sn sn hu; simpa [PyData.eqv, oV] using this
    | some j => have := Cmp.ne_dat (C := C) (A := A) (σ := σ) .none (.int j) sn (si j) hu; simpa [PyData.eqv, oV] using this
  | some i =>
    cases b with
    | none => have := Cmp.ne_dat (C := C) (A := A) (σ := σ) (.int i) .none (si i) sn hu; simpa [PyData.eqv, oV] using this
    | some j =>
      have := Cmp.ne_dat (C := C) (A := A) (σ := σ) (.int i) (.int j) (si i) (si j) hu
      have e : (i == j) = decide (some i = some j) := by by_cases q : i = j <;> simp [q]
      simp only [PyData.eqv, e] at this; exact this
theorem Cmp.eq_nil {l b : Addr} {xs : List Value} (hl : σ l = some (.list xs)) (hb : σ b = some (.list [])) (hu : A.units < cLine) : Cmp C A σ .Eq (.ref l) (.ref b) (decide (xs = [])) := fun a' b' ha' hb' s R E S k => by
  obtain rfl := nv_to_ref ha'
  obtain rfl := nv_to_ref hb'
  obtain ⟨vs, hls, hx⟩ := S.isList hl
  obtain ⟨ws, hbs, hy⟩ := S.isList hb
  have e1 := size_of_map hx
  have e2 := size_of_map hy
  cases xs with
  | nil =>
    refine SeqAt.eq_listAt (e := fun _ => true) hls hbs (e1.trans e2.symm) hu (fun j h1 _ => by rw [e1] at h1; cases h1) ?_
    have : ((List.range vs.size).all fun _ => true) = decide (([] : List Value) = []) := by simp
    rw [this]; exact k s.toks
  | cons x r =>
    refine SeqAt.eq_list_lengthsAt hls hbs (by rw [e1, e2]; simp) hu ?_
    have : false = decide (x :: r = []) := by simp
    rw [this]; exact k s.toks
theorem Cmp.in_ints {l : Addr} {xs : List Int} {x : Int} (hl : σ l = some (.list (iV xs))) : Cmp C A σ .In (.int x 0) (.ref l) (decide (x ∈ xs)) := fun a' b' ha' hb' s R E S k => by
  obtain ⟨t, rfl⟩ := nv_to_int ha'
  obtain rfl := nv_to_ref hb'
  obtain ⟨vs, hls, hx⟩ := S.isList hl
  refine SeqAt.in_listAt (fun y => match y with | .int i _ => i == x | _ => false) hls (fun y hy => ?_) ?_
  · have : nv y ∈ iV xs := by rw [← hx]; exact List.mem_map_of_mem (Array.mem_toList_iff.mpr hy)
    obtain ⟨i, hi, he⟩ := List.mem_map.mp this
    obtain ⟨t', rfl⟩ := nv_to_int he.symm
    exact SeqAt.EqAt.int_int i t' x t
  · have e2 : ∀ (us : List Value) (xs : List Int), us.map nv = iV xs → (us.any fun y => match y with | .int i _ => i == x | _ => false) = decide (x ∈ xs) := fun us => by
      induction us with
      | nil => intro xs h; cases xs with
        | nil => rfl
        | cons y ys => simp [iV] at h
      | cons u us ih =>
        intro xs h
        cases xs with
        | nil => simp [iV] at h
        | cons y ys =>
          obtain ⟨h1, h2⟩ := List.cons.inj h
          obtain ⟨t', rfl⟩ := nv_to_int h1
          rw [List.any_cons, ih ys h2]
          by_cases q : y = x
          · simp [q]
          · have h2 : ¬ x = y := fun z => q z.symm
            simp [q, h2]
    have e3 := e2 vs.toList xs hx
    rw [Array.any_toList] at e3
    rw [e3]; exact k s.toks

theorem Src.listAt {l : Addr} {xs : List Value} (hh : A.handled = none) (W : Wd C A env m σ₀ s₀ σ s) (hl : σ l = some (.list xs)) {R : Value → Shared → Prop} {E : Value → Shared → Prop}
    (k : ∀ I P s', Wd C A env m σ₀ s₀ σ s' → s.heap.get? I = none → Off C A env σ I → P 0 s'.heap → Iter C A (.ref I) I xs.length (fun i => xs.getD i .none) P (fun σ' => σ' l = some (.list xs)) → R (.ref I) s') : wpAny C.M A (pyIter (.ref l)) R E s := by
  obtain ⟨vs, hls, hm⟩ := W.st.isList hl
  refine wpAny_pyIter_list hls ?_
  obtain ⟨ol, hol, _⟩ := id hls
  exact k s.heap.objs.size _ _ (W.push _ s.toks) (get_size _) W.newOff ⟨_, Heap.get?_push_size _ rfl, rfl, rfl⟩ (Iter.list (I := s.heap.objs.size) hh (Nat.ne_of_lt (Heap.lt_size hol)))

-- trees that turn σ
theorem TE_attr {o : Expr} {x : Str} {pos : Pos} {Q : Value → Ab → Prop} (ho : TE C A env m o σ fun r σ' => ∃ a K fs v, r = .ref a ∧ σ' a = some (.inst K fs) ∧ fs.lookup x = some v ∧ attrOwn C.K K x = true ∧ handedIn v = true ∧ Q v σ')
    (he : eval (.Attribute o x pos) env = (do
      let r ← eval o env
      standAt pos.atName
      let r' ← PySem.holding [r] (getAttr r x true)
      letTemporaryGo o r r'
      pure r') := by with_unfolding_all rfl) : TE C A env m (.Attribute o x pos) σ Q := fun σ₀ s₀ s R E W k =>
  Attribute_any_ (ho σ₀ s₀ s _ E W fun u s₁ σ₁ W₁ ⟨a, K, fs, v, h1, h2, h3, h4, h5, q⟩ => by
    obtain rfl := nv_to_ref h1
    exact getAttr_inst W₁.st h2 h3 h4 h5 fun u' hu' => k u' _ _ (W₁.tok _) (hu' ▸ q)) he
theorem TE_cmp {l r : Expr} {op : CmpOp} {pos : Pos} {Q : Value → Ab → Prop} (hl : TE C A env m l σ fun a σ' => TE C A env m r σ' fun b σ'' => ∃ v, Cmp C A σ'' op a b v ∧ Q (.bool v) σ'')
    (hm : behindInMarks op r = false := by with_unfolding_all rfl) : TE C A env m (.Compare l [op] [r] pos) σ Q := fun σ₀ s₀ s R E W k =>
  wpAny_Compare1 (hl σ₀ s₀ s _ E W fun a' s₁ σ₁ W₁ q₁ => q₁ σ₀ s₀ s₁ _ E W₁ fun b' s₂ σ₂ W₂ ⟨v, hc, q⟩ => hc a' b' rfl rfl s₂ _ E W₂.st fun tk => k _ _ _ (W₂.tok tk) q) hm
theorem TB_cmp {l r : Expr} {op : CmpOp} {pos : Pos} {Q : Bool → Ab → Prop} (hl : TE C A env m l σ fun a σ' => TE C A env m r σ' fun b σ'' => ∃ v, Cmp C A σ'' op a b v ∧ Q v σ'')
    (hm : behindInMarks op r = false := by with_unfolding_all rfl) : TB C A env m (.Compare l [op] [r] pos) σ Q := fun σ₀ s₀ s R E W k =>
  wpAny_isTrue_Compare1 (hl σ₀ s₀ s _ E W fun a' s₁ σ₁ W₁ q₁ => q₁ σ₀ s₀ s₁ _ E W₁ fun b' s₂ σ₂ W₂ ⟨v, hc, q⟩ => hc a' b' rfl rfl s₂ _ E W₂.st fun tk => wpAny_truthy_bool (k _ _ _ (W₂.tok tk) q)) hm
/-- a comprehension over a list that a tree gives -/
theorem TE_compL {elt target iter : Expr} {ifs : List Expr} {scope : Scope} {pos : Pos} {cl : List (Str × Addr)} {mc : Loc} {Q : Value → Ab → Prop} (hh : A.handled = none)
    (hi : TE C A env m iter σ fun v σ' => ∃ l xs, v = .ref l ∧ σ' l = some (.list xs) ∧ xs.length ≤ sizeLine ∧ ∃ Iv : Nat → List Value → Ab → Prop, Iv 0 [] σ' ∧ CTurn C A env scope cl mc target elt ifs xs.length (fun i => xs.getD i .none) (fun σ'' => σ'' l = some (.list xs)) Iv ∧
      ∀ ys σ'' D, σ'' l = some (.list xs) → Iv xs.length ys σ'' → σ'' D = none → Q (.ref D) (σ''.put D (.list ys)))
    (hclos : closureFor scope env = pure cl) (hcl : ∀ x c, cl.lookup x = some c → env.cells.lookup x = some c)
    (hmc : ∀ Cc x v, mc.lookup x = some v → (compEnvC scope cl Cc env).kindOf x ≠ some .local ∧ (cl.lookup x).isSome = true ∧ m.lookup x = some v ∧ (env.kindOf x = some .cell ∨ env.kindOf x = some .free))
    (hk : scope.kind = .function := by rfl) (hcell : ∀ y ∈ scope.names, y.2 ≠ .cell := by decide) (hnames : ∀ x ∈ scope.names, x.2 = .local → scope.names.lookup x.1 = some .local := by decide)
    (hs : ∀ x, foldedSetIterable iter env x = pure x := by intro _; rfl) : TE C A env m (.ListComp elt [⟨target, iter, ifs, 0⟩] scope pos) σ Q := fun σ₀ s₀ s R E W k => by
  rw [eval_ListComp]
  refine wpAny_comprehension_free (use := none) rfl hs hclos hk hnames (hi σ₀ s₀ s _ _ W fun u s₁ σ₁ W₁ ⟨l, xs, hu, hl, hn, Iv, hJ, turn, done⟩ => ?_)
  obtain rfl := nv_to_ref hu
  refine Src.listAt hh W₁.self hl fun I P s₂ W₂ h0 hO hP hI => ?_
  refine comp_block (RR := fun acc C' => compPost C.M A E none R acc C') hI Iv turn hn hk hcell hcl hmc W₂ h0 hO hP (hI.alive _ _ hP) hl hJ fun ys σ'' s'' D Cc W' nD S' J' oC hC hM => ?_
  obtain ⟨M, hM⟩ := hM
  refine ⟨M, hM, fun h' hs' => ?_⟩
  have W'' := W'.off (tk := s''.toks) oC hC (h' := h') fun b o hb e => hs'.extBut b o hb e
  exact k (.ref D) _ _ (W₁.step W''.toWv) (done ys σ'' D S' J' nD)
/-- for target in (a list that a tree gives): body -/
theorem TX_forL {target iter : Expr} {body : List Stmt} {pos : Pos} {Q : Flow → Loc → Ab → Prop} (hh : A.handled = none)
    (hi : TE C A env m iter σ fun v σ' => ∃ l xs, v = .ref l ∧ σ' l = some (.list xs) ∧ ∃ Iv : Nat → Loc → Ab → Prop, Iv 0 m σ' ∧
      (∀ i m' σ' u, i < xs.length → nv u = xs.getD i .none → σ' l = some (.list xs) → Iv i m' σ' → TS C A env m' (assign target env u) (fun _ => ()) σ' fun _ m₁ σ₁ => TXs C A env m₁ body σ₁ fun f m₂ σ₂ => match f with
        | .next | .cont => σ₂ l = some (.list xs) ∧ Iv (i + 1) m₂ σ₂
        | .brk => Q .next m₂ σ₂
        | .ret v => Q (.ret v) m₂ σ₂) ∧
      ∀ m' σ', σ' l = some (.list xs) → Iv xs.length m' σ' → Q .next m' σ')
    (hs : ∀ x, foldedSetIterable iter env x = pure x := by intro _; rfl) : TX C A env m (.For target iter body [] pos) σ Q := fun σ₀ s₀ s R E W k => by
  refine wpAny_For (hi.use W fun u s₁ σ₁ W₁ ⟨l, xs, hu, hl, Iv, hJ, step, done⟩ => ?_) hs
  obtain rfl := nv_to_ref hu
  refine Src.listAt hh W₁.wd hl fun I P s₂ W₂ h0 hO hP hI => ?_
  have X₁ : Wx C A env m σ₁ s₁ σ₁ s₂ := W₁.self.step W₂
  refine codeAny_mono (forLoop_core (E := fun r s' => match r with | .ok _ => True | .error e => cameBackBy C.M A env E e s') hI Iv step done X₁ hO h0 hP hl hJ fun f s' m' σ' W' q => k f s' m' σ' (W₁.trans W') q) fun r s' x => ?_
  cases r <;> exact x
-- the input's list
theorem Tru.list0 {l : Addr} {vs : Array Value} (hl : C.h₀.IsList l vs) (hn : vs.size ≤ 1000) : Tru C A σ (.ref l) (decide (vs.size ≠ 0)) := fun u hu s R E S k => by
  obtain rfl := nv_to_ref hu
  obtain ⟨o, ho, r⟩ := hl
  refine wpAny_truthy_list (items := vs) ⟨o, S.keep _ _ ho, r⟩ (by omega) ?_
  have e : (!vs.isEmpty) = decide (vs.size ≠ 0) := by
    unfold Array.isEmpty
    by_cases q : vs.size = 0 <;> simp [q]
  rw [e]; exact k _
theorem Itm.list0 {l : Addr} {vs : Array Value} {i : Int} {v u : Value} (hl : C.h₀.IsList l vs) (h0 : 0 ≤ i) (hf : i < 2 ^ 63) (hx : vs[i.toNat]? = some u) (hv : nv u = v) : Itm C A σ (.ref l) (.int i 0) v := fun o' i' ho hi s R E S k value slice hs => by
  obtain rfl := nv_to_ref ho
  obtain ⟨t, rfl⟩ := nv_to_int hi
  obtain ⟨o, hoo, r⟩ := hl
  have hl' : s.heap.IsList l vs := ⟨o, S.keep _ _ hoo, r⟩
  exact tail_any hl'.typeIs slot_list_getitem.lookup (wpAny_getItem_list hl' h0 hf hx (k u s.toks hv)) (hs _ _)
theorem TE_item {o i : Expr} {pos : Pos} {Q : Value → Ab → Prop} (ho : TE C A env m o σ fun vo σ' => ∃ vi v, EV C A env m σ' i vi ∧ Itm C A σ' vo vi v ∧ Q v σ')
    (hs : ∀ o i', subscripted i false o i' = operate [o, i'] (getItem o i') := by intro _ _; with_unfolding_all rfl) : TE C A env m (.Subscript o i pos) σ Q := fun σ₀ s₀ s R E W k =>
  PyProof.Rows.Subscript_ (ho σ₀ s₀ s _ E W fun u s₁ σ₁ W₁ ⟨vi, v, hi, h, q⟩ => hi.run W₁ fun j s₂ hj W₂ => h u j rfl hj s₂ R E W₂.st (fun w tk hw => k w _ _ (W₂.tok tk) (hw ▸ q)) _ _ hs)
theorem ints_get {vs : List Value} {ns : List Int} (h : IntsAre vs ns) : ∀ {i : Nat}, i < ns.length → ∃ u, vs[i]? = some u ∧ nv u = .int (ns.getD i 0) 0 := by
  induction h with
  | nil => intro i hi; cases hi
  | cons n t _ ih =>
    intro i hi
    cases i with
    | zero => exact ⟨_, rfl, rfl⟩
    | succ j => exact ih (by simpa using hi)
theorem ints_size {vs : List Value} {ns : List Int} (h : IntsAre vs ns) : vs.length = ns.length := by
  induction h with
  | nil => rfl
  | cons n t _ ih => simp [ih]
/-- the int at a place, or 0 -/
def gi (ns : List Int) (i : Int) : Int := ns.getD i.toNat 0
theorem EV_call {e : Expr} {v : Value} (h : ∀ Q : Value → Ab → Prop, Q v σ → TE C A env m e σ Q) : EV C A env m σ e v := h
theorem fmod_range {a b : Int} (hb : 0 < b) : 0 ≤ a.fmod b ∧ a.fmod b < b := ⟨Int.fmod_nonneg_of_pos a hb, Int.fmod_lt_of_pos a hb⟩
theorem cl_nil {cells : List (Str × Addr)} : ∀ x c, ([] : List (Str × Addr)).lookup x = some c → cells.lookup x = some c := fun x c h => by cases h
theorem cl_cons {cells cl : List (Str × Addr)} {y : Str} {d : Addr} (h : cells.lookup y = some d) (r : ∀ x c, cl.lookup x = some c → cells.lookup x = some c) : ∀ x c, ((y, d) :: cl).lookup x = some c → cells.lookup x = some c := fun x c hx => by
  rw [List.lookup_cons] at hx
  cases q : x == y with
  | true => rw [q] at hx; cases hx; rw [eq_of_beq q]; exact h
  | false => rw [q] at hx; exact r x c hx
def McOk (env : Env) (m : Loc) (scope : Scope) (cl : List (Str × Addr)) (mc : Loc) : Prop :=
  ∀ Cc x v, mc.lookup x = some v → (compEnvC scope cl Cc env).kindOf x ≠ some .local ∧ (cl.lookup x).isSome = true ∧ m.lookup x = some v ∧ (env.kindOf x = some .cell ∨ env.kindOf x = some .free)
theorem mc_nil {scope : Scope} {cl : List (Str × Addr)} : McOk env m scope cl [] := fun Cc x v h => by cases h
theorem mc_cons {scope : Scope} {cl : List (Str × Addr)} {mc : Loc} {y : Str} {w : Value} (hk : ∀ Cc, (compEnvC scope cl Cc env).kindOf y = some .cell) (hs : (cl.lookup y).isSome = true) (hm : m.lookup y = some w) (he : env.kindOf y = some .cell) (r : McOk env m scope cl mc) : McOk env m scope cl ((y, w) :: mc) := fun Cc x v hx => by
  by_cases q : x = y
  · subst q
    rw [lookup_cons_self] at hx; cases hx
    exact ⟨(by rw [hk]; intro z; cases z), hs, hm, .inl he⟩
  · rw [lookup_cons_ne q] at hx; exact r Cc x v hx
theorem fs_one {x y : Str} {v w : Value} (h : List.lookup x [(y, w)] = some v) (hk : env.kindOf y = some .local) : env.kindOf x = some .local := by
  by_cases q : x = y
  · subst q; exact hk
  · rw [lookup_cons_ne q] at h; cases h
theorem fs_two {x y z : Str} {v w u : Value} (h : List.lookup x [(y, w), (z, u)] = some v) (hk : env.kindOf y = some .local) (hk' : env.kindOf z = some .local) : env.kindOf x = some .local := by
  by_cases q : x = y
  · subst q; exact hk
  · rw [lookup_cons_ne q] at h; exact fs_one h hk'
end
end J
end

section
open PySem PySem.W PySem.Calls PyProof.Rows
set_option Elab.async false
set_option linter.unusedVariables false
namespace J
section
variable {C : Cx} {A : Around} {env : Env} {m : Loc} {σ σ₀ σ' : Ab} {s s₀ s' : Shared}
theorem wp_peekA' {α : Type} {K : Frag} {M : Model} {A : Around} {E : Value → Shared → Prop} {Q : α → Shared → Prop} {s : Shared} {o : Obj} (X : K.In s.heap) :
    ∀ (t : Sem α) (g : Addr → Sem α), peekA K ⟨M.prog, M.w.params⟩ t = some (o, g) → wpAny M A (g s.heap.objs.size) Q E { s with heap := s.heap.push o } → wpAny M A t Q E s := by
  intro t
  induction t with
  | rule _ k ih => intro g e q Γ p hΓ; exact ih () g e q Γ p hΓ
  | point _ k ih => intro g e q Γ p hΓ; exact ih () g e q Γ p hΓ
  | ask k ih => intro g e q Γ p hΓ; exact ih _ g e q Γ p hΓ
  | load a _ k ih =>
    intro g e q Γ p hΓ
    simp only [peekA] at e
    split at e
    · rename_i ob ho; exact ⟨ob, X _ _ ho, ih ob g e q Γ p hΓ⟩
    · cases e
  | alloc ob k _ =>
    intro g e q Γ p hΓ
    simp only [peekA] at e
    cases e
    exact q Γ p hΓ
  | _ => intro g e; simp [peekA] at e
/-- a call of a def that takes *rest -/
theorem TC_callV {f : Addr} {oc : Value} {od : Option Addr} {osl : Array (Option Value)} {fd : FuncData} {body : List Stmt} {args : List Value} {binds : Addr → List (Str × Value)} {ot : Obj} {g : Addr → Sem (List (Str × Value))} {m : Loc} {Q : Value → Ab → Prop}
    (hA : A.depth < recursionLimit) (hf : C.K.lookup f = some ⟨oc, od, .func fd, osl⟩) (hcd : codeIn C.K fd.code fd.qualname = true) (hbody : fd.body = .stmts body)
    (hb : ∀ S, peekA C.K S (bindArgs fd ⟨args, []⟩) = some (ot, g)) (hg : ∀ D, g D = pure (binds D)) (hcell : ∀ x ∈ fd.scope.names, x.2 ≠ .cell) (hloc : ∀ D, ∀ x ∈ binds D, fd.scope.names.lookup x.1 = some .local) (hmm : ∀ D, Ext m (locOf (binds D)))
    (h : ∀ L A', A'.depth = A.depth + 1 → A'.handled = A.handled → A'.units = A.units + 3 → TXs C A' (callEnv fd L f) m body σ fun fl _ σ' => Q (match fl with | .ret v => v | _ => .none) σ')
    (hco : fd.scope.isCoroutine = false := by rfl) (hgen : fd.scope.isGenerator = false := by rfl) (hk : fd.scope.kind = .function := by rfl)
    (hgl : fd.globals = mainGlobals := by rfl) (hbi : fd.builtins = builtinsNs := by rfl) (hcl : fd.closure = [] := by rfl) : TC C A (.ref f) args σ Q := fun σ₀ s₀ s₁ R E W₁ k => by
  refine codeAny_call_function hA (W₁.st.K _ _ hf) rfl hco hgen hbody (codeRec_of W₁.st.K hcd) (wp_peekA' W₁.st.K _ _ (hb _) ?_)
  rw [hg]
  refine wpAny_pure ?_
  generalize hbd : binds s₁.heap.objs.size = bd
  have hloc : ∀ x ∈ bd, fd.scope.names.lookup x.1 = some .local := hbd ▸ hloc _
  have hmm : Ext m (locOf bd) := hbd ▸ hmm _
  have W : Wv C A σ₀ s₀ σ { s₁ with heap := s₁.heap.push ot } := W₁.ext (tk := s₁.toks) (push_keeps ot)
  have hA' := (C.T.nolimit.keeps W.st.keep)
  generalize ({ s₁ with heap := s₁.heap.push ot } : Shared) = s at W hA' ⊢
  have nL : ¬ dom σ s.heap.objs.size := W.st.fresh (Nat.le_refl _)
  have hL0 : C.h₀.get? s.heap.objs.size = none := W.size
  have hown : ∀ b, own (callEnv fd s.heap.objs.size f) b ↔ b = s.heap.objs.size := fun b => by
    unfold own callEnv newEnv
    simp [hcl]
  refine wpAny_newFunctionEnv hcell hloc (fun h₁ hns hsb₀ => ⟨hA'.fresh _ hsb₀, codeAny_func ?_⟩) hk
  have hk₁ : ∀ b o, s.heap.get? b = some o → h₁.get? b = some o := fun b o e => hsb₀.extBut b o (Nat.ne_of_lt (Heap.lt_size e)) (Heap.get?_push_of_some _ e)
  change h₁.Ns s.heap.objs.size (fun x => bd.reverse.lookup x) at hns
  have S₁ : St C σ h₁ := W.st.ext hk₁
  have O₁ : FOk C (callEnv fd s.heap.objs.size f) (locOf bd) σ h₁ := by
    refine ⟨hk, hgl, hbi, fun b hb => ?_, ⟨_, hns, fun x v hx _ => ?_⟩, fun x c hc => ?_, fun x v hx hkk => ?_, fun x y c hc _ => ?_⟩
    · rw [(hown b).mp hb]; exact ⟨nL, hL0⟩
    · exact lookup_locOf hx
    · exact absurd hc (by unfold callEnv newEnv; simp [hcl])
    · obtain ⟨u, hu, _⟩ := lookup_locOf hx
      have hmem : (x, u) ∈ bd := List.mem_reverse.mp (by
        have : ∀ l : List (Str × Value), l.lookup x = some u → (x, u) ∈ l := fun l => by
          induction l with
          | nil => intro q; cases q
          | cons p r ih =>
            intro q
            obtain ⟨y, w⟩ := p
            rw [List.lookup_cons] at q
            cases z : x == y with
            | true => rw [z] at q; cases q; rw [eq_of_beq z]; exact .head _
            | false => rw [z] at q; exact .tail _ (ih q)
        exact this _ hu)
      have := hloc _ hmem
      have hkk' : fd.scope.names.lookup x = some .cell ∨ fd.scope.names.lookup x = some .free := hkk
      rw [this] at hkk'
      rcases hkk' with q | q <;> cases q
    · exact absurd hc (by unfold callEnv newEnv; simp [hcl])
  have F₁ : Fs C (A.deeper (callEnv fd s.heap.objs.size f)) σ h₁ := by
    obtain ⟨l, hl, hf, hd⟩ := W.fs
    refine ⟨callEnv fd s.heap.objs.size f :: l, Around.frames_deeper hl, .cons (L := s.heap.objs.size) (by show fd.scope.kind ≠ .module; rw [hk]; decide) rfl hns hL0 (FunFrames.turn hf fun e he L o hL ho hv => ⟨o, hk₁ L o ho, hv⟩), fun e he L hL => ?_⟩
    rcases List.mem_cons.mp he with rfl | he
    · obtain rfl : s.heap.objs.size = L := Option.some.inj hL
      exact nL
    · exact hd e he L hL
  refine (hmm.pre (h s.heap.objs.size (A.deeper (callEnv fd s.heap.objs.size f)) rfl rfl rfl)) σ { s with heap := h₁, toks := s.toks + bd.length } _ _ _ ⟨S₁, F₁, O₁, Mv.refl ..⟩ fun fl s' m' σ' W' q => ?_
  have M : Mv No σ σ' s s' := by
    refine ⟨fun b o e n _ => W'.mv.kp b o (hk₁ b o e) n fun z => ?_, fun b o e n => W'.mv.fr b o (hk₁ b o e) n, W'.mv.os, W'.mv.gen⟩
    rw [(hown b).mp z] at e
    exact absurd (Heap.lt_size e) (Nat.lt_irrefl _)
  cases fl with
  | ret v => exact k v s' σ' (W.go W'.st M) q
  | next => exact k .none s' σ' (W.go W'.st M) q
  | brk => exact k .none s' σ' (W.go W'.st M) q
  | cont => exact k .none s' σ' (W.go W'.st M) q

end
end J
end

section
open PySem PySem.W PySem.Calls PyProof.Rows
set_option Elab.async false
set_option linter.unusedVariables false
namespace J
/-- the heap without the object at L -/
def cutOut (h : Heap) (L : Addr) : Heap := h.update L fun o => { o with data := .freed }
theorem cut_none (h : Heap) (L : Addr) : (cutOut h L).get? L = none := by
  unfold cutOut
  cases h with
  | mk objs l =>
    simp only [Heap.update, Heap.get?, Array.getElem?_modify, if_true]
    cases objs[L]? with
    | none => rfl
    | some o => rfl
theorem cut_other {h : Heap} {L b : Addr} (hb : b ≠ L) : (cutOut h L).get? b = h.get? b := Heap.get?_update_other h _ (Ne.symm hb)
theorem cut_stays (h : Heap) (L : Addr) : (cutOut h L).StaysIn h := fun b o e => by
  by_cases q : b = L
  · rw [q, cut_none] at e; cases e
  · rwa [cut_other q] at e
theorem FunFrames.turn2 {base h h' : Heap} : ∀ {l : List Env}, h.FunFrames base l → (∀ env ∈ l, ∀ L o, env.frame = some L → h.get? L = some o → (∀ vs, o.data ≠ .fields vs) → ∃ o', h'.get? L = some o' ∧ ∀ vs, o'.data ≠ .fields vs) → h'.FunFrames base l
  | [], _, _ => trivial
  | env :: l, ⟨a, ⟨L, o, hf, hn, ho, hd⟩, r⟩, k => ⟨a, (by
      obtain ⟨o', ho', hd'⟩ := k env (.head _) L o hf ho hd
      exact ⟨L, o', hf, hn, ho', hd'⟩), FunFrames.turn2 r fun e he => k e (.tail _ he)⟩
/-- a TypeError is on its way -/
structure Thrown (base : Heap) (l : List Env) (s : Shared) (e : Addr) (s' : Shared) : Prop where
  fly : ∃ t, Heap.FlyingW base l e (.type "TypeError") (.ref t) s'.heap
  slots : s.heap.UpToSlots s'.heap
  os : s'.os = s.os
  gen : s.gens.size ≤ s'.gens.size ∧ (∀ g, g < s.gens.size → s'.gens[g]? = s.gens[g]?) ∧ (AllBare s.gens → AllBare s'.gens)
section
variable {C : Cx} {A : Around} {env : Env} {m : Loc} {σ σ₀ σ' : Ab} {s s₀ s' : Shared}
/-- a call of a def starts: its frame -/
theorem callee_Wx {f : Addr} {fd : FuncData} {binds : List (Str × Value)} {h₁ : Heap} {tk : Nat} (W : Wv C A σ₀ s₀ σ s) (hns : h₁.Ns s.heap.objs.size (fun x => binds.reverse.lookup x)) (hk₁ : ∀ b o, s.heap.get? b = some o → h₁.get? b = some o) (hloc : ∀ x ∈ binds, fd.scope.names.lookup x.1 = some .local)
    (hk : fd.scope.kind = .function) (hgl : fd.globals = mainGlobals) (hbi : fd.builtins = builtinsNs) (hcl : fd.closure = []) :
    Wx C (A.deeper (callEnv fd s.heap.objs.size f)) (callEnv fd s.heap.objs.size f) (locOf binds) σ { s with heap := h₁, toks := tk } σ { s with heap := h₁, toks := tk } := by
  have nL : ¬ dom σ s.heap.objs.size := W.st.fresh (Nat.le_refl _)
  have hL0 : C.h₀.get? s.heap.objs.size = none := W.size
  have hown : ∀ b, own (callEnv fd s.heap.objs.size f) b ↔ b = s.heap.objs.size := fun b => by
    unfold own callEnv newEnv
    simp [hcl]
  have S₁ : St C σ h₁ := W.st.ext hk₁
  have O₁ : FOk C (callEnv fd s.heap.objs.size f) (locOf binds) σ h₁ := by
    refine ⟨hk, hgl, hbi, fun b hb => ?_, ⟨_, hns, fun x v hx _ => ?_⟩, fun x c hc => ?_, fun x v hx hkk => ?_, fun x y c hc _ => ?_⟩
    · rw [(hown b).mp hb]; exact ⟨nL, hL0⟩
    · exact lookup_locOf hx
    · exact absurd hc (by unfold callEnv newEnv; simp [hcl])
    · obtain ⟨u, hu, _⟩ := lookup_locOf hx
      have hmem : (x, u) ∈ binds := List.mem_reverse.mp (by
        have : ∀ l : List (Str × Value), l.lookup x = some u → (x, u) ∈ l := fun l => by
          induction l with
          | nil => intro q; cases q
          | cons p r ih =>
            intro q
            obtain ⟨y, w⟩ := p
            rw [List.lookup_cons] at q
            cases z : x == y with
            | true => rw [z] at q; cases q; rw [eq_of_beq z]; exact .head _
            | false => rw [z] at q; exact .tail _ (ih q)
        exact this _ hu)
      have := hloc _ hmem
      have hkk' : fd.scope.names.lookup x = some .cell ∨ fd.scope.names.lookup x = some .free := hkk
      rw [this] at hkk'
      rcases hkk' with q | q <;> cases q
    · exact absurd hc (by unfold callEnv newEnv; simp [hcl])
  have F₁ : Fs C (A.deeper (callEnv fd s.heap.objs.size f)) σ h₁ := by
    obtain ⟨l, hl, hf, hd⟩ := W.fs
    refine ⟨callEnv fd s.heap.objs.size f :: l, Around.frames_deeper hl, .cons (L := s.heap.objs.size) (by show fd.scope.kind ≠ .module; rw [hk]; decide) rfl hns hL0 (FunFrames.turn hf fun e he L o hL ho hv => ⟨o, hk₁ L o ho, hv⟩), fun e he L hL => ?_⟩
    rcases List.mem_cons.mp he with rfl | he
    · obtain rfl : s.heap.objs.size = L := Option.some.inj hL
      exact nL
    · exact hd e he L hL
  exact ⟨S₁, F₁, O₁, Mv.refl ..⟩
theorem dom_nil {b : Addr} : ¬ dom Ab.nil b := by
  rintro (⟨o, e⟩ | ⟨K, fs, e⟩) <;> cases e
/-- a def that raises a TypeError in its first test -/
theorem raise_call {f : Addr} {oc : Value} {od : Option Addr} {osl : Array (Option Value)} {fd : FuncData} {more : List Stmt} {args : List Value} {binds : List (Str × Value)} {test e₀ : Expr} {rest : List Expr} {np cpos rpos ipos : Pos} {l : List Env} {base : Heap}
    (hA : A.depth < recursionLimit) (hh : A.handled = none) (hf : C.K.lookup f = some ⟨oc, od, .func fd, osl⟩) (hcd : codeIn C.K fd.code fd.qualname = true) (hbody : fd.body = .stmts (.If test [.Raise (some (.Call (.Name "TypeError" np) (e₀ :: rest) [] cpos)) none rpos] [] ipos :: more))
    (hb : ∀ S, peek C.K S (bindArgs fd ⟨args, []⟩) = some binds) (hcell : ∀ x ∈ fd.scope.names, x.2 ≠ .cell) (hloc : ∀ x ∈ binds, fd.scope.names.lookup x.1 = some .local) (hm : locOf binds = m)
    (hte : ∀ L A', EV C A' (callEnv fd L f) m Ab.nil (.Name "TypeError" np) (.type "TypeError"))
    (ht : ∀ L A', A'.depth = A.depth + 1 → A'.handled = A.handled → EB C A' (callEnv fd L f) m Ab.nil test true)
    (ha : ∀ L A', A'.depth = A.depth + 1 → A'.handled = A.handled → TAs C A' (callEnv fd L f) m cpos (e₀ :: rest) Ab.nil fun vs σ' => vs.length ≤ sizeLine)
    (he : ∀ env, starEach (e₀ :: rest) env = (false, eval e₀ env) :: starEach rest env) (hplain : ∀ env, (backTo cpos (starEach rest env)).any (·.1) = false)
    (W : Wv C A σ₀ s₀ Ab.nil s) (hl : A.frames = some l) (hbs : base.StaysIn s.heap) (hfl : s.heap.FunFrames base l) {R : Result → Shared → Prop} (k : ∀ e s', Thrown base l s e s' → R (.error (.ref e)) s')
    (hco : fd.scope.isCoroutine = false := by rfl) (hgen : fd.scope.isGenerator = false := by rfl) (hk : fd.scope.kind = .function := by rfl)
    (hgl : fd.globals = mainGlobals := by rfl) (hbi : fd.builtins = builtinsNs := by rfl) (hcl : fd.closure = [] := by rfl) : codeAny C.M A (.call (.ref f) ⟨args, []⟩) R s := by
  refine codeAny_call_def hA (W.st.K _ _ hf) rfl (C.T.nolimit.keeps W.st.keep) (codeRec_of W.st.K hcd) hbody (kp_binds W.st.K hb) hcell hloc (fun h₁ hns hk₁ => ?_) hco hgen hk
  have X := callee_Wx (f := f) (tk := s.toks + binds.length) W hns hk₁ hloc hk hgl hbi hcl
  rw [hm] at X
  have hb0 : base.get? s.heap.objs.size = none := by
    cases q : base.get? s.heap.objs.size with
    | none => rfl
    | some o => exact absurd (Heap.lt_size (hbs _ _ q)) (Nat.lt_irrefl _)
  refine wpAny_execs_cons (wpAny_If ((ht s.heap.objs.size (A.deeper (callEnv fd s.heap.objs.size f)) rfl rfl).run X.wd fun s₁ W₁ => ?_))
  rw [if_pos rfl]
  refine wpAny_execs_cons (Raise_madeB PySem.F.excCall_TypeError PySem.F.excRaise_TypeError (by show A.handled = none; exact hh) ((hte s.heap.objs.size (A.deeper (callEnv fd s.heap.objs.size f))).run W₁ fun u s₂ hu W₂ => ⟨nv_to_type hu, ha s.heap.objs.size (A.deeper (callEnv fd s.heap.objs.size f)) rfl rfl _ _ s₂ _ _ W₂ fun vs s₃ σ₃ W₃ hvs => ⟨by simpa using hvs, fun h' e hx => ?_⟩⟩) (he _) (hplain _))
  have kp : ∀ b o, h₁.get? b = some o → s₃.heap.get? b = some o := fun b o q => W₃.mv.kp b o q dom_nil id
  refine wpAny_leaves_madeW (base := base) (h := s₃.heap) (cls := .type "TypeError") (args := vs) (Around.frames_deeper hl) rfl (fun b o q => kp b o (hk₁ b o (hbs b o q))) ?_ ⟨hx.keeps, hx.new, hx.there⟩ fun h'' t x1 x2 x3 x4 => ?_
  · obtain ⟨M, hM, _⟩ := W₃.ok.ns
    exact .cons (L := s.heap.objs.size) (by show fd.scope.kind ≠ .module; rw [hk]; decide) rfl hM hb0 (FunFrames.turn2 hfl fun e he L o hL ho hv => ⟨o, kp L o (hk₁ L o ho), hv⟩)
  · refine k e _ ⟨⟨t, x1⟩, ?_, W₃.mv.os, W₃.mv.gen⟩
    exact (Heap.UpToSlots.of_keeps fun b o q => hx.keeps b o (kp b o (hk₁ b o q))).trans x4
end
end J
end

section
open PySem PySem.W PySem.Calls PyProof.Rows
set_option Elab.async false
set_option linter.unusedVariables false
namespace J
section
variable {C : Cx} {A : Around} {env : Env} {m : Loc} {σ σ₀ σ' : Ab} {s s₀ s' : Shared}
/-- the state after an exception was handled: only the frame has turned, in its slots -/
theorem Wx.after (W : Wx C A env m σ₀ s₀ σ s) {A' : Around} (hA : A'.frames = A.frames) (hl : A.frames = some [env]) (hfr : env.frame = some env.locals) (hs : (cutOut s.heap env.locals).StaysIn s'.heap) (hu : s.heap.UpToSlots s'.heap) (ho : s'.os = s.os)
    (hg : s.gens.size ≤ s'.gens.size ∧ (∀ g, g < s.gens.size → s'.gens[g]? = s.gens[g]?) ∧ (AllBare s.gens → AllBare s'.gens)) : Wx C A' env m σ₀ s₀ σ s' := by
  have hLown : own env env.locals := .inl rfl
  obtain ⟨nd, nh⟩ := W.ok.nd _ hLown
  have ke : ∀ b o, b ≠ env.locals → s.heap.get? b = some o → s'.heap.get? b = some o := fun b o hb e => hs b o ((cut_other hb).trans e)
  obtain ⟨M, hM, hm⟩ := W.ok.ns
  obtain ⟨oL, _, _, hoL, hdL, _⟩ := id hM
  obtain ⟨sl, hoL'⟩ := hu _ _ hoL fun vs q => by rw [hdL] at q; cases q
  have S' : St C σ s'.heap := W.st.keeps fun b o hb e => ke b o (by
    rintro rfl
    rcases hb with d | q
    · exact nd d
    · rw [nh] at q; cases q) e
  have O' : FOk C env m σ s'.heap := by
    refine ⟨W.ok.fn, W.ok.gl, W.ok.bi, W.ok.nd, ⟨M, hu.ns hM, hm⟩, fun x c hc => ?_, fun x v hx hk => ?_, W.ok.inj⟩
    · obtain ⟨h1, v, o, ho, hd⟩ := W.ok.cl x c hc
      exact ⟨h1, v, o, ke c o h1 ho, hd⟩
    · obtain ⟨c, u, hc, ⟨o, ho, hd⟩, hv⟩ := W.ok.ce x v hx hk
      exact ⟨c, u, hc, ⟨o, ke c o (W.ok.cl x c hc).1 ho, hd⟩, hv⟩
  have M' : Mv (own env) σ σ s s' := by
    refine ⟨fun b o e _ n => ke b o (fun q => n (q ▸ hLown)) e, fun b o e n => ⟨n, ?_⟩, ho, hg⟩
    by_cases q : b = env.locals
    · subst q; exact ⟨_, hoL'⟩
    · exact ⟨o, ke b o q e⟩
  have F' : Fs C A' σ s'.heap := by
    obtain ⟨l, hl', hf, hd⟩ := W.fs
    obtain rfl : l = [env] := Option.some.inj (hl'.symm.trans hl)
    refine ⟨[env], hA.trans hl, FunFrames.turn hf fun e he L o hL ho hv => ?_, hd⟩
    obtain rfl : e = env := by simpa using he
    rw [hfr] at hL; cases hL
    rw [hoL] at ho; cases ho
    exact ⟨_, hoL', fun vs q => hv vs q⟩
  exact ⟨S', F', O', W.mv.trans M'⟩
theorem FlyingW.kp {base h h' : Heap} {l : List Env} {e : Addr} {cls a0 : Value} (x : Heap.FlyingW base l e cls a0 h) (k : ∀ b o, h.get? b = some o → h'.get? b = some o) : Heap.FlyingW base l e cls a0 h' := by
  obtain ⟨f1, f2, f3, oe, vs, T, oT, ts, he, hc, hd, h1, hn, hT, hTo, hdT, h3⟩ := x
  exact ⟨fun b o q => k b o (f1 b o q), f2, FunFrames.turn2 f3 fun e he L o hL ho hv => ⟨o, k L o ho, hv⟩, oe, vs, T, oT, ts, k _ _ he, hc, hd, h1, hn, hT, k _ _ hTo, hdT, h3⟩
/-- try: e, except TypeError: suite; where e raises it -/
theorem TX_tryTE {e : Expr} {epos hpos pos np : Pos} {b₀ : Stmt} {suite : List Stmt} {Q : Flow → Loc → Ab → Prop} (hl : A.frames = some [env]) (hfr : env.frame = some env.locals)
    (hte : ∀ A', EV C A' env m Ab.nil (.Name "TypeError" np) (.type "TypeError"))
    (hraise : ∀ s (E : Value → Shared → Prop), Wx C A env m σ s σ s → (∀ s₁ e' s', Wx C A env m σ s σ s₁ → Thrown (cutOut s₁.heap env.locals) [env] s₁ e' s' → E (.ref e') s') → wpAny C.M A (eval e env) (fun _ _ => False) E s)
    (hsuite : ∀ x, TXs C (A.mark (some x)) env m (b₀ :: suite) σ Q)
    (hi : interactive env = false := by rfl) (hs : swapsWith e none epos.line env = pure false := by rfl) :
    TX C A env m (.Try [.Expr e epos] [.ExceptHandler (some (.Name "TypeError" np)) none (b₀ :: suite) hpos] [] [] pos) σ Q := fun σ₀ s₀ s R E W k => by
  refine wpAny_Try_except (wpAny_execs_cons (wpAny_Expr_any (wpAny_mono (hraise s _ W.self fun s₁ e' s' W₁ Th => ?_) (fun _ _ f => f.elim) fun _ _ x => x) hi hs))
  obtain ⟨t, fly⟩ := Th.fly
  refine wpAny_looks_onW hl hfr fly fun h₄ held sm4 => ?_
  refine wpAny_landsW held fun h₅ fly5 sm5 => ?_
  have sm := (Th.slots.trans sm4).trans sm5
  have W5 : Wx C (A.mark (some (.ref e'))) env m σ₀ s₀ σ { s' with heap := h₅ } := (W.trans W₁).after (s' := { s' with heap := h₅ }) rfl hl hfr fly5.1 sm Th.os Th.gen
  have W5n : Wd C (A.mark (some (.ref e'))) env m Ab.nil { s' with heap := h₅ } Ab.nil { s' with heap := h₅ } := (W5.sub (σ' := Ab.nil) (fun a o q => by cases q)).wd
  refine wpAny_handleBy_builtin (X := "TypeError") (T := "TypeError") (b := true) (by first | rfl | decide +kernel) (by first | rfl | decide +kernel) (by first | rfl | decide +kernel) ((hte _).run W5n fun u s₆ hu W₆ => ?_)
  have k6 : ∀ b o, h₅.get? b = some o → s₆.heap.get? b = some o := fun b o q => W₆.mv.kp b o q dom_nil id
  have fly6 := FlyingW.kp fly5 k6
  obtain ⟨ob, hob, hobc⟩ := fly6.there
  refine ⟨nv_to_type hu, ⟨ob, hob, hobc⟩, ?_⟩
  rw [if_pos rfl]
  refine lands_againW fly6 fun h₇ fly7 sm7 => ?_
  have W7 : Wx C (A.mark (some (.ref e'))) env m σ₀ s₀ σ { s₆ with heap := h₇ } := (W.trans W₁).after (s' := { s₆ with heap := h₇ }) rfl hl hfr fly7.1 ((sm.trans (Heap.UpToSlots.of_keeps k6)).trans sm7) (W₆.mv.os.trans Th.os)
    ⟨Nat.le_trans Th.gen.1 W₆.mv.gen.1, fun g hg => (W₆.mv.gen.2.1 g (Nat.lt_of_lt_of_le hg Th.gen.1)).trans (Th.gen.2.1 g hg), fun z => W₆.mv.gen.2.2 (Th.gen.2.2 z)⟩
  exact hsuite _ σ₀ s₀ _ R _ W7 fun f s₈ m₈ σ₈ W₈ q => k f s₈ m₈ σ₈ ⟨W₈.st, (by obtain ⟨l, hl', r⟩ := W₈.fs; exact ⟨l, hl', r⟩), W₈.ok, W₈.mv⟩ q
end
end J
end

section
open PySem PySem.W PySem.Calls PyProof.Rows
set_option Elab.async false
set_option linter.unusedVariables false
namespace J
section
variable {C : Cx} {A : Around} {env : Env} {m : Loc} {σ σ₀ σ' : Ab} {s s₀ s' : Shared}
/-- o.x(arg) raises a TypeError -/
theorem raise_meth {o arg : Expr} {x : Str} {apos pos : Pos} {a K f : Addr} {fs : Loc} {v : Value} {pl : Sem Bool} (ho : EV C A env m σ o (.ref a)) (hi : σ a = some (.inst K fs)) (hx : fs.lookup x = none) (hk : methIn C.K K x f = true) (harg : EV C A env m σ arg v)
    (hl : A.frames = some [env]) (hfr : env.frame = some env.locals)
    (hcall : ∀ u, nv u = v → ∀ (σ₀ : Ab) (s₀ s : Shared) (base : Heap) (R : Result → Shared → Prop), Wv C A σ₀ s₀ Ab.nil s → base.StaysIn s.heap → s.heap.FunFrames base [env] → (∀ e s', Thrown base [env] s e s' → R (.error (.ref e)) s') → codeAny C.M A (.call (.ref f) ⟨[.ref a, u], []⟩) R s)
    (he : eval (.Call (.Attribute o x apos) [arg] [] pos) env = (do
      let ov ← eval o env
      standAt apos.atName
      let (f, first) ← PySem.holding [ov] (getMethod ov x pl)
      callWith pos f first (backTo pos (starEach [arg] env)) []) := by rfl)
    (he' : starEach [arg] env = (false, eval arg env) :: starEach [] env := by rfl) (hp : (backTo pos (starEach [] env)).any (·.1) = false := by rfl) :
    ∀ s (E : Value → Shared → Prop), Wx C A env m σ s σ s → (∀ s₁ e' s', Wx C A env m σ s σ s₁ → Thrown (cutOut s₁.heap env.locals) [env] s₁ e' s' → E (.ref e') s') → wpAny C.M A (eval (.Call (.Attribute o x apos) [arg] [] pos) env) (fun _ _ => False) E s := fun s E W k =>
  MethodCall_ (ho.run W.wd fun u s₁ hu W₁ => by
    obtain rfl := nv_to_ref hu
    refine getMethod_inst W₁.st hi hx hk ?_
    unfold methIn at hk
    simp only [Bool.and_eq_true] at hk
    refine callWith_K (first := [.ref a]) C.X hk.2 ((EVs.cons harg .nil he').run W₁ fun us s₂ hus W₂ => ⟨W₂.st.K, ?_⟩) he' hp
    obtain ⟨w, rfl, hw⟩ := map_one hus
    have W₂x := W.step W₂
    obtain ⟨M, hM, _⟩ := W₂.ok.ns
    refine wpAny_call (hcall w hw Ab.nil s₂ s₂ (cutOut s₂.heap env.locals) _ ((Wv.start W₂.st W₂.fs).sub (fun a o q => by cases q) |> fun z => ⟨z.st, z.fs, Mv.refl ..⟩) (cut_stays _ _) (.cons (L := env.locals) (by rw [W₂.ok.fn]; decide) hfr hM (cut_none _ _) trivial) fun e s' Th => ?_)
    exact k s₂ e s' W₂x Th) he
end
end J
end

section
open PySem PySem.W PySem.Calls PyProof.Rows
set_option Elab.async false
set_option linter.unusedVariables false
set_option maxRecDepth 100000
set_option maxHeartbeats 4000000
namespace Mine.hd
noncomputable section
abbrev pg : Program := PySem.Challenge.rw_je0006_02.row.prog
def cell (i : Nat) : Stmt := match PySem.Challenge.pw_je0006_02.main.body[i]? with | some s => s | none => .Pass ⟨0, 0, 0, 0⟩
def sub (i j : Nat) : Stmt := match cell i with | .ClassDef _ _ _ b _ _ _ _ _ _ _ => (match b[j]? with | some s => s | none => .Pass ⟨0, 0, 0, 0⟩) | _ => .Pass ⟨0, 0, 0, 0⟩
def argsOf : Stmt → Arguments | .FunctionDef _ a _ _ _ _ _ _ _ _ => a | _ => ⟨[], [], none, [], [], none, []⟩
def bodyOf : Stmt → List Stmt | .FunctionDef _ _ b _ _ _ _ _ _ _ => b | _ => []
def scopeOf : Stmt → Scope | .FunctionDef _ _ _ _ _ _ s _ _ _ => s | _ => ⟨.module, [], false, false, []⟩
def o1 (_ : Params) : Obj := ⟨(.type "tuple"), .none, (.seq ⟨[]⟩ 0), ⟨[]⟩⟩
def o2 (_ : Params) : Obj := ⟨.none, .none, (.fields ⟨[]⟩), ⟨[]⟩⟩
def o3 (_ : Params) : Obj := ⟨(.type "code"), .none, (.fields ⟨[(.str "<module>" 182), (.str "<module>" 183), (.str "/claim/cut.py" 184), (.int 1 0), (.int 0 0), (.int 0 0), (.int 0 0), (.int 0 0), (.ref 11), (.bool .false), (.int 181 0), (.ref 12), .none, .none, .none, .none, (.int 185 0), (.int 1 0), (.str "/claim/cut.py" 186)]⟩), ⟨[]⟩⟩
def o4 (_ : Params) : Obj := ⟨(.type "frame"), .none, .plain, ⟨[(.some (.ref 13)), (.some (.ref 3)), (.some (.ref 3)), .none, (.some (.str "__main__" 164)), .none, (.some (.ref 0))]⟩⟩
def heapA (P : Params) : Heap := ⟨⟨[(boot_o_0 P), (boot_o_1 P), (boot_o_2 P), (boot_o_3 P), (boot_o_4 P), (boot_o_5 P), (boot_o_6 P), (boot_o_7 P), (boot_o_8 P), (boot_o_9 P), (boot_o_10 P), (o1 P), (o2 P), (o3 P), (o4 P)]⟩, {}⟩
def treeA (P : Params) : BT := (.node (boot_o_0 P) (.node (boot_o_1 P) (.node (boot_o_3 P) (.node (boot_o_7 P) .nil .nil) (.node (o1 P) .nil .nil)) (.node (boot_o_5 P) (.node (boot_o_9 P) .nil .nil) (.node (o3 P) .nil .nil))) (.node (boot_o_2 P) (.node (boot_o_4 P) (.node (boot_o_8 P) .nil .nil) (.node (o2 P) .nil .nil)) (.node (boot_o_6 P) (.node (boot_o_10 P) .nil .nil) (.node (o4 P) .nil .nil))))
def tree0 (P : Params) : BT := (.node (boot_o_0 P) (.node (boot_o_1 P) (.node (boot_o_3 P) (.node (boot_o_7 P) .nil .nil) (.node (o1 P) .nil .nil)) (.node (boot_o_5 P) (.node (boot_o_9 P) .nil .nil) (.node (o3 P) .nil .nil))) (.node (boot_o_2 P) (.node (boot_o_4 P) (.node (boot_o_8 P) .nil .nil) (.node (o2 P) .nil .nil)) (.node (boot_o_6 P) (.node (boot_o_10 P) .nil .nil) (.node (o4 P) .nil .nil))))
def o5 (P : Params) : Obj := ⟨(.type "dict"), .none, (.dict ⟨[⟨(PySem.PyData.keyHash P "__name__"), (.str "__name__" 165), (.str "certvalidator._types" 204)⟩, ⟨(PySem.PyData.keyHash P "__doc__"), (.str "__doc__" 166), .none⟩, ⟨(PySem.PyData.keyHash P "__package__"), (.str "__package__" 167), .none⟩, ⟨(PySem.PyData.keyHash P "__loader__"), (.str "__loader__" 168), (.builtin "__main__.__loader__#opaque")⟩, ⟨(PySem.PyData.keyHash P "__spec__"), (.str "__spec__" 169), .none⟩, ⟨(PySem.PyData.keyHash P "__annotations__"), (.str "__annotations__" 170), (.ref 6)⟩, ⟨(PySem.PyData.keyHash P "__builtins__"), (.str "__builtins__" 171), (.ref 4)⟩, ⟨(PySem.PyData.keyHash P "__file__"), (.str "__file__" 173), (.str "/claim/cut.py" 172)⟩, ⟨(PySem.PyData.keyHash P "__cached__"), (.str "__cached__" 174), .none⟩, ⟨(PySem.PyData.keyHash P "_wall"), (.str "_wall" 193), (.ref 21)⟩, ⟨(PySem.PyData.keyHash P "pretty_message"), (.str "pretty_message" 203), (.ref 28)⟩, ⟨(PySem.PyData.keyHash P "type_name"), (.str "type_name" 212), (.ref 35)⟩, ⟨(PySem.PyData.keyHash P "Native"), (.str "Native" 241), (.ref 52)⟩]⟩ 13), ⟨[]⟩⟩
def o6 (_ : Params) : Obj := ⟨.none, .none, (.fields ⟨[(.int 1 0), (.int 0 0), (.ref 20), (.int 5 0), (.int 0 0), (.ref 27), (.int 8 0), (.int 0 0), (.ref 34), (.int 10 0), (.int 0 0), (.ref 41)]⟩), ⟨[]⟩⟩
def o7 (_ : Params) : Obj := ⟨(.type "tuple"), .none, (.seq ⟨[]⟩ 0), ⟨[]⟩⟩
def o8 (_ : Params) : Obj := ⟨.none, .none, (.fields ⟨[]⟩), ⟨[]⟩⟩
def o9 (_ : Params) : Obj := ⟨(.type "tuple"), .none, (.seq ⟨[(.str "k" 190)]⟩ 0), ⟨[]⟩⟩
def o10 (_ : Params) : Obj := ⟨(.type "tuple"), .none, (.seq ⟨[]⟩ 0), ⟨[]⟩⟩
def o11 (_ : Params) : Obj := ⟨.none, .none, .func ⟨"_wall", "_wall", argsOf (cell 0), .stmts (bodyOf (cell 0)), scopeOf (cell 0), 0, [], .none, .none, .none, .none, .none, .none, .none, 0⟩, ⟨[]⟩⟩
def o12 (_ : Params) : Obj := ⟨(.type "code"), .none, (.fields ⟨[(.str "_wall" 187), (.str "_wall" 188), (.str "/claim/cut.py" 189), (.int 1 0), (.int 1 0), (.int 0 0), (.int 0 0), (.int 3 0), (.ref 15), (.bool .true), (.int 181 0), (.ref 16), .none, (.ref 17), (.ref 18), (.ref 19), (.int 191 0), (.int 1 0), (.str "/claim/cut.py" 192)]⟩), ⟨[]⟩⟩
def o13 (_ : Params) : Obj := ⟨(.type "function"), .none, .func ⟨"_wall", "_wall", argsOf (cell 0), .stmts (bodyOf (cell 0)), scopeOf (cell 0), 3, [], .none, .none, .none, (.str "__main__" 164), .none, (.ref 20), .none, 0⟩, ⟨[]⟩⟩
def o14 (_ : Params) : Obj := ⟨(.type "tuple"), .none, (.seq ⟨[]⟩ 0), ⟨[]⟩⟩
def o15 (_ : Params) : Obj := ⟨.none, .none, (.fields ⟨[]⟩), ⟨[]⟩⟩
def o16 (_ : Params) : Obj := ⟨(.type "tuple"), .none, (.seq ⟨[(.str "string" 199), (.str "params" 200)]⟩ 0), ⟨[]⟩⟩
def o17 (_ : Params) : Obj := ⟨(.type "tuple"), .none, (.seq ⟨[]⟩ 0), ⟨[]⟩⟩
def o18 (_ : Params) : Obj := ⟨.none, .none, .func ⟨"pretty_message", "pretty_message", argsOf (cell 2), .stmts (bodyOf (cell 2)), scopeOf (cell 2), 0, [], .none, .none, .none, .none, .none, .none, .none, 0⟩, ⟨[]⟩⟩
def o19 (_ : Params) : Obj := ⟨(.type "code"), .none, (.fields ⟨[(.str "pretty_message" 196), (.str "pretty_message" 197), (.str "/claim/cut.py" 198), (.int 5 0), (.int 1 0), (.int 0 0), (.int 0 0), (.int 7 0), (.ref 22), (.bool .true), (.int 181 0), (.ref 23), .none, (.ref 24), (.ref 25), (.ref 26), (.int 201 0), (.int 5 0), (.str "/claim/cut.py" 202)]⟩), ⟨[]⟩⟩
def o20 (_ : Params) : Obj := ⟨(.type "function"), .none, .func ⟨"pretty_message", "pretty_message", argsOf (cell 2), .stmts (bodyOf (cell 2)), scopeOf (cell 2), 3, [], .none, .none, .none, (.str "certvalidator._errors" 194), .none, (.ref 27), .none, 0⟩, ⟨[]⟩⟩
def o21 (_ : Params) : Obj := ⟨(.type "tuple"), .none, (.seq ⟨[]⟩ 0), ⟨[]⟩⟩
def o22 (_ : Params) : Obj := ⟨.none, .none, (.fields ⟨[]⟩), ⟨[]⟩⟩
def o23 (_ : Params) : Obj := ⟨(.type "tuple"), .none, (.seq ⟨[(.str "value" 209)]⟩ 0), ⟨[]⟩⟩
def o24 (_ : Params) : Obj := ⟨(.type "tuple"), .none, (.seq ⟨[]⟩ 0), ⟨[]⟩⟩
def o25 (_ : Params) : Obj := ⟨.none, .none, .func ⟨"type_name", "type_name", argsOf (cell 4), .stmts (bodyOf (cell 4)), scopeOf (cell 4), 0, [], .none, .none, .none, .none, .none, .none, .none, 0⟩, ⟨[]⟩⟩
def o26 (_ : Params) : Obj := ⟨(.type "code"), .none, (.fields ⟨[(.str "type_name" 206), (.str "type_name" 207), (.str "/claim/cut.py" 208), (.int 8 0), (.int 1 0), (.int 0 0), (.int 0 0), (.int 3 0), (.ref 29), (.bool .true), (.int 181 0), (.ref 30), .none, (.ref 31), (.ref 32), (.ref 33), (.int 210 0), (.int 8 0), (.str "/claim/cut.py" 211)]⟩), ⟨[]⟩⟩
def o27 (_ : Params) : Obj := ⟨(.type "function"), .none, .func ⟨"type_name", "type_name", argsOf (cell 4), .stmts (bodyOf (cell 4)), scopeOf (cell 4), 3, [], .none, .none, .none, (.str "certvalidator._types" 204), .none, (.ref 34), .none, 0⟩, ⟨[]⟩⟩
def o28 (_ : Params) : Obj := ⟨(.type "tuple"), .none, (.seq ⟨[]⟩ 0), ⟨[]⟩⟩
def o29 (_ : Params) : Obj := ⟨(.type "builtin_function_or_method"), .none, (.fields ⟨[(.builtin "type.__prepare__"), (.type "type")]⟩), ⟨[]⟩⟩
def o30 (P : Params) : Obj := ⟨(.type "dict"), .none, (.dict ⟨[⟨(PySem.PyData.keyHash P "__module__"), (.str "__module__" 220), (.str "certvalidator._types" 204)⟩, ⟨(PySem.PyData.keyHash P "__qualname__"), (.str "__qualname__" 222), (.str "Native" 221)⟩, ⟨(PySem.PyData.keyHash P "__firstlineno__"), (.str "__firstlineno__" 224), (.int 10 223)⟩, ⟨(PySem.PyData.keyHash P "__init__"), (.str "__init__" 232), (.ref 49)⟩, ⟨(PySem.PyData.keyHash P "__static_attributes__"), (.str "__static_attributes__" 234), (.ref 50)⟩]⟩ 5), ⟨[]⟩⟩
def o31 (_ : Params) : Obj := ⟨(.type "tuple"), .none, (.seq ⟨[]⟩ 0), ⟨[]⟩⟩
def o32 (_ : Params) : Obj := ⟨.none, .none, (.fields ⟨[(.int 12 0), (.int 4 0), (.ref 48)]⟩), ⟨[]⟩⟩
def o33 (_ : Params) : Obj := ⟨(.type "code"), .none, (.fields ⟨[(.str "Native" 215), (.str "Native" 216), (.str "/claim/cut.py" 217), (.int 10 0), (.int 0 0), (.int 0 0), (.int 0 0), (.int 0 0), (.ref 39), (.bool .false), (.int 181 0), (.ref 40), .none, .none, .none, .none, (.int 218 0), (.int 10 0), (.str "/claim/cut.py" 219)]⟩), ⟨[]⟩⟩
def o34 (_ : Params) : Obj := ⟨(.type "frame"), .none, .plain, ⟨[(.some (.ref 41)), (.some (.ref 3)), (.some (.ref 38)), .none, (.some (.str "certvalidator._types" 204)), .none, (.some (.ref 0))]⟩⟩
def o35 (_ : Params) : Obj := ⟨(.type "tuple"), .none, (.seq ⟨[]⟩ 0), ⟨[]⟩⟩
def o36 (_ : Params) : Obj := ⟨.none, .none, (.fields ⟨[]⟩), ⟨[]⟩⟩
def o37 (_ : Params) : Obj := ⟨(.type "tuple"), .none, (.seq ⟨[(.str "self" 228), (.str "native" 229)]⟩ 0), ⟨[]⟩⟩
def o38 (_ : Params) : Obj := ⟨(.type "tuple"), .none, (.seq ⟨[]⟩ 0), ⟨[]⟩⟩
def o39 (_ : Params) : Obj := ⟨.none, .none, .func ⟨"__init__", "Native.__init__", argsOf (sub 5 0), .stmts (bodyOf (sub 5 0)), scopeOf (sub 5 0), 0, [], .none, .none, .none, .none, .none, .none, .none, 0⟩, ⟨[]⟩⟩
def o40 (_ : Params) : Obj := ⟨(.type "code"), .none, (.fields ⟨[(.str "__init__" 225), (.str "Native.__init__" 226), (.str "/claim/cut.py" 227), (.int 12 0), (.int 2 0), (.int 0 0), (.int 0 0), (.int 3 0), (.ref 43), (.bool .true), (.int 181 0), (.ref 44), .none, (.ref 45), (.ref 46), (.ref 47), (.int 230 0), (.int 12 0), (.str "/claim/cut.py" 231)]⟩), ⟨[]⟩⟩
def o41 (_ : Params) : Obj := ⟨(.type "function"), .none, .func ⟨"__init__", "Native.__init__", argsOf (sub 5 0), .stmts (bodyOf (sub 5 0)), scopeOf (sub 5 0), 3, [], .none, .none, .none, (.str "certvalidator._types" 204), .none, (.ref 48), .none, 0⟩, ⟨[]⟩⟩
def o42 (_ : Params) : Obj := ⟨(.type "tuple"), .none, (.seq ⟨[(.str "native" 233)]⟩ 0), ⟨[]⟩⟩
def o43 (P : Params) : Obj := ⟨(.type "dict"), .none, (.dict ⟨[⟨(PySem.PyData.keyHash P "__module__"), (.str "__module__" 220), (.str "certvalidator._types" 204)⟩, ⟨(PySem.PyData.keyHash P "__firstlineno__"), (.str "__firstlineno__" 224), (.int 10 223)⟩, ⟨(PySem.PyData.keyHash P "__init__"), (.str "__init__" 232), (.ref 49)⟩, ⟨(PySem.PyData.keyHash P "__static_attributes__"), (.str "__static_attributes__" 234), (.ref 50)⟩, ⟨(PySem.PyData.keyHash P "__dict__"), (.str "__dict__" 236), (.ref 53)⟩, ⟨(PySem.PyData.keyHash P "__weakref__"), (.str "__weakref__" 238), (.ref 54)⟩, ⟨(PySem.PyData.keyHash P "__doc__"), (.str "__doc__" 239), .none⟩]⟩ 4), ⟨[]⟩⟩
def o44 (_ : Params) : Obj := ⟨(.type "type"), .none, (.cls ⟨"Native", [(.type "object")], [(.ref 52), (.type "object")], 51, "Native", .true, [], [], .false, .none, .false⟩), ⟨[.none, .none, (.some (.str "Native" 213)), (.some (.str "Native" 221)), (.some (.builtin "object.__new__")), (.some (.bool .true))]⟩⟩
def o45 (_ : Params) : Obj := ⟨(.type "getset_descriptor"), .none, (.fields ⟨[(.str "__dict__" 235), (.ref 52), (.builtin "function.__dict__"), (.builtin "function.__dict__#set")]⟩), ⟨[]⟩⟩
def o46 (_ : Params) : Obj := ⟨(.type "getset_descriptor"), .none, (.fields ⟨[(.str "__weakref__" 237), (.ref 52), (.builtin "ExceptionGroup.__weakref__"), .none]⟩), ⟨[]⟩⟩
def o47 (_ : Params) : Obj := ⟨(.type "super"), .none, (.fields ⟨[(.ref 52), (.ref 52), (.ref 52)]⟩), ⟨[]⟩⟩
def o48 (_ : Params) : Obj := ⟨(.type "builtin_function_or_method"), .none, (.fields ⟨[(.builtin "object.__init_subclass__"), (.ref 52)]⟩), ⟨[]⟩⟩
def tree1 (P : Params) : BT := (.node (boot_o_0 P) (.node (boot_o_1 P) (.node (o5 P) (.node (boot_o_7 P) (.node (o7 P) (.node (o23 P) .nil .nil) (.node (o39 P) .nil .nil)) (.node (o15 P) (.node (o31 P) .nil .nil) (.node (o47 P) .nil .nil))) (.node (o1 P) (.node (o11 P) (.node (o27 P) .nil .nil) (.node (o43 P) .nil .nil)) (.node (o19 P) (.node (o35 P) .nil .nil) .nil))) (.node (boot_o_5 P) (.node (boot_o_9 P) (.node (o9 P) (.node (o25 P) .nil .nil) (.node (o41 P) .nil .nil)) (.node (o17 P) (.node (o33 P) .nil .nil) .nil)) (.node (o3 P) (.node (o13 P) (.node (o29 P) .nil .nil) (.node (o45 P) .nil .nil)) (.node (o21 P) (.node (o37 P) .nil .nil) .nil)))) (.node (boot_o_2 P) (.node (boot_o_4 P) (.node (boot_o_8 P) (.node (o8 P) (.node (o24 P) .nil .nil) (.node (o40 P) .nil .nil)) (.node (o16 P) (.node (o32 P) .nil .nil) (.node (o48 P) .nil .nil))) (.node (o6 P) (.node (o12 P) (.node (o28 P) .nil .nil) (.node (o44 P) .nil .nil)) (.node (o20 P) (.node (o36 P) .nil .nil) .nil))) (.node (boot_o_6 P) (.node (boot_o_10 P) (.node (o10 P) (.node (o26 P) .nil .nil) (.node (o42 P) .nil .nil)) (.node (o18 P) (.node (o34 P) .nil .nil) .nil)) (.node (o4 P) (.node (o14 P) (.node (o30 P) .nil .nil) (.node (o46 P) .nil .nil)) (.node (o22 P) (.node (o38 P) .nil .nil) .nil)))))
def o49 (P : Params) : Obj := ⟨(.type "dict"), .none, (.dict ⟨[⟨(PySem.PyData.keyHash P "__name__"), (.str "__name__" 165), (.str "certvalidator._types" 204)⟩, ⟨(PySem.PyData.keyHash P "__doc__"), (.str "__doc__" 166), .none⟩, ⟨(PySem.PyData.keyHash P "__package__"), (.str "__package__" 167), .none⟩, ⟨(PySem.PyData.keyHash P "__loader__"), (.str "__loader__" 168), (.builtin "__main__.__loader__#opaque")⟩, ⟨(PySem.PyData.keyHash P "__spec__"), (.str "__spec__" 169), .none⟩, ⟨(PySem.PyData.keyHash P "__annotations__"), (.str "__annotations__" 170), (.ref 6)⟩, ⟨(PySem.PyData.keyHash P "__builtins__"), (.str "__builtins__" 171), (.ref 4)⟩, ⟨(PySem.PyData.keyHash P "__file__"), (.str "__file__" 173), (.str "/claim/cut.py" 172)⟩, ⟨(PySem.PyData.keyHash P "__cached__"), (.str "__cached__" 174), .none⟩, ⟨(PySem.PyData.keyHash P "_wall"), (.str "_wall" 193), (.ref 21)⟩, ⟨(PySem.PyData.keyHash P "pretty_message"), (.str "pretty_message" 203), (.ref 28)⟩, ⟨(PySem.PyData.keyHash P "type_name"), (.str "type_name" 212), (.ref 35)⟩, ⟨(PySem.PyData.keyHash P "Native"), (.str "Native" 241), (.ref 52)⟩, ⟨(PySem.PyData.keyHash P "Name"), (.str "Name" 288), (.ref 87)⟩]⟩ 14), ⟨[]⟩⟩
def o50 (_ : Params) : Obj := ⟨.none, .none, (.fields ⟨[(.int 1 0), (.int 0 0), (.ref 20), (.int 5 0), (.int 0 0), (.ref 27), (.int 8 0), (.int 0 0), (.ref 34), (.int 10 0), (.int 0 0), (.ref 41), (.int 14 0), (.int 0 0), (.ref 62)]⟩), ⟨[]⟩⟩
def o51 (_ : Params) : Obj := ⟨(.type "tuple"), .none, (.seq ⟨[]⟩ 0), ⟨[]⟩⟩
def o52 (_ : Params) : Obj := ⟨(.type "builtin_function_or_method"), .none, (.fields ⟨[(.builtin "type.__prepare__"), (.type "type")]⟩), ⟨[]⟩⟩
def o53 (P : Params) : Obj := ⟨(.type "dict"), .none, (.dict ⟨[⟨(PySem.PyData.keyHash P "__module__"), (.str "__module__" 249), (.str "certvalidator._types" 204)⟩, ⟨(PySem.PyData.keyHash P "__qualname__"), (.str "__qualname__" 251), (.str "Name" 250)⟩, ⟨(PySem.PyData.keyHash P "__firstlineno__"), (.str "__firstlineno__" 253), (.int 14 252)⟩, ⟨(PySem.PyData.keyHash P "__init__"), (.str "__init__" 261), (.ref 70)⟩, ⟨(PySem.PyData.keyHash P "__eq__"), (.str "__eq__" 269), (.ref 77)⟩, ⟨(PySem.PyData.keyHash P "__ne__"), (.str "__ne__" 277), (.ref 84)⟩, ⟨(PySem.PyData.keyHash P "__static_attributes__"), (.str "__static_attributes__" 280), (.ref 85)⟩]⟩ 7), ⟨[]⟩⟩
def o54 (_ : Params) : Obj := ⟨(.type "tuple"), .none, (.seq ⟨[]⟩ 0), ⟨[]⟩⟩
def o55 (_ : Params) : Obj := ⟨.none, .none, (.fields ⟨[(.int 16 0), (.int 4 0), (.ref 69), (.int 20 0), (.int 4 0), (.ref 76), (.int 23 0), (.int 4 0), (.ref 83)]⟩), ⟨[]⟩⟩
def o56 (_ : Params) : Obj := ⟨(.type "code"), .none, (.fields ⟨[(.str "Name" 244), (.str "Name" 245), (.str "/claim/cut.py" 246), (.int 14 0), (.int 0 0), (.int 0 0), (.int 0 0), (.int 0 0), (.ref 60), (.bool .false), (.int 181 0), (.ref 61), .none, .none, .none, .none, (.int 247 0), (.int 14 0), (.str "/claim/cut.py" 248)]⟩), ⟨[]⟩⟩
def o57 (_ : Params) : Obj := ⟨(.type "frame"), .none, .plain, ⟨[(.some (.ref 62)), (.some (.ref 3)), (.some (.ref 59)), .none, (.some (.str "certvalidator._types" 204)), .none, (.some (.ref 0))]⟩⟩
def o58 (_ : Params) : Obj := ⟨(.type "tuple"), .none, (.seq ⟨[]⟩ 0), ⟨[]⟩⟩
def o59 (_ : Params) : Obj := ⟨.none, .none, (.fields ⟨[]⟩), ⟨[]⟩⟩
def o60 (_ : Params) : Obj := ⟨(.type "tuple"), .none, (.seq ⟨[(.str "self" 257), (.str "text" 258)]⟩ 0), ⟨[]⟩⟩
def o61 (_ : Params) : Obj := ⟨(.type "tuple"), .none, (.seq ⟨[]⟩ 0), ⟨[]⟩⟩
def o62 (_ : Params) : Obj := ⟨.none, .none, .func ⟨"__init__", "Name.__init__", argsOf (sub 6 0), .stmts (bodyOf (sub 6 0)), scopeOf (sub 6 0), 0, [], .none, .none, .none, .none, .none, .none, .none, 0⟩, ⟨[]⟩⟩
def o63 (_ : Params) : Obj := ⟨(.type "code"), .none, (.fields ⟨[(.str "__init__" 254), (.str "Name.__init__" 255), (.str "/claim/cut.py" 256), (.int 16 0), (.int 2 0), (.int 0 0), (.int 0 0), (.int 3 0), (.ref 64), (.bool .true), (.int 181 0), (.ref 65), .none, (.ref 66), (.ref 67), (.ref 68), (.int 259 0), (.int 16 0), (.str "/claim/cut.py" 260)]⟩), ⟨[]⟩⟩
def o64 (_ : Params) : Obj := ⟨(.type "function"), .none, .func ⟨"__init__", "Name.__init__", argsOf (sub 6 0), .stmts (bodyOf (sub 6 0)), scopeOf (sub 6 0), 3, [], .none, .none, .none, (.str "certvalidator._types" 204), .none, (.ref 69), .none, 0⟩, ⟨[]⟩⟩
def o65 (_ : Params) : Obj := ⟨(.type "tuple"), .none, (.seq ⟨[]⟩ 0), ⟨[]⟩⟩
def o66 (_ : Params) : Obj := ⟨.none, .none, (.fields ⟨[]⟩), ⟨[]⟩⟩
def o67 (_ : Params) : Obj := ⟨(.type "tuple"), .none, (.seq ⟨[(.str "self" 265), (.str "other" 266)]⟩ 0), ⟨[]⟩⟩
def o68 (_ : Params) : Obj := ⟨(.type "tuple"), .none, (.seq ⟨[]⟩ 0), ⟨[]⟩⟩
def o69 (_ : Params) : Obj := ⟨.none, .none, .func ⟨"__eq__", "Name.__eq__", argsOf (sub 6 1), .stmts (bodyOf (sub 6 1)), scopeOf (sub 6 1), 0, [], .none, .none, .none, .none, .none, .none, .none, 0⟩, ⟨[]⟩⟩
def o70 (_ : Params) : Obj := ⟨(.type "code"), .none, (.fields ⟨[(.str "__eq__" 262), (.str "Name.__eq__" 263), (.str "/claim/cut.py" 264), (.int 20 0), (.int 2 0), (.int 0 0), (.int 0 0), (.int 3 0), (.ref 71), (.bool .true), (.int 181 0), (.ref 72), .none, (.ref 73), (.ref 74), (.ref 75), (.int 267 0), (.int 20 0), (.str "/claim/cut.py" 268)]⟩), ⟨[]⟩⟩
def o71 (_ : Params) : Obj := ⟨(.type "function"), .none, .func ⟨"__eq__", "Name.__eq__", argsOf (sub 6 1), .stmts (bodyOf (sub 6 1)), scopeOf (sub 6 1), 3, [], .none, .none, .none, (.str "certvalidator._types" 204), .none, (.ref 76), .none, 0⟩, ⟨[]⟩⟩
def o72 (_ : Params) : Obj := ⟨(.type "tuple"), .none, (.seq ⟨[]⟩ 0), ⟨[]⟩⟩
def o73 (_ : Params) : Obj := ⟨.none, .none, (.fields ⟨[]⟩), ⟨[]⟩⟩
def o74 (_ : Params) : Obj := ⟨(.type "tuple"), .none, (.seq ⟨[(.str "self" 273), (.str "other" 274)]⟩ 0), ⟨[]⟩⟩
def o75 (_ : Params) : Obj := ⟨(.type "tuple"), .none, (.seq ⟨[]⟩ 0), ⟨[]⟩⟩
def o76 (_ : Params) : Obj := ⟨.none, .none, .func ⟨"__ne__", "Name.__ne__", argsOf (sub 6 2), .stmts (bodyOf (sub 6 2)), scopeOf (sub 6 2), 0, [], .none, .none, .none, .none, .none, .none, .none, 0⟩, ⟨[]⟩⟩
def o77 (_ : Params) : Obj := ⟨(.type "code"), .none, (.fields ⟨[(.str "__ne__" 270), (.str "Name.__ne__" 271), (.str "/claim/cut.py" 272), (.int 23 0), (.int 2 0), (.int 0 0), (.int 0 0), (.int 3 0), (.ref 78), (.bool .true), (.int 181 0), (.ref 79), .none, (.ref 80), (.ref 81), (.ref 82), (.int 275 0), (.int 23 0), (.str "/claim/cut.py" 276)]⟩), ⟨[]⟩⟩
def o78 (_ : Params) : Obj := ⟨(.type "function"), .none, .func ⟨"__ne__", "Name.__ne__", argsOf (sub 6 2), .stmts (bodyOf (sub 6 2)), scopeOf (sub 6 2), 3, [], .none, .none, .none, (.str "certvalidator._types" 204), .none, (.ref 83), .none, 0⟩, ⟨[]⟩⟩
def o79 (_ : Params) : Obj := ⟨(.type "tuple"), .none, (.seq ⟨[(.str "hashable" 278), (.str "human_friendly" 279)]⟩ 0), ⟨[]⟩⟩
def o80 (P : Params) : Obj := ⟨(.type "dict"), .none, (.dict ⟨[⟨(PySem.PyData.keyHash P "__module__"), (.str "__module__" 249), (.str "certvalidator._types" 204)⟩, ⟨(PySem.PyData.keyHash P "__firstlineno__"), (.str "__firstlineno__" 253), (.int 14 252)⟩, ⟨(PySem.PyData.keyHash P "__init__"), (.str "__init__" 261), (.ref 70)⟩, ⟨(PySem.PyData.keyHash P "__eq__"), (.str "__eq__" 269), (.ref 77)⟩, ⟨(PySem.PyData.keyHash P "__ne__"), (.str "__ne__" 277), (.ref 84)⟩, ⟨(PySem.PyData.keyHash P "__static_attributes__"), (.str "__static_attributes__" 280), (.ref 85)⟩, ⟨(PySem.PyData.keyHash P "__dict__"), (.str "__dict__" 282), (.ref 88)⟩, ⟨(PySem.PyData.keyHash P "__weakref__"), (.str "__weakref__" 284), (.ref 89)⟩, ⟨(PySem.PyData.keyHash P "__doc__"), (.str "__doc__" 285), .none⟩, ⟨(PySem.PyData.keyHash P "__hash__"), (.str "__hash__" 286), .none⟩]⟩ 5), ⟨[]⟩⟩
def o81 (_ : Params) : Obj := ⟨(.type "type"), .none, (.cls ⟨"Name", [(.type "object")], [(.ref 87), (.type "object")], 86, "Name", .true, [], [], .false, .none, .false⟩), ⟨[.none, .none, (.some (.str "Name" 242)), (.some (.str "Name" 250)), (.some (.builtin "object.__new__")), (.some (.bool .true))]⟩⟩
def o82 (_ : Params) : Obj := ⟨(.type "getset_descriptor"), .none, (.fields ⟨[(.str "__dict__" 281), (.ref 87), (.builtin "function.__dict__"), (.builtin "function.__dict__#set")]⟩), ⟨[]⟩⟩
def o83 (_ : Params) : Obj := ⟨(.type "getset_descriptor"), .none, (.fields ⟨[(.str "__weakref__" 283), (.ref 87), (.builtin "ExceptionGroup.__weakref__"), .none]⟩), ⟨[]⟩⟩
def o84 (_ : Params) : Obj := ⟨(.type "super"), .none, (.fields ⟨[(.ref 87), (.ref 87), (.ref 87)]⟩), ⟨[]⟩⟩
def o85 (_ : Params) : Obj := ⟨(.type "builtin_function_or_method"), .none, (.fields ⟨[(.builtin "object.__init_subclass__"), (.ref 87)]⟩), ⟨[]⟩⟩
def tree2 (P : Params) : BT := (.node (boot_o_0 P) (.node (boot_o_1 P) (.node (o49 P) (.node (boot_o_7 P) (.node (o7 P) (.node (o23 P) (.node (o57 P) .nil .nil) .nil) (.node (o39 P) (.node (o73 P) .nil .nil) .nil)) (.node (o15 P) (.node (o31 P) (.node (o65 P) .nil .nil) .nil) (.node (o47 P) (.node (o81 P) .nil .nil) .nil))) (.node (o1 P) (.node (o11 P) (.node (o27 P) (.node (o61 P) .nil .nil) .nil) (.node (o43 P) (.node (o77 P) .nil .nil) .nil)) (.node (o19 P) (.node (o35 P) (.node (o69 P) .nil .nil) .nil) (.node (o53 P) (.node (o85 P) .nil .nil) .nil)))) (.node (boot_o_5 P) (.node (boot_o_9 P) (.node (o9 P) (.node (o25 P) (.node (o59 P) .nil .nil) .nil) (.node (o41 P) (.node (o75 P) .nil .nil) .nil)) (.node (o17 P) (.node (o33 P) (.node (o67 P) .nil .nil) .nil) (.node (o51 P) (.node (o83 P) .nil .nil) .nil))) (.node (o3 P) (.node (o13 P) (.node (o29 P) (.node (o63 P) .nil .nil) .nil) (.node (o45 P) (.node (o79 P) .nil .nil) .nil)) (.node (o21 P) (.node (o37 P) (.node (o71 P) .nil .nil) .nil) (.node (o55 P) .nil .nil))))) (.node (boot_o_2 P) (.node (boot_o_4 P) (.node (boot_o_8 P) (.node (o8 P) (.node (o24 P) (.node (o58 P) .nil .nil) .nil) (.node (o40 P) (.node (o74 P) .nil .nil) .nil)) (.node (o16 P) (.node (o32 P) (.node (o66 P) .nil .nil) .nil) (.node (o48 P) (.node (o82 P) .nil .nil) .nil))) (.node (o50 P) (.node (o12 P) (.node (o28 P) (.node (o62 P) .nil .nil) .nil) (.node (o44 P) (.node (o78 P) .nil .nil) .nil)) (.node (o20 P) (.node (o36 P) (.node (o70 P) .nil .nil) .nil) (.node (o54 P) .nil .nil)))) (.node (boot_o_6 P) (.node (boot_o_10 P) (.node (o10 P) (.node (o26 P) (.node (o60 P) .nil .nil) .nil) (.node (o42 P) (.node (o76 P) .nil .nil) .nil)) (.node (o18 P) (.node (o34 P) (.node (o68 P) .nil .nil) .nil) (.node (o52 P) (.node (o84 P) .nil .nil) .nil))) (.node (o4 P) (.node (o14 P) (.node (o30 P) (.node (o64 P) .nil .nil) .nil) (.node (o46 P) (.node (o80 P) .nil .nil) .nil)) (.node (o22 P) (.node (o38 P) (.node (o72 P) .nil .nil) .nil) (.node (o56 P) .nil .nil))))))
def o86 (P : Params) : Obj := ⟨(.type "dict"), .none, (.dict ⟨[⟨(PySem.PyData.keyHash P "__name__"), (.str "__name__" 165), (.str "certvalidator._types" 204)⟩, ⟨(PySem.PyData.keyHash P "__doc__"), (.str "__doc__" 166), .none⟩, ⟨(PySem.PyData.keyHash P "__package__"), (.str "__package__" 167), .none⟩, ⟨(PySem.PyData.keyHash P "__loader__"), (.str "__loader__" 168), (.builtin "__main__.__loader__#opaque")⟩, ⟨(PySem.PyData.keyHash P "__spec__"), (.str "__spec__" 169), .none⟩, ⟨(PySem.PyData.keyHash P "__annotations__"), (.str "__annotations__" 170), (.ref 6)⟩, ⟨(PySem.PyData.keyHash P "__builtins__"), (.str "__builtins__" 171), (.ref 4)⟩, ⟨(PySem.PyData.keyHash P "__file__"), (.str "__file__" 173), (.str "/claim/cut.py" 172)⟩, ⟨(PySem.PyData.keyHash P "__cached__"), (.str "__cached__" 174), .none⟩, ⟨(PySem.PyData.keyHash P "_wall"), (.str "_wall" 193), (.ref 21)⟩, ⟨(PySem.PyData.keyHash P "pretty_message"), (.str "pretty_message" 203), (.ref 28)⟩, ⟨(PySem.PyData.keyHash P "type_name"), (.str "type_name" 212), (.ref 35)⟩, ⟨(PySem.PyData.keyHash P "Native"), (.str "Native" 241), (.ref 52)⟩, ⟨(PySem.PyData.keyHash P "Name"), (.str "Name" 288), (.ref 87)⟩, ⟨(PySem.PyData.keyHash P "Key"), (.str "Key" 318), (.ref 108)⟩]⟩ 15), ⟨[]⟩⟩
def o87 (_ : Params) : Obj := ⟨.none, .none, (.fields ⟨[(.int 1 0), (.int 0 0), (.ref 20), (.int 5 0), (.int 0 0), (.ref 27), (.int 8 0), (.int 0 0), (.ref 34), (.int 10 0), (.int 0 0), (.ref 41), (.int 14 0), (.int 0 0), (.ref 62), (.int 25 0), (.int 0 0), (.ref 97)]⟩), ⟨[]⟩⟩
def o88 (_ : Params) : Obj := ⟨(.type "tuple"), .none, (.seq ⟨[]⟩ 0), ⟨[]⟩⟩
def o89 (_ : Params) : Obj := ⟨(.type "builtin_function_or_method"), .none, (.fields ⟨[(.builtin "type.__prepare__"), (.type "type")]⟩), ⟨[]⟩⟩
def o90 (P : Params) : Obj := ⟨(.type "dict"), .none, (.dict ⟨[⟨(PySem.PyData.keyHash P "__module__"), (.str "__module__" 296), (.str "certvalidator._types" 204)⟩, ⟨(PySem.PyData.keyHash P "__qualname__"), (.str "__qualname__" 298), (.str "Key" 297)⟩, ⟨(PySem.PyData.keyHash P "__firstlineno__"), (.str "__firstlineno__" 300), (.int 25 299)⟩, ⟨(PySem.PyData.keyHash P "__init__"), (.str "__init__" 308), (.ref 105)⟩, ⟨(PySem.PyData.keyHash P "__static_attributes__"), (.str "__static_attributes__" 311), (.ref 106)⟩]⟩ 5), ⟨[]⟩⟩
def o91 (_ : Params) : Obj := ⟨(.type "tuple"), .none, (.seq ⟨[]⟩ 0), ⟨[]⟩⟩
def o92 (_ : Params) : Obj := ⟨.none, .none, (.fields ⟨[(.int 27 0), (.int 4 0), (.ref 104)]⟩), ⟨[]⟩⟩
def o93 (_ : Params) : Obj := ⟨(.type "code"), .none, (.fields ⟨[(.str "Key" 291), (.str "Key" 292), (.str "/claim/cut.py" 293), (.int 25 0), (.int 0 0), (.int 0 0), (.int 0 0), (.int 0 0), (.ref 95), (.bool .false), (.int 181 0), (.ref 96), .none, .none, .none, .none, (.int 294 0), (.int 25 0), (.str "/claim/cut.py" 295)]⟩), ⟨[]⟩⟩
def o94 (_ : Params) : Obj := ⟨(.type "frame"), .none, .plain, ⟨[(.some (.ref 97)), (.some (.ref 3)), (.some (.ref 94)), .none, (.some (.str "certvalidator._types" 204)), .none, (.some (.ref 0))]⟩⟩
def o95 (_ : Params) : Obj := ⟨(.type "tuple"), .none, (.seq ⟨[]⟩ 0), ⟨[]⟩⟩
def o96 (_ : Params) : Obj := ⟨.none, .none, (.fields ⟨[]⟩), ⟨[]⟩⟩
def o97 (_ : Params) : Obj := ⟨(.type "tuple"), .none, (.seq ⟨[(.str "self" 304), (.str "number" 305)]⟩ 0), ⟨[]⟩⟩
def o98 (_ : Params) : Obj := ⟨(.type "tuple"), .none, (.seq ⟨[]⟩ 0), ⟨[]⟩⟩
def o99 (_ : Params) : Obj := ⟨.none, .none, .func ⟨"__init__", "Key.__init__", argsOf (sub 7 0), .stmts (bodyOf (sub 7 0)), scopeOf (sub 7 0), 0, [], .none, .none, .none, .none, .none, .none, .none, 0⟩, ⟨[]⟩⟩
def o100 (_ : Params) : Obj := ⟨(.type "code"), .none, (.fields ⟨[(.str "__init__" 301), (.str "Key.__init__" 302), (.str "/claim/cut.py" 303), (.int 27 0), (.int 2 0), (.int 0 0), (.int 0 0), (.int 3 0), (.ref 99), (.bool .true), (.int 181 0), (.ref 100), .none, (.ref 101), (.ref 102), (.ref 103), (.int 306 0), (.int 27 0), (.str "/claim/cut.py" 307)]⟩), ⟨[]⟩⟩
def o101 (_ : Params) : Obj := ⟨(.type "function"), .none, .func ⟨"__init__", "Key.__init__", argsOf (sub 7 0), .stmts (bodyOf (sub 7 0)), scopeOf (sub 7 0), 3, [], .none, .none, .none, (.str "certvalidator._types" 204), .none, (.ref 104), .none, 0⟩, ⟨[]⟩⟩
def o102 (_ : Params) : Obj := ⟨(.type "tuple"), .none, (.seq ⟨[(.str "number" 309), (.str "sha1" 310)]⟩ 0), ⟨[]⟩⟩
def o103 (P : Params) : Obj := ⟨(.type "dict"), .none, (.dict ⟨[⟨(PySem.PyData.keyHash P "__module__"), (.str "__module__" 296), (.str "certvalidator._types" 204)⟩, ⟨(PySem.PyData.keyHash P "__firstlineno__"), (.str "__firstlineno__" 300), (.int 25 299)⟩, ⟨(PySem.PyData.keyHash P "__init__"), (.str "__init__" 308), (.ref 105)⟩, ⟨(PySem.PyData.keyHash P "__static_attributes__"), (.str "__static_attributes__" 311), (.ref 106)⟩, ⟨(PySem.PyData.keyHash P "__dict__"), (.str "__dict__" 313), (.ref 109)⟩, ⟨(PySem.PyData.keyHash P "__weakref__"), (.str "__weakref__" 315), (.ref 110)⟩, ⟨(PySem.PyData.keyHash P "__doc__"), (.str "__doc__" 316), .none⟩]⟩ 4), ⟨[]⟩⟩
def o104 (_ : Params) : Obj := ⟨(.type "type"), .none, (.cls ⟨"Key", [(.type "object")], [(.ref 108), (.type "object")], 107, "Key", .true, [], [], .false, .none, .false⟩), ⟨[.none, .none, (.some (.str "Key" 289)), (.some (.str "Key" 297)), (.some (.builtin "object.__new__")), (.some (.bool .true))]⟩⟩
def o105 (_ : Params) : Obj := ⟨(.type "getset_descriptor"), .none, (.fields ⟨[(.str "__dict__" 312), (.ref 108), (.builtin "function.__dict__"), (.builtin "function.__dict__#set")]⟩), ⟨[]⟩⟩
def o106 (_ : Params) : Obj := ⟨(.type "getset_descriptor"), .none, (.fields ⟨[(.str "__weakref__" 314), (.ref 108), (.builtin "ExceptionGroup.__weakref__"), .none]⟩), ⟨[]⟩⟩
def o107 (_ : Params) : Obj := ⟨(.type "super"), .none, (.fields ⟨[(.ref 108), (.ref 108), (.ref 108)]⟩), ⟨[]⟩⟩
def o108 (_ : Params) : Obj := ⟨(.type "builtin_function_or_method"), .none, (.fields ⟨[(.builtin "object.__init_subclass__"), (.ref 108)]⟩), ⟨[]⟩⟩
def tree3 (P : Params) : BT := (.node (boot_o_0 P) (.node (boot_o_1 P) (.node (o86 P) (.node (boot_o_7 P) (.node (o7 P) (.node (o23 P) (.node (o57 P) .nil .nil) (.node (o91 P) .nil .nil)) (.node (o39 P) (.node (o73 P) .nil .nil) (.node (o107 P) .nil .nil))) (.node (o15 P) (.node (o31 P) (.node (o65 P) .nil .nil) (.node (o99 P) .nil .nil)) (.node (o47 P) (.node (o81 P) .nil .nil) .nil))) (.node (o1 P) (.node (o11 P) (.node (o27 P) (.node (o61 P) .nil .nil) (.node (o95 P) .nil .nil)) (.node (o43 P) (.node (o77 P) .nil .nil) .nil)) (.node (o19 P) (.node (o35 P) (.node (o69 P) .nil .nil) (.node (o103 P) .nil .nil)) (.node (o53 P) (.node (o85 P) .nil .nil) .nil)))) (.node (boot_o_5 P) (.node (boot_o_9 P) (.node (o9 P) (.node (o25 P) (.node (o59 P) .nil .nil) (.node (o93 P) .nil .nil)) (.node (o41 P) (.node (o75 P) .nil .nil) .nil)) (.node (o17 P) (.node (o33 P) (.node (o67 P) .nil .nil) (.node (o101 P) .nil .nil)) (.node (o51 P) (.node (o83 P) .nil .nil) .nil))) (.node (o3 P) (.node (o13 P) (.node (o29 P) (.node (o63 P) .nil .nil) (.node (o97 P) .nil .nil)) (.node (o45 P) (.node (o79 P) .nil .nil) .nil)) (.node (o21 P) (.node (o37 P) (.node (o71 P) .nil .nil) (.node (o105 P) .nil .nil)) (.node (o55 P) (.node (o89 P) .nil .nil) .nil))))) (.node (boot_o_2 P) (.node (boot_o_4 P) (.node (boot_o_8 P) (.node (o8 P) (.node (o24 P) (.node (o58 P) .nil .nil) (.node (o92 P) .nil .nil)) (.node (o40 P) (.node (o74 P) .nil .nil) (.node (o108 P) .nil .nil))) (.node (o16 P) (.node (o32 P) (.node (o66 P) .nil .nil) (.node (o100 P) .nil .nil)) (.node (o48 P) (.node (o82 P) .nil .nil) .nil))) (.node (o87 P) (.node (o12 P) (.node (o28 P) (.node (o62 P) .nil .nil) (.node (o96 P) .nil .nil)) (.node (o44 P) (.node (o78 P) .nil .nil) .nil)) (.node (o20 P) (.node (o36 P) (.node (o70 P) .nil .nil) (.node (o104 P) .nil .nil)) (.node (o54 P) (.node (o88 P) .nil .nil) .nil)))) (.node (boot_o_6 P) (.node (boot_o_10 P) (.node (o10 P) (.node (o26 P) (.node (o60 P) .nil .nil) (.node (o94 P) .nil .nil)) (.node (o42 P) (.node (o76 P) .nil .nil) .nil)) (.node (o18 P) (.node (o34 P) (.node (o68 P) .nil .nil) (.node (o102 P) .nil .nil)) (.node (o52 P) (.node (o84 P) .nil .nil) .nil))) (.node (o4 P) (.node (o14 P) (.node (o30 P) (.node (o64 P) .nil .nil) (.node (o98 P) .nil .nil)) (.node (o46 P) (.node (o80 P) .nil .nil) .nil)) (.node (o22 P) (.node (o38 P) (.node (o72 P) .nil .nil) (.node (o106 P) .nil .nil)) (.node (o56 P) (.node (o90 P) .nil .nil) .nil))))))
def o109 (P : Params) : Obj := ⟨(.type "dict"), .none, (.dict ⟨[⟨(PySem.PyData.keyHash P "__name__"), (.str "__name__" 165), (.str "certvalidator._types" 204)⟩, ⟨(PySem.PyData.keyHash P "__doc__"), (.str "__doc__" 166), .none⟩, ⟨(PySem.PyData.keyHash P "__package__"), (.str "__package__" 167), .none⟩, ⟨(PySem.PyData.keyHash P "__loader__"), (.str "__loader__" 168), (.builtin "__main__.__loader__#opaque")⟩, ⟨(PySem.PyData.keyHash P "__spec__"), (.str "__spec__" 169), .none⟩, ⟨(PySem.PyData.keyHash P "__annotations__"), (.str "__annotations__" 170), (.ref 6)⟩, ⟨(PySem.PyData.keyHash P "__builtins__"), (.str "__builtins__" 171), (.ref 4)⟩, ⟨(PySem.PyData.keyHash P "__file__"), (.str "__file__" 173), (.str "/claim/cut.py" 172)⟩, ⟨(PySem.PyData.keyHash P "__cached__"), (.str "__cached__" 174), .none⟩, ⟨(PySem.PyData.keyHash P "_wall"), (.str "_wall" 193), (.ref 21)⟩, ⟨(PySem.PyData.keyHash P "pretty_message"), (.str "pretty_message" 203), (.ref 28)⟩, ⟨(PySem.PyData.keyHash P "type_name"), (.str "type_name" 212), (.ref 35)⟩, ⟨(PySem.PyData.keyHash P "Native"), (.str "Native" 241), (.ref 52)⟩, ⟨(PySem.PyData.keyHash P "Name"), (.str "Name" 288), (.ref 87)⟩, ⟨(PySem.PyData.keyHash P "Key"), (.str "Key" 318), (.ref 108)⟩, ⟨(PySem.PyData.keyHash P "Certificate"), (.str "Certificate" 406), (.ref 160)⟩]⟩ 16), ⟨[]⟩⟩
def o110 (_ : Params) : Obj := ⟨.none, .none, (.fields ⟨[(.int 1 0), (.int 0 0), (.ref 20), (.int 5 0), (.int 0 0), (.ref 27), (.int 8 0), (.int 0 0), (.ref 34), (.int 10 0), (.int 0 0), (.ref 41), (.int 14 0), (.int 0 0), (.ref 62), (.int 25 0), (.int 0 0), (.ref 97), (.int 30 0), (.int 0 0), (.ref 118)]⟩), ⟨[]⟩⟩
def o111 (_ : Params) : Obj := ⟨(.type "tuple"), .none, (.seq ⟨[]⟩ 0), ⟨[]⟩⟩
def o112 (_ : Params) : Obj := ⟨(.type "builtin_function_or_method"), .none, (.fields ⟨[(.builtin "type.__prepare__"), (.type "type")]⟩), ⟨[]⟩⟩
def o113 (P : Params) : Obj := ⟨(.type "dict"), .none, (.dict ⟨[⟨(PySem.PyData.keyHash P "__module__"), (.str "__module__" 326), (.str "certvalidator._types" 204)⟩, ⟨(PySem.PyData.keyHash P "__qualname__"), (.str "__qualname__" 328), (.str "Certificate" 327)⟩, ⟨(PySem.PyData.keyHash P "__firstlineno__"), (.str "__firstlineno__" 330), (.int 30 329)⟩, ⟨(PySem.PyData.keyHash P "__init__"), (.str "__init__" 342), (.ref 126)⟩, ⟨(PySem.PyData.keyHash P "issuer_serial"), (.str "issuer_serial" 350), (.ref 134)⟩, ⟨(PySem.PyData.keyHash P "self_issued"), (.str "self_issued" 358), (.ref 142)⟩, ⟨(PySem.PyData.keyHash P "self_signed"), (.str "self_signed" 366), (.ref 150)⟩, ⟨(PySem.PyData.keyHash P "__getitem__"), (.str "__getitem__" 374), (.ref 157)⟩, ⟨(PySem.PyData.keyHash P "__static_attributes__"), (.str "__static_attributes__" 399), (.ref 158)⟩]⟩ 9), ⟨[]⟩⟩
def o114 (_ : Params) : Obj := ⟨(.type "tuple"), .none, (.seq ⟨[]⟩ 0), ⟨[]⟩⟩
def o115 (_ : Params) : Obj := ⟨.none, .none, (.fields ⟨[(.int 32 0), (.int 4 0), (.ref 125), (.int 59 0), (.int 4 0), (.ref 132), (.int 63 0), (.int 4 0), (.ref 140), (.int 67 0), (.int 4 0), (.ref 148), (.int 70 0), (.int 4 0), (.ref 156)]⟩), ⟨[]⟩⟩
def o116 (_ : Params) : Obj := ⟨(.type "code"), .none, (.fields ⟨[(.str "Certificate" 321), (.str "Certificate" 322), (.str "/claim/cut.py" 323), (.int 30 0), (.int 0 0), (.int 0 0), (.int 0 0), (.int 0 0), (.ref 116), (.bool .false), (.int 181 0), (.ref 117), .none, .none, .none, .none, (.int 324 0), (.int 30 0), (.str "/claim/cut.py" 325)]⟩), ⟨[]⟩⟩
def o117 (_ : Params) : Obj := ⟨(.type "frame"), .none, .plain, ⟨[(.some (.ref 118)), (.some (.ref 3)), (.some (.ref 115)), .none, (.some (.str "certvalidator._types" 204)), .none, (.some (.ref 0))]⟩⟩
def o118 (_ : Params) : Obj := ⟨(.type "tuple"), .none, (.seq ⟨[]⟩ 0), ⟨[]⟩⟩
def o119 (_ : Params) : Obj := ⟨.none, .none, (.fields ⟨[]⟩), ⟨[]⟩⟩
def o120 (_ : Params) : Obj := ⟨(.type "tuple"), .none, (.seq ⟨[(.str "self" 334), (.str "number" 335), (.str "subject" 336), (.str "issuer" 337), (.str "public_key" 338), (.str "signer" 339)]⟩ 0), ⟨[]⟩⟩
def o121 (_ : Params) : Obj := ⟨(.type "tuple"), .none, (.seq ⟨[]⟩ 0), ⟨[]⟩⟩
def o122 (_ : Params) : Obj := ⟨.none, .none, .func ⟨"__init__", "Certificate.__init__", argsOf (sub 8 0), .stmts (bodyOf (sub 8 0)), scopeOf (sub 8 0), 0, [], .none, .none, .none, .none, .none, .none, .none, 0⟩, ⟨[]⟩⟩
def o123 (_ : Params) : Obj := ⟨(.type "code"), .none, (.fields ⟨[(.str "__init__" 331), (.str "Certificate.__init__" 332), (.str "/claim/cut.py" 333), (.int 32 0), (.int 6 0), (.int 0 0), (.int 0 0), (.int 3 0), (.ref 120), (.bool .true), (.int 181 0), (.ref 121), .none, (.ref 122), (.ref 123), (.ref 124), (.int 340 0), (.int 32 0), (.str "/claim/cut.py" 341)]⟩), ⟨[]⟩⟩
def o124 (_ : Params) : Obj := ⟨(.type "function"), .none, .func ⟨"__init__", "Certificate.__init__", argsOf (sub 8 0), .stmts (bodyOf (sub 8 0)), scopeOf (sub 8 0), 3, [], .none, .none, .none, (.str "certvalidator._types" 204), .none, (.ref 125), .none, 0⟩, ⟨[]⟩⟩
def o125 (_ : Params) : Obj := ⟨(.type "tuple"), .none, (.seq ⟨[]⟩ 0), ⟨[]⟩⟩
def o126 (_ : Params) : Obj := ⟨.none, .none, (.fields ⟨[]⟩), ⟨[]⟩⟩
def o127 (_ : Params) : Obj := ⟨(.type "tuple"), .none, (.seq ⟨[(.str "self" 346)]⟩ 0), ⟨[]⟩⟩
def o128 (_ : Params) : Obj := ⟨(.type "tuple"), .none, (.seq ⟨[]⟩ 0), ⟨[]⟩⟩
def o129 (_ : Params) : Obj := ⟨.none, .none, .func ⟨"issuer_serial", "Certificate.issuer_serial", argsOf (sub 8 1), .stmts (bodyOf (sub 8 1)), scopeOf (sub 8 1), 0, [], .none, .none, .none, .none, .none, .none, .none, 0⟩, ⟨[]⟩⟩
def o130 (_ : Params) : Obj := ⟨(.type "code"), .none, (.fields ⟨[(.str "issuer_serial" 343), (.str "Certificate.issuer_serial" 344), (.str "/claim/cut.py" 345), (.int 58 0), (.int 1 0), (.int 0 0), (.int 0 0), (.int 3 0), (.ref 127), (.bool .true), (.int 181 0), (.ref 128), .none, (.ref 129), (.ref 130), (.ref 131), (.int 347 0), (.int 58 0), (.str "/claim/cut.py" 348)]⟩), ⟨[]⟩⟩
def o131 (_ : Params) : Obj := ⟨(.type "function"), .none, .func ⟨"issuer_serial", "Certificate.issuer_serial", argsOf (sub 8 1), .stmts (bodyOf (sub 8 1)), scopeOf (sub 8 1), 3, [], .none, .none, .none, (.str "certvalidator._types" 204), .none, (.ref 132), .none, 0⟩, ⟨[]⟩⟩
def o132 (_ : Params) : Obj := ⟨(.type "property"), .none, (.fields ⟨[(.ref 133), .none, .none, .none, (.str "issuer_serial" 350), (.bool .false)]⟩), ⟨[]⟩⟩
def o133 (_ : Params) : Obj := ⟨(.type "tuple"), .none, (.seq ⟨[]⟩ 0), ⟨[]⟩⟩
def o134 (_ : Params) : Obj := ⟨.none, .none, (.fields ⟨[]⟩), ⟨[]⟩⟩
def o135 (_ : Params) : Obj := ⟨(.type "tuple"), .none, (.seq ⟨[(.str "self" 354)]⟩ 0), ⟨[]⟩⟩
def o136 (_ : Params) : Obj := ⟨(.type "tuple"), .none, (.seq ⟨[]⟩ 0), ⟨[]⟩⟩
def o137 (_ : Params) : Obj := ⟨.none, .none, .func ⟨"self_issued", "Certificate.self_issued", argsOf (sub 8 2), .stmts (bodyOf (sub 8 2)), scopeOf (sub 8 2), 0, [], .none, .none, .none, .none, .none, .none, .none, 0⟩, ⟨[]⟩⟩
def o138 (_ : Params) : Obj := ⟨(.type "code"), .none, (.fields ⟨[(.str "self_issued" 351), (.str "Certificate.self_issued" 352), (.str "/claim/cut.py" 353), (.int 62 0), (.int 1 0), (.int 0 0), (.int 0 0), (.int 3 0), (.ref 135), (.bool .true), (.int 181 0), (.ref 136), .none, (.ref 137), (.ref 138), (.ref 139), (.int 355 0), (.int 62 0), (.str "/claim/cut.py" 356)]⟩), ⟨[]⟩⟩
def o139 (_ : Params) : Obj := ⟨(.type "function"), .none, .func ⟨"self_issued", "Certificate.self_issued", argsOf (sub 8 2), .stmts (bodyOf (sub 8 2)), scopeOf (sub 8 2), 3, [], .none, .none, .none, (.str "certvalidator._types" 204), .none, (.ref 140), .none, 0⟩, ⟨[]⟩⟩
def o140 (_ : Params) : Obj := ⟨(.type "property"), .none, (.fields ⟨[(.ref 141), .none, .none, .none, (.str "self_issued" 358), (.bool .false)]⟩), ⟨[]⟩⟩
def o141 (_ : Params) : Obj := ⟨(.type "tuple"), .none, (.seq ⟨[]⟩ 0), ⟨[]⟩⟩
def o142 (_ : Params) : Obj := ⟨.none, .none, (.fields ⟨[]⟩), ⟨[]⟩⟩
def o143 (_ : Params) : Obj := ⟨(.type "tuple"), .none, (.seq ⟨[(.str "self" 362)]⟩ 0), ⟨[]⟩⟩
def o144 (_ : Params) : Obj := ⟨(.type "tuple"), .none, (.seq ⟨[]⟩ 0), ⟨[]⟩⟩
def o145 (_ : Params) : Obj := ⟨.none, .none, .func ⟨"self_signed", "Certificate.self_signed", argsOf (sub 8 3), .stmts (bodyOf (sub 8 3)), scopeOf (sub 8 3), 0, [], .none, .none, .none, .none, .none, .none, .none, 0⟩, ⟨[]⟩⟩
def o146 (_ : Params) : Obj := ⟨(.type "code"), .none, (.fields ⟨[(.str "self_signed" 359), (.str "Certificate.self_signed" 360), (.str "/claim/cut.py" 361), (.int 66 0), (.int 1 0), (.int 0 0), (.int 0 0), (.int 3 0), (.ref 143), (.bool .true), (.int 181 0), (.ref 144), .none, (.ref 145), (.ref 146), (.ref 147), (.int 363 0), (.int 66 0), (.str "/claim/cut.py" 364)]⟩), ⟨[]⟩⟩
def o147 (_ : Params) : Obj := ⟨(.type "function"), .none, .func ⟨"self_signed", "Certificate.self_signed", argsOf (sub 8 3), .stmts (bodyOf (sub 8 3)), scopeOf (sub 8 3), 3, [], .none, .none, .none, (.str "certvalidator._types" 204), .none, (.ref 148), .none, 0⟩, ⟨[]⟩⟩
def o148 (_ : Params) : Obj := ⟨(.type "property"), .none, (.fields ⟨[(.ref 149), .none, .none, .none, (.str "self_signed" 366), (.bool .false)]⟩), ⟨[]⟩⟩
def o149 (_ : Params) : Obj := ⟨(.type "tuple"), .none, (.seq ⟨[]⟩ 0), ⟨[]⟩⟩
def o150 (_ : Params) : Obj := ⟨.none, .none, (.fields ⟨[]⟩), ⟨[]⟩⟩
def o151 (_ : Params) : Obj := ⟨(.type "tuple"), .none, (.seq ⟨[(.str "self" 370), (.str "key" 371)]⟩ 0), ⟨[]⟩⟩
def o152 (_ : Params) : Obj := ⟨(.type "tuple"), .none, (.seq ⟨[]⟩ 0), ⟨[]⟩⟩
def o153 (_ : Params) : Obj := ⟨.none, .none, .func ⟨"__getitem__", "Certificate.__getitem__", argsOf (sub 8 4), .stmts (bodyOf (sub 8 4)), scopeOf (sub 8 4), 0, [], .none, .none, .none, .none, .none, .none, .none, 0⟩, ⟨[]⟩⟩
def o154 (_ : Params) : Obj := ⟨(.type "code"), .none, (.fields ⟨[(.str "__getitem__" 367), (.str "Certificate.__getitem__" 368), (.str "/claim/cut.py" 369), (.int 70 0), (.int 2 0), (.int 0 0), (.int 0 0), (.int 3 0), (.ref 151), (.bool .true), (.int 181 0), (.ref 152), .none, (.ref 153), (.ref 154), (.ref 155), (.int 372 0), (.int 70 0), (.str "/claim/cut.py" 373)]⟩), ⟨[]⟩⟩
def o155 (_ : Params) : Obj := ⟨(.type "function"), .none, .func ⟨"__getitem__", "Certificate.__getitem__", argsOf (sub 8 4), .stmts (bodyOf (sub 8 4)), scopeOf (sub 8 4), 3, [], .none, .none, .none, (.str "certvalidator._types" 204), .none, (.ref 156), .none, 0⟩, ⟨[]⟩⟩
def o156 (_ : Params) : Obj := ⟨(.type "tuple"), .none, (.seq ⟨[(.str "authority_issuer_serial" 375), (.str "authority_key_identifier" 376), (.str "ca" 377), (.str "certificate_policies_value" 378), (.str "critical_extensions" 379), (.str "extended_key_usage_value" 380), (.str "hash_algo" 381), (.str "inhibit_any_policy_value" 382), (.str "issuer" 383), (.str "key_identifier" 384), (.str "key_usage_value" 385), (.str "max_path_length" 386), (.str "not_after" 387), (.str "not_before" 388), (.str "policy_constraints_value" 389), (.str "policy_mappings_value" 390), (.str "public_key" 391), (.str "serial_number" 392), (.str "sha1" 393), (.str "sha256" 394), (.str "signature" 395), (.str "signature_algo" 396), (.str "signer" 397), (.str "subject" 398)]⟩ 0), ⟨[]⟩⟩
def o157 (P : Params) : Obj := ⟨(.type "dict"), .none, (.dict ⟨[⟨(PySem.PyData.keyHash P "__module__"), (.str "__module__" 326), (.str "certvalidator._types" 204)⟩, ⟨(PySem.PyData.keyHash P "__firstlineno__"), (.str "__firstlineno__" 330), (.int 30 329)⟩, ⟨(PySem.PyData.keyHash P "__init__"), (.str "__init__" 342), (.ref 126)⟩, ⟨(PySem.PyData.keyHash P "issuer_serial"), (.str "issuer_serial" 350), (.ref 134)⟩, ⟨(PySem.PyData.keyHash P "self_issued"), (.str "self_issued" 358), (.ref 142)⟩, ⟨(PySem.PyData.keyHash P "self_signed"), (.str "self_signed" 366), (.ref 150)⟩, ⟨(PySem.PyData.keyHash P "__getitem__"), (.str "__getitem__" 374), (.ref 157)⟩, ⟨(PySem.PyData.keyHash P "__static_attributes__"), (.str "__static_attributes__" 399), (.ref 158)⟩, ⟨(PySem.PyData.keyHash P "__dict__"), (.str "__dict__" 401), (.ref 161)⟩, ⟨(PySem.PyData.keyHash P "__weakref__"), (.str "__weakref__" 403), (.ref 162)⟩, ⟨(PySem.PyData.keyHash P "__doc__"), (.str "__doc__" 404), .none⟩]⟩ 4), ⟨[]⟩⟩
def o158 (_ : Params) : Obj := ⟨(.type "type"), .none, (.cls ⟨"Certificate", [(.type "object")], [(.ref 160), (.type "object")], 159, "Certificate", .true, [], [], .false, .none, .false⟩), ⟨[.none, .none, (.some (.str "Certificate" 319)), (.some (.str "Certificate" 327)), (.some (.builtin "object.__new__")), (.some (.bool .true))]⟩⟩
def o159 (_ : Params) : Obj := ⟨(.type "getset_descriptor"), .none, (.fields ⟨[(.str "__dict__" 400), (.ref 160), (.builtin "function.__dict__"), (.builtin "function.__dict__#set")]⟩), ⟨[]⟩⟩
def o160 (_ : Params) : Obj := ⟨(.type "getset_descriptor"), .none, (.fields ⟨[(.str "__weakref__" 402), (.ref 160), (.builtin "ExceptionGroup.__weakref__"), .none]⟩), ⟨[]⟩⟩
def o161 (_ : Params) : Obj := ⟨(.type "super"), .none, (.fields ⟨[(.ref 160), (.ref 160), (.ref 160)]⟩), ⟨[]⟩⟩
def o162 (_ : Params) : Obj := ⟨(.type "builtin_function_or_method"), .none, (.fields ⟨[(.builtin "object.__init_subclass__"), (.ref 160)]⟩), ⟨[]⟩⟩
def tree4 (P : Params) : BT := (.node (boot_o_0 P) (.node (boot_o_1 P) (.node (o109 P) (.node (boot_o_7 P) (.node (o7 P) (.node (o23 P) (.node (o57 P) (.node (o125 P) .nil .nil) .nil) (.node (o91 P) (.node (o157 P) .nil .nil) .nil)) (.node (o39 P) (.node (o73 P) (.node (o141 P) .nil .nil) .nil) (.node (o107 P) .nil .nil))) (.node (o15 P) (.node (o31 P) (.node (o65 P) (.node (o133 P) .nil .nil) .nil) (.node (o99 P) .nil .nil)) (.node (o47 P) (.node (o81 P) (.node (o149 P) .nil .nil) .nil) (.node (o117 P) .nil .nil)))) (.node (o1 P) (.node (o11 P) (.node (o27 P) (.node (o61 P) (.node (o129 P) .nil .nil) .nil) (.node (o95 P) (.node (o161 P) .nil .nil) .nil)) (.node (o43 P) (.node (o77 P) (.node (o145 P) .nil .nil) .nil) (.node (o113 P) .nil .nil))) (.node (o19 P) (.node (o35 P) (.node (o69 P) (.node (o137 P) .nil .nil) .nil) (.node (o103 P) .nil .nil)) (.node (o53 P) (.node (o85 P) (.node (o153 P) .nil .nil) .nil) (.node (o121 P) .nil .nil))))) (.node (boot_o_5 P) (.node (boot_o_9 P) (.node (o9 P) (.node (o25 P) (.node (o59 P) (.node (o127 P) .nil .nil) .nil) (.node (o93 P) (.node (o159 P) .nil .nil) .nil)) (.node (o41 P) (.node (o75 P) (.node (o143 P) .nil .nil) .nil) (.node (o111 P) .nil .nil))) (.node (o17 P) (.node (o33 P) (.node (o67 P) (.node (o135 P) .nil .nil) .nil) (.node (o101 P) .nil .nil)) (.node (o51 P) (.node (o83 P) (.node (o151 P) .nil .nil) .nil) (.node (o119 P) .nil .nil)))) (.node (o3 P) (.node (o13 P) (.node (o29 P) (.node (o63 P) (.node (o131 P) .nil .nil) .nil) (.node (o97 P) .nil .nil)) (.node (o45 P) (.node (o79 P) (.node (o147 P) .nil .nil) .nil) (.node (o115 P) .nil .nil))) (.node (o21 P) (.node (o37 P) (.node (o71 P) (.node (o139 P) .nil .nil) .nil) (.node (o105 P) .nil .nil)) (.node (o55 P) (.node (o89 P) (.node (o155 P) .nil .nil) .nil) (.node (o123 P) .nil .nil)))))) (.node (boot_o_2 P) (.node (boot_o_4 P) (.node (boot_o_8 P) (.node (o8 P) (.node (o24 P) (.node (o58 P) (.node (o126 P) .nil .nil) .nil) (.node (o92 P) (.node (o158 P) .nil .nil) .nil)) (.node (o40 P) (.node (o74 P) (.node (o142 P) .nil .nil) .nil) (.node (o108 P) .nil .nil))) (.node (o16 P) (.node (o32 P) (.node (o66 P) (.node (o134 P) .nil .nil) .nil) (.node (o100 P) .nil .nil)) (.node (o48 P) (.node (o82 P) (.node (o150 P) .nil .nil) .nil) (.node (o118 P) .nil .nil)))) (.node (o110 P) (.node (o12 P) (.node (o28 P) (.node (o62 P) (.node (o130 P) .nil .nil) .nil) (.node (o96 P) (.node (o162 P) .nil .nil) .nil)) (.node (o44 P) (.node (o78 P) (.node (o146 P) .nil .nil) .nil) (.node (o114 P) .nil .nil))) (.node (o20 P) (.node (o36 P) (.node (o70 P) (.node (o138 P) .nil .nil) .nil) (.node (o104 P) .nil .nil)) (.node (o54 P) (.node (o88 P) (.node (o154 P) .nil .nil) .nil) (.node (o122 P) .nil .nil))))) (.node (boot_o_6 P) (.node (boot_o_10 P) (.node (o10 P) (.node (o26 P) (.node (o60 P) (.node (o128 P) .nil .nil) .nil) (.node (o94 P) (.node (o160 P) .nil .nil) .nil)) (.node (o42 P) (.node (o76 P) (.node (o144 P) .nil .nil) .nil) (.node (o112 P) .nil .nil))) (.node (o18 P) (.node (o34 P) (.node (o68 P) (.node (o136 P) .nil .nil) .nil) (.node (o102 P) .nil .nil)) (.node (o52 P) (.node (o84 P) (.node (o152 P) .nil .nil) .nil) (.node (o120 P) .nil .nil)))) (.node (o4 P) (.node (o14 P) (.node (o30 P) (.node (o64 P) (.node (o132 P) .nil .nil) .nil) (.node (o98 P) .nil .nil)) (.node (o46 P) (.node (o80 P) (.node (o148 P) .nil .nil) .nil) (.node (o116 P) .nil .nil))) (.node (o22 P) (.node (o38 P) (.node (o72 P) (.node (o140 P) .nil .nil) .nil) (.node (o106 P) .nil .nil)) (.node (o56 P) (.node (o90 P) (.node (o156 P) .nil .nil) .nil) (.node (o124 P) .nil .nil)))))))
def o163 (P : Params) : Obj := ⟨(.type "dict"), .none, (.dict ⟨[⟨(PySem.PyData.keyHash P "__name__"), (.str "__name__" 165), (.str "certvalidator.registry" 407)⟩, ⟨(PySem.PyData.keyHash P "__doc__"), (.str "__doc__" 166), .none⟩, ⟨(PySem.PyData.keyHash P "__package__"), (.str "__package__" 167), .none⟩, ⟨(PySem.PyData.keyHash P "__loader__"), (.str "__loader__" 168), (.builtin "__main__.__loader__#opaque")⟩, ⟨(PySem.PyData.keyHash P "__spec__"), (.str "__spec__" 169), .none⟩, ⟨(PySem.PyData.keyHash P "__annotations__"), (.str "__annotations__" 170), (.ref 6)⟩, ⟨(PySem.PyData.keyHash P "__builtins__"), (.str "__builtins__" 171), (.ref 4)⟩, ⟨(PySem.PyData.keyHash P "__file__"), (.str "__file__" 173), (.str "/claim/cut.py" 172)⟩, ⟨(PySem.PyData.keyHash P "__cached__"), (.str "__cached__" 174), .none⟩, ⟨(PySem.PyData.keyHash P "_wall"), (.str "_wall" 193), (.ref 21)⟩, ⟨(PySem.PyData.keyHash P "pretty_message"), (.str "pretty_message" 203), (.ref 28)⟩, ⟨(PySem.PyData.keyHash P "type_name"), (.str "type_name" 212), (.ref 35)⟩, ⟨(PySem.PyData.keyHash P "Native"), (.str "Native" 241), (.ref 52)⟩, ⟨(PySem.PyData.keyHash P "Name"), (.str "Name" 288), (.ref 87)⟩, ⟨(PySem.PyData.keyHash P "Key"), (.str "Key" 318), (.ref 108)⟩, ⟨(PySem.PyData.keyHash P "Certificate"), (.str "Certificate" 406), (.ref 160)⟩]⟩ 16), ⟨[]⟩⟩
def tree5 (P : Params) : BT := (.node (boot_o_0 P) (.node (boot_o_1 P) (.node (o163 P) (.node (boot_o_7 P) (.node (o7 P) (.node (o23 P) (.node (o57 P) (.node (o125 P) .nil .nil) .nil) (.node (o91 P) (.node (o157 P) .nil .nil) .nil)) (.node (o39 P) (.node (o73 P) (.node (o141 P) .nil .nil) .nil) (.node (o107 P) .nil .nil))) (.node (o15 P) (.node (o31 P) (.node (o65 P) (.node (o133 P) .nil .nil) .nil) (.node (o99 P) .nil .nil)) (.node (o47 P) (.node (o81 P) (.node (o149 P) .nil .nil) .nil) (.node (o117 P) .nil .nil)))) (.node (o1 P) (.node (o11 P) (.node (o27 P) (.node (o61 P) (.node (o129 P) .nil .nil) .nil) (.node (o95 P) (.node (o161 P) .nil .nil) .nil)) (.node (o43 P) (.node (o77 P) (.node (o145 P) .nil .nil) .nil) (.node (o113 P) .nil .nil))) (.node (o19 P) (.node (o35 P) (.node (o69 P) (.node (o137 P) .nil .nil) .nil) (.node (o103 P) .nil .nil)) (.node (o53 P) (.node (o85 P) (.node (o153 P) .nil .nil) .nil) (.node (o121 P) .nil .nil))))) (.node (boot_o_5 P) (.node (boot_o_9 P) (.node (o9 P) (.node (o25 P) (.node (o59 P) (.node (o127 P) .nil .nil) .nil) (.node (o93 P) (.node (o159 P) .nil .nil) .nil)) (.node (o41 P) (.node (o75 P) (.node (o143 P) .nil .nil) .nil) (.node (o111 P) .nil .nil))) (.node (o17 P) (.node (o33 P) (.node (o67 P) (.node (o135 P) .nil .nil) .nil) (.node (o101 P) .nil .nil)) (.node (o51 P) (.node (o83 P) (.node (o151 P) .nil .nil) .nil) (.node (o119 P) .nil .nil)))) (.node (o3 P) (.node (o13 P) (.node (o29 P) (.node (o63 P) (.node (o131 P) .nil .nil) .nil) (.node (o97 P) .nil .nil)) (.node (o45 P) (.node (o79 P) (.node (o147 P) .nil .nil) .nil) (.node (o115 P) .nil .nil))) (.node (o21 P) (.node (o37 P) (.node (o71 P) (.node (o139 P) .nil .nil) .nil) (.node (o105 P) .nil .nil)) (.node (o55 P) (.node (o89 P) (.node (o155 P) .nil .nil) .nil) (.node (o123 P) .nil .nil)))))) (.node (boot_o_2 P) (.node (boot_o_4 P) (.node (boot_o_8 P) (.node (o8 P) (.node (o24 P) (.node (o58 P) (.node (o126 P) .nil .nil) .nil) (.node (o92 P) (.node (o158 P) .nil .nil) .nil)) (.node (o40 P) (.node (o74 P) (.node (o142 P) .nil .nil) .nil) (.node (o108 P) .nil .nil))) (.node (o16 P) (.node (o32 P) (.node (o66 P) (.node (o134 P) .nil .nil) .nil) (.node (o100 P) .nil .nil)) (.node (o48 P) (.node (o82 P) (.node (o150 P) .nil .nil) .nil) (.node (o118 P) .nil .nil)))) (.node (o110 P) (.node (o12 P) (.node (o28 P) (.node (o62 P) (.node (o130 P) .nil .nil) .nil) (.node (o96 P) (.node (o162 P) .nil .nil) .nil)) (.node (o44 P) (.node (o78 P) (.node (o146 P) .nil .nil) .nil) (.node (o114 P) .nil .nil))) (.node (o20 P) (.node (o36 P) (.node (o70 P) (.node (o138 P) .nil .nil) .nil) (.node (o104 P) .nil .nil)) (.node (o54 P) (.node (o88 P) (.node (o154 P) .nil .nil) .nil) (.node (o122 P) .nil .nil))))) (.node (boot_o_6 P) (.node (boot_o_10 P) (.node (o10 P) (.node (o26 P) (.node (o60 P) (.node (o128 P) .nil .nil) .nil) (.node (o94 P) (.node (o160 P) .nil .nil) .nil)) (.node (o42 P) (.node (o76 P) (.node (o144 P) .nil .nil) .nil) (.node (o112 P) .nil .nil))) (.node (o18 P) (.node (o34 P) (.node (o68 P) (.node (o136 P) .nil .nil) .nil) (.node (o102 P) .nil .nil)) (.node (o52 P) (.node (o84 P) (.node (o152 P) .nil .nil) .nil) (.node (o120 P) .nil .nil)))) (.node (o4 P) (.node (o14 P) (.node (o30 P) (.node (o64 P) (.node (o132 P) .nil .nil) .nil) (.node (o98 P) .nil .nil)) (.node (o46 P) (.node (o80 P) (.node (o148 P) .nil .nil) .nil) (.node (o116 P) .nil .nil))) (.node (o22 P) (.node (o38 P) (.node (o72 P) (.node (o140 P) .nil .nil) .nil) (.node (o106 P) .nil .nil)) (.node (o56 P) (.node (o90 P) (.node (o156 P) .nil .nil) .nil) (.node (o124 P) .nil .nil)))))))
def o164 (P : Params) : Obj := ⟨(.type "dict"), .none, (.dict ⟨[⟨(PySem.PyData.keyHash P "__name__"), (.str "__name__" 165), (.str "certvalidator.registry" 407)⟩, ⟨(PySem.PyData.keyHash P "__doc__"), (.str "__doc__" 166), .none⟩, ⟨(PySem.PyData.keyHash P "__package__"), (.str "__package__" 167), .none⟩, ⟨(PySem.PyData.keyHash P "__loader__"), (.str "__loader__" 168), (.builtin "__main__.__loader__#opaque")⟩, ⟨(PySem.PyData.keyHash P "__spec__"), (.str "__spec__" 169), .none⟩, ⟨(PySem.PyData.keyHash P "__annotations__"), (.str "__annotations__" 170), (.ref 6)⟩, ⟨(PySem.PyData.keyHash P "__builtins__"), (.str "__builtins__" 171), (.ref 4)⟩, ⟨(PySem.PyData.keyHash P "__file__"), (.str "__file__" 173), (.str "/claim/cut.py" 172)⟩, ⟨(PySem.PyData.keyHash P "__cached__"), (.str "__cached__" 174), .none⟩, ⟨(PySem.PyData.keyHash P "_wall"), (.str "_wall" 193), (.ref 21)⟩, ⟨(PySem.PyData.keyHash P "pretty_message"), (.str "pretty_message" 203), (.ref 28)⟩, ⟨(PySem.PyData.keyHash P "type_name"), (.str "type_name" 212), (.ref 35)⟩, ⟨(PySem.PyData.keyHash P "Native"), (.str "Native" 241), (.ref 52)⟩, ⟨(PySem.PyData.keyHash P "Name"), (.str "Name" 288), (.ref 87)⟩, ⟨(PySem.PyData.keyHash P "Key"), (.str "Key" 318), (.ref 108)⟩, ⟨(PySem.PyData.keyHash P "Certificate"), (.str "Certificate" 406), (.ref 160)⟩, ⟨(PySem.PyData.keyHash P "CertificateRegistry"), (.str "CertificateRegistry" 525), (.ref 239)⟩]⟩ 17), ⟨[]⟩⟩
def o165 (_ : Params) : Obj := ⟨.none, .none, (.fields ⟨[(.int 1 0), (.int 0 0), (.ref 20), (.int 5 0), (.int 0 0), (.ref 27), (.int 8 0), (.int 0 0), (.ref 34), (.int 10 0), (.int 0 0), (.ref 41), (.int 14 0), (.int 0 0), (.ref 62), (.int 25 0), (.int 0 0), (.ref 97), (.int 30 0), (.int 0 0), (.ref 118), (.int 75 0), (.int 0 0), (.ref 170)]⟩), ⟨[]⟩⟩
def o166 (_ : Params) : Obj := ⟨(.type "tuple"), .none, (.seq ⟨[]⟩ 0), ⟨[]⟩⟩
def o167 (_ : Params) : Obj := ⟨(.type "builtin_function_or_method"), .none, (.fields ⟨[(.builtin "type.__prepare__"), (.type "type")]⟩), ⟨[]⟩⟩
def o168 (P : Params) : Obj := ⟨(.type "dict"), .none, (.dict ⟨[⟨(PySem.PyData.keyHash P "__module__"), (.str "__module__" 416), (.str "certvalidator.registry" 407)⟩, ⟨(PySem.PyData.keyHash P "__qualname__"), (.str "__qualname__" 418), (.str "CertificateRegistry" 417)⟩, ⟨(PySem.PyData.keyHash P "__firstlineno__"), (.str "__firstlineno__" 420), (.int 75 419)⟩, ⟨(PySem.PyData.keyHash P "_subject_map"), (.str "_subject_map" 421), .none⟩, ⟨(PySem.PyData.keyHash P "_key_identifier_map"), (.str "_key_identifier_map" 422), .none⟩, ⟨(PySem.PyData.keyHash P "_ca_lookup"), (.str "_ca_lookup" 423), .none⟩, ⟨(PySem.PyData.keyHash P "__init__"), (.str "__init__" 436), (.ref 179)⟩, ⟨(PySem.PyData.keyHash P "_validate_unarmor"), (.str "_validate_unarmor" 447), (.ref 186)⟩, ⟨(PySem.PyData.keyHash P "is_ca"), (.str "is_ca" 455), (.ref 193)⟩, ⟨(PySem.PyData.keyHash P "add_other_cert"), (.str "add_other_cert" 466), (.ref 200)⟩, ⟨(PySem.PyData.keyHash P "retrieve_by_key_identifier"), (.str "retrieve_by_key_identifier" 474), (.ref 207)⟩, ⟨(PySem.PyData.keyHash P "retrieve_by_name"), (.str "retrieve_by_name" 488), (.ref 215)⟩, ⟨(PySem.PyData.keyHash P "build_paths"), (.str "build_paths" 496), (.ref 222)⟩, ⟨(PySem.PyData.keyHash P "_walk_issuers"), (.str "_walk_issuers" 506), (.ref 229)⟩, ⟨(PySem.PyData.keyHash P "_possible_issuers"), (.str "_possible_issuers" 514), (.ref 236)⟩, ⟨(PySem.PyData.keyHash P "__static_attributes__"), (.str "__static_attributes__" 518), (.ref 237)⟩]⟩ 16), ⟨[]⟩⟩
def o169 (_ : Params) : Obj := ⟨(.type "tuple"), .none, (.seq ⟨[]⟩ 0), ⟨[]⟩⟩
def o170 (_ : Params) : Obj := ⟨.none, .none, (.fields ⟨[(.int 80 0), (.int 4 0), (.ref 178), (.int 116 0), (.int 4 0), (.ref 185), (.int 125 0), (.int 4 0), (.ref 192), (.int 128 0), (.int 4 0), (.ref 199), (.int 146 0), (.int 4 0), (.ref 206), (.int 151 0), (.int 4 0), (.ref 214), (.int 171 0), (.int 4 0), (.ref 221), (.int 174 0), (.int 4 0), (.ref 228), (.int 177 0), (.int 4 0), (.ref 235)]⟩), ⟨[]⟩⟩
def o171 (_ : Params) : Obj := ⟨(.type "code"), .none, (.fields ⟨[(.str "CertificateRegistry" 411), (.str "CertificateRegistry" 412), (.str "/claim/cut.py" 413), (.int 75 0), (.int 0 0), (.int 0 0), (.int 0 0), (.int 0 0), (.ref 168), (.bool .false), (.int 181 0), (.ref 169), .none, .none, .none, .none, (.int 414 0), (.int 75 0), (.str "/claim/cut.py" 415)]⟩), ⟨[]⟩⟩
def o172 (_ : Params) : Obj := ⟨(.type "frame"), .none, .plain, ⟨[(.some (.ref 170)), (.some (.ref 3)), (.some (.ref 167)), .none, (.some (.str "certvalidator.registry" 407)), .none, (.some (.ref 0))]⟩⟩
def o173 (_ : Params) : Obj := ⟨(.type "tuple"), .none, (.seq ⟨[.none, .none, .none]⟩ 0), ⟨[]⟩⟩
def o174 (_ : Params) : Obj := ⟨(.type "tuple"), .none, (.seq ⟨[]⟩ 0), ⟨[]⟩⟩
def o175 (_ : Params) : Obj := ⟨.none, .none, (.fields ⟨[]⟩), ⟨[]⟩⟩
def o176 (_ : Params) : Obj := ⟨(.type "tuple"), .none, (.seq ⟨[(.str "self" 427), (.str "trust_roots" 428), (.str "extra_trust_roots" 429), (.str "other_certs" 430), (.str "trust_root" 431), (.str "hashable" 432), (.str "other_cert" 433)]⟩ 0), ⟨[]⟩⟩
def o177 (_ : Params) : Obj := ⟨(.type "tuple"), .none, (.seq ⟨[]⟩ 0), ⟨[]⟩⟩
def o178 (_ : Params) : Obj := ⟨.none, .none, .func ⟨"__init__", "CertificateRegistry.__init__", argsOf (sub 10 3), .stmts (bodyOf (sub 10 3)), scopeOf (sub 10 3), 0, [], .none, .none, .none, .none, .none, .none, .none, 0⟩, ⟨[]⟩⟩
def o179 (_ : Params) : Obj := ⟨(.type "code"), .none, (.fields ⟨[(.str "__init__" 424), (.str "CertificateRegistry.__init__" 425), (.str "/claim/cut.py" 426), (.int 80 0), (.int 4 0), (.int 0 0), (.int 0 0), (.int 3 0), (.ref 173), (.bool .true), (.int 181 0), (.ref 174), .none, (.ref 175), (.ref 176), (.ref 177), (.int 434 0), (.int 80 0), (.str "/claim/cut.py" 435)]⟩), ⟨[]⟩⟩
def o180 (_ : Params) : Obj := ⟨(.type "function"), .none, .func ⟨"__init__", "CertificateRegistry.__init__", argsOf (sub 10 3), .stmts (bodyOf (sub 10 3)), scopeOf (sub 10 3), 3, [], (.ref 172), .none, .none, (.str "certvalidator.registry" 407), .none, (.ref 178), .none, 0⟩, ⟨[]⟩⟩
def o181 (_ : Params) : Obj := ⟨(.type "tuple"), .none, (.seq ⟨[]⟩ 0), ⟨[]⟩⟩
def o182 (_ : Params) : Obj := ⟨.none, .none, (.fields ⟨[]⟩), ⟨[]⟩⟩
def o183 (_ : Params) : Obj := ⟨(.type "tuple"), .none, (.seq ⟨[(.str "self" 440), (.str "certs" 441), (.str "var_name" 442), (.str "output" 443), (.str "cert" 444)]⟩ 0), ⟨[]⟩⟩
def o184 (_ : Params) : Obj := ⟨(.type "tuple"), .none, (.seq ⟨[]⟩ 0), ⟨[]⟩⟩
def o185 (_ : Params) : Obj := ⟨.none, .none, .func ⟨"_validate_unarmor", "CertificateRegistry._validate_unarmor", argsOf (sub 10 4), .stmts (bodyOf (sub 10 4)), scopeOf (sub 10 4), 0, [], .none, .none, .none, .none, .none, .none, .none, 0⟩, ⟨[]⟩⟩
def o186 (_ : Params) : Obj := ⟨(.type "code"), .none, (.fields ⟨[(.str "_validate_unarmor" 437), (.str "CertificateRegistry._validate_unarmor" 438), (.str "/claim/cut.py" 439), (.int 116 0), (.int 3 0), (.int 0 0), (.int 0 0), (.int 3 0), (.ref 180), (.bool .true), (.int 181 0), (.ref 181), .none, (.ref 182), (.ref 183), (.ref 184), (.int 445 0), (.int 116 0), (.str "/claim/cut.py" 446)]⟩), ⟨[]⟩⟩
def o187 (_ : Params) : Obj := ⟨(.type "function"), .none, .func ⟨"_validate_unarmor", "CertificateRegistry._validate_unarmor", argsOf (sub 10 4), .stmts (bodyOf (sub 10 4)), scopeOf (sub 10 4), 3, [], .none, .none, .none, (.str "certvalidator.registry" 407), .none, (.ref 185), .none, 0⟩, ⟨[]⟩⟩
def o188 (_ : Params) : Obj := ⟨(.type "tuple"), .none, (.seq ⟨[]⟩ 0), ⟨[]⟩⟩
def o189 (_ : Params) : Obj := ⟨.none, .none, (.fields ⟨[]⟩), ⟨[]⟩⟩
def o190 (_ : Params) : Obj := ⟨(.type "tuple"), .none, (.seq ⟨[(.str "self" 451), (.str "cert" 452)]⟩ 0), ⟨[]⟩⟩
def o191 (_ : Params) : Obj := ⟨(.type "tuple"), .none, (.seq ⟨[]⟩ 0), ⟨[]⟩⟩
def o192 (_ : Params) : Obj := ⟨.none, .none, .func ⟨"is_ca", "CertificateRegistry.is_ca", argsOf (sub 10 5), .stmts (bodyOf (sub 10 5)), scopeOf (sub 10 5), 0, [], .none, .none, .none, .none, .none, .none, .none, 0⟩, ⟨[]⟩⟩
def o193 (_ : Params) : Obj := ⟨(.type "code"), .none, (.fields ⟨[(.str "is_ca" 448), (.str "CertificateRegistry.is_ca" 449), (.str "/claim/cut.py" 450), (.int 125 0), (.int 2 0), (.int 0 0), (.int 0 0), (.int 3 0), (.ref 187), (.bool .true), (.int 181 0), (.ref 188), .none, (.ref 189), (.ref 190), (.ref 191), (.int 453 0), (.int 125 0), (.str "/claim/cut.py" 454)]⟩), ⟨[]⟩⟩
def o194 (_ : Params) : Obj := ⟨(.type "function"), .none, .func ⟨"is_ca", "CertificateRegistry.is_ca", argsOf (sub 10 5), .stmts (bodyOf (sub 10 5)), scopeOf (sub 10 5), 3, [], .none, .none, .none, (.str "certvalidator.registry" 407), .none, (.ref 192), .none, 0⟩, ⟨[]⟩⟩
def o195 (_ : Params) : Obj := ⟨(.type "tuple"), .none, (.seq ⟨[]⟩ 0), ⟨[]⟩⟩
def o196 (_ : Params) : Obj := ⟨.none, .none, (.fields ⟨[]⟩), ⟨[]⟩⟩
def o197 (_ : Params) : Obj := ⟨(.type "tuple"), .none, (.seq ⟨[(.str "self" 459), (.str "cert" 460), (.str "hashable" 461), (.str "serial_number" 462), (.str "existing_cert" 463)]⟩ 0), ⟨[]⟩⟩
def o198 (_ : Params) : Obj := ⟨(.type "tuple"), .none, (.seq ⟨[]⟩ 0), ⟨[]⟩⟩
def o199 (_ : Params) : Obj := ⟨.none, .none, .func ⟨"add_other_cert", "CertificateRegistry.add_other_cert", argsOf (sub 10 6), .stmts (bodyOf (sub 10 6)), scopeOf (sub 10 6), 0, [], .none, .none, .none, .none, .none, .none, .none, 0⟩, ⟨[]⟩⟩
def o200 (_ : Params) : Obj := ⟨(.type "code"), .none, (.fields ⟨[(.str "add_other_cert" 456), (.str "CertificateRegistry.add_other_cert" 457), (.str "/claim/cut.py" 458), (.int 128 0), (.int 2 0), (.int 0 0), (.int 0 0), (.int 3 0), (.ref 194), (.bool .true), (.int 181 0), (.ref 195), .none, (.ref 196), (.ref 197), (.ref 198), (.int 464 0), (.int 128 0), (.str "/claim/cut.py" 465)]⟩), ⟨[]⟩⟩
def o201 (_ : Params) : Obj := ⟨(.type "function"), .none, .func ⟨"add_other_cert", "CertificateRegistry.add_other_cert", argsOf (sub 10 6), .stmts (bodyOf (sub 10 6)), scopeOf (sub 10 6), 3, [], .none, .none, .none, (.str "certvalidator.registry" 407), .none, (.ref 199), .none, 0⟩, ⟨[]⟩⟩
def o202 (_ : Params) : Obj := ⟨(.type "tuple"), .none, (.seq ⟨[]⟩ 0), ⟨[]⟩⟩
def o203 (_ : Params) : Obj := ⟨.none, .none, (.fields ⟨[]⟩), ⟨[]⟩⟩
def o204 (_ : Params) : Obj := ⟨(.type "tuple"), .none, (.seq ⟨[(.str "self" 470), (.str "key_identifier" 471)]⟩ 0), ⟨[]⟩⟩
def o205 (_ : Params) : Obj := ⟨(.type "tuple"), .none, (.seq ⟨[]⟩ 0), ⟨[]⟩⟩
def o206 (_ : Params) : Obj := ⟨.none, .none, .func ⟨"retrieve_by_key_identifier", "CertificateRegistry.retrieve_by_key_identifier", argsOf (sub 10 7), .stmts (bodyOf (sub 10 7)), scopeOf (sub 10 7), 0, [], .none, .none, .none, .none, .none, .none, .none, 0⟩, ⟨[]⟩⟩
def o207 (_ : Params) : Obj := ⟨(.type "code"), .none, (.fields ⟨[(.str "retrieve_by_key_identifier" 467), (.str "CertificateRegistry.retrieve_by_key_identifier" 468), (.str "/claim/cut.py" 469), (.int 146 0), (.int 2 0), (.int 0 0), (.int 0 0), (.int 3 0), (.ref 201), (.bool .true), (.int 181 0), (.ref 202), .none, (.ref 203), (.ref 204), (.ref 205), (.int 472 0), (.int 146 0), (.str "/claim/cut.py" 473)]⟩), ⟨[]⟩⟩
def o208 (_ : Params) : Obj := ⟨(.type "function"), .none, .func ⟨"retrieve_by_key_identifier", "CertificateRegistry.retrieve_by_key_identifier", argsOf (sub 10 7), .stmts (bodyOf (sub 10 7)), scopeOf (sub 10 7), 3, [], .none, .none, .none, (.str "certvalidator.registry" 407), .none, (.ref 206), .none, 0⟩, ⟨[]⟩⟩
def o209 (_ : Params) : Obj := ⟨(.type "tuple"), .none, (.seq ⟨[.none]⟩ 0), ⟨[]⟩⟩
def o210 (_ : Params) : Obj := ⟨(.type "tuple"), .none, (.seq ⟨[]⟩ 0), ⟨[]⟩⟩
def o211 (_ : Params) : Obj := ⟨.none, .none, (.fields ⟨[]⟩), ⟨[]⟩⟩
def o212 (_ : Params) : Obj := ⟨(.type "tuple"), .none, (.seq ⟨[(.str "self" 478), (.str "name" 479), (.str "first_certificate" 480), (.str "hashable" 481), (.str "certs" 482), (.str "first" 483), (.str "output" 484), (.str "cert" 485)]⟩ 0), ⟨[]⟩⟩
def o213 (_ : Params) : Obj := ⟨(.type "tuple"), .none, (.seq ⟨[]⟩ 0), ⟨[]⟩⟩
def o214 (_ : Params) : Obj := ⟨.none, .none, .func ⟨"retrieve_by_name", "CertificateRegistry.retrieve_by_name", argsOf (sub 10 8), .stmts (bodyOf (sub 10 8)), scopeOf (sub 10 8), 0, [], .none, .none, .none, .none, .none, .none, .none, 0⟩, ⟨[]⟩⟩
def o215 (_ : Params) : Obj := ⟨(.type "code"), .none, (.fields ⟨[(.str "retrieve_by_name" 475), (.str "CertificateRegistry.retrieve_by_name" 476), (.str "/claim/cut.py" 477), (.int 151 0), (.int 3 0), (.int 0 0), (.int 0 0), (.int 3 0), (.ref 209), (.bool .true), (.int 181 0), (.ref 210), .none, (.ref 211), (.ref 212), (.ref 213), (.int 486 0), (.int 151 0), (.str "/claim/cut.py" 487)]⟩), ⟨[]⟩⟩
def o216 (_ : Params) : Obj := ⟨(.type "function"), .none, .func ⟨"retrieve_by_name", "CertificateRegistry.retrieve_by_name", argsOf (sub 10 8), .stmts (bodyOf (sub 10 8)), scopeOf (sub 10 8), 3, [], (.ref 208), .none, .none, (.str "certvalidator.registry" 407), .none, (.ref 214), .none, 0⟩, ⟨[]⟩⟩
def o217 (_ : Params) : Obj := ⟨(.type "tuple"), .none, (.seq ⟨[]⟩ 0), ⟨[]⟩⟩
def o218 (_ : Params) : Obj := ⟨.none, .none, (.fields ⟨[]⟩), ⟨[]⟩⟩
def o219 (_ : Params) : Obj := ⟨(.type "tuple"), .none, (.seq ⟨[(.str "self" 492), (.str "end_entity_cert" 493)]⟩ 0), ⟨[]⟩⟩
def o220 (_ : Params) : Obj := ⟨(.type "tuple"), .none, (.seq ⟨[]⟩ 0), ⟨[]⟩⟩
def o221 (_ : Params) : Obj := ⟨.none, .none, .func ⟨"build_paths", "CertificateRegistry.build_paths", argsOf (sub 10 9), .stmts (bodyOf (sub 10 9)), scopeOf (sub 10 9), 0, [], .none, .none, .none, .none, .none, .none, .none, 0⟩, ⟨[]⟩⟩
def o222 (_ : Params) : Obj := ⟨(.type "code"), .none, (.fields ⟨[(.str "build_paths" 489), (.str "CertificateRegistry.build_paths" 490), (.str "/claim/cut.py" 491), (.int 171 0), (.int 2 0), (.int 0 0), (.int 0 0), (.int 3 0), (.ref 216), (.bool .true), (.int 181 0), (.ref 217), .none, (.ref 218), (.ref 219), (.ref 220), (.int 494 0), (.int 171 0), (.str "/claim/cut.py" 495)]⟩), ⟨[]⟩⟩
def o223 (_ : Params) : Obj := ⟨(.type "function"), .none, .func ⟨"build_paths", "CertificateRegistry.build_paths", argsOf (sub 10 9), .stmts (bodyOf (sub 10 9)), scopeOf (sub 10 9), 3, [], .none, .none, .none, (.str "certvalidator.registry" 407), .none, (.ref 221), .none, 0⟩, ⟨[]⟩⟩
def o224 (_ : Params) : Obj := ⟨(.type "tuple"), .none, (.seq ⟨[]⟩ 0), ⟨[]⟩⟩
def o225 (_ : Params) : Obj := ⟨.none, .none, (.fields ⟨[]⟩), ⟨[]⟩⟩
def o226 (_ : Params) : Obj := ⟨(.type "tuple"), .none, (.seq ⟨[(.str "self" 500), (.str "path" 501), (.str "paths" 502), (.str "failed_paths" 503)]⟩ 0), ⟨[]⟩⟩
def o227 (_ : Params) : Obj := ⟨(.type "tuple"), .none, (.seq ⟨[]⟩ 0), ⟨[]⟩⟩
def o228 (_ : Params) : Obj := ⟨.none, .none, .func ⟨"_walk_issuers", "CertificateRegistry._walk_issuers", argsOf (sub 10 10), .stmts (bodyOf (sub 10 10)), scopeOf (sub 10 10), 0, [], .none, .none, .none, .none, .none, .none, .none, 0⟩, ⟨[]⟩⟩
def o229 (_ : Params) : Obj := ⟨(.type "code"), .none, (.fields ⟨[(.str "_walk_issuers" 497), (.str "CertificateRegistry._walk_issuers" 498), (.str "/claim/cut.py" 499), (.int 174 0), (.int 4 0), (.int 0 0), (.int 0 0), (.int 3 0), (.ref 223), (.bool .true), (.int 181 0), (.ref 224), .none, (.ref 225), (.ref 226), (.ref 227), (.int 504 0), (.int 174 0), (.str "/claim/cut.py" 505)]⟩), ⟨[]⟩⟩
def o230 (_ : Params) : Obj := ⟨(.type "function"), .none, .func ⟨"_walk_issuers", "CertificateRegistry._walk_issuers", argsOf (sub 10 10), .stmts (bodyOf (sub 10 10)), scopeOf (sub 10 10), 3, [], .none, .none, .none, (.str "certvalidator.registry" 407), .none, (.ref 228), .none, 0⟩, ⟨[]⟩⟩
def o231 (_ : Params) : Obj := ⟨(.type "tuple"), .none, (.seq ⟨[]⟩ 0), ⟨[]⟩⟩
def o232 (_ : Params) : Obj := ⟨.none, .none, (.fields ⟨[]⟩), ⟨[]⟩⟩
def o233 (_ : Params) : Obj := ⟨(.type "tuple"), .none, (.seq ⟨[(.str "self" 510), (.str "cert" 511)]⟩ 0), ⟨[]⟩⟩
def o234 (_ : Params) : Obj := ⟨(.type "tuple"), .none, (.seq ⟨[]⟩ 0), ⟨[]⟩⟩
def o235 (_ : Params) : Obj := ⟨.none, .none, .func ⟨"_possible_issuers", "CertificateRegistry._possible_issuers", argsOf (sub 10 11), .stmts (bodyOf (sub 10 11)), scopeOf (sub 10 11), 0, [], .none, .none, .none, .none, .none, .none, .none, 0⟩, ⟨[]⟩⟩
def o236 (_ : Params) : Obj := ⟨(.type "code"), .none, (.fields ⟨[(.str "_possible_issuers" 507), (.str "CertificateRegistry._possible_issuers" 508), (.str "/claim/cut.py" 509), (.int 177 0), (.int 2 0), (.int 0 0), (.int 0 0), (.int 3 0), (.ref 230), (.bool .true), (.int 181 0), (.ref 231), .none, (.ref 232), (.ref 233), (.ref 234), (.int 512 0), (.int 177 0), (.str "/claim/cut.py" 513)]⟩), ⟨[]⟩⟩
def o237 (_ : Params) : Obj := ⟨(.type "function"), .none, .func ⟨"_possible_issuers", "CertificateRegistry._possible_issuers", argsOf (sub 10 11), .stmts (bodyOf (sub 10 11)), scopeOf (sub 10 11), 3, [], .none, .none, .none, (.str "certvalidator.registry" 407), .none, (.ref 235), .none, 0⟩, ⟨[]⟩⟩
def o238 (_ : Params) : Obj := ⟨(.type "tuple"), .none, (.seq ⟨[(.str "_ca_lookup" 515), (.str "_key_identifier_map" 516), (.str "_subject_map" 517)]⟩ 0), ⟨[]⟩⟩
def o239 (P : Params) : Obj := ⟨(.type "dict"), .none, (.dict ⟨[⟨(PySem.PyData.keyHash P "__module__"), (.str "__module__" 416), (.str "certvalidator.registry" 407)⟩, ⟨(PySem.PyData.keyHash P "__firstlineno__"), (.str "__firstlineno__" 420), (.int 75 419)⟩, ⟨(PySem.PyData.keyHash P "_subject_map"), (.str "_subject_map" 421), .none⟩, ⟨(PySem.PyData.keyHash P "_key_identifier_map"), (.str "_key_identifier_map" 422), .none⟩, ⟨(PySem.PyData.keyHash P "_ca_lookup"), (.str "_ca_lookup" 423), .none⟩, ⟨(PySem.PyData.keyHash P "__init__"), (.str "__init__" 436), (.ref 179)⟩, ⟨(PySem.PyData.keyHash P "_validate_unarmor"), (.str "_validate_unarmor" 447), (.ref 186)⟩, ⟨(PySem.PyData.keyHash P "is_ca"), (.str "is_ca" 455), (.ref 193)⟩, ⟨(PySem.PyData.keyHash P "add_other_cert"), (.str "add_other_cert" 466), (.ref 200)⟩, ⟨(PySem.PyData.keyHash P "retrieve_by_key_identifier"), (.str "retrieve_by_key_identifier" 474), (.ref 207)⟩, ⟨(PySem.PyData.keyHash P "retrieve_by_name"), (.str "retrieve_by_name" 488), (.ref 215)⟩, ⟨(PySem.PyData.keyHash P "build_paths"), (.str "build_paths" 496), (.ref 222)⟩, ⟨(PySem.PyData.keyHash P "_walk_issuers"), (.str "_walk_issuers" 506), (.ref 229)⟩, ⟨(PySem.PyData.keyHash P "_possible_issuers"), (.str "_possible_issuers" 514), (.ref 236)⟩, ⟨(PySem.PyData.keyHash P "__static_attributes__"), (.str "__static_attributes__" 518), (.ref 237)⟩, ⟨(PySem.PyData.keyHash P "__dict__"), (.str "__dict__" 520), (.ref 240)⟩, ⟨(PySem.PyData.keyHash P "__weakref__"), (.str "__weakref__" 522), (.ref 241)⟩, ⟨(PySem.PyData.keyHash P "__doc__"), (.str "__doc__" 523), .none⟩]⟩ 4), ⟨[]⟩⟩
def o240 (_ : Params) : Obj := ⟨(.type "type"), .none, (.cls ⟨"CertificateRegistry", [(.type "object")], [(.ref 239), (.type "object")], 238, "CertificateRegistry", .true, [], [], .false, .none, .false⟩), ⟨[.none, .none, (.some (.str "CertificateRegistry" 409)), (.some (.str "CertificateRegistry" 417)), (.some (.builtin "object.__new__")), (.some (.bool .true))]⟩⟩
def o241 (_ : Params) : Obj := ⟨(.type "getset_descriptor"), .none, (.fields ⟨[(.str "__dict__" 519), (.ref 239), (.builtin "function.__dict__"), (.builtin "function.__dict__#set")]⟩), ⟨[]⟩⟩
def o242 (_ : Params) : Obj := ⟨(.type "getset_descriptor"), .none, (.fields ⟨[(.str "__weakref__" 521), (.ref 239), (.builtin "ExceptionGroup.__weakref__"), .none]⟩), ⟨[]⟩⟩
def o243 (_ : Params) : Obj := ⟨(.type "super"), .none, (.fields ⟨[(.ref 239), (.ref 239), (.ref 239)]⟩), ⟨[]⟩⟩
def o244 (_ : Params) : Obj := ⟨(.type "builtin_function_or_method"), .none, (.fields ⟨[(.builtin "object.__init_subclass__"), (.ref 239)]⟩), ⟨[]⟩⟩
def tree6 (P : Params) : BT := (.node (boot_o_0 P) (.node (boot_o_1 P) (.node (o164 P) (.node (boot_o_7 P) (.node (o7 P) (.node (o23 P) (.node (o57 P) (.node (o125 P) .nil .nil) (.node (o192 P) .nil .nil)) (.node (o91 P) (.node (o157 P) .nil .nil) (.node (o224 P) .nil .nil))) (.node (o39 P) (.node (o73 P) (.node (o141 P) .nil .nil) (.node (o208 P) .nil .nil)) (.node (o107 P) (.node (o176 P) .nil .nil) (.node (o240 P) .nil .nil)))) (.node (o15 P) (.node (o31 P) (.node (o65 P) (.node (o133 P) .nil .nil) (.node (o200 P) .nil .nil)) (.node (o99 P) (.node (o168 P) .nil .nil) (.node (o232 P) .nil .nil))) (.node (o47 P) (.node (o81 P) (.node (o149 P) .nil .nil) (.node (o216 P) .nil .nil)) (.node (o117 P) (.node (o184 P) .nil .nil) .nil)))) (.node (o1 P) (.node (o11 P) (.node (o27 P) (.node (o61 P) (.node (o129 P) .nil .nil) (.node (o196 P) .nil .nil)) (.node (o95 P) (.node (o161 P) .nil .nil) (.node (o228 P) .nil .nil))) (.node (o43 P) (.node (o77 P) (.node (o145 P) .nil .nil) (.node (o212 P) .nil .nil)) (.node (o113 P) (.node (o180 P) .nil .nil) (.node (o244 P) .nil .nil)))) (.node (o19 P) (.node (o35 P) (.node (o69 P) (.node (o137 P) .nil .nil) (.node (o204 P) .nil .nil)) (.node (o103 P) (.node (o172 P) .nil .nil) (.node (o236 P) .nil .nil))) (.node (o53 P) (.node (o85 P) (.node (o153 P) .nil .nil) (.node (o220 P) .nil .nil)) (.node (o121 P) (.node (o188 P) .nil .nil) .nil))))) (.node (boot_o_5 P) (.node (boot_o_9 P) (.node (o9 P) (.node (o25 P) (.node (o59 P) (.node (o127 P) .nil .nil) (.node (o194 P) .nil .nil)) (.node (o93 P) (.node (o159 P) .nil .nil) (.node (o226 P) .nil .nil))) (.node (o41 P) (.node (o75 P) (.node (o143 P) .nil .nil) (.node (o210 P) .nil .nil)) (.node (o111 P) (.node (o178 P) .nil .nil) (.node (o242 P) .nil .nil)))) (.node (o17 P) (.node (o33 P) (.node (o67 P) (.node (o135 P) .nil .nil) (.node (o202 P) .nil .nil)) (.node (o101 P) (.node (o170 P) .nil .nil) (.node (o234 P) .nil .nil))) (.node (o51 P) (.node (o83 P) (.node (o151 P) .nil .nil) (.node (o218 P) .nil .nil)) (.node (o119 P) (.node (o186 P) .nil .nil) .nil)))) (.node (o3 P) (.node (o13 P) (.node (o29 P) (.node (o63 P) (.node (o131 P) .nil .nil) (.node (o198 P) .nil .nil)) (.node (o97 P) (.node (o166 P) .nil .nil) (.node (o230 P) .nil .nil))) (.node (o45 P) (.node (o79 P) (.node (o147 P) .nil .nil) (.node (o214 P) .nil .nil)) (.node (o115 P) (.node (o182 P) .nil .nil) .nil))) (.node (o21 P) (.node (o37 P) (.node (o71 P) (.node (o139 P) .nil .nil) (.node (o206 P) .nil .nil)) (.node (o105 P) (.node (o174 P) .nil .nil) (.node (o238 P) .nil .nil))) (.node (o55 P) (.node (o89 P) (.node (o155 P) .nil .nil) (.node (o222 P) .nil .nil)) (.node (o123 P) (.node (o190 P) .nil .nil) .nil)))))) (.node (boot_o_2 P) (.node (boot_o_4 P) (.node (boot_o_8 P) (.node (o8 P) (.node (o24 P) (.node (o58 P) (.node (o126 P) .nil .nil) (.node (o193 P) .nil .nil)) (.node (o92 P) (.node (o158 P) .nil .nil) (.node (o225 P) .nil .nil))) (.node (o40 P) (.node (o74 P) (.node (o142 P) .nil .nil) (.node (o209 P) .nil .nil)) (.node (o108 P) (.node (o177 P) .nil .nil) (.node (o241 P) .nil .nil)))) (.node (o16 P) (.node (o32 P) (.node (o66 P) (.node (o134 P) .nil .nil) (.node (o201 P) .nil .nil)) (.node (o100 P) (.node (o169 P) .nil .nil) (.node (o233 P) .nil .nil))) (.node (o48 P) (.node (o82 P) (.node (o150 P) .nil .nil) (.node (o217 P) .nil .nil)) (.node (o118 P) (.node (o185 P) .nil .nil) .nil)))) (.node (o165 P) (.node (o12 P) (.node (o28 P) (.node (o62 P) (.node (o130 P) .nil .nil) (.node (o197 P) .nil .nil)) (.node (o96 P) (.node (o162 P) .nil .nil) (.node (o229 P) .nil .nil))) (.node (o44 P) (.node (o78 P) (.node (o146 P) .nil .nil) (.node (o213 P) .nil .nil)) (.node (o114 P) (.node (o181 P) .nil .nil) .nil))) (.node (o20 P) (.node (o36 P) (.node (o70 P) (.node (o138 P) .nil .nil) (.node (o205 P) .nil .nil)) (.node (o104 P) (.node (o173 P) .nil .nil) (.node (o237 P) .nil .nil))) (.node (o54 P) (.node (o88 P) (.node (o154 P) .nil .nil) (.node (o221 P) .nil .nil)) (.node (o122 P) (.node (o189 P) .nil .nil) .nil))))) (.node (boot_o_6 P) (.node (boot_o_10 P) (.node (o10 P) (.node (o26 P) (.node (o60 P) (.node (o128 P) .nil .nil) (.node (o195 P) .nil .nil)) (.node (o94 P) (.node (o160 P) .nil .nil) (.node (o227 P) .nil .nil))) (.node (o42 P) (.node (o76 P) (.node (o144 P) .nil .nil) (.node (o211 P) .nil .nil)) (.node (o112 P) (.node (o179 P) .nil .nil) (.node (o243 P) .nil .nil)))) (.node (o18 P) (.node (o34 P) (.node (o68 P) (.node (o136 P) .nil .nil) (.node (o203 P) .nil .nil)) (.node (o102 P) (.node (o171 P) .nil .nil) (.node (o235 P) .nil .nil))) (.node (o52 P) (.node (o84 P) (.node (o152 P) .nil .nil) (.node (o219 P) .nil .nil)) (.node (o120 P) (.node (o187 P) .nil .nil) .nil)))) (.node (o4 P) (.node (o14 P) (.node (o30 P) (.node (o64 P) (.node (o132 P) .nil .nil) (.node (o199 P) .nil .nil)) (.node (o98 P) (.node (o167 P) .nil .nil) (.node (o231 P) .nil .nil))) (.node (o46 P) (.node (o80 P) (.node (o148 P) .nil .nil) (.node (o215 P) .nil .nil)) (.node (o116 P) (.node (o183 P) .nil .nil) .nil))) (.node (o22 P) (.node (o38 P) (.node (o72 P) (.node (o140 P) .nil .nil) (.node (o207 P) .nil .nil)) (.node (o106 P) (.node (o175 P) .nil .nil) (.node (o239 P) .nil .nil))) (.node (o56 P) (.node (o90 P) (.node (o156 P) .nil .nil) (.node (o223 P) .nil .nil)) (.node (o124 P) (.node (o191 P) .nil .nil) .nil)))))))
def o245 (P : Params) : Obj := ⟨(.type "dict"), .none, (.dict ⟨[⟨(PySem.PyData.keyHash P "__name__"), (.str "__name__" 165), (.str "law_je0006_02" 526)⟩, ⟨(PySem.PyData.keyHash P "__doc__"), (.str "__doc__" 166), .none⟩, ⟨(PySem.PyData.keyHash P "__package__"), (.str "__package__" 167), .none⟩, ⟨(PySem.PyData.keyHash P "__loader__"), (.str "__loader__" 168), (.builtin "__main__.__loader__#opaque")⟩, ⟨(PySem.PyData.keyHash P "__spec__"), (.str "__spec__" 169), .none⟩, ⟨(PySem.PyData.keyHash P "__annotations__"), (.str "__annotations__" 170), (.ref 6)⟩, ⟨(PySem.PyData.keyHash P "__builtins__"), (.str "__builtins__" 171), (.ref 4)⟩, ⟨(PySem.PyData.keyHash P "__file__"), (.str "__file__" 173), (.str "/claim/cut.py" 172)⟩, ⟨(PySem.PyData.keyHash P "__cached__"), (.str "__cached__" 174), .none⟩, ⟨(PySem.PyData.keyHash P "_wall"), (.str "_wall" 193), (.ref 21)⟩, ⟨(PySem.PyData.keyHash P "pretty_message"), (.str "pretty_message" 203), (.ref 28)⟩, ⟨(PySem.PyData.keyHash P "type_name"), (.str "type_name" 212), (.ref 35)⟩, ⟨(PySem.PyData.keyHash P "Native"), (.str "Native" 241), (.ref 52)⟩, ⟨(PySem.PyData.keyHash P "Name"), (.str "Name" 288), (.ref 87)⟩, ⟨(PySem.PyData.keyHash P "Key"), (.str "Key" 318), (.ref 108)⟩, ⟨(PySem.PyData.keyHash P "Certificate"), (.str "Certificate" 406), (.ref 160)⟩, ⟨(PySem.PyData.keyHash P "CertificateRegistry"), (.str "CertificateRegistry" 525), (.ref 239)⟩, ⟨(PySem.PyData.keyHash P "law"), (.str "law" 533), (.ref 248)⟩]⟩ 18), ⟨[]⟩⟩
def o246 (_ : Params) : Obj := ⟨.none, .none, (.fields ⟨[(.int 1 0), (.int 0 0), (.ref 20), (.int 5 0), (.int 0 0), (.ref 27), (.int 8 0), (.int 0 0), (.ref 34), (.int 10 0), (.int 0 0), (.ref 41), (.int 14 0), (.int 0 0), (.ref 62), (.int 25 0), (.int 0 0), (.ref 97), (.int 30 0), (.int 0 0), (.ref 118), (.int 75 0), (.int 0 0), (.ref 170), (.int 180 0), (.int 0 0), (.ref 247)]⟩), ⟨[]⟩⟩
def o247 (_ : Params) : Obj := ⟨(.type "tuple"), .none, (.seq ⟨[]⟩ 0), ⟨[]⟩⟩
def o248 (_ : Params) : Obj := ⟨.none, .none, (.fields ⟨[]⟩), ⟨[]⟩⟩
def o249 (_ : Params) : Obj := ⟨.none, .none, .func ⟨"law", "law", argsOf (cell 12), .stmts (bodyOf (cell 12)), scopeOf (cell 12), 0, [], .none, .none, .none, .none, .none, .none, .none, 0⟩, ⟨[]⟩⟩
def o250 (_ : Params) : Obj := ⟨(.type "code"), .none, (.fields ⟨[(.str "law" 528), (.str "law" 529), (.str "/claim/cut.py" 530), (.int 180 0), (.int 1 0), (.int 0 0), (.int 0 0), (.int 3 0), (.ref 244), (.bool .true), (.int 181 0), (.ref 245), .none, .none, .none, (.ref 246), (.int 531 0), (.int 180 0), (.str "/claim/cut.py" 532)]⟩), ⟨[]⟩⟩
def o251 (_ : Params) : Obj := ⟨(.type "function"), .none, .func ⟨"law", "law", argsOf (cell 12), .stmts (bodyOf (cell 12)), scopeOf (cell 12), 3, [], .none, .none, .none, (.str "law_je0006_02" 526), .none, (.ref 247), .none, 0⟩, ⟨[]⟩⟩
def tree7 (P : Params) : BT := (.node (boot_o_0 P) (.node (boot_o_1 P) (.node (o245 P) (.node (boot_o_7 P) (.node (o7 P) (.node (o23 P) (.node (o57 P) (.node (o125 P) .nil .nil) (.node (o192 P) .nil .nil)) (.node (o91 P) (.node (o157 P) .nil .nil) (.node (o224 P) .nil .nil))) (.node (o39 P) (.node (o73 P) (.node (o141 P) .nil .nil) (.node (o208 P) .nil .nil)) (.node (o107 P) (.node (o176 P) .nil .nil) (.node (o240 P) .nil .nil)))) (.node (o15 P) (.node (o31 P) (.node (o65 P) (.node (o133 P) .nil .nil) (.node (o200 P) .nil .nil)) (.node (o99 P) (.node (o168 P) .nil .nil) (.node (o232 P) .nil .nil))) (.node (o47 P) (.node (o81 P) (.node (o149 P) .nil .nil) (.node (o216 P) .nil .nil)) (.node (o117 P) (.node (o184 P) .nil .nil) (.node (o250 P) .nil .nil))))) (.node (o1 P) (.node (o11 P) (.node (o27 P) (.node (o61 P) (.node (o129 P) .nil .nil) (.node (o196 P) .nil .nil)) (.node (o95 P) (.node (o161 P) .nil .nil) (.node (o228 P) .nil .nil))) (.node (o43 P) (.node (o77 P) (.node (o145 P) .nil .nil) (.node (o212 P) .nil .nil)) (.node (o113 P) (.node (o180 P) .nil .nil) (.node (o244 P) .nil .nil)))) (.node (o19 P) (.node (o35 P) (.node (o69 P) (.node (o137 P) .nil .nil) (.node (o204 P) .nil .nil)) (.node (o103 P) (.node (o172 P) .nil .nil) (.node (o236 P) .nil .nil))) (.node (o53 P) (.node (o85 P) (.node (o153 P) .nil .nil) (.node (o220 P) .nil .nil)) (.node (o121 P) (.node (o188 P) .nil .nil) .nil))))) (.node (boot_o_5 P) (.node (boot_o_9 P) (.node (o9 P) (.node (o25 P) (.node (o59 P) (.node (o127 P) .nil .nil) (.node (o194 P) .nil .nil)) (.node (o93 P) (.node (o159 P) .nil .nil) (.node (o226 P) .nil .nil))) (.node (o41 P) (.node (o75 P) (.node (o143 P) .nil .nil) (.node (o210 P) .nil .nil)) (.node (o111 P) (.node (o178 P) .nil .nil) (.node (o242 P) .nil .nil)))) (.node (o17 P) (.node (o33 P) (.node (o67 P) (.node (o135 P) .nil .nil) (.node (o202 P) .nil .nil)) (.node (o101 P) (.node (o170 P) .nil .nil) (.node (o234 P) .nil .nil))) (.node (o51 P) (.node (o83 P) (.node (o151 P) .nil .nil) (.node (o218 P) .nil .nil)) (.node (o119 P) (.node (o186 P) .nil .nil) .nil)))) (.node (o3 P) (.node (o13 P) (.node (o29 P) (.node (o63 P) (.node (o131 P) .nil .nil) (.node (o198 P) .nil .nil)) (.node (o97 P) (.node (o166 P) .nil .nil) (.node (o230 P) .nil .nil))) (.node (o45 P) (.node (o79 P) (.node (o147 P) .nil .nil) (.node (o214 P) .nil .nil)) (.node (o115 P) (.node (o182 P) .nil .nil) (.node (o248 P) .nil .nil)))) (.node (o21 P) (.node (o37 P) (.node (o71 P) (.node (o139 P) .nil .nil) (.node (o206 P) .nil .nil)) (.node (o105 P) (.node (o174 P) .nil .nil) (.node (o238 P) .nil .nil))) (.node (o55 P) (.node (o89 P) (.node (o155 P) .nil .nil) (.node (o222 P) .nil .nil)) (.node (o123 P) (.node (o190 P) .nil .nil) .nil)))))) (.node (boot_o_2 P) (.node (boot_o_4 P) (.node (boot_o_8 P) (.node (o8 P) (.node (o24 P) (.node (o58 P) (.node (o126 P) .nil .nil) (.node (o193 P) .nil .nil)) (.node (o92 P) (.node (o158 P) .nil .nil) (.node (o225 P) .nil .nil))) (.node (o40 P) (.node (o74 P) (.node (o142 P) .nil .nil) (.node (o209 P) .nil .nil)) (.node (o108 P) (.node (o177 P) .nil .nil) (.node (o241 P) .nil .nil)))) (.node (o16 P) (.node (o32 P) (.node (o66 P) (.node (o134 P) .nil .nil) (.node (o201 P) .nil .nil)) (.node (o100 P) (.node (o169 P) .nil .nil) (.node (o233 P) .nil .nil))) (.node (o48 P) (.node (o82 P) (.node (o150 P) .nil .nil) (.node (o217 P) .nil .nil)) (.node (o118 P) (.node (o185 P) .nil .nil) (.node (o251 P) .nil .nil))))) (.node (o246 P) (.node (o12 P) (.node (o28 P) (.node (o62 P) (.node (o130 P) .nil .nil) (.node (o197 P) .nil .nil)) (.node (o96 P) (.node (o162 P) .nil .nil) (.node (o229 P) .nil .nil))) (.node (o44 P) (.node (o78 P) (.node (o146 P) .nil .nil) (.node (o213 P) .nil .nil)) (.node (o114 P) (.node (o181 P) .nil .nil) (.node (o247 P) .nil .nil)))) (.node (o20 P) (.node (o36 P) (.node (o70 P) (.node (o138 P) .nil .nil) (.node (o205 P) .nil .nil)) (.node (o104 P) (.node (o173 P) .nil .nil) (.node (o237 P) .nil .nil))) (.node (o54 P) (.node (o88 P) (.node (o154 P) .nil .nil) (.node (o221 P) .nil .nil)) (.node (o122 P) (.node (o189 P) .nil .nil) .nil))))) (.node (boot_o_6 P) (.node (boot_o_10 P) (.node (o10 P) (.node (o26 P) (.node (o60 P) (.node (o128 P) .nil .nil) (.node (o195 P) .nil .nil)) (.node (o94 P) (.node (o160 P) .nil .nil) (.node (o227 P) .nil .nil))) (.node (o42 P) (.node (o76 P) (.node (o144 P) .nil .nil) (.node (o211 P) .nil .nil)) (.node (o112 P) (.node (o179 P) .nil .nil) (.node (o243 P) .nil .nil)))) (.node (o18 P) (.node (o34 P) (.node (o68 P) (.node (o136 P) .nil .nil) (.node (o203 P) .nil .nil)) (.node (o102 P) (.node (o171 P) .nil .nil) (.node (o235 P) .nil .nil))) (.node (o52 P) (.node (o84 P) (.node (o152 P) .nil .nil) (.node (o219 P) .nil .nil)) (.node (o120 P) (.node (o187 P) .nil .nil) .nil)))) (.node (o4 P) (.node (o14 P) (.node (o30 P) (.node (o64 P) (.node (o132 P) .nil .nil) (.node (o199 P) .nil .nil)) (.node (o98 P) (.node (o167 P) .nil .nil) (.node (o231 P) .nil .nil))) (.node (o46 P) (.node (o80 P) (.node (o148 P) .nil .nil) (.node (o215 P) .nil .nil)) (.node (o116 P) (.node (o183 P) .nil .nil) (.node (o249 P) .nil .nil)))) (.node (o22 P) (.node (o38 P) (.node (o72 P) (.node (o140 P) .nil .nil) (.node (o207 P) .nil .nil)) (.node (o106 P) (.node (o175 P) .nil .nil) (.node (o239 P) .nil .nil))) (.node (o56 P) (.node (o90 P) (.node (o156 P) .nil .nil) (.node (o223 P) .nil .nil)) (.node (o124 P) (.node (o191 P) .nil .nil) .nil)))))))
def heapZ (P : Params) : Heap := ⟨⟨[(boot_o_0 P), (boot_o_1 P), (boot_o_2 P), (o245 P), (boot_o_4 P), (boot_o_5 P), (boot_o_6 P), (boot_o_7 P), (boot_o_8 P), (boot_o_9 P), (boot_o_10 P), (o1 P), (o246 P), (o3 P), (o4 P), (o7 P), (o8 P), (o9 P), (o10 P), (o11 P), (o12 P), (o13 P), (o14 P), (o15 P), (o16 P), (o17 P), (o18 P), (o19 P), (o20 P), (o21 P), (o22 P), (o23 P), (o24 P), (o25 P), (o26 P), (o27 P), (o28 P), (o29 P), (o30 P), (o31 P), (o32 P), (o33 P), (o34 P), (o35 P), (o36 P), (o37 P), (o38 P), (o39 P), (o40 P), (o41 P), (o42 P), (o43 P), (o44 P), (o45 P), (o46 P), (o47 P), (o48 P), (o51 P), (o52 P), (o53 P), (o54 P), (o55 P), (o56 P), (o57 P), (o58 P), (o59 P), (o60 P), (o61 P), (o62 P), (o63 P), (o64 P), (o65 P), (o66 P), (o67 P), (o68 P), (o69 P), (o70 P), (o71 P), (o72 P), (o73 P), (o74 P), (o75 P), (o76 P), (o77 P), (o78 P), (o79 P), (o80 P), (o81 P), (o82 P), (o83 P), (o84 P), (o85 P), (o88 P), (o89 P), (o90 P), (o91 P), (o92 P), (o93 P), (o94 P), (o95 P), (o96 P), (o97 P), (o98 P), (o99 P), (o100 P), (o101 P), (o102 P), (o103 P), (o104 P), (o105 P), (o106 P), (o107 P), (o108 P), (o111 P), (o112 P), (o113 P), (o114 P), (o115 P), (o116 P), (o117 P), (o118 P), (o119 P), (o120 P), (o121 P), (o122 P), (o123 P), (o124 P), (o125 P), (o126 P), (o127 P), (o128 P), (o129 P), (o130 P), (o131 P), (o132 P), (o133 P), (o134 P), (o135 P), (o136 P), (o137 P), (o138 P), (o139 P), (o140 P), (o141 P), (o142 P), (o143 P), (o144 P), (o145 P), (o146 P), (o147 P), (o148 P), (o149 P), (o150 P), (o151 P), (o152 P), (o153 P), (o154 P), (o155 P), (o156 P), (o157 P), (o158 P), (o159 P), (o160 P), (o161 P), (o162 P), (o166 P), (o167 P), (o168 P), (o169 P), (o170 P), (o171 P), (o172 P), (o173 P), (o174 P), (o175 P), (o176 P), (o177 P), (o178 P), (o179 P), (o180 P), (o181 P), (o182 P), (o183 P), (o184 P), (o185 P), (o186 P), (o187 P), (o188 P), (o189 P), (o190 P), (o191 P), (o192 P), (o193 P), (o194 P), (o195 P), (o196 P), (o197 P), (o198 P), (o199 P), (o200 P), (o201 P), (o202 P), (o203 P), (o204 P), (o205 P), (o206 P), (o207 P), (o208 P), (o209 P), (o210 P), (o211 P), (o212 P), (o213 P), (o214 P), (o215 P), (o216 P), (o217 P), (o218 P), (o219 P), (o220 P), (o221 P), (o222 P), (o223 P), (o224 P), (o225 P), (o226 P), (o227 P), (o228 P), (o229 P), (o230 P), (o231 P), (o232 P), (o233 P), (o234 P), (o235 P), (o236 P), (o237 P), (o238 P), (o239 P), (o240 P), (o241 P), (o242 P), (o243 P), (o244 P), (o247 P), (o248 P), (o249 P), (o250 P), (o251 P)]⟩, {}⟩
def heap_39 (P : Params) : Frag := [(2, (boot_o_2 P)), (3, (o245 P)), (15, (o7 P)), (17, (o9 P)), (18, (o10 P)), (20, (o12 P)), (21, (o13 P)), (22, (o14 P)), (24, (o16 P)), (25, (o17 P)), (27, (o19 P)), (28, (o20 P)), (29, (o21 P)), (31, (o23 P)), (32, (o24 P)), (34, (o26 P)), (35, (o27 P)), (43, (o35 P)), (45, (o37 P)), (46, (o38 P)), (48, (o40 P)), (49, (o41 P)), (50, (o42 P)), (51, (o43 P)), (52, (o44 P)), (53, (o45 P)), (54, (o46 P)), (64, (o58 P)), (66, (o60 P)), (67, (o61 P)), (69, (o63 P)), (70, (o64 P)), (71, (o65 P)), (73, (o67 P)), (74, (o68 P)), (76, (o70 P)), (77, (o71 P)), (78, (o72 P)), (80, (o74 P)), (81, (o75 P)), (83, (o77 P)), (84, (o78 P)), (85, (o79 P)), (86, (o80 P)), (87, (o81 P)), (88, (o82 P)), (89, (o83 P)), (99, (o95 P)), (101, (o97 P)), (102, (o98 P)), (104, (o100 P)), (105, (o101 P)), (106, (o102 P)), (107, (o103 P)), (108, (o104 P)), (109, (o105 P)), (110, (o106 P)), (120, (o118 P)), (122, (o120 P)), (123, (o121 P)), (125, (o123 P)), (126, (o124 P)), (127, (o125 P)), (129, (o127 P)), (130, (o128 P)), (132, (o130 P)), (133, (o131 P)), (134, (o132 P)), (135, (o133 P)), (137, (o135 P)), (138, (o136 P)), (140, (o138 P)), (141, (o139 P)), (142, (o140 P)), (143, (o141 P)), (145, (o143 P)), (146, (o144 P)), (148, (o146 P)), (149, (o147 P)), (150, (o148 P)), (151, (o149 P)), (153, (o151 P)), (154, (o152 P)), (156, (o154 P)), (157, (o155 P)), (158, (o156 P)), (159, (o157 P)), (160, (o158 P)), (161, (o159 P)), (162, (o160 P)), (172, (o173 P)), (173, (o174 P)), (175, (o176 P)), (176, (o177 P)), (178, (o179 P)), (179, (o180 P)), (180, (o181 P)), (182, (o183 P)), (183, (o184 P)), (185, (o186 P)), (186, (o187 P)), (187, (o188 P)), (189, (o190 P)), (190, (o191 P)), (192, (o193 P)), (193, (o194 P)), (194, (o195 P)), (196, (o197 P)), (197, (o198 P)), (199, (o200 P)), (200, (o201 P)), (201, (o202 P)), (203, (o204 P)), (204, (o205 P)), (206, (o207 P)), (207, (o208 P)), (208, (o209 P)), (209, (o210 P)), (211, (o212 P)), (212, (o213 P)), (214, (o215 P)), (215, (o216 P)), (216, (o217 P)), (218, (o219 P)), (219, (o220 P)), (221, (o222 P)), (222, (o223 P)), (223, (o224 P)), (225, (o226 P)), (226, (o227 P)), (228, (o229 P)), (229, (o230 P)), (230, (o231 P)), (232, (o233 P)), (233, (o234 P)), (235, (o236 P)), (236, (o237 P)), (237, (o238 P)), (238, (o239 P)), (239, (o240 P)), (240, (o241 P)), (241, (o242 P)), (244, (o247 P)), (247, (o250 P)), (248, (o251 P))]
def adrs : List Addr := [2, 3, 15, 17, 18, 20, 21, 22, 24, 25, 27, 28, 29, 31, 32, 34, 35, 43, 45, 46, 48, 49, 50, 51, 52, 53, 54, 64, 66, 67, 69, 70, 71, 73, 74, 76, 77, 78, 80, 81, 83, 84, 85, 86, 87, 88, 89, 99, 101, 102, 104, 105, 106, 107, 108, 109, 110, 120, 122, 123, 125, 126, 127, 129, 130, 132, 133, 134, 135, 137, 138, 140, 141, 142, 143, 145, 146, 148, 149, 150, 151, 153, 154, 156, 157, 158, 159, 160, 161, 162, 172, 173, 175, 176, 178, 179, 180, 182, 183, 185, 186, 187, 189, 190, 192, 193, 194, 196, 197, 199, 200, 201, 203, 204, 206, 207, 208, 209, 211, 212, 214, 215, 216, 218, 219, 221, 222, 223, 225, 226, 228, 229, 230, 232, 233, 235, 236, 237, 238, 239, 240, 241, 244, 247, 248]
def env : Env := { scope := pg.main.scope, locals := mainNs, globals := mainNs, cells := [], code := (.ref 13), frame := some 14 }
abbrev cE : Code := .body (behindTheImports pg) env
abbrev Bk : List Frame := [topFrame ⟨0, 0, 0, 0⟩]
def body : List Stmt := behindTheImports pg
theorem pA (w : World) : (fun os => topGo treeTable pg w 11 ((.some (.ref 6))) 12 ⟨boot_heap w.params, ⟨[]⟩, boot_drawn, boot_toks, os⟩ (topStub pg)) = fun os => some ((⟨heapA w.params, ⟨[]⟩, ⟨0, 0, 0, 0⟩, 187, os⟩ : Shared), (⟨denote treeTable cE, cE, ⟨0, 0, 0, 0⟩, Bk⟩ : Thread)) := by kernel_rfl
theorem p0 (w : World) : (fun os => segRun treeTable pg w 11 ((.some (.ref 6))) 1 1 ⟨heapA w.params, ⟨[]⟩, ⟨0, 0, 0, 0⟩, 187, os⟩ (blockOf (behindTheImports pg) env cE ⟨0, 0, 0, 0⟩ Bk)) = fun os => some (Flow.next, (SharedT.abs ⟨tree0 w.params, 15, {}, ⟨[]⟩, ⟨0, 0, 0, 0⟩, 187, os⟩), cE, ⟨0, 0, 0, 0⟩) := by kernel_rfl
def sts1 : List Stmt := (body.drop 0).take 6
theorem p1 (w : World) : (fun os => segRunT treeTable pg w 11 ((.some (.ref 6))) 1 329 ⟨tree0 w.params, 15, {}, ⟨[]⟩, ⟨0, 0, 0, 0⟩, 187, os⟩ (piecesOf sts1 env cE ⟨0, 0, 0, 0⟩ Bk)) = fun os => some (Flow.next, (⟨tree1 w.params, 57, {}, ⟨[]⟩, ⟨0, 0, 0, 0⟩, 242, os⟩ : SharedT), cE, ⟨10, 0, 13, 28⟩) := by kernel_rfl
def sts2 : List Stmt := (body.drop 6).take 1
theorem p2 (w : World) : (fun os => segRunT treeTable pg w 11 ((.some (.ref 6))) 1 294 ⟨tree1 w.params, 57, {}, ⟨[]⟩, ⟨0, 0, 0, 0⟩, 242, os⟩ (piecesOf sts2 env cE ⟨10, 0, 13, 28⟩ Bk)) = fun os => some (Flow.next, (⟨tree2 w.params, 92, {}, ⟨[]⟩, ⟨0, 0, 0, 0⟩, 289, os⟩ : SharedT), cE, ⟨14, 0, 24, 32⟩) := by kernel_rfl
def sts3 : List Stmt := (body.drop 7).take 1
theorem p3 (w : World) : (fun os => segRunT treeTable pg w 11 ((.some (.ref 6))) 1 224 ⟨tree2 w.params, 92, {}, ⟨[]⟩, ⟨0, 0, 0, 0⟩, 289, os⟩ (piecesOf sts3 env cE ⟨14, 0, 24, 32⟩ Bk)) = fun os => some (Flow.next, (⟨tree3 w.params, 113, {}, ⟨[]⟩, ⟨0, 0, 0, 0⟩, 319, os⟩ : SharedT), cE, ⟨25, 0, 29, 46⟩) := by kernel_rfl
def sts4 : List Stmt := (body.drop 8).take 1
theorem p4 (w : World) : (fun os => segRunT treeTable pg w 11 ((.some (.ref 6))) 1 549 ⟨tree3 w.params, 113, {}, ⟨[]⟩, ⟨0, 0, 0, 0⟩, 319, os⟩ (piecesOf sts4 env cE ⟨25, 0, 29, 46⟩ Bk)) = fun os => some (Flow.next, (⟨tree4 w.params, 165, {}, ⟨[]⟩, ⟨0, 0, 0, 0⟩, 407, os⟩ : SharedT), cE, ⟨30, 0, 73, 105⟩) := by kernel_rfl
def sts5 : List Stmt := (body.drop 9).take 1
theorem p5 (w : World) : (fun os => segRunT treeTable pg w 11 ((.some (.ref 6))) 1 10 ⟨tree4 w.params, 165, {}, ⟨[]⟩, ⟨0, 0, 0, 0⟩, 407, os⟩ (piecesOf sts5 env cE ⟨30, 0, 73, 105⟩ Bk)) = fun os => some (Flow.next, (⟨tree5 w.params, 165, {}, ⟨[]⟩, ⟨0, 0, 0, 0⟩, 409, os⟩ : SharedT), cE, ⟨74, 0, 74, 8⟩) := by kernel_rfl
def sts6 : List Stmt := (body.drop 10).take 1
theorem p6 (w : World) : (fun os => segRunT treeTable pg w 11 ((.some (.ref 6))) 1 529 ⟨tree5 w.params, 165, {}, ⟨[]⟩, ⟨0, 0, 0, 0⟩, 409, os⟩ (piecesOf sts6 env cE ⟨74, 0, 74, 8⟩ Bk)) = fun os => some (Flow.next, (⟨tree6 w.params, 244, {}, ⟨[]⟩, ⟨0, 0, 0, 0⟩, 526, os⟩ : SharedT), cE, ⟨75, 0, 178, 16⟩) := by kernel_rfl
def sts7 : List Stmt := (body.drop 11).take 2
theorem p7 (w : World) : (fun os => segRunT treeTable pg w 11 ((.some (.ref 6))) 1 36 ⟨tree6 w.params, 244, {}, ⟨[]⟩, ⟨0, 0, 0, 0⟩, 526, os⟩ (piecesOf sts7 env cE ⟨75, 0, 178, 16⟩ Bk)) = fun os => some (Flow.next, (⟨tree7 w.params, 249, {}, ⟨[]⟩, ⟨0, 0, 0, 0⟩, 534, os⟩ : SharedT), cE, ⟨180, 0, 229, 19⟩) := by kernel_rfl
theorem pZ (w : World) : (fun os => topRun treeTable pg w 11 ((.some (.ref 6))) 2 (SharedT.abs ⟨tree7 w.params, 249, {}, ⟨[]⟩, ⟨0, 0, 0, 0⟩, 534, os⟩) ⟨doneF Flow.next, cE, ⟨180, 0, 229, 19⟩, Bk⟩) = fun os => some (⟨heapZ w.params, ⟨[]⟩, ⟨0, 0, 0, 0⟩, 534, os⟩ : Shared) := by kernel_rfl
theorem bodyIs : behindTheImports pg = (sts1 ++ (sts2 ++ (sts3 ++ (sts4 ++ (sts5 ++ (sts6 ++ (sts7 ++ []))))))) := by kernel_rfl
theorem run (w : World) (os : OsState) : topRun treeTable pg w 11 ((.some (.ref 6))) (Nat.add 12 (Nat.add 1 (Nat.add 329 (Nat.add 294 (Nat.add 224 (Nat.add 549 (Nat.add 10 (Nat.add 529 (Nat.add 36 2))))))))) ⟨boot_heap w.params, ⟨[]⟩, boot_drawn, boot_toks, os⟩ (topStub pg) = some ⟨heapZ w.params, ⟨[]⟩, ⟨0, 0, 0, 0⟩, 534, os⟩ := by
  refine go_top (congrFun (pA w) os) (piece_block (congrFun (p0 w) os) ?_)
  have h := bodyIs
  exact (congrArg (fun b => topRun treeTable pg w 11 ((.some (.ref 6))) _ _ (restOf b env cE _ Bk) = _) h).mpr (piece_app (l := sts1) (segRun_of (congrFun (p1 w) os)) (piece_app (l := sts2) (segRun_of (congrFun (p2 w) os)) (piece_app (l := sts3) (segRun_of (congrFun (p3 w) os)) (piece_app (l := sts4) (segRun_of (congrFun (p4 w) os)) (piece_app (l := sts5) (segRun_of (congrFun (p5 w) os)) (piece_app (l := sts6) (segRun_of (congrFun (p6 w) os)) (piece_app (l := sts7) (segRun_of (congrFun (p7 w) os)) (congrFun (pZ w) os))))))))
def q : Program := view pg [0, 2, 4, 5, 6, 7, 8, 10, 12]
def loose : List Str := ["Certificate", "CertificateRegistry"]
abbrev Xt : Shared → Bool := fun s => xlAt q [] s && recOk (RowW.records PySem.Challenge.rw_je0006_02.row.toRowW) s
theorem adrsIs (P : Params) : adrs = (heap_39 P).map (·.1) := by kernel_rfl
abbrev hk : Hook := kHook heap_39 adrs adrsIs
theorem looksA (w : World) : (fun os => staticsOk (importedModules pg.main.body) (boot_heap w.params) (heapZ w.params) && namesBound pg (heapZ w.params) && gensDone ⟨heapZ w.params, ⟨[]⟩, ⟨0, 0, 0, 0⟩, 534, os⟩ && laidKept (boot_heap w.params) (heapZ w.params)) = fun (_ : OsState) => true := by kernel_rfl
theorem looksB (w : World) : (fun os => openSeen q loose (importedModules pg.main.body) Xt true ⟨heapZ w.params, ⟨[]⟩, ⟨0, 0, 0, 0⟩, 534, os⟩) = fun (_ : OsState) => openGood q loose := by kernel_rfl
theorem looksC (w : World) : (fun os => hk.obs ⟨heapZ w.params, ⟨[]⟩, ⟨0, 0, 0, 0⟩, 534, os⟩) = fun (_ : OsState) => hk.val w := by kernel_rfl
theorem open_ : ∀ w : World, (fencedOpening treeTable pg w 4054).map (fun s => (s.heap, s.gens, s.drawn, s.toks)) = some (boot_heap w.params, Array.mk [], boot_drawn, boot_toks) := boot_open (by kernel_rfl) (by decide) (fun s => by kernel_rfl)
theorem size (w : World) : ((boot_heap w.params).isNs mainGlobals && (Array.mk [] : Array GenState).size == 0, (boot_heap w.params).objs.size, (boot_heap w.params).nsMap mainGlobals "__annotations__") = (true, 11, (.some (.ref 6))) := by kernel_rfl
theorem left : LeftO pg q loose Xt hk.obs hk.val 4054 :=
  LeftO.of_pieces (H₀ := boot_heap) (H₁ := heapZ) open_ size run (by decide) fun w => funext fun os => looks_pair (congrFun (looksA w) os) (looks_pair (congrFun (looksB w) os) (congrFun (looksC w) os))
end
end Mine.hd
end

section
open PySem PySem.W PySem.Calls PyProof.Rows
set_option Elab.async false
set_option linter.unusedVariables false
set_option maxRecDepth 100000
namespace J
section
variable {C : Cx} {A : Around} {env : Env} {m : Loc} {σ σ₀ σ' : Ab} {s s₀ s' : Shared} {P : Params}
def nameFs (x : Str) : Loc := [("human_friendly", .str x 0), ("hashable", .str x 0)]
def keyFs (n : Int) : Loc := [("sha1", .bytes (big20 n).toArray 0), ("number", .int n 0)]
def certFs (n : Int) (su is pk : Value) (sg ce : Value) : Loc := [("critical_extensions", ce), ("inhibit_any_policy_value", .none), ("policy_constraints_value", .none), ("policy_mappings_value", .none), ("certificate_policies_value", .none),
  ("extended_key_usage_value", .none), ("key_usage_value", .none), ("authority_issuer_serial", .none), ("authority_key_identifier", .none), ("key_identifier", .none), ("max_path_length", .none), ("ca", .bool false), ("not_after", .int 0 0), ("not_before", .int 0 0),
  ("hash_algo", .str "sha256" 0), ("signature_algo", .str "rsassa_pkcs1v15" 0), ("signer", sg), ("public_key", pk), ("issuer", is), ("subject", su), ("serial_number", .int n 0), ("sha256", .int n 0), ("sha1", .int n 0), ("signature", .int n 0)]
theorem map_five {us : List Value} {a b c d e : Value} (h : us.map nv = [a, b, c, d, e]) : ∃ u v w x y, us = [u, v, w, x, y] ∧ nv u = a ∧ nv v = b ∧ nv w = c ∧ nv x = d ∧ nv y = e := by
  rcases us with _ | ⟨ua, us⟩
  · simp at h
  · obtain ⟨h1, h2⟩ := List.cons.inj h
    rcases us with _ | ⟨ub, us⟩
    · simp at h2
    · obtain ⟨h3, h4⟩ := List.cons.inj h2
      obtain ⟨u, v, w, rfl, h5, h6, h7⟩ := map_three h4
      exact ⟨ua, ub, u, v, w, rfl, h1, h3, h5, h6, h7⟩
theorem name_make (hK : C.K = Mine.hd.heap_39 P) (hA : A.depth + 5 < recursionLimit) {x : Str} {Q : Value → Ab → Prop} (h : ∀ a, σ a = none → Q (.ref a) (σ.put a (.inst 87 (nameFs x)))) : CallR C A (.ref 87) [.str x 0] σ Q := CallR.tc fun us hu => by
  obtain ⟨u, rfl, hv⟩ := map_one hu
  refine TC_make (fI := 70) (by rw [hK]; kernel_rfl) (by rw [hK]; kernel_rfl) (by rw [hK]; kernel_rfl) fun a ha => ?_
  refine TC_fn (C := C) (binds := [("self", .ref a), ("text", u)]) (m := [("text", .str x 0), ("self", .ref a)]) (by rw [depth_make']; omega) (by rw [hK]; rfl) (by rw [hK]; kernel_rfl) rfl (fun S => by rw [hK]; kernel_rfl) (by decide +kernel) (by simp; decide +kernel) (by simp [locOf, hv]) fun L A' hd hh hun => ?_
  refine TXs_cons (TX_setAttr ((EV_loc (by rfl) (by rfl)).te ⟨a, 87, [], EV_loc (by rfl) (by rfl), put_same .., (by rw [hK]; kernel_rfl), (by simp), ?_⟩))
  refine TXs_cons (TX_setAttr ((EV_loc (by rfl) (by rfl)).te ⟨a, 87, _, EV_loc (by rfl) (by rfl), put_same .., (by rw [hK]; kernel_rfl), (by simp), ?_⟩))
  refine TXs_nil ⟨rfl, ?_⟩
  rw [put_put, put_put]
  exact h a ha
theorem key_make (hK : C.K = Mine.hd.heap_39 P) (hA : A.depth + 5 < recursionLimit) {n : Int} (h0 : 0 ≤ n) (h1 : n < 256) {Q : Value → Ab → Prop} (h : ∀ a, σ a = none → Q (.ref a) (σ.put a (.inst 108 (keyFs n)))) : CallR C A (.ref 108) [.int n 0] σ Q := CallR.tc fun us hu => by
  obtain ⟨u, rfl, hv⟩ := map_one hu
  refine TC_make (fI := 105) (by rw [hK]; kernel_rfl) (by rw [hK]; kernel_rfl) (by rw [hK]; kernel_rfl) fun a ha => ?_
  refine TC_fn (C := C) (binds := [("self", .ref a), ("number", u)]) (m := [("number", .int n 0), ("self", .ref a)]) (by rw [depth_make']; omega) (by rw [hK]; rfl) (by rw [hK]; kernel_rfl) rfl (fun S => by rw [hK]; kernel_rfl) (by decide +kernel) (by simp; decide +kernel) (by simp [locOf, hv]) fun L A' hd hh hun => ?_
  refine TXs_cons (TX_setAttr ((EV_loc (by rfl) (by rfl)).te ⟨a, 108, [], EV_loc (by rfl) (by rfl), put_same .., (by rw [hK]; kernel_rfl), (by simp), ?_⟩))
  refine TXs_cons (TX_setAttr (TE_toBytes (EV_loc (by rfl) (by rfl)) ?_))
  refine TAs_cons (EV_int.te (TAs_cons (EV_str.te (TAs_nil (call_toBytes h0 h1 ⟨a, 108, _, EV_loc (by rfl) (by rfl), put_same .., (by rw [hK]; kernel_rfl), (by simp), ?_⟩)))))
  refine TXs_nil ⟨rfl, ?_⟩
  rw [put_put, put_put]
  exact h a ha
theorem cert_make (hK : C.K = Mine.hd.heap_39 P) (hA : A.depth + 5 < recursionLimit) {n : Int} {su is pk sg : Value} {Q : Value → Ab → Prop} (h : ∀ a ce, σ a = none → Q (.ref a) (σ.put a (.inst 160 (certFs n su is pk sg (.ref ce))))) : CallR C A (.ref 160) [.int n 0, su, is, pk, sg] σ Q := CallR.tc fun us hu => by
  obtain ⟨u, v1, v2, v3, v4, rfl, h0, h1, h2, h3, h4⟩ := map_five hu
  refine TC_make (fI := 126) (by rw [hK]; kernel_rfl) (by rw [hK]; kernel_rfl) (by rw [hK]; kernel_rfl) fun a ha => ?_
  refine TC_fn (C := C) (binds := [("self", .ref a), ("number", u), ("subject", v1), ("issuer", v2), ("public_key", v3), ("signer", v4)]) (m := [("signer", sg), ("public_key", pk), ("issuer", is), ("subject", su), ("number", .int n 0), ("self", .ref a)]) (by rw [depth_make']; omega) (by rw [hK]; rfl) (by rw [hK]; kernel_rfl) rfl (fun S => by rw [hK]; kernel_rfl) (by decide +kernel) (by simp; decide +kernel) (by simp [locOf, h0, h1, h2, h3, h4]) fun L A' hd hh hun => ?_
  refine TXs_cons (TX_setAttr ((EV_loc (by rfl) (by rfl)).te ⟨a, 160, _, EV_loc (by rfl) (by rfl), put_same .., (by rw [hK]; kernel_rfl), (by simp), ?_⟩))
  rw [put_put]
  refine TXs_cons (TX_setAttr ((EV_loc (by rfl) (by rfl)).te ⟨a, 160, _, EV_loc (by rfl) (by rfl), put_same .., (by rw [hK]; kernel_rfl), (by simp), ?_⟩))
  rw [put_put]
  refine TXs_cons (TX_setAttr ((EV_loc (by rfl) (by rfl)).te ⟨a, 160, _, EV_loc (by rfl) (by rfl), put_same .., (by rw [hK]; kernel_rfl), (by simp), ?_⟩))
  rw [put_put]
  refine TXs_cons (TX_setAttr ((EV_loc (by rfl) (by rfl)).te ⟨a, 160, _, EV_loc (by rfl) (by rfl), put_same .., (by rw [hK]; kernel_rfl), (by simp), ?_⟩))
  rw [put_put]
  refine TXs_cons (TX_setAttr ((EV_loc (by rfl) (by rfl)).te ⟨a, 160, _, EV_loc (by rfl) (by rfl), put_same .., (by rw [hK]; kernel_rfl), (by simp), ?_⟩))
  rw [put_put]
  refine TXs_cons (TX_setAttr ((EV_loc (by rfl) (by rfl)).te ⟨a, 160, _, EV_loc (by rfl) (by rfl), put_same .., (by rw [hK]; kernel_rfl), (by simp), ?_⟩))
  rw [put_put]
  refine TXs_cons (TX_setAttr ((EV_loc (by rfl) (by rfl)).te ⟨a, 160, _, EV_loc (by rfl) (by rfl), put_same .., (by rw [hK]; kernel_rfl), (by simp), ?_⟩))
  rw [put_put]
  refine TXs_cons (TX_setAttr ((EV_loc (by rfl) (by rfl)).te ⟨a, 160, _, EV_loc (by rfl) (by rfl), put_same .., (by rw [hK]; kernel_rfl), (by simp), ?_⟩))
  rw [put_put]
  refine TXs_cons (TX_setAttr (EV_str.te ⟨a, 160, _, EV_loc (by rfl) (by rfl), put_same .., (by rw [hK]; kernel_rfl), (by simp), ?_⟩))
  rw [put_put]
  refine TXs_cons (TX_setAttr (EV_str.te ⟨a, 160, _, EV_loc (by rfl) (by rfl), put_same .., (by rw [hK]; kernel_rfl), (by simp), ?_⟩))
  rw [put_put]
  refine TXs_cons (TX_setAttr (EV_int.te ⟨a, 160, _, EV_loc (by rfl) (by rfl), put_same .., (by rw [hK]; kernel_rfl), (by simp), ?_⟩))
  rw [put_put]
  refine TXs_cons (TX_setAttr (EV_int.te ⟨a, 160, _, EV_loc (by rfl) (by rfl), put_same .., (by rw [hK]; kernel_rfl), (by simp), ?_⟩))
  rw [put_put]
  refine TXs_cons (TX_setAttr (EV_bool.te ⟨a, 160, _, EV_loc (by rfl) (by rfl), put_same .., (by rw [hK]; kernel_rfl), (by simp), ?_⟩))
  rw [put_put]
  refine TXs_cons (TX_setAttr (EV_none.te ⟨a, 160, _, EV_loc (by rfl) (by rfl), put_same .., (by rw [hK]; kernel_rfl), (by simp), ?_⟩))
  rw [put_put]
  refine TXs_cons (TX_setAttr (EV_none.te ⟨a, 160, _, EV_loc (by rfl) (by rfl), put_same .., (by rw [hK]; kernel_rfl), (by simp), ?_⟩))
  rw [put_put]
  refine TXs_cons (TX_setAttr (EV_none.te ⟨a, 160, _, EV_loc (by rfl) (by rfl), put_same .., (by rw [hK]; kernel_rfl), (by simp), ?_⟩))
  rw [put_put]
  refine TXs_cons (TX_setAttr (EV_none.te ⟨a, 160, _, EV_loc (by rfl) (by rfl), put_same .., (by rw [hK]; kernel_rfl), (by simp), ?_⟩))
  rw [put_put]
  refine TXs_cons (TX_setAttr (EV_none.te ⟨a, 160, _, EV_loc (by rfl) (by rfl), put_same .., (by rw [hK]; kernel_rfl), (by simp), ?_⟩))
  rw [put_put]
  refine TXs_cons (TX_setAttr (EV_none.te ⟨a, 160, _, EV_loc (by rfl) (by rfl), put_same .., (by rw [hK]; kernel_rfl), (by simp), ?_⟩))
  rw [put_put]
  refine TXs_cons (TX_setAttr (EV_none.te ⟨a, 160, _, EV_loc (by rfl) (by rfl), put_same .., (by rw [hK]; kernel_rfl), (by simp), ?_⟩))
  rw [put_put]
  refine TXs_cons (TX_setAttr (EV_none.te ⟨a, 160, _, EV_loc (by rfl) (by rfl), put_same .., (by rw [hK]; kernel_rfl), (by simp), ?_⟩))
  rw [put_put]
  refine TXs_cons (TX_setAttr (EV_none.te ⟨a, 160, _, EV_loc (by rfl) (by rfl), put_same .., (by rw [hK]; kernel_rfl), (by simp), ?_⟩))
  rw [put_put]
  refine TXs_cons (TX_setAttr (EV_none.te ⟨a, 160, _, EV_loc (by rfl) (by rfl), put_same .., (by rw [hK]; kernel_rfl), (by simp), ?_⟩))
  rw [put_put]
  refine TXs_cons (TX_setAttr (TE_set0 ?g fun ce => ⟨a, 160, _, EV_loc (by rfl) (by rfl), put_same .., (by rw [hK]; kernel_rfl), (by simp), ?_⟩))
  case g => exact EV_built (v := .type "set") (by rw [hK]; kernel_rfl) (by kernel_rfl) (by rfl)
  rw [put_put]
  exact TXs_nil ⟨rfl, h a ce ha⟩
end
end J
end

section
open PySem PySem.W PySem.Calls PyProof.Rows
set_option Elab.async false
set_option linter.unusedVariables false
set_option maxRecDepth 100000
namespace J
def refs (l : List Addr) : List Value := l.map .ref
/-- a registry: its parts, and what it knows -/
structure Reg (σ : Ab) (r ds dk dc : Addr) (ns nk nc : Nat) (LF : Str → Option Addr) (S : Str → List Addr) (Kf : List UInt8 → Option Addr) (Cf : Int → Bool) : Prop where
  r : σ r = some (.inst 239 [("_ca_lookup", .ref dc), ("_key_identifier_map", .ref dk), ("_subject_map", .ref ds)])
  s : σ ds = some (.dS (fun x => (LF x).map .ref) ns)
  k : σ dk = some (.dB (fun x => (Kf x).map .ref) nk)
  c : σ dc = some (.dI (fun i => if Cf i then some (.bool true) else none) nc)
  l : ∀ x L, LF x = some L → σ L = some (.list (refs (S x)))
  z : ∀ x, LF x = none → S x = []
  i : ∀ x y L, LF x = some L → LF y = some L → x = y
structure CI where
  text : Str
  ser : Int
  kid : Option (List UInt8)
  sha : List UInt8
  num : Int
def kidV : Option (List UInt8) → Value
  | none => .none
  | some b => .bytes b.toArray 0
/-- a certificate -/
def Crt (σ : Ab) (a : Addr) (c : CI) : Prop := ∃ fs na ka kfs, σ a = some (.inst 160 fs) ∧ fs.lookup ("subject" : Str) = some (.ref na) ∧ σ na = some (.inst 87 (nameFs c.text)) ∧ fs.lookup ("serial_number" : Str) = some (.int c.ser 0) ∧ fs.lookup ("key_identifier" : Str) = some (kidV c.kid) ∧
  fs.lookup ("public_key" : Str) = some (.ref ka) ∧ σ ka = some (.inst 108 kfs) ∧ kfs.lookup ("sha1" : Str) = some (.bytes c.sha.toArray 0) ∧ fs.lookup ("signature" : Str) = some (.int c.num 0) ∧ fs.lookup ("sha256" : Str) = some (.int c.num 0)
theorem Crt.elim {σ : Ab} {a : Addr} {c : CI} {b : Prop} (h : Crt σ a c) (k : ∀ (fs : Loc) (na ka : Addr) (kfs : Loc), σ a = some (.inst 160 fs) → fs.lookup ("subject" : Str) = some (.ref na) → σ na = some (.inst 87 (nameFs c.text)) → fs.lookup ("serial_number" : Str) = some (.int c.ser 0) → fs.lookup ("key_identifier" : Str) = some (kidV c.kid) →
  fs.lookup ("public_key" : Str) = some (.ref ka) → σ ka = some (.inst 108 kfs) → kfs.lookup ("sha1" : Str) = some (.bytes c.sha.toArray 0) → fs.lookup ("signature" : Str) = some (.int c.num 0) → fs.lookup ("sha256" : Str) = some (.int c.num 0) → b) : b := by
  obtain ⟨fs, na, ka, kfs, c1, c2, c3, c4, c5, c6, c7, c8, c9, c10⟩ := h
  exact k fs na ka kfs c1 c2 c3 c4 c5 c6 c7 c8 c9 c10
section
variable {C : Cx} {A : Around} {env : Env} {m : Loc} {σ σ₀ σ' : Ab} {s s₀ s' : Shared} {P : Params}
theorem isca (hK : C.K = Mine.hd.heap_39 P) (hA : A.depth + 5 < recursionLimit) {r ds dk dc : Addr} {ns nk nc : Nat} {LF : Str → Option Addr} {S : Str → List Addr} {Kf : List UInt8 → Option Addr} {Cf : Int → Bool} (G : Reg σ r ds dk dc ns nk nc LF S Kf Cf) {a : Addr} {c : CI} (hc : Crt σ a c) {Q : Value → Ab → Prop}
    (h : Q (.bool (Cf c.num)) σ) : CallR C A (.ref 193) [.ref r, .ref a] σ Q := CallR.tc fun us hu => by
  obtain ⟨u, v, rfl, hu', hv⟩ := map_two hu
  refine Crt.elim (hc) fun fs na ka kfs c1 c2 c3 c4 c5 c6 c7 c8 c9 c10 => ?_
  refine TC_fn (C := C) (binds := [("self", u), ("cert", v)]) (m := [("cert", .ref a), ("self", .ref r)]) (by omega) (by rw [hK]; rfl) (by rw [hK]; kernel_rfl) rfl (fun S => by rw [hK]; kernel_rfl) (by decide +kernel) (by simp; decide +kernel) (by simp [locOf, hu', hv]) fun L A' hd hh hun => ?_
  refine TXs_cons (TX_ret ?_)
  refine TE_bmeth (ao := .dI _ nc) (EV_attr (EV_loc (by rfl) (by rfl)) G.r (by rfl) (by rw [hK]; kernel_rfl)) G.c rfl PySem.F.plainAttrs_dict PySem.F.slot_dict_get PySem.F.type_dict_get ?_
  refine TAs_cons ((EV_attr (EV_loc (by rfl) (by rfl)) c1 c9 (by rw [hK]; kernel_rfl)).te ?_)
  refine TAs_cons (EV_bool.te (TAs_nil ?_))
  refine call_get2I G.c ?_
  cases hq : Cf c.num with
  | true => simp only [hq, if_true, Option.getD_some]; rw [hq] at h; exact h
  | false => simp only [hq, Bool.false_eq_true, if_false, Option.getD_none]; rw [hq] at h; exact h
theorem bykey (hK : C.K = Mine.hd.heap_39 P) (hA : A.depth + 5 < recursionLimit) {r ds dk dc : Addr} {ns nk nc : Nat} {LF : Str → Option Addr} {S : Str → List Addr} {Kf : List UInt8 → Option Addr} {Cf : Int → Bool} (G : Reg σ r ds dk dc ns nk nc LF S Kf Cf) {x : List UInt8} {Q : Value → Ab → Prop}
    (h : Q (match Kf x with | some a => .ref a | none => .none) σ) : CallR C A (.ref 207) [.ref r, .bytes x.toArray 0] σ Q := CallR.tc fun us hu => by
  obtain ⟨u, v, rfl, hu', hv⟩ := map_two hu
  refine TC_fn (C := C) (binds := [("self", u), ("key_identifier", v)]) (m := [("key_identifier", .bytes x.toArray 0), ("self", .ref r)]) (by omega) (by rw [hK]; rfl) (by rw [hK]; kernel_rfl) rfl (fun S => by rw [hK]; kernel_rfl) (by decide +kernel) (by simp; decide +kernel) (by simp [locOf, hu', hv]) fun L A' hd hh hun => ?_
  refine TXs_cons (TX_ifB (b := false) ?_ (fun q => by cases q) fun _ => TXs_nil ?_)
  · exact EB_not (b := true) (EB_bcall (EV_built (v := .builtin "isinstance") (by rw [hK]; kernel_rfl) (by kernel_rfl) (by rfl)) fun Q q => TAs_cons ((EV_loc (by rfl) (by rfl)).te (TAs_cons ((EV_built (v := .type "bytes") (by rw [hK]; kernel_rfl) (by kernel_rfl) (by rfl)).te (TAs_nil (call_isBytes (by rw [hK]; kernel_rfl) q))))))
  · refine TXs_cons (TX_ret ?_)
    refine TE_bmeth (ao := .dB _ nk) (EV_attr (EV_loc (by rfl) (by rfl)) G.r (by rfl) (by rw [hK]; kernel_rfl)) G.k rfl PySem.F.plainAttrs_dict PySem.F.slot_dict_get PySem.F.type_dict_get ?_
    refine TAs_cons ((EV_loc (by rfl) (by rfl)).te (TAs_nil ?_))
    refine call_get1B G.k ?_
    cases hq : Kf x with
    | some a => rw [hq] at h; exact h
    | none => rw [hq] at h; exact h
end
end J
end

section
open PySem PySem.W PySem.Calls PyProof.Rows
set_option Elab.async false
set_option linter.unusedVariables false
set_option maxRecDepth 100000
namespace J
section
variable {C : Cx} {A : Around} {env : Env} {m : Loc} {σ σ₀ σ' : Ab} {s s₀ s' : Shared} {P : Params}
variable {r ds dk dc : Addr} {ns nk nc : Nat} {LF : Str → Option Addr} {S : Str → List Addr} {Kf : List UInt8 → Option Addr} {Cf : Int → Bool}
theorem ne_of_ao {a b : Addr} {o o' : AO} (ha : σ a = some o) (hb : σ b = some o') (h : o ≠ o') : a ≠ b := by
  rintro rfl; rw [ha] at hb; exact h (Option.some.inj hb)
theorem ne_of_new {a b : Addr} {o : AO} (ha : σ a = some o) (hb : σ b = none) : a ≠ b := by
  rintro rfl; rw [ha] at hb; cases hb
theorem Reg.kd (G : Reg σ r ds dk dc ns nk nc LF S Kf Cf) : dk ≠ ds := ne_of_ao G.k G.s (by intro q; cases q)
theorem Reg.cd (G : Reg σ r ds dk dc ns nk nc LF S Kf Cf) : dc ≠ ds := ne_of_ao G.c G.s (by intro q; cases q)
theorem Reg.ck (G : Reg σ r ds dk dc ns nk nc LF S Kf Cf) : dc ≠ dk := ne_of_ao G.c G.k (by intro q; cases q)
theorem Reg.ld (G : Reg σ r ds dk dc ns nk nc LF S Kf Cf) {x : Str} {L : Addr} (h : LF x = some L) : L ≠ ds := ne_of_ao (G.l x L h) G.s (by intro q; cases q)
theorem Reg.lk (G : Reg σ r ds dk dc ns nk nc LF S Kf Cf) {x : Str} {L : Addr} (h : LF x = some L) : L ≠ dk := ne_of_ao (G.l x L h) G.k (by intro q; cases q)
theorem Reg.lc (G : Reg σ r ds dk dc ns nk nc LF S Kf Cf) {x : Str} {L : Addr} (h : LF x = some L) : L ≠ dc := ne_of_ao (G.l x L h) G.c (by intro q; cases q)
theorem Reg.rd (G : Reg σ r ds dk dc ns nk nc LF S Kf Cf) : r ≠ ds := ne_of_ao G.r G.s (by intro q; cases q)
theorem Reg.rk (G : Reg σ r ds dk dc ns nk nc LF S Kf Cf) : r ≠ dk := ne_of_ao G.r G.k (by intro q; cases q)
theorem Reg.rc (G : Reg σ r ds dk dc ns nk nc LF S Kf Cf) : r ≠ dc := ne_of_ao G.r G.c (by intro q; cases q)
theorem Reg.rl (G : Reg σ r ds dk dc ns nk nc LF S Kf Cf) {x : Str} {L : Addr} (h : LF x = some L) : r ≠ L := ne_of_ao G.r (G.l x L h) (by intro q; cases q)

/-- subject_map[x] = [] -/
theorem Reg.newList (G : Reg σ r ds dk dc ns nk nc LF S Kf Cf) {x : Str} {D : Addr} (hx : LF x = none) (hD : σ D = none) :
    Reg ((σ.put D (.list [])).put ds (.dS (fun y => if y = x then some (.ref D) else (LF y).map .ref) (ns + 1))) r ds dk dc (ns + 1) nk nc (fun y => if y = x then some D else LF y) S Kf Cf := by
  have nD : ∀ {b o}, σ b = some o → b ≠ D := fun h => ne_of_new h hD
  refine ⟨?_, ?_, ?_, ?_, fun y L hy => ?_, fun y hy => ?_, fun y z L hy hz => ?_⟩
  · rw [put_ne G.rd, put_ne (nD G.r)]; exact G.r
  · rw [put_same]
    congr 2
    funext y
    by_cases q : y = x
    · simp [q]
    · simp [q]
  · rw [put_ne G.kd, put_ne (nD G.k)]; exact G.k
  · rw [put_ne G.cd, put_ne (nD G.c)]; exact G.c
  · have hDd : D ≠ ds := Ne.symm (nD G.s)
    by_cases q : y = x
    · simp only [q, if_true] at hy; cases hy
      rw [put_ne hDd, put_same, q, G.z x hx]; rfl
    · simp only [if_neg q] at hy
      rw [put_ne (G.ld hy), put_ne (nD (G.l y L hy))]; exact G.l y L hy
  · by_cases q : y = x
    · simp only [q, if_true] at hy; cases hy
    · simp only [if_neg q] at hy; exact G.z y hy
  · by_cases q : y = x
    · by_cases q' : z = x
      · rw [q, q']
      · simp only [q, if_true] at hy; simp only [if_neg q'] at hz; cases hy
        exact absurd rfl (nD (G.l z _ hz))
    · by_cases q' : z = x
      · simp only [q', if_true] at hz; simp only [if_neg q] at hy; cases hz
        exact absurd rfl (nD (G.l y _ hy))
      · simp only [if_neg q] at hy; simp only [if_neg q'] at hz; exact G.i y z L hy hz
/-- subject_map[x].append(a) -/
theorem Reg.append (G : Reg σ r ds dk dc ns nk nc LF S Kf Cf) {x : Str} {L a : Addr} (hx : LF x = some L) :
    Reg (σ.put L (.list (refs (S x) ++ [.ref a]))) r ds dk dc ns nk nc LF (fun y => if y = x then S y ++ [a] else S y) Kf Cf := by
  refine ⟨?_, ?_, ?_, ?_, fun y L' hy => ?_, fun y hy => ?_, G.i⟩
  · rw [put_ne (G.rl hx)]; exact G.r
  · rw [put_ne (Ne.symm (G.ld hx))]; exact G.s
  · rw [put_ne (Ne.symm (G.lk hx))]; exact G.k
  · rw [put_ne (Ne.symm (G.lc hx))]; exact G.c
  · by_cases q : y = x
    · subst q
      rw [hx] at hy; cases hy
      rw [put_same]; simp [refs]
    · have : L' ≠ L := by rintro rfl; exact q (G.i _ _ _ hy hx)
      simp only [if_neg q]
      rw [put_ne this]; exact G.l y L' hy
  · by_cases q : y = x
    · rw [q, hx] at hy; cases hy
    · simp only [if_neg q]; exact G.z y hy
/-- key_map[x] = a -/
theorem Reg.key (G : Reg σ r ds dk dc ns nk nc LF S Kf Cf) {x : List UInt8} {a : Addr} :
    Reg (σ.put dk (.dB (fun y => if y = x then some (.ref a) else (Kf y).map .ref) (nk + 1))) r ds dk dc ns (nk + 1) nc LF S (fun y => if y = x then some a else Kf y) Cf := by
  refine ⟨?_, ?_, ?_, ?_, fun y L hy => ?_, G.z, G.i⟩
  · rw [put_ne G.rk]; exact G.r
  · rw [put_ne (Ne.symm G.kd)]; exact G.s
  · rw [put_same]
    congr 2
    funext y
    by_cases q : y = x
    · simp [q]
    · simp [q]
  · rw [put_ne G.ck]; exact G.c
  · rw [put_ne (G.lk hy)]; exact G.l y L hy
/-- ca_lookup[x] = True -/
theorem Reg.ca (G : Reg σ r ds dk dc ns nk nc LF S Kf Cf) {x : Int} :
    Reg (σ.put dc (.dI (fun y => if y = x then some (.bool true) else if Cf y then some (.bool true) else none) (nc + 1))) r ds dk dc ns nk (nc + 1) LF S Kf (fun y => if y = x then true else Cf y) := by
  refine ⟨?_, ?_, ?_, ?_, fun y L hy => ?_, G.z, G.i⟩
  · rw [put_ne G.rc]; exact G.r
  · rw [put_ne (Ne.symm G.cd)]; exact G.s
  · rw [put_ne (Ne.symm G.ck)]; exact G.k
  · rw [put_same]
    congr 2
    funext y
    by_cases q : y = x
    · simp [q]
    · simp [q]
  · rw [put_ne (G.lc hy)]; exact G.l y L hy
/-- the certificates are untouched -/
theorem Crt.kp {a : Addr} {c : CI} (h : Crt σ a c) {P : Addr → Prop} (k : Kps σ σ' P) (hP : ∀ b K fs, σ b = some (.inst K fs) → ¬ P b) : Crt σ' a c := by
  obtain ⟨fs, na, ka, kfs, c1, c2, c3, c4, c5, c6, c7, c8, c9, c10⟩ := h
  exact ⟨fs, na, ka, kfs, k _ _ c1 (hP _ _ _ c1), c2, k _ _ c3 (hP _ _ _ c3), c4, c5, c6, k _ _ c7 (hP _ _ _ c7), c8, c9, c10⟩
theorem Kps.refl {P : Addr → Prop} : Kps σ σ P := fun a o h _ => h
theorem Kps.put {a : Addr} {o : AO} {P : Addr → Prop} (h : P a ∨ σ a = none) : Kps σ (σ.put a o) P := fun b o' e n => by
  rw [put_ne]; exact e
  rintro rfl
  rcases h with h | h
  · exact n h
  · rw [h] at e; cases e
theorem Kps.trans {σ'' : Ab} {P : Addr → Prop} (x : Kps σ σ' P) (y : Kps σ' σ'' P) : Kps σ σ'' P := fun a o e n => y a o (x a o e n) n
/-- the places that a registry may turn -/
def Foot (ds dk dc : Addr) (LF : Str → Option Addr) (a : Addr) : Prop := a = ds ∨ a = dk ∨ a = dc ∨ ∃ x, LF x = some a
theorem Reg.foot (G : Reg σ r ds dk dc ns nk nc LF S Kf Cf) {b K : Addr} {fs : Loc} (h : σ b = some (.inst K fs)) : ¬ Foot ds dk dc LF b := by
  rintro (rfl | rfl | rfl | ⟨x, hx⟩)
  · rw [G.s] at h; cases h
  · rw [G.k] at h; cases h
  · rw [G.c] at h; cases h
  · rw [G.l x b hx] at h; cases h
end
end J
end

section
open PySem PySem.W PySem.Calls PyProof.Rows
set_option Elab.async false
set_option linter.unusedVariables false
set_option maxRecDepth 100000
namespace J
section
variable {C : Cx} {A : Around} {env : Env} {m : Loc} {σ σ₀ σ' : Ab} {s s₀ s' : Shared} {P : Params}
variable {LF' : Str → Option Addr}
variable {r ds dk dc : Addr} {ns nk nc : Nat} {LF : Str → Option Addr} {S : Str → List Addr} {Kf : List UInt8 → Option Addr} {Cf : Int → Bool}
theorem Tru.bytes {b : List UInt8} (hb : b ≠ []) (hn : b.length ≤ 1000) : Tru C A σ (.bytes b.toArray 0) true := fun u hu s R E S k => by
  obtain ⟨t, rfl⟩ := nv_to_bytes hu
  refine truthy_bytes (b := b.toArray) (by simp; omega) ?_
  have : (((b.toArray.size : Nat) : Int) != 0) = true := by
    cases b with
    | nil => exact absurd rfl hb
    | cons x r => simp; omega
  rw [this]; exact k _
theorem refs_get {l : List Addr} {i : Nat} {u : Value} (hi : i < (refs l).length) (hu : nv u = (refs l).getD i .none) : ∃ b, l[i]? = some b ∧ u = .ref b := by
  have hi' : i < l.length := by simpa [refs] using hi
  refine ⟨l[i], List.getElem?_eq_getElem hi', ?_⟩
  have : (refs l).getD i .none = .ref l[i] := by simp [refs, List.getD_eq_getElem?_getD, hi']
  rw [this] at hu
  exact nv_to_ref hu

theorem Kps.put' {a : Addr} {o : AO} {P : Addr → Prop} (k : Kps σ σ' P) (h : P a ∨ σ a = none) : Kps σ (σ'.put a o) P := fun b o' e n => by
  rw [put_ne]; exact k b o' e n
  rintro rfl
  rcases h with h | h
  · exact n h
  · rw [h] at e; cases e
theorem Reg.where (hLF : ∀ x, LF' x = LF x ∨ ∃ L, LF' x = some L ∧ σ L = none) {x : Str} {L : Addr} (h : LF' x = some L) : Foot ds dk dc LF L ∨ σ L = none := by
  rcases hLF x with q | ⟨L', q, n⟩
  · exact .inl (.inr (.inr (.inr ⟨x, q ▸ h⟩)))
  · rw [h] at q; cases q; exact .inr n
theorem addcert (hK : C.K = Mine.hd.heap_39 P) (hA : A.depth + 5 < recursionLimit) (hh : A.handled = none) (G : Reg σ r ds dk dc ns nk nc LF S Kf Cf) (hns : ns ≤ 1000) (hnk : nk ≤ 1000) (hl : ∀ x, (S x).length ≤ 1000)
    {a : Addr} {c : CI} (hc : Crt σ a c) (hk0 : ∀ b, c.kid = some b → b ≠ [] ∧ b.length ≤ 1000) (ser : Addr → Int) (hS : ∀ b ∈ S c.text, ∃ cb, Crt σ b cb ∧ cb.ser = ser b) {Q : Value → Ab → Prop}
    (hold : (∃ b ∈ S c.text, ser b = c.ser) → Q (.bool false) σ)
    (hnew : (¬ ∃ b ∈ S c.text, ser b = c.ser) → ∀ σ' LF' ns', ns' ≤ ns + 1 → Reg σ' r ds dk dc ns' (nk + 1) nc LF' (fun y => if y = c.text then S y ++ [a] else S y) (fun y => if y = c.kid.getD c.sha then some a else Kf y) Cf →
      (∀ x, LF' x = LF x ∨ ∃ L, LF' x = some L ∧ σ L = none) → Kps σ σ' (Foot ds dk dc LF) → Q (.bool true) σ') : CallR C A (.ref 200) [.ref r, .ref a] σ Q := CallR.tc fun us hu => by
  obtain ⟨u, v, rfl, hu', hv⟩ := map_two hu
  refine Crt.elim (hc) fun fs na ka kfs c1 c2 c3 c4 c5 c6 c7 c8 c9 c10 => ?_
  refine TC_fn (C := C) (binds := [("self", u), ("cert", v)]) (m := [("cert", .ref a), ("self", .ref r)]) (by omega) (by rw [hK]; rfl) (by rw [hK]; kernel_rfl) rfl (fun S => by rw [hK]; kernel_rfl) (by decide +kernel) (by simp; decide +kernel) (by simp [locOf, hu', hv]) fun L A' hd hh' hun => ?_
  have hhA : A'.handled = none := hh'.trans hh
  refine TXs_cons (TX_ifB (b := false) ?_ (fun q => by cases q) fun _ => TXs_nil ?_)
  · exact EB_not (b := true) (EB_bcall (EV_built (v := .builtin "isinstance") (by rw [hK]; kernel_rfl) (by kernel_rfl) (by rfl)) fun Q q => TAs_cons ((EV_loc (by rfl) (by rfl)).te (TAs_cons ((EV_glob (v := .ref 160) (by rw [hK]; kernel_rfl) (by rfl)).te (TAs_nil (call_isinst c1 (by rw [hK]; kernel_rfl) q))))))
  refine TXs_cons (TX_assign (.inl (by rfl)) ((EV_attr (EV_attr (EV_loc (by rfl) (by rfl)) c1 c2 (by rw [hK]; kernel_rfl)) c3 (by rfl) (by rw [hK]; kernel_rfl)).te ?_))
  refine TXs_seq (fun m₁ σ₁ => (¬ ∃ b ∈ S c.text, ser b = c.ser) ∧ Ext [("hashable", .str c.text 0), ("cert", .ref a), ("self", .ref r)] m₁ ∧ Kps σ σ₁ (Foot ds dk dc LF) ∧ ∃ ns₁ LF₁ L₁, ns₁ ≤ ns + 1 ∧ Reg σ₁ r ds dk dc ns₁ nk nc LF₁ S Kf Cf ∧ LF₁ c.text = some L₁ ∧ (∀ x, LF₁ x = LF x ∨ ∃ L, LF₁ x = some L ∧ σ L = none))
    (TX_ifB (EB_cmp (EV_loc (by rfl) (by rfl)) (EV_attr (EV_loc (by rfl) (by rfl)) G.r (by rfl) (by rw [hK]; kernel_rfl)) (Cmp.notIn_dS G.s)) ?_ ?_) ?_
  · intro hq
    have hq' : LF c.text = none := by cases z : LF c.text with | none => rfl | some L => rw [z] at hq; cases hq
    refine TXs_cons (TX_setS (TE_list (TAs_nil ⟨by decide, fun D hD => ⟨EV_attr (EV_loc (by rfl) (by rfl)) (put_new G.r hD) (by rfl) (by rw [hK]; kernel_rfl), EV_loc (by rfl) (by rfl), put_new G.s hD, Nat.le_trans hns (by decide), ?_⟩⟩)))
    refine TXs_nil ⟨?_, Ext.refl, ?_, ns + 1, _, D, Nat.le_refl _, G.newList hq' hD, by simp, fun x => ?_⟩
    · rw [G.z _ hq']; rintro ⟨b, hb, _⟩; cases hb
    · exact (Kps.put (.inr hD)).trans (Kps.put (.inl (.inl rfl)))
    · by_cases q : x = c.text
      · exact .inr ⟨D, by simp [q], hD⟩
      · exact .inl (by simp [q])
  · intro hq
    obtain ⟨L₁, hL⟩ : ∃ L, LF c.text = some L := by cases z : LF c.text with | none => rw [z] at hq; cases hq | some L => exact ⟨L, rfl⟩
    refine TXs_cons (TX_assign (.inl (by rfl)) ((EV_attr (EV_loc (by rfl) (by rfl)) c1 c4 (by rw [hK]; kernel_rfl)).te ?_))
    refine TXs_cons (TX_for (Src.list hhA (EV_item (EV_attr (EV_loc (by rfl) (by rfl)) G.r (by rfl) (by rw [hK]; kernel_rfl)) (EV_loc (by rfl) (by rfl)) (Itm.dS G.s (by rw [hL]; rfl))) (G.l _ _ hL)) (G.l _ _ hL)
      (fun i m' σ' => σ' = σ ∧ Ext [("serial_number", .int c.ser 0), ("hashable", .str c.text 0), ("cert", .ref a), ("self", .ref r)] m' ∧ ∀ b ∈ (S c.text).take i, ser b ≠ c.ser) ⟨rfl, Ext.refl, by simp⟩ ?_ ?_)
    · rintro i m' σ' u hi hu _ ⟨rfl, he, hb⟩
      obtain ⟨b, hbi, rfl⟩ := refs_get hi hu
      have hbm : b ∈ S c.text := List.mem_of_getElem? hbi
      obtain ⟨cb, hcb, hser⟩ := hS b hbm
      refine Crt.elim (hcb) fun gs nb kb kgs d1 d2 d3 d4 d5 d6 d7 d8 d9 d10 => ?_
      refine TS.pre he (Sub.refl _) (TS_name (.inl (by rfl)) ?_)
      refine TXs_cons (TX_ifB (EB_cmp (EV_attr (EV_loc (by rfl) (by rfl)) d1 d4 (by rw [hK]; kernel_rfl)) (EV_loc (by rfl) (by rfl)) (Cmp.eq_int _ _)) ?_ ?_)
      · intro hq
        exact TXs_cons (TX_ret (EV_bool.te (hold ⟨b, hbm, by rw [← hser]; simpa using hq⟩)))
      · intro hq
        refine TXs_nil (TXs_nil ⟨G.l _ _ hL, rfl, Ext.cons Ext.refl (by rfl), fun b' hb' => ?_⟩)
        rw [List.take_add_one, hbi] at hb'
        rcases List.mem_append.mp hb' with h1 | h1
        · exact hb b' h1
        · obtain rfl : b' = b := by simpa using h1
          rw [← hser]; simpa using hq
    · rintro m' σ' _ ⟨rfl, he, hb⟩
      refine TXs_nil ⟨?_, fun x v hx => he x v ?_, Kps.refl, ns, LF, L₁, Nat.le_succ _, G, hL, fun x => .inl rfl⟩
      · rintro ⟨b, hbm, hbs⟩
        refine hb b ?_ hbs
        rw [List.take_of_length_le (by simp [refs])]; exact hbm
      · rw [lookup_cons_ne]
        · exact hx
        · rintro rfl; cases hx
  · rintro m₁ σ₁ ⟨hno, he, hkp, ns₁, LF₁, L₁, hn₁, G₁, hL₁, hLF⟩
    refine he.pre ?_
    have hc₁ := hc.kp hkp fun b K fs hb => G.foot hb
    refine Crt.elim (hc₁) fun fs na ka kfs c1 c2 c3 c4 c5 c6 c7 c8 c9 c10 => ?_
    refine TXs_cons (TX_expr (TE_bmeth (ao := .list _) (EV_item (EV_attr (EV_loc (by rfl) (by rfl)) G₁.r (by rfl) (by rw [hK]; kernel_rfl)) (EV_loc (by rfl) (by rfl)) (Itm.dS G₁.s (by rw [hL₁]; rfl))) (G₁.l _ _ hL₁) rfl PySem.F.plainAttrs_list PySem.F.slot_list_append PySem.F.type_list_append
      (TAs_cons ((EV_loc (by rfl) (by rfl)).te (TAs_nil (call_append (G₁.l _ _ hL₁) (Nat.le_trans (by simpa [refs] using hl c.text) (show 1000 ≤ sizeLine by decide)) ?_))))))
    have G₂ := G₁.append (a := a) hL₁
    have k₂ := hkp.put' (o := .list (refs (S c.text) ++ [.ref a])) (Reg.where (ds := ds) (dk := dk) (dc := dc) hLF hL₁)
    have hc₂ := hc.kp k₂ fun b K fs hb => G.foot hb
    refine Crt.elim (hc₂) fun fs na ka kfs c1 c2 c3 c4 c5 c6 c7 c8 c9 c10 => ?_
    have k₃ := fun o => k₂.put' (o := o) (a := dk) (.inl (.inr (.inl rfl)))
    refine TXs_cons (TX_ifB (b := c.kid.isSome) (EB_tru (EV_attr (EV_loc (by rfl) (by rfl)) c1 c5 (by rw [hK]; kernel_rfl) (by cases c.kid <;> rfl)) ?_) ?_ ?_)
    · cases hkid : c.kid with
      | none => exact Tru.none
      | some b => exact Tru.bytes (hk0 b hkid).1 (hk0 b hkid).2
    · intro hq
      obtain ⟨b, hb⟩ := Option.isSome_iff_exists.mp hq
      rw [hb] at c5
      refine TXs_cons (TX_setB (x := b) ((EV_loc (by rfl) (by rfl)).te ⟨EV_attr (EV_loc (by rfl) (by rfl)) G₂.r (by rfl) (by rw [hK]; kernel_rfl), EV_attr (EV_loc (by rfl) (by rfl)) c1 c5 (by rw [hK]; kernel_rfl), G₂.k, Nat.le_trans hnk (by decide), ?_⟩))
      refine TXs_nil (TXs_cons (TX_ret (EV_bool.te (hnew hno _ LF₁ ns₁ hn₁ ?_ hLF (k₃ _)))))
      have G₃ := G₂.key (x := b) (a := a)
      rw [hb]; exact G₃
    · intro hq
      have hb : c.kid = none := by cases z : c.kid with | none => rfl | some b => rw [z] at hq; cases hq
      refine TXs_cons (TX_setB (x := c.sha) ((EV_loc (by rfl) (by rfl)).te ⟨EV_attr (EV_loc (by rfl) (by rfl)) G₂.r (by rfl) (by rw [hK]; kernel_rfl), EV_attr (EV_attr (EV_loc (by rfl) (by rfl)) c1 c6 (by rw [hK]; kernel_rfl)) c7 c8 (by rw [hK]; kernel_rfl), G₂.k, Nat.le_trans hnk (by decide), ?_⟩))
      refine TXs_nil (TXs_cons (TX_ret (EV_bool.te (hnew hno _ LF₁ ns₁ hn₁ ?_ hLF (k₃ _)))))
      have G₃ := G₂.key (x := c.sha) (a := a)
      rw [hb]; exact G₃
end
end J
end

section
open PySem PySem.W PySem.Calls PyProof.Rows
set_option Elab.async false
set_option linter.unusedVariables false
set_option maxRecDepth 100000
namespace J
section
variable {C : Cx} {A : Around} {env : Env} {m : Loc} {σ σ₀ σ' : Ab} {s s₀ s' : Shared} {P : Params}
variable {LF' : Str → Option Addr}
variable {r ds dk dc : Addr} {ns nk nc : Nat} {LF : Str → Option Addr} {S : Str → List Addr} {Kf : List UInt8 → Option Addr} {Cf : Int → Bool}
theorem map_refs {us : List Value} {l : List Addr} (h : us.map nv = refs l) : us = refs l := by
  induction l generalizing us with
  | nil => simpa [refs] using h
  | cons a l ih =>
    rcases us with _ | ⟨u, us⟩
    · simp [refs] at h
    · obtain ⟨h1, h2⟩ := List.cons.inj h
      rw [nv_to_ref h1, ih (us := us) h2]; rfl
def wV : Option (Addr × CI) → Value
  | none => .none
  | some x => .ref x.1
def wL : Option (Addr × CI) → List Addr
  | none => []
  | some x => [x.1]
def isW (w : Option (Addr × CI)) (n : Int) : Bool := match w with
  | none => false
  | some x => decide (x.2.num = n)
theorem byname (hK : C.K = Mine.hd.heap_39 P) (hA : A.depth + 5 < recursionLimit) (hh : A.handled = none) (G : Reg σ r ds dk dc ns nk nc LF S Kf Cf) (hl : ∀ x, (S x).length ≤ 900)
    {na : Addr} {t : Str} (hna : σ na = some (.inst 87 (nameFs t))) (w : Option (Addr × CI)) (hw : ∀ x, w = some x → Crt σ x.1 x.2) (num : Addr → Int) (hS : ∀ b ∈ S t, ∃ cb, Crt σ b cb ∧ cb.num = num b) {Q : Value → Ab → Prop}
    (h : ∀ D res, σ D = none → (∀ b ∈ res, b ∈ S t) → ((∀ b ∈ S t, isW w (num b) = false) ∧ res = S t ∨ ∃ f ∈ S t, isW w (num f) = true ∧ res = f :: (S t).filter (fun b => !isW w (num b))) → Q (.ref D) (σ.put D (.list (refs res)))) : CallR C A (.ref 215) (refs ([r, na] ++ wL w)) σ Q := CallR.tc fun us hu => by
  obtain rfl := map_refs hu
  refine TC_fn (C := C) (binds := [("self", .ref r), ("name", .ref na), ("first_certificate", wV w)]) (m := [("first_certificate", wV w), ("name", .ref na), ("self", .ref r)]) (by omega) (by rw [hK]; rfl) (by rw [hK]; kernel_rfl) rfl (fun S => by rw [hK]; cases w <;> kernel_rfl) (by decide +kernel) (by simp; decide +kernel) (by cases w <;> rfl) fun L A' hd hh' hun => ?_
  have hhA : A'.handled = none := hh'.trans hh
  have hwt : Tru C A' σ (wV w) w.isSome := by
    cases w with
    | none => exact Tru.none
    | some x => obtain ⟨fs, na, ka, kfs, c1, _⟩ := hw x rfl; exact Tru.inst c1 (by rw [hK]; kernel_rfl) (by rw [hK]; kernel_rfl)
  refine TXs_cons (TX_ifB (b := false) ?_ (fun q => by cases q) fun _ => TXs_nil ?_)
  · exact EB_not (b := true) (EB_bcall (EV_built (v := .builtin "isinstance") (by rw [hK]; kernel_rfl) (by kernel_rfl) (by rfl)) fun Q q => TAs_cons ((EV_loc (by rfl) (by rfl)).te (TAs_cons ((EV_glob (v := .ref 87) (by rw [hK]; kernel_rfl) (by rfl)).te (TAs_nil (call_isinst hna (by rw [hK]; kernel_rfl) q))))))
  refine TXs_cons (TX_ifB (b := w.isSome && (false && true)) ?_ (fun q => by cases w <;> cases q) fun _ => TXs_nil ?_)
  · refine EB_and (EB_tru (EV_loc (by rfl) (by rfl)) hwt) fun hq => EB_and ?_ fun q => by cases q
    obtain ⟨x, rfl⟩ := Option.isSome_iff_exists.mp hq
    obtain ⟨fs, na', ka, kfs, c1, _⟩ := hw x rfl
    exact EB_not (b := true) (EB_bcall (EV_built (v := .builtin "isinstance") (by rw [hK]; kernel_rfl) (by kernel_rfl) (by rfl)) fun Q q => TAs_cons ((EV_loc (by rfl) (by rfl)).te (TAs_cons ((EV_glob (v := .ref 160) (by rw [hK]; kernel_rfl) (by rfl)).te (TAs_nil (call_isinst c1 (by rw [hK]; kernel_rfl) q))))))
  refine TXs_cons (TX_assign (.inl (by rfl)) ((EV_attr (EV_loc (by rfl) (by rfl)) hna (by rfl) (by rw [hK]; kernel_rfl)).te ?_))
  refine TXs_cons (TX_ifB (EB_cmp (EV_loc (by rfl) (by rfl)) (EV_attr (EV_loc (by rfl) (by rfl)) G.r (by rfl) (by rw [hK]; kernel_rfl)) (Cmp.notIn_dS G.s)) ?_ ?_)
  · intro hq
    have hq' : LF t = none := by cases z : LF t with | none => rfl | some L => rw [z] at hq; cases hq
    have hz := G.z _ hq'
    refine TXs_cons (TX_ret (TE_list (TAs_nil ⟨by decide, fun D hD => h D [] hD (fun b hb => by cases hb) (.inl ⟨(by rw [hz]; intro b hb; cases hb), hz.symm⟩)⟩)))
  · intro hq
    obtain ⟨L₁, hL⟩ : ∃ L, LF t = some L := by cases z : LF t with | none => rw [z] at hq; cases hq | some L => exact ⟨L, rfl⟩
    refine TXs_nil (TXs_cons (TX_assign (.inl (by rfl)) ((EV_item (EV_attr (EV_loc (by rfl) (by rfl)) G.r (by rfl) (by rw [hK]; kernel_rfl)) (EV_loc (by rfl) (by rfl)) (Itm.dS G.s (by rw [hL]; rfl))).te ?_)))
    refine TXs_cons (TX_assign (.inl (by rfl)) (EV_none.te ?_))
    refine TXs_cons (TX_assign (.inl (by rfl)) (TE_list (TAs_nil ⟨by decide, fun D hD => ?_⟩)))
    have hLD : L₁ ≠ D := ne_of_new (G.l _ _ hL) hD
    have hLs : ∀ o, (σ.put D o) L₁ = some (.list (refs (S t))) := fun o => by rw [put_ne hLD]; exact G.l _ _ hL
    refine TXs_seq (fun m₁ σ₁ => ∃ fv out, σ₁ = σ.put D (.list (refs out)) ∧ Ext [("output", .ref D), ("first", fv)] m₁ ∧ out = (S t).filter (fun b => !isW w (num b)) ∧ ((fv = .none ∧ ∀ b ∈ S t, isW w (num b) = false) ∨ ∃ f ∈ S t, fv = .ref f ∧ isW w (num f) = true))
      (TX_for (Src.list hhA (EV_loc (by rfl) (by rfl)) (hLs _)) (hLs _)
      (fun i m' σ' => ∃ fv out, σ' = σ.put D (.list (refs out)) ∧ Ext [("output", .ref D), ("first", fv), ("certs", .ref L₁), ("first_certificate", wV w)] m' ∧ out = ((S t).take i).filter (fun b => !isW w (num b)) ∧
        ((fv = .none ∧ ∀ b ∈ (S t).take i, isW w (num b) = false) ∨ ∃ f ∈ S t, fv = .ref f ∧ isW w (num f) = true)) ⟨.none, [], rfl, .add (by rfl) (.add (by rfl) (.add (by rfl) (.add (by rfl) .nil))), by simp, .inl ⟨rfl, by simp⟩⟩ ?_ ?_) ?_
    · rintro i m' σ' u hi hu _ ⟨fv, out, rfl, he, hout, hfv⟩
      obtain ⟨b, hbi, rfl⟩ := refs_get hi hu
      have hbm : b ∈ S t := List.mem_of_getElem? hbi
      obtain ⟨cb, hcb, hnum⟩ := hS b hbm
      have hcb' := hcb.kp (Kps.put (o := .list (refs out)) (P := fun _ => False) (.inr hD)) fun _ _ _ _ => id
      refine Crt.elim (hcb') fun gs nb kb kgs d1 d2 d3 d4 d5 d6 d7 d8 d9 d10 => ?_
      refine TS.pre he (Sub.refl _) (TS_name (.inl (by rfl)) ?_)
      have hout' : out.length ≤ 900 := by rw [hout]; exact Nat.le_trans (List.length_filter_le _ _) (Nat.le_trans (List.length_take_le' _ _) (hl t))
      have htk : (S t).take (i + 1) = (S t).take i ++ [b] := by rw [List.take_add_one, hbi]; rfl
      refine TXs_cons (TX_ifB (b := isW w (num b)) ?_ ?_ ?_)
      · cases w with
        | none => exact EB_and (b := false) (c := true) (EB_tru (EV_loc (by rfl) (by rfl)) Tru.none) fun q => by cases q
        | some x =>
          refine Crt.elim ((hw x rfl).kp (Kps.put (o := .list (refs out)) (P := fun _ => False) (.inr hD)) fun _ _ _ _ => id) fun ws nw kw kws w1 w2 w3 w4 w5 w6 w7 w8 w9 w10 => ?_
          have e : isW (some x) (num b) = (true && (decide (x.2.num = cb.num) && true)) := by rw [hnum]; simp [isW]
          rw [e]
          exact EB_and (EB_tru (EV_loc (by rfl) (by rfl)) (Tru.inst w1 (by rw [hK]; kernel_rfl) (by rw [hK]; kernel_rfl))) fun _ => EB_and (EB_cmp (EV_attr (EV_loc (by rfl) (by rfl)) w1 w10 (by rw [hK]; kernel_rfl)) (EV_attr (EV_loc (by rfl) (by rfl)) d1 d10 (by rw [hK]; kernel_rfl)) (Cmp.eq_int _ _)) fun _ => EB_and_nil
      · intro hq
        refine TXs_cons (TX_assign (.inl (by rfl)) ((EV_loc (by rfl) (by rfl)).te ?_))
        refine TXs_nil (TXs_nil ⟨hLs _, .ref b, out, rfl, ?_, ?_, .inr ⟨b, hbm, rfl, hq⟩⟩)
        · exact .add (by rfl) (.add (by rfl) (.add (by rfl) (.add (by rfl) .nil)))
        · rw [htk, List.filter_append, ← hout]; simp [hq]
      · intro hq
        refine TXs_cons (TX_expr (TE_bmeth (ao := .list _) (EV_loc (by rfl) (by rfl)) (put_same ..) rfl PySem.F.plainAttrs_list PySem.F.slot_list_append PySem.F.type_list_append
          (TAs_cons ((EV_loc (by rfl) (by rfl)).te (TAs_nil (call_append (put_same ..) (Nat.le_trans (by simpa [refs] using hout') (show 900 ≤ sizeLine by decide)) ?_))))))
        rw [put_put]
        refine TXs_nil (TXs_nil ⟨hLs _, fv, out ++ [b], by simp [refs], Ext.cons Ext.refl (by rfl), ?_, ?_⟩)
        · rw [htk, List.filter_append, ← hout]; simp [hq]
        · rcases hfv with ⟨h1, h2⟩ | h1
          · refine .inl ⟨h1, fun b' hb' => ?_⟩
            rw [htk] at hb'
            rcases List.mem_append.mp hb' with h3 | h3
            · exact h2 b' h3
            · obtain rfl : b' = b := by simpa using h3
              exact hq
          · exact .inr h1
    · rintro m' σ' _ ⟨fv, out, rfl, he, hout, hfv⟩
      have e : (S t).take (refs (S t)).length = S t := List.take_of_length_le (by simp [refs])
      rw [e] at hout hfv
      exact ⟨fv, out, rfl, .add (he _ _ (by rfl)) (.add (he _ _ (by rfl)) .nil), hout, hfv⟩
    · rintro m₁ σ₁ ⟨fv, out, rfl, he, hout, hfv⟩
      refine he.pre ?_
      have hout' : out.length ≤ 900 := by rw [hout]; exact Nat.le_trans (List.length_filter_le _ _) (hl t)
      rcases hfv with ⟨rfl, hno⟩ | ⟨f, hfS, rfl, hf⟩
      · refine TXs_cons (TX_ifB (b := false) (EB_tru (EV_loc (by rfl) (by rfl)) Tru.none) (fun q => by cases q) fun _ => TXs_nil ?_)
        refine TXs_cons (TX_ret ((EV_loc (by rfl) (by rfl)).te ?_))
        refine h D out hD (fun b hb => ?_) (.inl ⟨hno, ?_⟩)
        · rw [hout] at hb; exact (List.mem_filter.mp hb).1
        · rw [hout]; exact List.filter_eq_self.mpr fun b hb => by simp [hno b hb]
      · obtain ⟨cf, hcf, hnf⟩ := hS f hfS
        refine Crt.elim (hcf.kp (Kps.put (o := .list (refs out)) (P := fun _ => False) (.inr hD)) fun _ _ _ _ => id) fun gs nb kb kgs d1 d2 d3 d4 d5 d6 d7 d8 d9 d10 => ?_
        refine TXs_cons (TX_ifB (b := true) (EB_tru (EV_loc (by rfl) (by rfl)) (Tru.inst d1 (by rw [hK]; kernel_rfl) (by rw [hK]; kernel_rfl))) (fun _ => ?_) (fun q => by cases q))
        refine TXs_cons (TX_expr (TE_bmeth (ao := .list _) (EV_loc (by rfl) (by rfl)) (put_same ..) rfl PySem.F.plainAttrs_list PySem.F.slot_list_insert PySem.F.type_list_insert
          (TAs_cons (EV_int.te (TAs_cons ((EV_loc (by rfl) (by rfl)).te (TAs_nil (call_insert0 (put_same ..) (Nat.le_trans (by simpa [refs] using hout') (show 900 ≤ 1000 by decide)) ?_))))))))
        rw [put_put]
        refine TXs_nil (TXs_cons (TX_ret ((EV_loc (by rfl) (by rfl)).te ?_)))
        refine h D (f :: out) hD (fun b hb => ?_) (.inr ⟨f, hfS, hf, by rw [hout]⟩)
        rcases List.mem_cons.mp hb with rfl | hb
        · exact hfS
        · rw [hout] at hb; exact (List.mem_filter.mp hb).1
end
end J
end

section
open PySem PySem.W PySem.Calls PyProof.Rows
set_option Elab.async false
set_option linter.unusedVariables false
set_option maxRecDepth 100000
namespace J
section
variable {C : Cx} {A : Around} {env : Env} {m : Loc} {σ σ₀ σ' : Ab} {s s₀ s' : Shared} {P : Params}
theorem put_some {σ : Ab} {a D : Addr} {o o' : AO} (h : σ a = some o) (hD : σ D = none) : (σ.put D o') a = some o := put_new h hD
theorem validate (hK : C.K = Mine.hd.heap_39 P) (hA : A.depth + 5 < recursionLimit) (hh : A.handled = none) {l : List Addr} (hl : l.length ≤ 900) {r c : Addr} {x : Str} (hc : σ c = some (.list (refs l))) (hS : ∀ b ∈ l, ∃ fs, σ b = some (.inst 160 fs)) {Q : Value → Ab → Prop}
    (h : ∀ D, σ D = none → Q (.ref D) (σ.put D (.list (refs l)))) : CallR C A (.ref 186) [.ref r, .ref c, .str x 0] σ Q := CallR.tc fun us hu => by
  obtain ⟨u, v, w, rfl, hu', hv, hw⟩ := map_three hu
  refine TC_fn (C := C) (binds := [("self", u), ("certs", v), ("var_name", w)]) (m := [("var_name", .str x 0), ("certs", .ref c), ("self", .ref r)]) (by omega) (by rw [hK]; rfl) (by rw [hK]; kernel_rfl) rfl (fun S => by rw [hK]; kernel_rfl) (by decide +kernel) (by simp; decide +kernel) (by simp [locOf, hu', hv, hw]) fun L A' hd hh' hun => ?_
  have hhA : A'.handled = none := hh'.trans hh
  refine TXs_cons (TX_assign (.inl (by rfl)) (TE_list (TAs_nil ⟨by decide, fun D hD => ?_⟩)))
  have hcD : ∀ o, (σ.put D o) c = some (.list (refs l)) := fun o => put_some hc hD
  refine TXs_seq (fun m₁ σ₁ => σ₁ = σ.put D (.list (refs l)) ∧ Ext [("output", .ref D)] m₁)
    (TX_for (Src.list hhA (EV_loc (by rfl) (by rfl)) (hcD _)) (hcD _)
      (fun i m' σ' => σ' = σ.put D (.list (refs (l.take i))) ∧ Ext [("output", .ref D)] m') ⟨by simp [refs], .add (by rfl) .nil⟩ ?_ ?_) ?_
  · rintro i m' σ' u hi hu _ ⟨rfl, he⟩
    obtain ⟨b, hbi, rfl⟩ := refs_get hi hu
    have hbm : b ∈ l := List.mem_of_getElem? hbi
    obtain ⟨fs, hb⟩ := hS b hbm
    have htk : l.take (i + 1) = l.take i ++ [b] := by rw [List.take_add_one, hbi]; rfl
    refine TS.pre he (Sub.refl _) (TS_name (.inl (by rfl)) ?_)
    refine TXs_cons (TX_ifB (b := true) ?_ (fun _ => ?_) (fun q => by cases q))
    · exact EB_bcall (EV_built (v := .builtin "isinstance") (by rw [hK]; kernel_rfl) (by kernel_rfl) (by rfl)) fun Q q => TAs_cons ((EV_loc (by rfl) (by rfl)).te (TAs_cons ((EV_glob (v := .ref 160) (by rw [hK]; kernel_rfl) (by rfl)).te (TAs_nil (call_isinst (put_some hb hD) (by rw [hK]; kernel_rfl) q)))))
    · refine TXs_cons (TX_expr (TE_bmeth (ao := .list _) (EV_loc (by rfl) (by rfl)) (put_same ..) rfl PySem.F.plainAttrs_list PySem.F.slot_list_append PySem.F.type_list_append
          (TAs_cons ((EV_loc (by rfl) (by rfl)).te (TAs_nil (call_append (put_same ..) (Nat.le_trans (by simp [refs]; omega) (show 900 ≤ sizeLine by decide)) ?_))))))
      rw [put_put]
      exact TXs_nil (TXs_nil ⟨hcD _, by rw [htk]; simp [refs], .add (by rfl) .nil⟩)
  · rintro m' σ' _ ⟨rfl, he⟩
    have e : l.take (refs l).length = l := List.take_of_length_le (by simp [refs])
    exact ⟨by rw [e], he⟩
  · rintro m₁ σ₁ ⟨rfl, he⟩
    refine he.pre ?_
    exact TXs_cons (TX_ret ((EV_loc (by rfl) (by rfl)).te (h D hD)))
end
end J
end

section
open PySem PySem.W PySem.Calls PyProof.Rows
set_option Elab.async false
set_option linter.unusedVariables false
set_option maxRecDepth 100000
namespace J
def SO (I : Addr → CI) (l : List Addr) : Str → List Addr := fun t => l.filter fun b => decide ((I b).text = t)
def KO (I : Addr → CI) (l : List Addr) : List UInt8 → Option Addr := l.foldl (fun K b => match (I b).kid with | some k => fun y => if y = k then some b else K y | none => K) fun _ => none
def CO (I : Addr → CI) (l : List Addr) : Int → Bool := fun n => l.any fun b => decide ((I b).num = n)
theorem SO_step {I : Addr → CI} {l : List Addr} {b : Addr} : SO I (l ++ [b]) = fun y => if y = (I b).text then SO I l y ++ [b] else SO I l y := by
  funext y
  unfold SO
  rw [List.filter_append]
  by_cases q : y = (I b).text
  · simp [q]
  · have : ¬ (I b).text = y := fun z => q z.symm
    simp [q, this]
theorem KO_some {I : Addr → CI} {l : List Addr} {b : Addr} {k : List UInt8} (h : (I b).kid = some k) : (fun y => if y = k then some b else KO I l y) = KO I (l ++ [b]) := by
  funext y
  unfold KO
  rw [List.foldl_append]
  simp [h]
theorem KO_none {I : Addr → CI} {l : List Addr} {b : Addr} (h : (I b).kid = none) : KO I (l ++ [b]) = KO I l := by
  unfold KO
  rw [List.foldl_append]
  simp [h]
theorem CO_step {I : Addr → CI} {l : List Addr} {b : Addr} : (fun y => if y = (I b).num then true else CO I l y) = CO I (l ++ [b]) := by
  funext y
  unfold CO
  rw [List.any_append]
  by_cases q : y = (I b).num
  · simp [q]
  · have : ¬ (I b).num = y := fun z => q z.symm
    simp [q, this]
/-- the dicts of a new registry -/
def F3 (ds dk dc : Addr) (a : Addr) : Prop := a = ds ∨ a = dk ∨ a = dc
section
variable {C : Cx} {A : Around} {env : Env} {m : Loc} {σ σ₀ σ' : Ab} {s s₀ s' : Shared} {P : Params}
theorem Kps.none {P : Addr → Prop} {D : Addr} (k : Kps σ σ' P) (h : σ' D = Option.none) (n : ¬ P D) : σ D = Option.none := by
  cases q : σ D with
  | none => rfl
  | some o => rw [k D o q n] at h; cases h
theorem Cmp.isNot_ref {a : Addr} : Cmp C A σ .IsNot (.ref a) .none true := fun a' b' ha hb s R E S k => by
  obtain rfl := nv_to_ref ha
  obtain rfl := nv_to_none hb
  exact wpAny_isNot_plain rfl (k _)
theorem Cmp.is_ref {a : Addr} : Cmp C A σ .Is (.ref a) .none false := fun a' b' ha hb s R E S k => by
  obtain rfl := nv_to_ref ha
  obtain rfl := nv_to_none hb
  exact wpAny_is_plain rfl (k _)
set_option maxHeartbeats 4000000 in
theorem reg_make (hK : C.K = Mine.hd.heap_39 P) (hA : A.depth + 9 < recursionLimit) (hh : A.handled = none) {I : Addr → CI} {lr le lo : List Addr} {cr ce co : Addr} (hlen : (lr ++ le).length + lo.length ≤ 900)
    (hI0 : ∀ b ∈ (lr ++ le) ++ lo, Crt σ b (I b)) (hk0 : ∀ b y, (I b).kid = some y → y ≠ [] ∧ y.length ≤ 1000) (hr : σ cr = some (.list (refs lr))) (he0 : σ ce = some (.list (refs le))) (ho : σ co = some (.list (refs lo))) {Q : Value → Ab → Prop}
    (h : ∀ a ds dk dc σ' ns nk nc LF, ns ≤ 900 → nk ≤ 900 → Reg σ' a ds dk dc ns nk nc LF (SO I ((lr ++ le) ++ lo)) (KO I ((lr ++ le) ++ lo)) (CO I (lr ++ le)) → Kps σ σ' (fun _ => False) → (∀ b, Foot ds dk dc LF b → σ b = none) → Q (.ref a) σ') :
    CallR C A (.ref 239) (refs [cr, ce, co]) σ Q := CallR.tc fun us hu => by
  obtain rfl := map_refs hu
  refine TC_make (fI := 179) (by rw [hK]; kernel_rfl) (by rw [hK]; kernel_rfl) (by rw [hK]; kernel_rfl) fun a ha => ?_
  refine TC_fn (C := C) (binds := [("self", .ref a), ("trust_roots", .ref cr), ("extra_trust_roots", .ref ce), ("other_certs", .ref co)]) (m := [("other_certs", .ref co), ("extra_trust_roots", .ref ce), ("trust_roots", .ref cr), ("self", .ref a)]) (by rw [depth_make']; omega) (by rw [hK]; rfl) (by rw [hK]; kernel_rfl) rfl (fun S => by rw [hK]; kernel_rfl) (by decide +kernel) (by simp; decide +kernel) (by rfl) fun L A' hd hh' hun => ?_
  have hhA : A'.handled = none := hh'.trans hh
  have hdA : A'.depth + 5 < recursionLimit := by rw [hd, depth_make']; omega
  have r1 : (σ.put a (.inst 239 [])) cr = some (.list (refs lr)) := put_some hr ha
  have r2 : (σ.put a (.inst 239 [])) ce = some (.list (refs le)) := put_some he0 ha
  have r3 : (σ.put a (.inst 239 [])) co = some (.list (refs lo)) := put_some ho ha
  have k1 : Kps σ (σ.put a (.inst 239 [])) (fun _ => False) := Kps.put (.inr ha)
  generalize hσ1 : σ.put a (.inst 239 []) = σ1 at r1 r2 r3 k1
  have ra : σ1 a = some (.inst 239 []) := by rw [← hσ1]; exact put_same ..
  have isl : ∀ (x : Str) p q p' p'' {c : Addr} {xs : List Value} {env : Env} {m : Loc}, m.lookup x = some (.ref c) → env.kindOf x = some .local → env.kindOf "isinstance" = some .globalImplicit → env.kindOf "list" = some .globalImplicit → (x == ("__debug__" : Str)) = false → σ1 c = some (.list xs) →
      EB C A' env m σ1 (.Call (.Name "isinstance" p) [.Name x q, .Name "list" p'] [] p'') true := fun x p q p' p'' {c xs env m} h1 h2 h3 h4 h5 h6 =>
    EB_bcall (EV_built (v := .builtin "isinstance") (by rw [hK]; kernel_rfl) (by kernel_rfl) h3) fun Q q => TAs_cons ((EV_loc h1 h2 h5).te (TAs_cons ((EV_built (v := .type "list") (by rw [hK]; kernel_rfl) (by kernel_rfl) h4).te (TAs_nil (call_isList h6 (by rw [hK]; kernel_rfl) q)))))
  refine TXs_cons (TX_ifB (b := true && (!true && true)) (EB_and (EB_cmp (EV_loc (by rfl) (by rfl)) EV_none Cmp.isNot_ref) fun _ => EB_and (EB_not (isl _ _ _ _ _ (by rfl) (by rfl) (by rfl) (by rfl) (by decide) r1)) fun q => by cases q) (fun q => by cases q) fun _ => TXs_nil ?_)
  refine TXs_cons (TX_ifB (b := true && (!true && true)) (EB_and (EB_cmp (EV_loc (by rfl) (by rfl)) EV_none Cmp.isNot_ref) fun _ => EB_and (EB_not (isl _ _ _ _ _ (by rfl) (by rfl) (by rfl) (by rfl) (by decide) r2)) fun q => by cases q) (fun q => by cases q) fun _ => TXs_nil ?_)
  refine TXs_cons (TX_ifB (b := true && (!true && true)) (EB_and (EB_cmp (EV_loc (by rfl) (by rfl)) EV_none Cmp.isNot_ref) fun _ => EB_and (EB_not (isl _ _ _ _ _ (by rfl) (by rfl) (by rfl) (by rfl) (by decide) r3)) fun q => by cases q) (fun q => by cases q) fun _ => TXs_nil ?_)
  have inst0 : ∀ b ∈ (lr ++ le) ++ lo, ∃ fs, σ b = some (.inst 160 fs) := fun b hb => by obtain ⟨fs, na, ka, kfs, c1, _⟩ := hI0 b hb; exact ⟨fs, c1⟩
  have inst1 : ∀ {σ'}, Kps σ σ' (fun _ => False) → ∀ b ∈ (lr ++ le) ++ lo, ∃ fs, σ' b = some (.inst 160 fs) := fun k b hb => let ⟨fs, e⟩ := inst0 b hb; ⟨fs, k _ _ e id⟩
  have hl1 : lr.length ≤ 900 := by simp at hlen; omega
  have hl2 : le.length ≤ 900 := by simp at hlen; omega
  have hl3 : lo.length ≤ 900 := by simp at hlen; omega
  refine TXs_cons (TX_ifB (EB_cmp (EV_loc (by rfl) (by rfl)) EV_none Cmp.is_ref) (fun q => by cases q) fun _ => ?_)
  refine TXs_cons (TX_assign (.inl (by rfl)) (TE_meth (EV_loc (by rfl) (by rfl)) ra (by rfl) (by rw [hK]; kernel_rfl) (TAs_cons ((EV_loc (by rfl) (by rfl)).te (TAs_cons (EV_str.te (TAs_nil (validate hK hdA hhA hl3 r3 (fun b hb => inst1 k1 b (by simp [hb])) fun D2 hD2 => ?_))))))))
  have k2 := k1.trans (Kps.put (o := .list (refs lo)) (.inr hD2))
  have r1 : (σ1.put D2 (.list (refs lo))) cr = some (.list (refs lr)) := put_some r1 hD2
  have r2 : (σ1.put D2 (.list (refs lo))) ce = some (.list (refs le)) := put_some r2 hD2
  have ra : (σ1.put D2 (.list (refs lo))) a = some (.inst 239 []) := put_some ra hD2
  have rD2 : (σ1.put D2 (.list (refs lo))) D2 = some (.list (refs lo)) := put_same ..
  generalize σ1.put D2 (.list (refs lo)) = σ2 at k2 r1 r2 ra rD2 ⊢
  refine TXs_nil (TXs_cons (TX_ifB (EB_cmp (EV_loc (by rfl) (by rfl)) EV_none Cmp.is_ref) (fun q => by cases q) fun _ => ?_))
  refine TXs_cons (TX_assign (.inl (by rfl)) (TE_meth (EV_loc (by rfl) (by rfl)) ra (by rfl) (by rw [hK]; kernel_rfl) (TAs_cons ((EV_loc (by rfl) (by rfl)).te (TAs_cons (EV_str.te (TAs_nil (validate hK hdA hhA hl1 r1 (fun b hb => inst1 k2 b (by simp [hb])) fun D1 hD1 => ?_))))))))
  have k3 := k2.trans (Kps.put (o := .list (refs lr)) (.inr hD1))
  have r2 : (σ2.put D1 (.list (refs lr))) ce = some (.list (refs le)) := put_some r2 hD1
  have ra : (σ2.put D1 (.list (refs lr))) a = some (.inst 239 []) := put_some ra hD1
  have rD2 : (σ2.put D1 (.list (refs lr))) D2 = some (.list (refs lo)) := put_some rD2 hD1
  have rD1 : (σ2.put D1 (.list (refs lr))) D1 = some (.list (refs lr)) := put_same ..
  have n21 : D2 ≠ D1 := ne_of_new (by assumption) hD1
  have nD1 : σ D1 = none := k2.none hD1 id
  generalize σ2.put D1 (.list (refs lr)) = σ3 at k3 r2 ra rD2 rD1 ⊢
  refine TXs_nil (TXs_cons (TX_ifB (EB_cmp (EV_loc (by rfl) (by rfl)) EV_none Cmp.isNot_ref) (fun _ => ?_) (fun q => by cases q)))
  refine TXs_cons (TX_expr (TE_bmeth (ao := .list _) (EV_loc (by rfl) (by rfl)) rD1 rfl PySem.F.plainAttrs_list PySem.F.slot_list_extend PySem.F.type_list_extend
    (TAs_cons (TE_meth (EV_loc (by rfl) (by rfl)) ra (by rfl) (by rw [hK]; kernel_rfl) (TAs_cons ((EV_loc (by rfl) (by rfl)).te (TAs_cons (EV_str.te (TAs_nil (validate hK hdA hhA hl2 r2 (fun b hb => inst1 k3 b (by simp [hb])) fun D3 hD3 => TAs_nil (call_extend (put_some rD1 hD3) (put_same ..) (by simp [refs]; simp at hlen; omega) ?_)))))))))))
  have e0 : refs lr ++ refs le = refs (lr ++ le) := by simp [refs]
  rw [e0]
  have k4 := (k3.trans (Kps.put (o := .list (refs le)) (.inr hD3))).put' (o := .list (refs (lr ++ le))) (a := D1) (.inr nD1)
  have ra : ((σ3.put D3 (.list (refs le))).put D1 (.list (refs (lr ++ le)))) a = some (.inst 239 []) := by
    rw [put_ne (ne_of_ao ra rD1 (by intro q; cases q))]; exact put_some ra hD3
  have rD2 : ((σ3.put D3 (.list (refs le))).put D1 (.list (refs (lr ++ le)))) D2 = some (.list (refs lo)) := by
    rw [put_ne n21]; exact put_some rD2 hD3
  have rD1 : ((σ3.put D3 (.list (refs le))).put D1 (.list (refs (lr ++ le)))) D1 = some (.list (refs (lr ++ le))) := put_same ..
  generalize (σ3.put D3 (.list (refs le))).put D1 (.list (refs (lr ++ le))) = σ4 at k4 ra rD2 rD1 ⊢
  refine TXs_nil ?_
  refine TXs_cons (TX_setAttr (TE_dict0 (.dS (fun _ => none) 0) (.inl rfl) fun ds hds => ⟨a, 239, [], EV_loc (by rfl) (by rfl), put_some ra hds, (by rw [hK]; kernel_rfl), (by simp), ?_⟩))
  have nds : σ ds = none := k4.none hds id
  have ra' := put_some (o' := .dS (fun _ => none) 0) ra hds
  have k5 := (k4.trans (Kps.put (o := .dS (fun _ => none) 0) (.inr hds))).put' (o := .inst 239 [("_subject_map", .ref ds)]) (a := a) (.inr ha)
  have ads : ds ≠ a := Ne.symm (ne_of_new ra hds)
  have q1 : ((σ4.put ds (.dS (fun _ => none) 0)).put a (.inst 239 [("_subject_map", .ref ds)])) ds = some (.dS (fun _ => none) 0) := by rw [put_ne ads, put_same]
  have q2 : ((σ4.put ds (.dS (fun _ => none) 0)).put a (.inst 239 [("_subject_map", .ref ds)])) a = some (.inst 239 [("_subject_map", .ref ds)]) := put_same ..
  have rD1 : ((σ4.put ds (.dS (fun _ => none) 0)).put a (.inst 239 [("_subject_map", .ref ds)])) D1 = some (.list (refs (lr ++ le))) := by rw [put_ne (ne_of_ao rD1 ra (by intro q; cases q))]; exact put_some rD1 hds
  have rD2 : ((σ4.put ds (.dS (fun _ => none) 0)).put a (.inst 239 [("_subject_map", .ref ds)])) D2 = some (.list (refs lo)) := by rw [put_ne (ne_of_ao rD2 ra (by intro q; cases q))]; exact put_some rD2 hds
  generalize (σ4.put ds (.dS (fun _ => none) 0)).put a (.inst 239 [("_subject_map", .ref ds)]) = σ5 at k5 q1 q2 rD1 rD2 ⊢
  refine TXs_cons (TX_setAttr (TE_dict0 (.dB (fun _ => none) 0) (.inr (.inl rfl)) fun dk hdk => ⟨a, 239, _, EV_loc (by rfl) (by rfl), put_some q2 hdk, (by rw [hK]; kernel_rfl), (by simp), ?_⟩))
  have ndk : σ dk = none := k5.none hdk id
  have k6 := (k5.trans (Kps.put (o := .dB (fun _ => none) 0) (.inr hdk))).put' (o := .inst 239 [("_key_identifier_map", .ref dk), ("_subject_map", .ref ds)]) (a := a) (.inr ha)
  have adk : dk ≠ a := Ne.symm (ne_of_new q2 hdk)
  have p1 : ((σ5.put dk (.dB (fun _ => none) 0)).put a (.inst 239 [("_key_identifier_map", .ref dk), ("_subject_map", .ref ds)])) dk = some (.dB (fun _ => none) 0) := by rw [put_ne adk, put_same]
  have q1 : ((σ5.put dk (.dB (fun _ => none) 0)).put a (.inst 239 [("_key_identifier_map", .ref dk), ("_subject_map", .ref ds)])) ds = some (.dS (fun _ => none) 0) := by rw [put_ne ads]; exact put_some q1 hdk
  have rD1 : ((σ5.put dk (.dB (fun _ => none) 0)).put a (.inst 239 [("_key_identifier_map", .ref dk), ("_subject_map", .ref ds)])) D1 = some (.list (refs (lr ++ le))) := by rw [put_ne (ne_of_ao rD1 q2 (by intro q; cases q))]; exact put_some rD1 hdk
  have rD2 : ((σ5.put dk (.dB (fun _ => none) 0)).put a (.inst 239 [("_key_identifier_map", .ref dk), ("_subject_map", .ref ds)])) D2 = some (.list (refs lo)) := by rw [put_ne (ne_of_ao rD2 q2 (by intro q; cases q))]; exact put_some rD2 hdk
  have q2 : ((σ5.put dk (.dB (fun _ => none) 0)).put a (.inst 239 [("_key_identifier_map", .ref dk), ("_subject_map", .ref ds)])) a = some (.inst 239 [("_key_identifier_map", .ref dk), ("_subject_map", .ref ds)]) := put_same ..
  generalize (σ5.put dk (.dB (fun _ => none) 0)).put a (.inst 239 [("_key_identifier_map", .ref dk), ("_subject_map", .ref ds)]) = σ6 at k6 p1 q1 q2 rD1 rD2 ⊢
  refine TXs_cons (TX_setAttr (TE_dict0 (.dI (fun _ => none) 0) (.inr (.inr rfl)) fun dc hdc => ⟨a, 239, _, EV_loc (by rfl) (by rfl), put_some q2 hdc, (by rw [hK]; kernel_rfl), (by simp), ?_⟩))
  have ndc : σ dc = none := k6.none hdc id
  have k7 := (k6.trans (Kps.put (o := .dI (fun _ => none) 0) (.inr hdc))).put' (o := .inst 239 [("_ca_lookup", .ref dc), ("_key_identifier_map", .ref dk), ("_subject_map", .ref ds)]) (a := a) (.inr ha)
  have adc : dc ≠ a := Ne.symm (ne_of_new q2 hdc)
  have hc00 : ((σ6.put dc (.dI (fun _ => none) 0)).put a (.inst 239 [("_ca_lookup", .ref dc), ("_key_identifier_map", .ref dk), ("_subject_map", .ref ds)])) dc = some (.dI (fun _ => none) 0) := by rw [put_ne adc, put_same]
  have hs0 : ((σ6.put dc (.dI (fun _ => none) 0)).put a (.inst 239 [("_ca_lookup", .ref dc), ("_key_identifier_map", .ref dk), ("_subject_map", .ref ds)])) ds = some (.dS (fun _ => none) 0) := by rw [put_ne ads]; exact put_some q1 hdc
  have hk00 : ((σ6.put dc (.dI (fun _ => none) 0)).put a (.inst 239 [("_ca_lookup", .ref dc), ("_key_identifier_map", .ref dk), ("_subject_map", .ref ds)])) dk = some (.dB (fun _ => none) 0) := by rw [put_ne adk]; exact put_some p1 hdc
  have rD1 : ((σ6.put dc (.dI (fun _ => none) 0)).put a (.inst 239 [("_ca_lookup", .ref dc), ("_key_identifier_map", .ref dk), ("_subject_map", .ref ds)])) D1 = some (.list (refs (lr ++ le))) := by rw [put_ne (ne_of_ao rD1 q2 (by intro q; cases q))]; exact put_some rD1 hdc
  have rD2 : ((σ6.put dc (.dI (fun _ => none) 0)).put a (.inst 239 [("_ca_lookup", .ref dc), ("_key_identifier_map", .ref dk), ("_subject_map", .ref ds)])) D2 = some (.list (refs lo)) := by rw [put_ne (ne_of_ao rD2 q2 (by intro q; cases q))]; exact put_some rD2 hdc
  have q2 : ((σ6.put dc (.dI (fun _ => none) 0)).put a (.inst 239 [("_ca_lookup", .ref dc), ("_key_identifier_map", .ref dk), ("_subject_map", .ref ds)])) a = some (.inst 239 [("_ca_lookup", .ref dc), ("_key_identifier_map", .ref dk), ("_subject_map", .ref ds)]) := put_same ..
  generalize (σ6.put dc (.dI (fun _ => none) 0)).put a (.inst 239 [("_ca_lookup", .ref dc), ("_key_identifier_map", .ref dk), ("_subject_map", .ref ds)]) = σb at k7 hc00 hs0 hk00 q2 rD1 rD2 ⊢
  have G0 : Reg σb a ds dk dc 0 0 0 (fun _ => none) (SO I []) (KO I []) (CO I []) := ⟨q2, hs0, hk00, hc00, fun x L h => by (cases h), fun _ _ => rfl, fun x y L h => by (cases h)⟩
  have hI : ∀ b ∈ (lr ++ le) ++ lo, Crt σb b (I b) := fun b hb => (hI0 b hb).kp k7 fun _ _ _ _ => id
  have nF3 : ∀ {D : Addr} {xs : List Value}, σb D = some (.list xs) → ¬ F3 ds dk dc D := fun {D xs} hD => by
    rintro (q | q | q)
    · exact ne_of_ao hD hs0 (by intro z; cases z) q
    · exact ne_of_ao hD hk00 (by intro z; cases z) q
    · exact ne_of_ao hD hc00 (by intro z; cases z) q
  have hIf : ∀ b K fs, σb b = some (.inst K fs) → ¬ F3 ds dk dc b := fun b K fs hD => by
    rintro (q | q | q)
    · exact ne_of_ao hD hs0 (by intro z; cases z) q
    · exact ne_of_ao hD hk00 (by intro z; cases z) q
    · exact ne_of_ao hD hc00 (by intro z; cases z) q
  refine TXs_seq (fun m₁ σ₁ => Ext [("other_certs", .ref D2), ("trust_roots", .ref D1), ("self", .ref a)] m₁ ∧ Kps σb σ₁ (F3 ds dk dc) ∧ ∃ ns nk nc LF, ns ≤ (lr ++ le).length ∧ nk ≤ (lr ++ le).length ∧ nc ≤ (lr ++ le).length ∧ Reg σ₁ a ds dk dc ns nk nc LF (SO I (lr ++ le)) (KO I (lr ++ le)) (CO I (lr ++ le)) ∧ (∀ x L, LF x = some L → σb L = none))
    (TX_for (Src.list hhA (EV_loc (by rfl) (by rfl)) rD1) rD1
      (fun i m' σ' => Ext [("other_certs", .ref D2), ("trust_roots", .ref D1), ("self", .ref a)] m' ∧ Kps σb σ' (F3 ds dk dc) ∧ ∃ ns nk nc LF, ns ≤ i ∧ nk ≤ i ∧ nc ≤ i ∧ Reg σ' a ds dk dc ns nk nc LF (SO I ((lr ++ le).take i)) (KO I ((lr ++ le).take i)) (CO I ((lr ++ le).take i)) ∧ (∀ x L, LF x = some L → σb L = none))
      ⟨.add (by rfl) (.add (by rfl) (.add (by rfl) .nil)), Kps.refl, 0, 0, 0, _, Nat.le_refl _, Nat.le_refl _, Nat.le_refl _, G0, fun x L h => by (cases h)⟩ ?_ ?_) ?_
  · rintro i m' σ' u hi hu hD' ⟨he, hkp, ns, nk, nc, LF, hns, hnk, hnc, G, hLF⟩
    obtain ⟨b, hbi, rfl⟩ := refs_get hi hu
    have hbm : b ∈ (lr ++ le) := List.mem_of_getElem? hbi
    have hc := hI b (List.mem_append_left _ hbm)
    have htk : (lr ++ le).take (i + 1) = (lr ++ le).take i ++ [b] := by rw [List.take_add_one, hbi]; simp
    have hc₀ : Crt σ' b (I b) := hc.kp hkp hIf
    refine Crt.elim (hc₀) fun fs na ka kfs c1 c2 c3 c4 c5 c6 c7 c8 c9 c10 => ?_
    have hil : i ≤ 900 := by have := hlen; simp [refs] at hi this; omega
    refine TS.pre he (Sub.refl _) (TS_name (.inl (by rfl)) ?_)
    refine TXs_cons (TX_assign (.inl (by rfl)) ((EV_attr (EV_attr (EV_loc (by rfl) (by rfl)) c1 c2 (by rw [hK]; kernel_rfl)) c3 (by rfl) (by rw [hK]; kernel_rfl)).te ?_))
    refine TXs_seq (fun m₁ σ₁ => Ext [("hashable", .str (I b).text 0), ("trust_root", .ref b), ("other_certs", .ref D2), ("trust_roots", .ref D1), ("self", .ref a)] m₁ ∧ Kps σb σ₁ (F3 ds dk dc) ∧ ∃ ns₁ LF₁ L₁, ns₁ ≤ ns + 1 ∧ Reg σ₁ a ds dk dc ns₁ nk nc LF₁ (SO I ((lr ++ le).take i)) (KO I ((lr ++ le).take i)) (CO I ((lr ++ le).take i)) ∧ LF₁ (I b).text = some L₁ ∧ (∀ x L, LF₁ x = some L → σb L = none))
      (TX_ifB (EB_cmp (EV_loc (by rfl) (by rfl)) (EV_attr (EV_loc (by rfl) (by rfl)) G.r (by rfl) (by rw [hK]; kernel_rfl)) (Cmp.notIn_dS G.s)) ?_ ?_) ?_
    · intro hq
      have hq' : LF (I b).text = none := by cases z : LF (I b).text with | none => rfl | some L => rw [z] at hq; cases hq
      refine TXs_cons (TX_setS (TE_list (TAs_nil ⟨by decide, fun D hD => ⟨EV_attr (EV_loc (by rfl) (by rfl)) (put_new G.r hD) (by rfl) (by rw [hK]; kernel_rfl), EV_loc (by rfl) (by rfl), put_new G.s hD, Nat.le_trans (by omega : ns ≤ 2000) (by decide), ?_⟩⟩)))
      have hDb : σb D = none := hkp.none hD (by rintro (rfl | rfl | rfl); · rw [G.s] at hD; cases hD
                                                · rw [G.k] at hD; cases hD
                                                · rw [G.c] at hD; cases hD)
      refine TXs_nil ⟨.add (by rfl) (.add (by rfl) (.add (by rfl) (.add (by rfl) (.add (by rfl) .nil)))), (hkp.put' (.inr hDb)).put' (.inl (.inl rfl)), ns + 1, _, D, Nat.le_refl _, G.newList hq' hD, by simp, fun x L hx => ?_⟩
      by_cases q : x = (I b).text
      · simp only [q, if_true] at hx; cases hx; exact hDb
      · simp only [if_neg q] at hx; exact hLF x L hx
    · intro hq
      obtain ⟨L₁, hL⟩ : ∃ L, LF (I b).text = some L := by cases z : LF (I b).text with | none => rw [z] at hq; cases hq | some L => exact ⟨L, rfl⟩
      exact TXs_nil ⟨.add (by rfl) (.add (by rfl) (.add (by rfl) (.add (by rfl) (.add (by rfl) .nil)))), hkp, ns, LF, L₁, Nat.le_succ _, G, hL, hLF⟩
    · rintro m₁ σ₁ ⟨he₁, hkp₁, ns₁, LF₁, L₁, hn₁, G₁, hL₁, hLF₁⟩
      refine he₁.pre ?_
      have hlS : (SO I ((lr ++ le).take i) (I b).text).length ≤ 2000 := by
        refine Nat.le_trans (List.length_filter_le _ _) ?_
        have := hlen
        simp at this ⊢; omega
      have hc₁ := hc.kp hkp₁ hIf
      refine Crt.elim (hc₁) fun fs na ka kfs c1 c2 c3 c4 c5 c6 c7 c8 c9 c10 => ?_
      refine TXs_cons (TX_expr (TE_bmeth (ao := .list _) (EV_item (EV_attr (EV_loc (by rfl) (by rfl)) G₁.r (by rfl) (by rw [hK]; kernel_rfl)) (EV_loc (by rfl) (by rfl)) (Itm.dS G₁.s (by rw [hL₁]; rfl))) (G₁.l _ _ hL₁) rfl PySem.F.plainAttrs_list PySem.F.slot_list_append PySem.F.type_list_append
        (TAs_cons ((EV_loc (by rfl) (by rfl)).te (TAs_nil (call_append (G₁.l _ _ hL₁) (Nat.le_trans (by simpa [refs] using hlS) (show 2000 ≤ sizeLine by decide)) ?_))))))
      have G₂ := G₁.append (a := b) hL₁
      rw [← SO_step, ← htk] at G₂
      have k₂ := hkp₁.put' (o := .list (refs (SO I ((lr ++ le).take i) (I b).text) ++ [.ref b])) (a := L₁) (.inr (hLF₁ _ _ hL₁))
      have hc₂ := hc.kp k₂ hIf
      refine Crt.elim (hc₂) fun fs na ka kfs c1 c2 c3 c4 c5 c6 c7 c8 c9 c10 => ?_
      have k₃ := fun o => k₂.put' (o := o) (a := dk) (.inl (.inr (.inl rfl)))
      refine TXs_seq (fun m₂ σ₂ => Ext [("hashable", .str (I b).text 0), ("trust_root", .ref b), ("other_certs", .ref D2), ("trust_roots", .ref D1), ("self", .ref a)] m₂ ∧ Kps σb σ₂ (F3 ds dk dc) ∧ ∃ nk₁, nk₁ ≤ nk + 1 ∧ Reg σ₂ a ds dk dc ns₁ nk₁ nc LF₁ (SO I ((lr ++ le).take (i + 1))) (KO I ((lr ++ le).take (i + 1))) (CO I ((lr ++ le).take i)))
        (TX_ifB (b := (I b).kid.isSome) (EB_tru (EV_attr (EV_loc (by rfl) (by rfl)) c1 c5 (by rw [hK]; kernel_rfl) (by cases (I b).kid <;> rfl)) ?_) ?_ ?_) ?_
      · cases hkid : (I b).kid with
        | none => exact Tru.none
        | some y => exact Tru.bytes (hk0 b y hkid).1 (hk0 b y hkid).2
      · intro hq
        obtain ⟨y, hy⟩ := Option.isSome_iff_exists.mp hq
        rw [hy] at c5
        refine TXs_cons (TX_setB (x := y) ((EV_loc (by rfl) (by rfl)).te ⟨EV_attr (EV_loc (by rfl) (by rfl)) G₂.r (by rfl) (by rw [hK]; kernel_rfl), EV_attr (EV_loc (by rfl) (by rfl)) c1 c5 (by rw [hK]; kernel_rfl), G₂.k, Nat.le_trans (by omega : nk ≤ 2000) (by decide), ?_⟩))
        have G₃ := G₂.key (x := y) (a := b)
        rw [KO_some hy, ← htk] at G₃
        exact TXs_nil ⟨.add (by rfl) (.add (by rfl) (.add (by rfl) (.add (by rfl) (.add (by rfl) .nil)))), k₃ _, nk + 1, Nat.le_refl _, G₃⟩
      · intro hq
        have hy : (I b).kid = none := by cases z : (I b).kid with | none => rfl | some b => rw [z] at hq; cases hq
        rw [← KO_none hy, ← htk] at G₂
        exact TXs_nil ⟨.add (by rfl) (.add (by rfl) (.add (by rfl) (.add (by rfl) (.add (by rfl) .nil)))), k₂, nk, Nat.le_succ _, G₂⟩
      · rintro m₂ σ₂ ⟨he₂, hkp₂, nk₁, hnk₁, G₃⟩
        refine he₂.pre ?_
        have hc₃ := hc.kp hkp₂ hIf
        refine Crt.elim (hc₃) fun fs na ka kfs c1 c2 c3 c4 c5 c6 c7 c8 c9 c10 => ?_
        refine TXs_cons (TX_setI (x := (I b).num) (EV_bool.te ⟨EV_attr (EV_loc (by rfl) (by rfl)) G₃.r (by rfl) (by rw [hK]; kernel_rfl), EV_attr (EV_loc (by rfl) (by rfl)) c1 c9 (by rw [hK]; kernel_rfl), G₃.c, Nat.le_trans (by omega : nc ≤ 2000) (by decide), ?_⟩))
        have G₄ := G₃.ca (x := (I b).num)
        rw [CO_step, ← htk] at G₄
        have k₄ := fun o => hkp₂.put' (o := o) (a := dc) (.inl (.inr (.inr rfl)))
        exact TXs_nil ⟨(k₄ _) _ _ rD1 (nF3 rD1), .add (by rfl) (.add (by rfl) (.add (by rfl) .nil)), k₄ _, ns₁, nk₁, nc + 1, LF₁, by omega, by omega, by omega, G₄, hLF₁⟩
  · rintro m' σ' _ ⟨he, hkp, ns, nk, nc, LF, hns, hnk, hnc, G, hLF⟩
    have e : (lr ++ le).take (refs (lr ++ le)).length = lr ++ le := List.take_of_length_le (by simp [refs])
    rw [e] at G
    have e' : (refs (lr ++ le)).length = (lr ++ le).length := by simp [refs]
    rw [e'] at hns hnk hnc
    exact ⟨he, hkp, ns, nk, nc, LF, hns, hnk, hnc, G, hLF⟩
  · rintro m₀ σ₀ ⟨he₀, hkp₀, ns₀, nk₀, nc₀, LF₀, hns₀, hnk₀, hnc₀, G₀, hLF₀⟩
    refine he₀.pre ?_
    have rD2' := hkp₀ _ _ rD2 (nF3 rD2)
    refine TXs_cons (TX_for (Src.list hhA (EV_loc (by rfl) (by rfl)) rD2') rD2'
      (fun i m' σ' => Ext [("other_certs", .ref D2), ("trust_roots", .ref D1), ("self", .ref a)] m' ∧ Kps σb σ' (F3 ds dk dc) ∧ ∃ ns nk nc LF, ns ≤ (lr ++ le).length + i ∧ nk ≤ (lr ++ le).length + i ∧ nc ≤ (lr ++ le).length + i ∧ Reg σ' a ds dk dc ns nk nc LF (SO I ((lr ++ le) ++ lo.take i)) (KO I ((lr ++ le) ++ lo.take i)) (CO I (lr ++ le)) ∧ (∀ x L, LF x = some L → σb L = none))
      ⟨.add (by rfl) (.add (by rfl) (.add (by rfl) .nil)), hkp₀, ns₀, nk₀, nc₀, LF₀, hns₀, hnk₀, hnc₀, by simpa using G₀, hLF₀⟩ ?_ ?_)
    · rintro i m' σ' u hi hu hD' ⟨he, hkp, ns, nk, nc, LF, hns, hnk, hnc, G, hLF⟩
      obtain ⟨b, hbi, rfl⟩ := refs_get hi hu
      have hbm : b ∈ lo := List.mem_of_getElem? hbi
      have hc := hI b (List.mem_append_right _ hbm)
      have htk : (lr ++ le) ++ lo.take (i + 1) = (lr ++ le) ++ lo.take i ++ [b] := by rw [List.take_add_one, hbi]; simp
      have hc₀ : Crt σ' b (I b) := hc.kp hkp hIf
      refine Crt.elim (hc₀) fun fs na ka kfs c1 c2 c3 c4 c5 c6 c7 c8 c9 c10 => ?_
      have hil : i ≤ 900 := by have := hlen; simp [refs] at hi this; omega
      refine TS.pre he (Sub.refl _) (TS_name (.inl (by rfl)) ?_)
      refine TXs_cons (TX_assign (.inl (by rfl)) ((EV_attr (EV_attr (EV_loc (by rfl) (by rfl)) c1 c2 (by rw [hK]; kernel_rfl)) c3 (by rfl) (by rw [hK]; kernel_rfl)).te ?_))
      refine TXs_seq (fun m₁ σ₁ => Ext [("hashable", .str (I b).text 0), ("other_cert", .ref b), ("other_certs", .ref D2), ("trust_roots", .ref D1), ("self", .ref a)] m₁ ∧ Kps σb σ₁ (F3 ds dk dc) ∧ ∃ ns₁ LF₁ L₁, ns₁ ≤ ns + 1 ∧ Reg σ₁ a ds dk dc ns₁ nk nc LF₁ (SO I ((lr ++ le) ++ lo.take i)) (KO I ((lr ++ le) ++ lo.take i)) (CO I (lr ++ le)) ∧ LF₁ (I b).text = some L₁ ∧ (∀ x L, LF₁ x = some L → σb L = none))
        (TX_ifB (EB_cmp (EV_loc (by rfl) (by rfl)) (EV_attr (EV_loc (by rfl) (by rfl)) G.r (by rfl) (by rw [hK]; kernel_rfl)) (Cmp.notIn_dS G.s)) ?_ ?_) ?_
      · intro hq
        have hq' : LF (I b).text = none := by cases z : LF (I b).text with | none => rfl | some L => rw [z] at hq; cases hq
        refine TXs_cons (TX_setS (TE_list (TAs_nil ⟨by decide, fun D hD => ⟨EV_attr (EV_loc (by rfl) (by rfl)) (put_new G.r hD) (by rfl) (by rw [hK]; kernel_rfl), EV_loc (by rfl) (by rfl), put_new G.s hD, Nat.le_trans (by omega : ns ≤ 2000) (by decide), ?_⟩⟩)))
        have hDb : σb D = none := hkp.none hD (by rintro (rfl | rfl | rfl); · rw [G.s] at hD; cases hD
                                                  · rw [G.k] at hD; cases hD
                                                  · rw [G.c] at hD; cases hD)
        refine TXs_nil ⟨.add (by rfl) (.add (by rfl) (.add (by rfl) (.add (by rfl) (.add (by rfl) .nil)))), (hkp.put' (.inr hDb)).put' (.inl (.inl rfl)), ns + 1, _, D, Nat.le_refl _, G.newList hq' hD, by simp, fun x L hx => ?_⟩
        by_cases q : x = (I b).text
        · simp only [q, if_true] at hx; cases hx; exact hDb
        · simp only [if_neg q] at hx; exact hLF x L hx
      · intro hq
        obtain ⟨L₁, hL⟩ : ∃ L, LF (I b).text = some L := by cases z : LF (I b).text with | none => rw [z] at hq; cases hq | some L => exact ⟨L, rfl⟩
        exact TXs_nil ⟨.add (by rfl) (.add (by rfl) (.add (by rfl) (.add (by rfl) (.add (by rfl) .nil)))), hkp, ns, LF, L₁, Nat.le_succ _, G, hL, hLF⟩
      · rintro m₁ σ₁ ⟨he₁, hkp₁, ns₁, LF₁, L₁, hn₁, G₁, hL₁, hLF₁⟩
        refine he₁.pre ?_
        have hlS : (SO I ((lr ++ le) ++ lo.take i) (I b).text).length ≤ 2000 := by
          refine Nat.le_trans (List.length_filter_le _ _) ?_
          have := hlen
          simp at this ⊢; omega
        have hc₁ := hc.kp hkp₁ hIf
        refine Crt.elim (hc₁) fun fs na ka kfs c1 c2 c3 c4 c5 c6 c7 c8 c9 c10 => ?_
        refine TXs_cons (TX_expr (TE_bmeth (ao := .list _) (EV_item (EV_attr (EV_loc (by rfl) (by rfl)) G₁.r (by rfl) (by rw [hK]; kernel_rfl)) (EV_loc (by rfl) (by rfl)) (Itm.dS G₁.s (by rw [hL₁]; rfl))) (G₁.l _ _ hL₁) rfl PySem.F.plainAttrs_list PySem.F.slot_list_append PySem.F.type_list_append
          (TAs_cons ((EV_loc (by rfl) (by rfl)).te (TAs_nil (call_append (G₁.l _ _ hL₁) (Nat.le_trans (by simpa [refs] using hlS) (show 2000 ≤ sizeLine by decide)) ?_))))))
        have G₂ := G₁.append (a := b) hL₁
        rw [← SO_step, ← htk] at G₂
        have k₂ := hkp₁.put' (o := .list (refs (SO I ((lr ++ le) ++ lo.take i) (I b).text) ++ [.ref b])) (a := L₁) (.inr (hLF₁ _ _ hL₁))
        have hc₂ := hc.kp k₂ hIf
        refine Crt.elim (hc₂) fun fs na ka kfs c1 c2 c3 c4 c5 c6 c7 c8 c9 c10 => ?_
        have k₃ := fun o => k₂.put' (o := o) (a := dk) (.inl (.inr (.inl rfl)))
        refine TXs_seq (fun m₂ σ₂ => Ext [("hashable", .str (I b).text 0), ("other_cert", .ref b), ("other_certs", .ref D2), ("trust_roots", .ref D1), ("self", .ref a)] m₂ ∧ Kps σb σ₂ (F3 ds dk dc) ∧ ∃ nk₁, nk₁ ≤ nk + 1 ∧ Reg σ₂ a ds dk dc ns₁ nk₁ nc LF₁ (SO I ((lr ++ le) ++ lo.take (i + 1))) (KO I ((lr ++ le) ++ lo.take (i + 1))) (CO I (lr ++ le)))
          (TX_ifB (b := (I b).kid.isSome) (EB_tru (EV_attr (EV_loc (by rfl) (by rfl)) c1 c5 (by rw [hK]; kernel_rfl) (by cases (I b).kid <;> rfl)) ?_) ?_ ?_) ?_
        · cases hkid : (I b).kid with
          | none => exact Tru.none
          | some y => exact Tru.bytes (hk0 b y hkid).1 (hk0 b y hkid).2
        · intro hq
          obtain ⟨y, hy⟩ := Option.isSome_iff_exists.mp hq
          rw [hy] at c5
          refine TXs_cons (TX_setB (x := y) ((EV_loc (by rfl) (by rfl)).te ⟨EV_attr (EV_loc (by rfl) (by rfl)) G₂.r (by rfl) (by rw [hK]; kernel_rfl), EV_attr (EV_loc (by rfl) (by rfl)) c1 c5 (by rw [hK]; kernel_rfl), G₂.k, Nat.le_trans (by omega : nk ≤ 2000) (by decide), ?_⟩))
          have G₃ := G₂.key (x := y) (a := b)
          rw [KO_some hy, ← htk] at G₃
          exact TXs_nil ⟨.add (by rfl) (.add (by rfl) (.add (by rfl) (.add (by rfl) (.add (by rfl) .nil)))), k₃ _, nk + 1, Nat.le_refl _, G₃⟩
        · intro hq
          have hy : (I b).kid = none := by cases z : (I b).kid with | none => rfl | some b => rw [z] at hq; cases hq
          rw [← KO_none hy, ← htk] at G₂
          exact TXs_nil ⟨.add (by rfl) (.add (by rfl) (.add (by rfl) (.add (by rfl) (.add (by rfl) .nil)))), k₂, nk, Nat.le_succ _, G₂⟩
        · rintro m₂ σ₂ ⟨he₂, hkp₂, nk₁, hnk₁, G₃⟩
          refine he₂.pre ?_
          exact TXs_nil ⟨hkp₂ _ _ rD2 (nF3 rD2), .add (by rfl) (.add (by rfl) (.add (by rfl) .nil)), hkp₂, ns₁, nk₁, nc, LF₁, by omega, by omega, by omega, G₃, hLF₁⟩
    · rintro m' σ' _ ⟨he, hkp, ns, nk, nc, LF, hns, hnk, hnc, G, hLF⟩
      have e : lo.take (refs lo).length = lo := List.take_of_length_le (by simp [refs])
      rw [e] at G
      have e' : (refs lo).length = lo.length := by simp [refs]
      rw [e'] at hns hnk hnc
      refine TXs_nil ⟨rfl, h a ds dk dc σ' ns nk nc LF (by omega) (by omega) G (fun b o hb _ => hkp _ _ (k7 _ _ hb id) ?_) ?_⟩
      · rintro (rfl | rfl | rfl)
        · rw [nds] at hb; cases hb
        · rw [ndk] at hb; cases hb
        · rw [ndc] at hb; cases hb
      · rintro b (rfl | rfl | rfl | ⟨x, hx⟩)
        · exact nds
        · exact ndk
        · exact ndc
        · exact k7.none (hLF x b hx) id
end
end J
end

section
open PySem PySem.W PySem.Calls PyProof.Rows
set_option Elab.async false
set_option linter.unusedVariables false
set_option maxRecDepth 100000
namespace J
theorem same_fd {K : Frag} {f : Addr} {oc oc' : Value} {od od' : Option Addr} {fd fd' : FuncData} {osl osl' : Array (Option Value)} (h : K.lookup f = some ⟨oc, od, .func fd, osl⟩) (h' : K.lookup f = some ⟨oc', od', .func fd', osl'⟩) : fd = fd' := by
  rw [h] at h'; cases h'; rfl
def abc : Str := "abc"
def infoJ (ws : List Int) (j : Nat) : CI where
  text := ⟨#[abc.cps.getD ((gi ws (2 * (j : Int) - 1)).fmod 3).toNat 0]⟩
  ser := 1 + ((gi ws (2 * (j : Int) - 1)).fdiv 3).fmod 3
  kid := if ((gi ws (2 * (j : Int))).fdiv 3).fmod 3 = 0 then none else if ((gi ws (2 * (j : Int))).fdiv 3).fmod 3 = 1 then some [107, 49] else some [107, 50]
  sha := big20 (1 + (gi ws (2 * (j : Int))).fmod 3)
  num := j
def kindJ (ws : List Int) (j : Nat) : Int := ((gi ws (2 * (j : Int))).fdiv 9).fmod 4
/-- an entry of the pool: its tuple, its certificate -/
structure PE where
  T : Addr
  c : Addr
  info : CI
  kind : Int
structure PoolOk (σ : Ab) (pl : Addr) (ps : List PE) : Prop where
  l : σ pl = some (.list (refs (ps.map (·.T))))
  e : ∀ e ∈ ps, σ e.T = some (.tup [.ref e.c, .int e.kind 0]) ∧ Crt σ e.c e.info
  n : (ps.map (·.c)).Nodup
section
variable {C : Cx} {A : Around} {env : Env} {m : Loc} {σ σ₀ σ' : Ab} {s s₀ s' : Shared} {P : Params}
theorem seg0 (hK : C.K = Mine.hd.heap_39 P) {oc : Value} {od : Option Addr} {fd : FuncData} {osl : Array (Option Value)} {body : List Stmt} (hf : C.K.lookup 248 = some ⟨oc, od, .func fd, osl⟩) (hb : fd.body = .stmts body) {nm : Str} {L fa : Addr} {cd : Value} {Q : Flow → Loc → Ab → Prop}
    (h : ∀ D, σ D = none → TXs C A (envOfC nm fd.scope L fa cd) (("pool", .ref D) :: m) (body.drop 1) (σ.put D (.list [])) Q) : TXs C A (envOfC nm fd.scope L fa cd) m (body.drop 0) σ Q := by
  obtain rfl := same_fd hf (by rw [hK]; rfl)
  cases hb
  refine TXs_cons (TX_assign (.inl (by rfl)) (TE_list (TAs_nil ⟨by decide, fun D hD => ?_⟩)))
  exact h D hD
/-- the reading of the script -/
theorem ev_read {lst : Addr} {vs : List Value} {ws : List Int} (hL : C.h₀.IsList lst vs.toArray) (hI : IntsAre vs ws) (hn : ws.length ≤ 63) {e1 e2 : Expr} {i : Int} (h0 : 0 ≤ i) (hi : i < 1000)
    {x : Str} {px py p1 p2 p3 p4 p5 p6 : Pos} {kk : Nat} (hx : EV C A env m σ (.Name x px) (.ref lst)) (hx' : EV C A env m σ (.Name x py) (.ref lst)) (hlen : EV C A env m σ (.Name "len" p3) (.builtin "len")) (he1 : EV C A env m σ e1 (.int i 0)) (he2 : EV C A env m σ e2 (.int i 0))
    (hsub : ∀ o i', subscripted e1 false o i' = operate [o, i'] (getItem o i'))
    (hst : starEach [.Name x py] env = (false, eval (.Name x py) env) :: starEach [] env) (hst0 : (backTo p4 (starEach [] env)).any (·.1) = false)
    (hm : behindInMarks .Lt (.Call (.Name "len" p3) [.Name x py] [] p4) = false) :
    EV C A env m σ (.IfExp (.Compare e2 [.Lt] [.Call (.Name "len" p3) [.Name x py] [] p4] p5) (.Subscript (.Name x px) e1 p1) (.Constant (.int 0) kk p2) p6) (.int (gi ws i) 0) := by
  have hz := ints_size hI
  refine EV_if (c := decide (i < ws.length)) (EB_cmp he2 (EV_call fun Q q => TE_bcall hlen (TAs_cons (hx'.te (TAs_nil (call_len0 (n := ws.length) hL (by simpa using hz) (by omega) q))) hst) hst hst0) (Cmp.lt_int _ _) hm) (fun hq => ?_) fun hq => ?_
  · have hq : i < ws.length := by simpa using hq
    have hlt : i.toNat < ws.length := by omega
    obtain ⟨u, hu, hv⟩ := ints_get hI hlt
    exact EV_item hx he1 (Itm.list0 hL h0 (by omega) (by simpa using hu) hv) hsub
  · have hq : ¬ i < ws.length := by simpa using hq
    have : gi ws i = 0 := by
      unfold gi
      rw [List.getD_eq_getElem?_getD, List.getElem?_eq_none (by omega)]; rfl
    rw [this]; exact EV_int
theorem PoolOk.kp {pl : Addr} {ps : List PE} (h : PoolOk σ pl ps) (k : Kps σ σ' (fun _ => False)) : PoolOk σ' pl ps :=
  ⟨k _ _ h.l id, fun e he => ⟨k _ _ (h.e e he).1 id, (h.e e he).2.kp k fun _ _ _ _ => id⟩, h.n⟩
theorem idx3 {a : Int} {x y z : Value} : ([x, y, z] : List Value)[(a.fmod 3).toNat]? = some (if a.fmod 3 = 0 then x else if a.fmod 3 = 1 then y else z) := by
  obtain ⟨h0, h1⟩ := fmod_range (a := a) (b := 3) (by decide)
  have : a.fmod 3 = 0 ∨ a.fmod 3 = 1 ∨ a.fmod 3 = 2 := by omega
  rcases this with h | h | h <;> rw [h] <;> rfl
theorem abc_at (a : Int) : abc.cps[(a.fmod 3).toNat]? = some (abc.cps.getD (a.fmod 3).toNat 0) := by
  obtain ⟨h0, h1⟩ := fmod_range (a := a) (b := 3) (by decide)
  have : a.fmod 3 = 0 ∨ a.fmod 3 = 1 ∨ a.fmod 3 = 2 := by omega
  rcases this with h | h | h <;> rw [h] <;> rfl
/-- the loop that makes the pool -/
theorem seg1 (hK : C.K = Mine.hd.heap_39 P) (hA : A.depth + 9 < recursionLimit) (hh : A.handled = none) {oc : Value} {od : Option Addr} {fd : FuncData} {osl : Array (Option Value)} {body : List Stmt} (hf : C.K.lookup 248 = some ⟨oc, od, .func fd, osl⟩) (hb : fd.body = .stmts body) {nm : Str} {L fa : Addr} {cd : Value} {Q : Flow → Loc → Ab → Prop}
    {lst : Addr} {vs : List Value} {ws : List Int} (hL : C.h₀.IsList lst vs.toArray) (hI : IntsAre vs ws) (hn : ws.length ≤ 63) {pl : Addr} (hpl : σ pl = some (.list [])) (hm : Ext [("pool", .ref pl), ("script", .ref lst)] m)
    (h : ∀ m' σ' ps, Ext [("pool", .ref pl), ("script", .ref lst)] m' → PoolOk σ' pl ps → ps.map (fun e => (e.info, e.kind)) = (List.range 6).map (fun k => (infoJ ws (k + 1), kindJ ws (k + 1))) → TXs C A (envOfC nm fd.scope L fa cd) m' (body.drop 2) σ' Q) :
    TXs C A (envOfC nm fd.scope L fa cd) m (body.drop 1) σ Q := by
  obtain rfl := same_fd hf (by rw [hK]; rfl)
  cases hb
  refine TXs_seq (fun m' σ' => Ext [("pool", .ref pl), ("script", .ref lst)] m' ∧ ∃ ps, PoolOk σ' pl ps ∧ ps.map (fun e => (e.info, e.kind)) = (List.range 6).map (fun k => (infoJ ws (k + 1), kindJ ws (k + 1))))
    (TX_for (Src.range2 (a := 1) (b := 7) (n := 6) hh ?_ EV_int EV_int (by rfl) (by rfl)) trivial
      (fun i m' σ' => Ext [("pool", .ref pl), ("script", .ref lst)] m' ∧ ∃ ps, PoolOk σ' pl ps ∧ ps.map (fun e => (e.info, e.kind)) = (List.range i).map (fun k => (infoJ ws (k + 1), kindJ ws (k + 1))))
      ⟨hm, [], ⟨hpl, fun e he => (by cases he), List.nodup_nil⟩, rfl⟩ ?_ fun m' σ' _ hJ => hJ) ?_
  · exact EV_built (v := .type "range") (by rw [hK]; kernel_rfl) (by kernel_rfl) (by rfl)
  · rintro i m' σ' u hi hu _ ⟨he, ps, hps, hinf⟩
    refine TS.pre he (Sub.refl _) (TS_name (.inr ⟨by rfl, _, by rfl⟩) ?_)
    rw [hu]
    have hi6 : (i : Int) < 6 := by omega
    refine TXs_cons (TX_assignT (TE_comp (cl := [("script", L + 1), ("j", L + 2)]) (mc := [("j", .int (1 + (i : Int)) 0), ("script", .ref lst)]) (Src.range1 (b := 2) (n := 2) hh (EV_built (v := .type "range") (by rw [hK]; kernel_rfl) (by kernel_rfl) (by rfl)) EV_int (by rfl) (by rfl)) trivial
      (fun k ys σ'' => σ'' = σ' ∧ ys = (List.range k).map fun k => .int (gi ws (2 * (1 + (i : Int)) - 1 + k)) 0) ⟨rfl, rfl⟩ ?_ ?_ (by decide) (by rfl) ?_ ?_))
    · rintro Cc k ys σ'' u' hk hu' _ ⟨rfl, rfl⟩
      refine ⟨[("k", nv u')], Tgt.name (by rfl) (by rfl), fun x v hx => fs_one hx (by rfl), TIfs_nil ?_⟩
      rw [if_pos rfl, hu']
      refine (ev_read (i := 2 * (1 + (i : Int)) - 1 + (0 + (k : Int))) hL hI hn (by omega) (by omega) (EV_cell (by rfl) (by rfl)) (EV_cell (by rfl) (by rfl)) (EV_built (v := .builtin "len") (by rw [hK]; kernel_rfl) (by kernel_rfl) (by rfl)) ?_ ?_ (by intro _ _; with_unfolding_all rfl) (by rfl) (by rfl) (by with_unfolding_all rfl)).te ?_
      · exact EV_add (EV_sub (EV_mul EV_int (EV_cell (by rfl) (by rfl)) (.of_left (by decide))) EV_int) (EV_loc (by rfl) (by rfl))
      · exact EV_add (EV_sub (EV_mul EV_int (EV_cell (by rfl) (by rfl)) (.of_left (by decide))) EV_int) (EV_loc (by rfl) (by rfl))
      · refine ⟨trivial, rfl, ?_⟩
        rw [List.range_succ, List.map_append]; simp
    · rintro ys σ'' D _ ⟨rfl, rfl⟩ hD u' hu'
      obtain rfl := nv_to_ref hu'
      refine TS_tupL hh (put_same ..) (by rfl) (by rfl) ?_
      refine TIn.cons fun u1 hu1 => TS_name (.inl (by rfl)) (TIn.cons fun u2 hu2 => TS_name (.inl (by rfl)) (TIn.nil ?_))
      have e1 : nv u1 = .int (gi ws (2 * ((i + 1 : Nat) : Int) - 1)) 0 := hu1.trans (by show Value.int (gi ws (2 * (1 + (i : Int)) - 1 + ((0 : Nat) : Int))) 0 = _; congr 2; push_cast; omega)
      have e2 : nv u2 = .int (gi ws (2 * ((i + 1 : Nat) : Int))) 0 := hu2.trans (by show Value.int (gi ws (2 * (1 + (i : Int)) - 1 + ((1 : Nat) : Int))) 0 = _; congr 2; push_cast; omega)
      have e3 : Value.int (1 + (i : Int)) 0 = .int ((i + 1 : Nat) : Int) 0 := by congr 1; push_cast; omega
      have hps := hps.kp (Kps.put (o := .list ((List.range 2).map fun k : Nat => .int (gi ws (2 * (1 + (i : Int)) - 1 + (k : Int))) 0)) (.inr hD))
      have hI : infoJ ws (i + 1) = infoJ ws (i + 1) := rfl
      refine Ext.pre (m₀ := [("q", .int (gi ws (2 * ((i + 1 : Nat) : Int))) 0), ("p", .int (gi ws (2 * ((i + 1 : Nat) : Int) - 1)) 0), ("j", .int ((i + 1 : Nat) : Int) 0), ("pool", .ref pl), ("script", .ref lst)])
        (.add (by show some (nv u2) = _; rw [e2]) (.add (by show some (nv u1) = _; rw [e1]) (.add (by show some (Value.int (1 + (i : Int)) 0) = _; rw [e3]) (.add (by rfl) (.add (by rfl) .nil))))) ?_
      generalize hj : ((i + 1 : Nat) : Int) = jv
      generalize σ''.put D _ = σ1 at hps ⊢
      generalize hpv : gi ws (2 * jv - 1) = pv
      generalize hqv : gi ws (2 * jv) = qv
      obtain ⟨p0, p1⟩ := fmod_range (a := pv) (b := 3) (by decide)
      obtain ⟨q0, q1⟩ := fmod_range (a := qv) (b := 3) (by decide)
      obtain ⟨r0, r1⟩ := fmod_range (a := qv.fdiv 3) (b := 3) (by decide)
      have hA5 : A.depth + 5 < recursionLimit := by omega
      refine TXs_cons (TX_assign (.inr ⟨by rfl, _, by rfl⟩) (TE_call (f := .ref 160) (EV_glob (v := .ref 160) (by rw [hK]; kernel_rfl) (by rfl)) nv_fix_ref (by rw [hK]; kernel_rfl) rfl
        (TAs_cons ((EV_cell (by rfl) (by rfl)).te (TAs_cons (TE_call (f := .ref 87) (EV_glob (v := .ref 87) (by rw [hK]; kernel_rfl) (by rfl)) nv_fix_ref (by rw [hK]; kernel_rfl) rfl
          (TAs_cons ((EV_item (v := .str ⟨#[abc.cps.getD (pv.fmod 3).toNat 0]⟩ 0) EV_str (EV_mod (EV_loc (by rfl) (by rfl)) EV_int (by decide)) ?_).te (TAs_nil (name_make hK hA5 fun na hna => ?_))))))))))
      · have := Itm.str (C := C) (A := A) (σ := σ1) (x := abc) (i := (pv.fmod 3).toNat) (by omega) (abc_at pv)
        rw [Int.toNat_of_nonneg p0] at this
        exact this
      refine TAs_cons (TE_call (f := .ref 87) (EV_glob (v := .ref 87) (by rw [hK]; kernel_rfl) (by rfl)) nv_fix_ref (by rw [hK]; kernel_rfl) rfl (TAs_cons (EV_str.te (TAs_nil (name_make hK hA5 fun nz hnz => ?_)))))
      refine TAs_cons (TE_call (f := .ref 108) (EV_glob (v := .ref 108) (by rw [hK]; kernel_rfl) (by rfl)) nv_fix_ref (by rw [hK]; kernel_rfl) rfl (TAs_cons ((EV_add EV_int (EV_mod (EV_loc (by rfl) (by rfl)) EV_int (by decide))).te (TAs_nil (key_make hK hA5 (by omega) (by omega) fun ka hka => ?_)))))
      refine TAs_cons (EV_int.te (TAs_nil (cert_make hK hA5 fun c ce hc => ?_)))
      have k1 : Kps σ1 (σ1.put na (.inst 87 (nameFs ⟨#[abc.cps.getD (pv.fmod 3).toNat 0]⟩))) (fun _ => False) := Kps.put (.inr hna)
      have rna := put_same σ1 na (.inst 87 (nameFs ⟨#[abc.cps.getD (pv.fmod 3).toNat 0]⟩))
      generalize σ1.put na (.inst 87 (nameFs ⟨#[abc.cps.getD (pv.fmod 3).toNat 0]⟩)) = σ2 at k1 rna hnz hka hc ⊢
      have k2 := k1.trans (Kps.put (o := .inst 87 (nameFs "z")) (.inr hnz))
      have rna := put_some (o' := .inst 87 (nameFs "z")) rna hnz
      generalize σ2.put nz (.inst 87 (nameFs "z")) = σ3 at k2 rna hka hc ⊢
      have k3 := k2.trans (Kps.put (o := .inst 108 (keyFs (1 + qv.fmod 3))) (.inr hka))
      have rna := put_some (o' := .inst 108 (keyFs (1 + qv.fmod 3))) rna hka
      have rka := put_same σ3 ka (.inst 108 (keyFs (1 + qv.fmod 3)))
      generalize σ3.put ka (.inst 108 (keyFs (1 + qv.fmod 3))) = σ4 at k3 rna rka hc ⊢
      have nc := k3.none hc id
      have k4 := k3.trans (Kps.put (o := .inst 160 (certFs jv (.ref na) (.ref nz) (.ref ka) (.int 0 0) (.ref ce))) (.inr hc))
      have rna := put_some (o' := .inst 160 (certFs jv (.ref na) (.ref nz) (.ref ka) (.int 0 0) (.ref ce))) rna hc
      have rka := put_some (o' := .inst 160 (certFs jv (.ref na) (.ref nz) (.ref ka) (.int 0 0) (.ref ce))) rka hc
      have rc := put_same σ4 c (.inst 160 (certFs jv (.ref na) (.ref nz) (.ref ka) (.int 0 0) (.ref ce)))
      generalize σ4.put c (.inst 160 (certFs jv (.ref na) (.ref nz) (.ref ka) (.int 0 0) (.ref ce))) = σ5 at k4 rna rka rc ⊢
      have hna2 : na ≠ c := ne_of_ao rna rc (by intro q; cases q)
      have hka2 : ka ≠ c := ne_of_ao rka rc (by intro q; cases q)
      generalize hkv : (if (qv.fdiv 3).fmod 3 = 0 then (none : Option (List UInt8)) else if (qv.fdiv 3).fmod 3 = 1 then some [107, 49] else some [107, 50]) = kid
      refine TXs_cons (TX_assignT (TE_tup (TAs_cons ((EV_add EV_int (EV_mod (EV_fdiv (EV_loc (by rfl) (by rfl)) EV_int (by decide) (by decide)) EV_int (by decide))).te ?_))))
      refine TAs_cons (TE_item (TE_list (TAs_cons (EV_none.te (TAs_cons (EV_bytes.te (TAs_cons (EV_bytes.te (TAs_nil ?_)))))))))
      refine ⟨by simp; decide, fun D2 hD2 => ⟨.int ((qv.fdiv 3).fmod 3) 0, kidV kid, EV_mod (EV_fdiv (EV_loc (by rfl) (by rfl)) EV_int (by decide) (by decide)) EV_int (by decide), Itm.list (put_same ..) r0 (by omega) ?_, TAs_nil ⟨by simp; decide, fun T2 hT2 u hu => ?_⟩⟩⟩
      · rw [idx3, ← hkv]
        have : (qv.fdiv 3).fmod 3 = 0 ∨ (qv.fdiv 3).fmod 3 = 1 ∨ (qv.fdiv 3).fmod 3 = 2 := by omega
        rcases this with h | h | h <;> rw [h] <;> rfl
      obtain rfl := nv_to_ref hu
      have k5 := k4.trans (Kps.put (o := .list [.none, .bytes [107, 49].toArray 0, .bytes [107, 50].toArray 0]) (.inr hD2))
      have rna := put_some (o' := .list [.none, .bytes [107, 49].toArray 0, .bytes [107, 50].toArray 0]) rna hD2
      have rka := put_some (o' := .list [.none, .bytes [107, 49].toArray 0, .bytes [107, 50].toArray 0]) rka hD2
      have rc := put_some (o' := .list [.none, .bytes [107, 49].toArray 0, .bytes [107, 50].toArray 0]) rc hD2
      generalize σ5.put D2 (.list [.none, .bytes [107, 49].toArray 0, .bytes [107, 50].toArray 0]) = σ6 at k5 rna rka rc hT2 ⊢
      have tv : ∀ o, Kps σ1 (σ6.put T2 o) (fun _ => False) := fun o => k5.trans (Kps.put (.inr hT2))
      have rna : ∀ o, (σ6.put T2 o) na = some (.inst 87 (nameFs ⟨#[abc.cps.getD (pv.fmod 3).toNat 0]⟩)) := fun o => put_some (o' := o) rna hT2
      have rka : ∀ o, (σ6.put T2 o) ka = some (.inst 108 (keyFs (1 + qv.fmod 3))) := fun o => put_some (o' := o) rka hT2
      have rc : ∀ o, (σ6.put T2 o) c = some (.inst 160 (certFs jv (.ref na) (.ref nz) (.ref ka) (.int 0 0) (.ref ce))) := fun o => put_some (o' := o) rc hT2
      refine TS_tupT hh (put_same ..) (by rfl) (by rfl) (TIn.cons fun u1 h1 => TS_attr (EV_cell (by rfl) (by rfl)) (rc _) (by rw [hK]; kernel_rfl) (by simp [certFs]) (TIn.cons fun u2 h2 => TS_attr (EV_cell (by rfl) (by rfl)) (put_same ..) (by rw [hK]; kernel_rfl) (by simp [certFs]) (TIn.nil ?_)))
      rw [put_put, h1, h2]
      have k7 := fun o o' => (tv o).put' (o := o') (a := c) (.inr nc)
      have rna : ∀ o o', ((σ6.put T2 o).put c o') na = some (.inst 87 (nameFs ⟨#[abc.cps.getD (pv.fmod 3).toNat 0]⟩)) := fun o o' => by rw [put_ne hna2]; exact rna o
      have rka : ∀ o o', ((σ6.put T2 o).put c o') ka = some (.inst 108 (keyFs (1 + qv.fmod 3))) := fun o o' => by rw [put_ne hka2]; exact rka o
      generalize hσ8 : (σ6.put T2 _).put c _ = σ8
      have k7 : Kps σ1 σ8 (fun _ => False) := by rw [← hσ8]; exact k7 _ _
      have rna : σ8 na = some (.inst 87 (nameFs ⟨#[abc.cps.getD (pv.fmod 3).toNat 0]⟩)) := by rw [← hσ8]; exact rna _ _
      have rka : σ8 ka = some (.inst 108 (keyFs (1 + qv.fmod 3))) := by rw [← hσ8]; exact rka _ _
      have rc : σ8 c = some (.inst 160 (("key_identifier", kidV kid) :: ("serial_number", .int (1 + (pv.fdiv 3).fmod 3) 0) :: certFs jv (.ref na) (.ref nz) (.ref ka) (.int 0 0) (.ref ce))) := by rw [← hσ8]; exact put_same ..
      clear hσ8
      have hinfo : infoJ ws (i + 1) = ⟨⟨#[abc.cps.getD (pv.fmod 3).toNat 0]⟩, 1 + (pv.fdiv 3).fmod 3, kid, big20 (1 + qv.fmod 3), jv⟩ := by unfold infoJ; rw [hj, hpv, hqv, hkv]
      have hkind : kindJ ws (i + 1) = (qv.fdiv 9).fmod 4 := by unfold kindJ; rw [hj, hqv]
      have hcrt : Crt σ8 c (infoJ ws (i + 1)) := by
        rw [hinfo]
        exact ⟨_, na, ka, _, rc, by rfl, rna, by rfl, by rfl, by rfl, rka, by rfl, by rfl, by rfl⟩
      have hps8 := hps.kp k7
      have hlen : ps.length = i := by have := congrArg List.length hinf; simpa using this
      refine TXs_cons (TX_expr (TE_bmeth (ao := .list _) (EV_loc (by rfl) (by rfl)) hps8.l rfl PySem.F.plainAttrs_list PySem.F.slot_list_append PySem.F.type_list_append
        (TAs_cons (TE_tup (TAs_cons ((EV_cell (by rfl) (by rfl)).te (TAs_cons ((EV_mod (EV_fdiv (EV_loc (by rfl) (by rfl)) EV_int (by decide) (by decide)) EV_int (by decide)).te (TAs_nil ?_)))))))))
      refine ⟨by simp; decide, fun T hT => TAs_nil (call_append (put_some hps8.l hT) ?_ ?_)⟩
      · simp [refs, hlen]; exact Nat.le_trans (by omega : i ≤ 6) (by decide)
      have ne8 : ∀ {b : Addr} {o : AO}, σ8 b = some o → (∀ xs, o ≠ .list xs) → ∀ o1 o2, ((σ8.put T o1).put pl o2) b = some o := fun hb hn o1 o2 => by
        rw [put_ne (ne_of_ao hb hps8.l (hn _))]; exact put_some hb hT
      have kk : ∀ o1 o2, Kps σ8 ((σ8.put T o1).put pl o2) (fun a => a = pl) := fun o1 o2 => (Kps.put (.inr hT)).trans (Kps.put (.inl rfl))
      have hTpl : T ≠ pl := Ne.symm (ne_of_new hps8.l hT)
      refine TXs_nil ⟨trivial, .add (by rfl) (.add (by rfl) .nil), ps ++ [⟨T, c, infoJ ws (i + 1), kindJ ws (i + 1)⟩], ⟨?_, fun e he => ?_, ?_⟩, ?_⟩
      · rw [put_same]; simp [refs]
      · have ni : ∀ b K fs, σ8 b = some (.inst K fs) → ¬ b = pl := fun b K fs hb => ne_of_ao hb hps8.l (by intro q; cases q)
        rcases List.mem_append.mp he with he | he
        · exact ⟨ne8 (hps8.e e he).1 (by intro xs q; cases q) _ _, (hps8.e e he).2.kp (kk _ _) ni⟩
        · obtain rfl : e = _ := by simpa using he
          refine ⟨?_, hcrt.kp (kk _ _) ni⟩
          dsimp only
          rw [put_ne hTpl, put_same, hkind]
      · rw [List.map_append, List.nodup_append]
        refine ⟨hps.n, by simp, fun a ha b hb => ?_⟩
        obtain rfl : b = c := by simpa using hb
        obtain ⟨e, he, rfl⟩ := List.mem_map.mp ha
        obtain ⟨fs, _, _, _, c1, _⟩ := (hps.e e he).2
        exact ne_of_new c1 nc
      · rw [List.map_append, hinf, List.range_succ, List.map_append]; rfl
    · exact cl_cons (by rfl) (cl_cons (by rfl) cl_nil)
    · exact mc_cons (fun _ => by rfl) (by rfl) (by rfl) (by rfl) (mc_cons (fun _ => by rfl) (by rfl) (by rfl) (by rfl) mc_nil)
  · rintro m' σ' ⟨he, ps, hps, hinf⟩
    exact h m' σ' ps he hps hinf
end
end J
end

section
open PySem PySem.W PySem.Calls PyProof.Rows
set_option Elab.async false
set_option linter.unusedVariables false
set_option maxRecDepth 100000
namespace J
def ci0 : CI := ⟨"", 0, none, [], 0⟩
def infoOf (ps : List PE) (a : Addr) : CI := ((ps.find? fun e => decide (e.c = a)).map (·.info)).getD ci0
theorem KO_mem {I : Addr → CI} {l : List Addr} {k : List UInt8} {a : Addr} (h : KO I l k = some a) : a ∈ l := by
  have key : ∀ (l : List Addr) (K : List UInt8 → Option Addr), (l.foldl (fun K b => match (I b).kid with | some k => fun y => if y = k then some b else K y | none => K) K) k = some a → a ∈ l ∨ K k = some a := fun l => by
    induction l with
    | nil => intro K h; exact .inr h
    | cons b l ih =>
      intro K h
      rcases ih _ h with h | h
      · exact .inl (.tail _ h)
      · cases q : (I b).kid with
        | none => simp only [q] at h; exact .inr h
        | some k' =>
          simp only [q] at h
          by_cases z : k = k'
          · rw [if_pos z] at h; cases h; exact .inl (.head _)
          · rw [if_neg z] at h; exact .inr h
  rcases key l _ h with h | h
  · exact h
  · cases h
theorem infoOf_mem {ps : List PE} (hn : (ps.map (·.c)).Nodup) {e : PE} (he : e ∈ ps) : infoOf ps e.c = e.info := by
  unfold infoOf
  induction ps with
  | nil => cases he
  | cons p r ih =>
    rw [List.map_cons, List.nodup_cons] at hn
    rcases List.mem_cons.mp he with rfl | he
    · simp
    · have : ¬ p.c = e.c := fun q => hn.1 (q ▸ List.mem_map_of_mem he)
      simp [List.find?_cons, this]
      simpa using ih hn.2 he
def kindL (ps : List PE) (k : Int) : List Addr := (ps.filter fun e => decide (e.kind = k)).map (·.c)
structure LawSt (σ : Ab) (pl : Addr) (ps : List PE) (r ds dk dc : Addr) (LF : Str → Option Addr) (known : List Addr) (kn ky : Addr) (G : List UInt8 → Option Addr) (Cf : Int → Bool) (b : Nat) : Prop where
  pool : PoolOk σ pl ps
  reg : ∃ ns nk nc, ns ≤ 900 + b ∧ nk ≤ 900 + b ∧ Reg σ r ds dk dc ns nk nc LF (SO (infoOf ps) known) G Cf
  fkn : σ kn = some (.list (refs known))
  fky : ∃ n, n ≤ 900 + b ∧ σ ky = some (.dB (fun k => (G k).map fun a => .int (infoOf ps a).num 0) n)
  sub : ∀ a ∈ known, ∃ e ∈ ps, e.c = a
  len : known.length ≤ 18 + b
  nf : ∀ x, LF x ≠ some pl ∧ LF x ≠ some kn
  nk : ky ≠ dk
  gs : ∀ k a, G k = some a → ∃ e ∈ ps, e.c = a
section
variable {C : Cx} {A : Around} {env : Env} {m : Loc} {σ σ₀ σ' : Ab} {s s₀ s' : Shared} {P : Params}
theorem PoolOk.crt {pl : Addr} {ps : List PE} (h : PoolOk σ pl ps) {a : Addr} (ha : ∃ e ∈ ps, e.c = a) : Crt σ a (infoOf ps a) := by
  obtain ⟨e, he, rfl⟩ := ha
  rw [infoOf_mem h.n he]; exact (h.e e he).2
theorem TE_cat2 {l r : Expr} {pos : Pos} {Q : Value → Ab → Prop} (hl : TE C A env m l σ fun v σ' => TE C A env m r σ' fun w σ'' => ∃ a b xs ys, v = .ref a ∧ w = .ref b ∧ σ'' a = some (.list xs) ∧ σ'' b = some (.list ys) ∧ xs.length + ys.length ≤ 1000 ∧ ∀ D, σ'' D = none → Q (.ref D) (σ''.put D (.list (xs ++ ys)))) :
    TE C A env m (.BinOp l .Add r pos) σ Q := fun σ₀ s₀ s R E W k =>
  wpAny_BinOp (hl σ₀ s₀ s _ E W fun u s₁ σ₁ W₁ hr => hr σ₀ s₀ s₁ _ E W₁ fun w s₂ σ₂ W₂ ⟨a, b, xs, ys, h1, h2, ha, hb, hn, q⟩ => by
    obtain rfl := nv_to_ref h1
    obtain rfl := nv_to_ref h2
    obtain ⟨vs, n, ho, hx⟩ := W₂.st.rep a _ ha
    obtain ⟨ws, n2, ho2, hy⟩ := W₂.st.rep b _ hb
    have e1 := size_of_map hx
    have e2 := size_of_map hy
    have hs : (1000 : Nat) ≤ sizeLine := by decide
    exact PySem.P.add_list ho ho2 (k _ _ _ (W₂.alloc (ao := .list (xs ++ ys)) rfl _ s₂.toks ⟨_, _, Heap.get?_push_size _ rfl, by simp [hx, hy]⟩) (q _ W₂.newNone)) (by omega))
theorem Cmp.isNot_kid (k : Option (List UInt8)) : Cmp C A σ .IsNot (kidV k) .none k.isSome := fun a' b' ha hb s R E S h => by
  obtain rfl := nv_to_none hb
  cases k with
  | none => obtain rfl := nv_to_none ha; exact wpAny_isNot_plain rfl (h _)
  | some b => obtain ⟨t, rfl⟩ := nv_to_bytes ha; exact wpAny_isNot_plain rfl (h _)
theorem Cmp.is_kid (k : Option (List UInt8)) : Cmp C A σ .Is (kidV k) .none (!k.isSome) := fun a' b' ha hb s R E S h => by
  obtain rfl := nv_to_none hb
  cases k with
  | none => obtain rfl := nv_to_none ha; exact wpAny_is_plain rfl (h _)
  | some b => obtain ⟨t, rfl⟩ := nv_to_bytes ha; exact wpAny_is_plain rfl (h _)
theorem turn_kind {scope : Scope} {pl : Addr} {ps : List PE} (hps : PoolOk σ pl ps) (hh : A.handled = none) (hfn : scope.kind = .function) (h1 : ∀ Cc, (compEnvC scope [] Cc env).kindOf "cert" = some .local) (h2 : ∀ Cc, (compEnvC scope [] Cc env).kindOf "kind" = some .local) {k : Int} {kk k2 : Nat} {p1 p2 p3 p4 p5 p6 p7 : Pos} :
    CTurn C A env scope [] [] (.Tuple [.Name "cert" p1, .Name "kind" p2] kk p3) (.Name "cert" p4) [.Compare (.Name "kind" p5) [.Eq] [.Constant (.int k) k2 p6] p7] (refs (ps.map (·.T))).length (fun i => (refs (ps.map (·.T))).getD i .none) (fun σ' => σ' pl = some (.list (refs (ps.map (·.T)))))
      (fun i ys σ' => σ' = σ ∧ ys = refs (kindL (ps.take i) k)) := by
  rintro Cc i ys σ' u hi hu hS ⟨rfl, rfl⟩
  obtain ⟨T, hT, rfl⟩ := refs_get hi hu
  rw [List.getElem?_map] at hT
  obtain ⟨e, he, rfl⟩ := Option.map_eq_some_iff.mp hT
  have hem := List.mem_of_getElem? he
  have htk : ps.take (i + 1) = ps.take i ++ [e] := by rw [List.take_add_one, he]; rfl
  refine ⟨[("cert", .ref e.c), ("kind", .int e.kind 0)], Tgt.pair hh hfn (h1 Cc) (h2 Cc) (by decide) (hps.e e hem).1, fun x v hx => fs_two hx (h1 Cc) (h2 Cc), TIfs_one ((EB_cmp (EV_loc (by rfl) (h2 Cc)) EV_int (Cmp.eq_int _ _)).tb ?_)⟩
  by_cases q : e.kind = k
  · rw [decide_eq_true q, if_pos rfl]
    refine (EV_loc (by rfl) (h1 Cc)).te ⟨hS, rfl, ?_⟩
    rw [htk]; simp [kindL, refs, q]
  · rw [decide_eq_false q, if_neg Bool.false_ne_true]
    refine ⟨hS, rfl, ?_⟩
    rw [htk]; simp [kindL, refs, q]
theorem kindL_len {ps : List PE} {k : Int} : (kindL ps k).length ≤ ps.length := by simp [kindL]; exact List.length_filter_le _ _
theorem PoolOk.kp2 {pl : Addr} {ps : List PE} {P : Addr → Prop} (h : PoolOk σ pl ps) (k : Kps σ σ' P) (hl : ¬ P pl) (ht : ∀ b xs, σ b = some (.tup xs) → ¬ P b) (hi : ∀ b K fs, σ b = some (.inst K fs) → ¬ P b) : PoolOk σ' pl ps :=
  ⟨k _ _ h.l hl, fun e he => ⟨k _ _ (h.e e he).1 (ht _ _ (h.e e he).1), (h.e e he).2.kp k hi⟩, h.n⟩
theorem Reg.kp {r ds dk dc : Addr} {ns nk nc : Nat} {LF : Str → Option Addr} {S : Str → List Addr} {Kf : List UInt8 → Option Addr} {Cf : Int → Bool} {P : Addr → Prop} (G : Reg σ r ds dk dc ns nk nc LF S Kf Cf) (k : Kps σ σ' P) (h1 : ¬ P r) (h2 : ¬ P ds) (h3 : ¬ P dk) (h4 : ¬ P dc) (h5 : ∀ x L, LF x = some L → ¬ P L) : Reg σ' r ds dk dc ns nk nc LF S Kf Cf :=
  ⟨k _ _ G.r h1, k _ _ G.s h2, k _ _ G.k h3, k _ _ G.c h4, fun x L hL => k _ _ (G.l x L hL) (h5 x L hL), G.z, G.i⟩
set_option maxHeartbeats 1000000 in
theorem seg2 (hK : C.K = Mine.hd.heap_39 P) (hA : A.depth + 12 < recursionLimit) (hh : A.handled = none) {oc : Value} {od : Option Addr} {fd : FuncData} {osl : Array (Option Value)} {body : List Stmt} (hf : C.K.lookup 248 = some ⟨oc, od, .func fd, osl⟩) (hb : fd.body = .stmts body) {nm : Str} {L fa : Addr} {cd : Value} {Q : Flow → Loc → Ab → Prop}
    {lst pl : Addr} {ps : List PE} (hps : PoolOk σ pl ps) (hlen : ps.length ≤ 6) (hkid : ∀ e ∈ ps, ∀ y, e.info.kid = some y → y ≠ [] ∧ y.length ≤ 1000) (hm : Ext [("pool", .ref pl), ("script", .ref lst)] m)
    (h : ∀ m' σ' r ds dk dc LF kn ky G, Ext [("keys", .ref ky), ("known", .ref kn), ("registry", .ref r), ("pool", .ref pl), ("script", .ref lst)] m' →
      LawSt σ' pl ps r ds dk dc LF ((kindL ps 1 ++ kindL ps 2) ++ kindL ps 3) kn ky G (CO (infoOf ps) (kindL ps 1 ++ kindL ps 2)) 0 → TXs C A (envOfC nm fd.scope L fa cd) m' (body.drop 8) σ' Q) :
    TXs C A (envOfC nm fd.scope L fa cd) m (body.drop 2) σ Q := by
  obtain rfl := same_fd hf (by rw [hK]; rfl)
  cases hb
  refine hm.pre ?_
  have hsz : (refs (ps.map (·.T))).length ≤ sizeLine := by simp [refs]; exact Nat.le_trans hlen (by decide)
  have hfull : ∀ k, refs (kindL (ps.take (refs (ps.map (·.T))).length) k) = refs (kindL ps k) := fun k => by rw [List.take_of_length_le (by simp [refs])]
  refine TXs_cons (TX_assignComp (cl := []) (mc := []) (by rfl) (Src.list hh (EV_loc (by rfl) (by rfl)) hps.l) hps.l _ ⟨rfl, rfl⟩ (turn_kind hps hh (by rfl) (fun _ => by rfl) (fun _ => by rfl)) ?_ hsz (by rfl) cl_nil mc_nil (by rfl))
  rintro ys σ' D1 _ ⟨rfl, rfl⟩ hD1
  rw [hfull]
  have hps1 := hps.kp (Kps.put (o := .list (refs (kindL ps 1))) (.inr hD1))
  have r1 := put_same σ' D1 (.list (refs (kindL ps 1)))
  generalize σ'.put D1 (.list (refs (kindL ps 1))) = σ1 at hps1 r1 ⊢
  refine TXs_cons (TX_assignComp (cl := []) (mc := []) (by rfl) (Src.list hh (EV_loc (by rfl) (by rfl)) hps1.l) hps1.l _ ⟨rfl, rfl⟩ (turn_kind hps1 hh (by rfl) (fun _ => by rfl) (fun _ => by rfl)) ?_ hsz (by rfl) cl_nil mc_nil (by rfl))
  rintro ys σ'' D2 _ ⟨rfl, rfl⟩ hD2
  rw [hfull]
  have hps2 := hps1.kp (Kps.put (o := .list (refs (kindL ps 2))) (.inr hD2))
  have r1 := put_some (o' := .list (refs (kindL ps 2))) r1 hD2
  have r2 := put_same σ'' D2 (.list (refs (kindL ps 2)))
  generalize σ''.put D2 (.list (refs (kindL ps 2))) = σ2 at hps2 r1 r2 ⊢
  refine TXs_cons (TX_assignComp (cl := []) (mc := []) (by rfl) (Src.list hh (EV_loc (by rfl) (by rfl)) hps2.l) hps2.l _ ⟨rfl, rfl⟩ (turn_kind hps2 hh (by rfl) (fun _ => by rfl) (fun _ => by rfl)) ?_ hsz (by rfl) cl_nil mc_nil (by rfl))
  rintro ys σ3 D3 _ ⟨rfl, rfl⟩ hD3
  rw [hfull]
  have hps3 := hps2.kp (Kps.put (o := .list (refs (kindL ps 3))) (.inr hD3))
  have r1 := put_some (o' := .list (refs (kindL ps 3))) r1 hD3
  have r2 := put_some (o' := .list (refs (kindL ps 3))) r2 hD3
  have r3 := put_same σ3 D3 (.list (refs (kindL ps 3)))
  generalize σ3.put D3 (.list (refs (kindL ps 3))) = σ4 at hps3 r1 r2 r3 ⊢
  have l1 : (kindL ps 1).length ≤ 6 := Nat.le_trans kindL_len hlen
  have l2 : (kindL ps 2).length ≤ 6 := Nat.le_trans kindL_len hlen
  have l3 : (kindL ps 3).length ≤ 6 := Nat.le_trans kindL_len hlen
  have hin : ∀ a ∈ (kindL ps 1 ++ kindL ps 2) ++ kindL ps 3, ∃ e ∈ ps, e.c = a := fun a ha => by
    have key : ∀ k, a ∈ kindL ps k → ∃ e ∈ ps, e.c = a := fun k hk => by
      obtain ⟨e, he, rfl⟩ := List.mem_map.mp hk
      exact ⟨e, (List.mem_filter.mp he).1, rfl⟩
    rcases List.mem_append.mp ha with ha | ha
    · rcases List.mem_append.mp ha with ha | ha
      · exact key _ ha
      · exact key _ ha
    · exact key _ ha
  have hk0 : ∀ b y, (infoOf ps b).kid = some y → y ≠ [] ∧ y.length ≤ 1000 := fun b y hy => by
    unfold infoOf at hy
    cases q : ps.find? fun e => decide (e.c = b) with
    | none => rw [q] at hy; cases hy
    | some e => rw [q] at hy; exact hkid e (List.mem_of_find?_eq_some q) y hy
  refine TXs_cons (TX_assign (.inl (by rfl)) (TE_call (f := .ref 239) (EV_glob (v := .ref 239) (by rw [hK]; kernel_rfl) (by rfl)) nv_fix_ref (by rw [hK]; kernel_rfl) rfl
    (TAs_cons (TE_sliceAll (EV_loc (by rfl) (by rfl)) r1 (by simp [refs]; omega) fun Da hDa => TAs_cons (TE_sliceAll (EV_loc (by rfl) (by rfl)) (put_some r2 hDa) (by simp [refs]; omega) fun Db hDb => ?_)))))
  have ka := (Kps.put (σ := σ4) (a := Da) (o := .list (refs (kindL ps 1))) (P := fun _ => False) (.inr hDa)).trans (Kps.put (o := .list (refs (kindL ps 2))) (.inr hDb))
  have hps5 := hps3.kp ka
  have s1 := put_some (o' := .list (refs (kindL ps 2))) (put_same σ4 Da (.list (refs (kindL ps 1)))) hDb
  have s2 := put_same (σ4.put Da (.list (refs (kindL ps 1)))) Db (.list (refs (kindL ps 2)))
  have r1 := ka _ _ r1 id
  have r2 := ka _ _ r2 id
  have r3 := ka _ _ r3 id
  generalize (σ4.put Da (.list (refs (kindL ps 1)))).put Db (.list (refs (kindL ps 2))) = σ5 at hps5 s1 s2 r1 r2 r3 ⊢
  refine TAs_cons ((EV_loc (by rfl) (by rfl)).te (TAs_nil (reg_make hK (by omega) hh (I := infoOf ps) (lr := kindL ps 1) (le := kindL ps 2) (lo := kindL ps 3) (by simp; omega) (fun b hb => hps5.crt (hin b hb)) hk0 s1 s2 r3 ?_)))
  intro r ds dk dc σ6 ns nk nc LF hns hnk G k6 hnew
  have hps6 := hps5.kp k6
  have r1 := k6 _ _ r1 id
  have r2 := k6 _ _ r2 id
  have r3 := k6 _ _ r3 id
  have hplF : ¬ Foot ds dk dc LF pl := fun q => by have := hnew _ q; rw [hps5.l] at this; cases this
  refine TXs_cons (TX_swap2 (x := "known") (y := "keys") hh (.inl (by rfl)) (.inl (by rfl)) (TE_tup (TAs_cons (TE_cat2 (TE_cat2 ?_)))))
  refine (EV_loc (by rfl) (by rfl)).te ((EV_loc (by rfl) (by rfl)).te ?_)
  refine ⟨D1, D2, _, _, rfl, rfl, r1, r2, (by simp [refs]; omega), fun Dx hDx => ?_⟩
  refine (EV_loc (by rfl) (by rfl)).te ?_
  refine ⟨Dx, D3, _, _, rfl, rfl, put_same .., put_some r3 hDx, (by simp [refs]; omega), fun kn hkn => ?_⟩
  refine TAs_cons (TE_dict0 (.dB (fun _ => none) 0) (.inr (.inl rfl)) fun ky hky => TAs_nil ?_)
  refine ⟨(by simp; decide), fun T hT => ⟨T, _, _, rfl, put_same .., ?_⟩⟩
  have e7 : refs (kindL ps 1) ++ refs (kindL ps 2) ++ refs (kindL ps 3) = refs ((kindL ps 1 ++ kindL ps 2) ++ kindL ps 3) := by simp [refs]
  rw [e7]
  have k7 := Kps.put (σ := σ6) (a := Dx) (o := .list (refs (kindL ps 1) ++ refs (kindL ps 2))) (P := fun _ => False) (.inr hDx)
  generalize σ6.put Dx (.list (refs (kindL ps 1) ++ refs (kindL ps 2))) = σ7 at k7 hkn hky hT ⊢
  rw [e7] at hky hT
  have k8 := k7.trans (Kps.put (o := .list (refs ((kindL ps 1 ++ kindL ps 2) ++ kindL ps 3))) (.inr hkn))
  have q1 := put_same σ7 kn (.list (refs ((kindL ps 1 ++ kindL ps 2) ++ kindL ps 3)))
  have nkn := k7.none hkn id
  generalize σ7.put kn (.list (refs ((kindL ps 1 ++ kindL ps 2) ++ kindL ps 3))) = σ8 at k8 q1 hky hT ⊢
  have k9 := k8.trans (Kps.put (o := .dB (fun _ => none) 0) (.inr hky))
  have nky := k8.none hky id
  have q1 := put_some (o' := .dB (fun _ => none) 0) q1 hky
  have q2 := put_same σ8 ky (.dB (fun _ => none) 0)
  generalize σ8.put ky (.dB (fun _ => none) 0) = σ9 at k9 q1 q2 hT ⊢
  have k10 := k9.trans (Kps.put (o := .tup [.ref kn, .ref ky]) (.inr hT))
  have q1 := put_some (o' := .tup [.ref kn, .ref ky]) q1 hT
  have q2 := put_some (o' := .tup [.ref kn, .ref ky]) q2 hT
  generalize σ9.put T (.tup [.ref kn, .ref ky]) = σ10 at k10 q1 q2 ⊢
  have hps10 := hps6.kp k10
  have G10 : Reg σ10 r ds dk dc ns nk nc LF (SO (infoOf ps) ((kindL ps 1 ++ kindL ps 2) ++ kindL ps 3)) (KO (infoOf ps) ((kindL ps 1 ++ kindL ps 2) ++ kindL ps 3)) (CO (infoOf ps) (kindL ps 1 ++ kindL ps 2)) :=
    ⟨k10 _ _ G.r id, k10 _ _ G.s id, k10 _ _ G.k id, k10 _ _ G.c id, fun x L hL => k10 _ _ (G.l x L hL) id, G.z, G.i⟩
  have hkydk : ky ≠ dk := Ne.symm (ne_of_new G.k nky)
  have hnf : ∀ x, LF x ≠ some pl ∧ LF x ≠ some kn := fun x => ⟨fun q => hplF (.inr (.inr (.inr ⟨x, q⟩))), fun q => ne_of_new (G.l x kn q) nkn rfl⟩
  generalize hkn0 : (kindL ps 1 ++ kindL ps 2) ++ kindL ps 3 = kn0 at *
  have hne : ∀ {b : Addr} {o : AO}, σ10 b = some o → (∀ f n, o ≠ .dB f n) → ¬ b = ky := fun hb hn => ne_of_ao hb q2 (hn _ _)
  refine TXs_cons (TX_for (Src.list hh (EV_loc (by rfl) (by rfl)) q1) q1 (fun i m' σ' => Ext [("keys", .ref ky), ("known", .ref kn), ("registry", .ref r), ("pool", .ref pl), ("script", .ref lst)] m' ∧ Kps σ10 σ' (fun a => a = ky) ∧
      ∃ n, n ≤ i ∧ σ' ky = some (.dB (fun k => (KO (infoOf ps) (kn0.take i) k).map fun a => .int (infoOf ps a).num 0) n))
    ⟨.add (by rfl) (.add (by rfl) (.add (by rfl) (.add (by rfl) (.add (by rfl) .nil)))), Kps.refl, 0, Nat.le_refl _, q2⟩ ?_ ?_)
  · rintro i m' σ' u hi hu hkn' ⟨he, hkp, n, hn, hky'⟩
    obtain ⟨b, hbi, rfl⟩ := refs_get hi hu
    have hbm : b ∈ kn0 := List.mem_of_getElem? hbi
    have htk : kn0.take (i + 1) = kn0.take i ++ [b] := by rw [List.take_add_one, hbi]; rfl
    have hi' : i ≤ 100 := by
      have : kn0.length ≤ 18 := by rw [← hkn0]; simp; omega
      simp [refs] at hi; omega
    refine Crt.elim ((hps10.crt (hin b hbm)).kp hkp fun b K fs hb => hne hb (by intro f n q; cases q)) fun fs na ka kfs c1 c2 c3 c4 c5 c6 c7 c8 c9 c10 => ?_
    refine TS.pre he (Sub.refl _) (TS_name (.inr ⟨by rfl, _, by rfl⟩) ?_)
    refine TXs_cons (TX_ifB (b := (infoOf ps b).kid.isSome) (EB_cmp (EV_attr (EV_cell (by rfl) (by rfl)) c1 c5 (by rw [hK]; kernel_rfl) (by cases (infoOf ps b).kid <;> rfl)) EV_none (Cmp.isNot_kid _)) ?_ ?_)
    · intro hq
      obtain ⟨y, hy⟩ := Option.isSome_iff_exists.mp hq
      rw [hy] at c5
      refine TXs_cons (TX_setB (x := y) ((EV_attr (EV_cell (by rfl) (by rfl)) c1 c9 (by rw [hK]; kernel_rfl)).te ⟨EV_loc (by rfl) (by rfl), EV_attr (EV_cell (by rfl) (by rfl)) c1 c5 (by rw [hK]; kernel_rfl), hky', Nat.le_trans (by omega : n ≤ 100) (by decide), ?_⟩))
      refine TXs_nil (TXs_nil ⟨?_, .add (by rfl) (.add (by rfl) (.add (by rfl) (.add (by rfl) (.add (by rfl) .nil)))), hkp.trans (Kps.put (.inl rfl)), n + 1, by omega, ?_⟩)
      · rw [put_ne (ne_of_ao hkn' hky' (by intro q; cases q))]; exact hkn'
      · rw [put_same, htk, ← KO_some hy]
        congr 2
        funext z
        by_cases q : z = y <;> simp [q]
    · intro hq
      have hy : (infoOf ps b).kid = none := by cases z : (infoOf ps b).kid with | none => rfl | some b => rw [z] at hq; cases hq
      refine TXs_nil (TXs_nil ⟨hkn', .add (by rfl) (.add (by rfl) (.add (by rfl) (.add (by rfl) (.add (by rfl) .nil)))), hkp, n, by omega, ?_⟩)
      rw [htk, KO_none hy]; exact hky'
  · rintro m' σ' hkn' ⟨he, hkp, n, hn, hky'⟩
    have e : kn0.take (refs kn0).length = kn0 := List.take_of_length_le (by simp [refs])
    rw [e] at hky'
    have hl0 : kn0.length ≤ 18 := by rw [← hkn0]; simp; omega
    refine h m' σ' r ds dk dc LF kn ky (KO (infoOf ps) kn0) he ⟨hps10.kp2 hkp (hne hps10.l (by intro f n q; cases q)) (fun b xs hb => hne hb (by intro f n q; cases q)) (fun b K fs hb => hne hb (by intro f n q; cases q)), ⟨ns, nk, nc, by omega, by omega, ?_⟩, hkn', ⟨n, by simp [refs] at hn; omega, hky'⟩, hin, ?_, hnf, hkydk, fun k a hk => hin a (KO_mem hk)⟩
    · exact G10.kp hkp (hne G10.r (by intro f n q; cases q)) (hne G10.s (by intro f n q; cases q)) (Ne.symm hkydk) (hne G10.c (by intro f n q; cases q)) fun x L hL => hne (G10.l x L hL) (by intro f n q; cases q)
    · omega
end
end J
end

section
open PySem PySem.W PySem.Calls PyProof.Rows
set_option Elab.async false
set_option linter.unusedVariables false
set_option maxRecDepth 100000
namespace J
theorem LawSt.mono {σ : Ab} {pl : Addr} {ps : List PE} {r ds dk dc : Addr} {LF : Str → Option Addr} {known : List Addr} {kn ky : Addr} {G : List UInt8 → Option Addr} {Cf : Int → Bool} {b b' : Nat} (h : LawSt σ pl ps r ds dk dc LF known kn ky G Cf b) (hb : b ≤ b') : LawSt σ pl ps r ds dk dc LF known kn ky G Cf b' := by
  obtain ⟨h1, ⟨ns, nk, nc, h2, h3, h4⟩, h5, ⟨n, h6, h7⟩, h8, h9, h10, h11, h12⟩ := h
  exact ⟨h1, ⟨ns, nk, nc, by omega, by omega, h4⟩, h5, ⟨n, by omega, h7⟩, h8, by omega, h10, h11, h12⟩
def sameB (ps : List PE) (a b : Addr) : Bool := ((infoOf ps b).text == (infoOf ps a).text) && (decide ((infoOf ps b).ser = (infoOf ps a).ser) && true)
theorem mem_SO {I : Addr → CI} {l : List Addr} {t : Str} {b : Addr} : b ∈ SO I l t ↔ b ∈ l ∧ (I b).text = t := by
  unfold SO; rw [List.mem_filter]; simp
theorem fresh_iff {ps : List PE} {known : List Addr} {a : Addr} : refs (known.filter (sameB ps a)) = [] ↔ ¬ ∃ b ∈ SO (infoOf ps) known (infoOf ps a).text, (infoOf ps b).ser = (infoOf ps a).ser := by
  unfold refs
  rw [List.map_eq_nil_iff, List.filter_eq_nil_iff]
  constructor
  · rintro h ⟨b, hb, hs⟩
    obtain ⟨hb, ht⟩ := mem_SO.mp hb
    exact h b hb (by simp [sameB, ht, hs])
  · intro h b hb hq
    simp [sameB] at hq
    exact h ⟨b, mem_SO.mpr ⟨hb, hq.1⟩, hq.2⟩
section
variable {C : Cx} {A : Around} {env : Env} {m : Loc} {σ σ₀ σ' : Ab} {s s₀ s' : Shared} {P : Params}
def lawM (ky kn r pl lst : Addr) : Loc := [("keys", .ref ky), ("known", .ref kn), ("registry", .ref r), ("pool", .ref pl), ("script", .ref lst)]
set_option maxHeartbeats 2000000 in
theorem seg3 (hK : C.K = Mine.hd.heap_39 P) (hA : A.depth + 12 < recursionLimit) (hh : A.handled = none) (hu : A.units + 64 < cLine) {oc : Value} {od : Option Addr} {fd : FuncData} {osl : Array (Option Value)} {body : List Stmt} (hf : C.K.lookup 248 = some ⟨oc, od, .func fd, osl⟩) (hb : fd.body = .stmts body) {nm : Str} {L fa : Addr} {cd : Value} {Q : Flow → Loc → Ab → Prop}
    {lst pl : Addr} {ps : List PE} (hlen : ps.length ≤ 6) (hkid : ∀ e ∈ ps, ∀ y, e.info.kid = some y → y ≠ [] ∧ y.length ≤ 1000) {r ds dk dc kn ky : Addr} {LF : Str → Option Addr} {known : List Addr} {G : List UInt8 → Option Addr} {Cf : Int → Bool}
    (hm : Ext (lawM ky kn r pl lst) m) (hst : LawSt σ pl ps r ds dk dc LF known kn ky G Cf 0)
    (h : ∀ m' σ' LF known kn ky G, Ext (lawM ky kn r pl lst) m' → LawSt σ' pl ps r ds dk dc LF known kn ky G Cf 12 → TXs C A (envOfC nm fd.scope L fa cd) m' (body.drop 9) σ' Q) :
    TXs C A (envOfC nm fd.scope L fa cd) m (body.drop 8) σ Q := by
  obtain rfl := same_fd hf (by rw [hK]; rfl)
  cases hb
  have hk0 : ∀ b y, (infoOf ps b).kid = some y → y ≠ [] ∧ y.length ≤ 1000 := fun b y hy => by
    unfold infoOf at hy
    cases q : ps.find? fun e => decide (e.c = b) with
    | none => rw [q] at hy; cases hy
    | some e => rw [q] at hy; exact hkid e (List.mem_of_find?_eq_some q) y hy
  refine TXs_seq (fun m' σ' => ∃ LF known kn ky G, Ext (lawM ky kn r pl lst) m' ∧ LawSt σ' pl ps r ds dk dc LF known kn ky G Cf 12)
    (TX_for (Src.range1 (b := 2) (n := 2) hh (EV_built (v := .type "range") (by rw [hK]; kernel_rfl) (by kernel_rfl) (by rfl)) EV_int (by rfl) (by rfl)) trivial
      (fun t m' σ' => ∃ LF known kn ky G, Ext (lawM ky kn r pl lst) m' ∧ LawSt σ' pl ps r ds dk dc LF known kn ky G Cf (6 * t)) ⟨LF, known, kn, ky, G, hm, hst⟩ ?_ fun m' σ' _ hJ => hJ) ?_
  · rintro t m' σ' u ht hut _ ⟨LF, known, kn, ky, G, he, hst⟩
    refine TS.pre he (Sub.refl _) (TS_name (.inl (by rfl)) ?_)
    refine TXs_cons (TX_for (Src.list hh (EV_loc (by rfl) (by rfl)) hst.pool.l) hst.pool.l
      (fun i m' σ' => ∃ LF known kn ky G, Ext (lawM ky kn r pl lst) m' ∧ LawSt σ' pl ps r ds dk dc LF known kn ky G Cf (6 * t + i)) ⟨LF, known, kn, ky, G, .add (by rfl) (.add (by rfl) (.add (by rfl) (.add (by rfl) (.add (by rfl) .nil)))), hst⟩ ?_ ?_)
    · rintro i m' σ' u hi hui hS ⟨LF, known, kn, ky, G, he, hst⟩
      obtain ⟨T, hT, rfl⟩ := refs_get hi hui
      rw [List.getElem?_map] at hT
      obtain ⟨e, hei, rfl⟩ := Option.map_eq_some_iff.mp hT
      have hem := List.mem_of_getElem? hei
      have hi6 : i < 6 := by simp [refs] at hi; omega
      refine TS.pre he (Sub.refl _) (TS_tupT hh (hst.pool.e e hem).1 (by rfl) (by rfl) (TIn.cons fun u1 h1 => TS_name (.inr ⟨by rfl, _, by rfl⟩) (TIn.cons fun u2 h2 => TS_name (.inl (by rfl)) (TIn.nil ?_))))
      refine Ext.pre (m₀ := ("kind", .int e.kind 0) :: ("cert", .ref e.c) :: lawM ky kn r pl lst) (.add (by show some (nv u2) = _; rw [h2]) (.add (by show some (nv u1) = _; rw [h1]) (.add (by rfl) (.add (by rfl) (.add (by rfl) (.add (by rfl) (.add (by rfl) .nil))))))) ?_
      clear h1 h2
      refine TXs_cons (TX_ifB (EB_cmp (EV_loc (by rfl) (by rfl)) EV_int (Cmp.eq_int _ _)) (fun hq => ?_) fun hq => ?_)
      · have hkl : known.length ≤ 30 := by have := hst.len; omega
        obtain ⟨ns, nk, nc, hns, hnk, hG⟩ := hst.reg
        obtain ⟨nd, hnd, hky⟩ := hst.fky
        have hce := hst.pool.crt ⟨e, hem, rfl⟩
        refine Crt.elim (hce) fun fs na ka kfs c1 c2 c3 c4 c5 c6 c7 c8 c9 c10 => ?_
        have hcr : ∀ b ∈ known, Crt σ' b (infoOf ps b) := fun b hb => hst.pool.crt (hst.sub b hb)
        refine TXs_cons (TX_assign (.inl (by rfl)) (TE_cmp (TE_comp (cl := [("cert", L + 3)]) (mc := [("cert", .ref e.c)]) (Src.list hh (EV_loc (by rfl) (by rfl)) hst.fkn) hst.fkn
          (fun j ys σ'' => σ'' = σ' ∧ ys = refs ((known.take j).filter (sameB ps e.c))) ⟨rfl, rfl⟩ ?_ ?_ (by simp [refs]; exact Nat.le_trans hkl (by decide)) (by rfl) (cl_cons (by rfl) cl_nil) (mc_cons (fun _ => by rfl) (by rfl) (by rfl) (by rfl) mc_nil))))
        · rintro Cc j ys σ'' u hj hju hS' ⟨rfl, rfl⟩
          obtain ⟨b, hbj, rfl⟩ := refs_get hj hju
          have hbm := List.mem_of_getElem? hbj
          have htk : known.take (j + 1) = known.take j ++ [b] := by rw [List.take_add_one, hbj]; rfl
          refine Crt.elim (hcr b hbm) fun gs nb kb kgs d1 d2 d3 d4 d5 d6 d7 d8 d9 d10 => ?_
          refine ⟨[("one", .ref b)], Tgt.name (by rfl) (by rfl), fun x v hx => fs_one hx (by rfl), TIfs_one ((EB_and (EB_cmp (EV_attr (EV_attr (EV_loc (by rfl) (by rfl)) d1 d2 (by rw [hK]; kernel_rfl)) d3 (by rfl) (by rw [hK]; kernel_rfl)) (EV_attr (EV_attr (EV_cell (by rfl) (by rfl)) c1 c2 (by rw [hK]; kernel_rfl)) c3 (by rfl) (by rw [hK]; kernel_rfl)) (Cmp.eq_str _ _))
            fun _ => EB_and (EB_cmp (EV_attr (EV_loc (by rfl) (by rfl)) d1 d4 (by rw [hK]; kernel_rfl)) (EV_attr (EV_cell (by rfl) (by rfl)) c1 c4 (by rw [hK]; kernel_rfl)) (Cmp.eq_int _ _)) fun _ => EB_and_nil).tb ?_)⟩
          show if sameB ps e.c b = true then _ else _
          cases hsb : sameB ps e.c b with
          | true =>
            rw [if_pos rfl]
            refine (EV_loc (by rfl) (by rfl)).te ⟨hS', rfl, ?_⟩
            rw [htk]; simp [refs, hsb]
          | false =>
            rw [if_neg Bool.false_ne_true]
            refine ⟨hS', rfl, ?_⟩
            rw [htk]; simp [refs, hsb]
        · rintro ys σ'' D1 hS' ⟨rfl, rfl⟩ hD1
          have e0 : known.take (refs known).length = known := List.take_of_length_le (by simp [refs])
          rw [e0]
          refine TE_list (TAs_nil ⟨by decide, fun D2 hD2 => ⟨_, Cmp.eq_nil (put_some (put_same ..) hD2) (put_same ..) (by omega), ?_⟩⟩)
          have kk : Kps σ'' ((σ''.put D1 (.list (refs (known.filter (sameB ps e.c))))).put D2 (.list [])) (fun _ => False) := (Kps.put (.inr hD1)).trans (Kps.put (.inr hD2))
          have hst1 : LawSt ((σ''.put D1 (.list (refs (known.filter (sameB ps e.c))))).put D2 (.list [])) pl ps r ds dk dc LF known kn ky G Cf (6 * t + i) :=
            ⟨hst.pool.kp kk, ⟨ns, nk, nc, hns, hnk, hG.kp kk id id id id fun _ _ _ => id⟩, kk _ _ hst.fkn id, ⟨nd, hnd, kk _ _ hky id⟩, hst.sub, hst.len, hst.nf, hst.nk, hst.gs⟩
          generalize (σ''.put D1 (.list (refs (known.filter (sameB ps e.c))))).put D2 (.list []) = σ1 at hst1 ⊢
          clear kk hD1 hD2 hG hky hns hnk hnd hS' c1 c2 c3 c4 c5 c6 c7 c8 c9 c10 hcr hce
          obtain ⟨ns, nk, nc, hns, hnk, hG⟩ := hst1.reg
          obtain ⟨nd, hnd, hky⟩ := hst1.fky
          have hce := hst1.pool.crt ⟨e, hem, rfl⟩
          have hfr := fresh_iff (ps := ps) (known := known) (a := e.c)
          refine TXs_seq (fun m₁ σ₁ => Ext (("fresh", .bool (decide (refs (known.filter (sameB ps e.c)) = []))) :: ("cert", .ref e.c) :: lawM ky kn r pl lst) m₁ ∧ ∃ LF₁ ns₁ nk₁ nc₁ G₁ known₁, ns₁ ≤ 900 + (6 * t + i + 1) ∧ nk₁ ≤ 900 + (6 * t + i + 1) ∧ Reg σ₁ r ds dk dc ns₁ nk₁ nc₁ LF₁ (SO (infoOf ps) known₁) G₁ Cf ∧ PoolOk σ₁ pl ps ∧
            σ₁ kn = some (.list (refs known)) ∧ σ₁ ky = some (.dB (fun k => (G k).map fun a => .int (infoOf ps a).num 0) nd) ∧ (∀ x, LF₁ x ≠ some pl ∧ LF₁ x ≠ some kn) ∧
            ((refs (known.filter (sameB ps e.c)) = [] ∧ known₁ = known ++ [e.c] ∧ G₁ = fun y => if y = (infoOf ps e.c).kid.getD (infoOf ps e.c).sha then some e.c else G y) ∨ (refs (known.filter (sameB ps e.c)) ≠ [] ∧ known₁ = known ∧ G₁ = G)))
            (TX_if (TB_cmp (TE_meth (EV_loc (by rfl) (by rfl)) hG.r (by rfl) (by rw [hK]; kernel_rfl) (TAs_cons ((EV_cell (by rfl) (by rfl)).te (TAs_nil
              (addcert hK (by omega) hh hG (by omega) (by omega) (fun x => Nat.le_trans (List.length_filter_le _ _) (by omega)) hce (hk0 e.c) (fun b => (infoOf ps b).ser) (fun b hb => ⟨_, hst1.pool.crt (hst1.sub b (mem_SO.mp hb).1), rfl⟩) ?_ ?_))))))) ?_
          · intro hex
            have hne : refs (known.filter (sameB ps e.c)) ≠ [] := fun q => hfr.mp q hex
            refine (EV_loc (by rfl) (by rfl)).te ⟨_, Cmp.ne_bool _ _ hu, ?_⟩
            rw [decide_eq_false hne, if_neg (by decide)]
            refine TXs_nil ⟨.add (by rfl) (.add (by rfl) (.add (by rfl) (.add (by rfl) (.add (by rfl) (.add (by rfl) (.add (by rfl) .nil)))))), LF, ns, nk, nc, G, known, by omega, by omega, hG, hst1.pool, hst1.fkn, hky, hst1.nf, .inr ⟨hne, rfl, rfl⟩⟩
          · intro hnex σ2 LF2 ns2 hns2 hG2 hLF hkp
            have hnil : refs (known.filter (sameB ps e.c)) = [] := hfr.mpr hnex
            refine (EV_loc (by rfl) (by rfl)).te ⟨_, Cmp.ne_bool _ _ hu, ?_⟩
            rw [decide_eq_true hnil, if_neg (by decide)]
            rw [← SO_step] at hG2
            have nfl : ∀ {b : Addr} {xs : List Value}, σ1 b = some (.list xs) → (∀ x, LF x ≠ some b) → ¬ Foot ds dk dc LF b := fun hb hx => by
              rintro (rfl | rfl | rfl | ⟨x, hx'⟩)
              · rw [hG.s] at hb; cases hb
              · rw [hG.k] at hb; cases hb
              · rw [hG.c] at hb; cases hb
              · exact hx x hx'
            have ntu : ∀ b xs, σ1 b = some (.tup xs) → ¬ Foot ds dk dc LF b := fun b xs hb => by
              rintro (rfl | rfl | rfl | ⟨x, hx'⟩)
              · rw [hG.s] at hb; cases hb
              · rw [hG.k] at hb; cases hb
              · rw [hG.c] at hb; cases hb
              · rw [hG.l x b hx'] at hb; cases hb
            have hkyF : ¬ Foot ds dk dc LF ky := by
              rintro (rfl | q | rfl | ⟨x, hx'⟩)
              · rw [hG.s] at hky; cases hky
              · exact hst1.nk q
              · rw [hG.c] at hky; cases hky
              · rw [hG.l x ky hx'] at hky; cases hky
            have hnf2 : ∀ x, LF2 x ≠ some pl ∧ LF2 x ≠ some kn := fun x => by
              rcases hLF x with q | ⟨L', q, hn⟩
              · rw [q]; exact hst1.nf x
              · rw [q]
                exact ⟨fun z => (by cases z; rw [hst1.pool.l] at hn; cases hn), fun z => (by cases z; rw [hst1.fkn] at hn; cases hn)⟩
            refine TXs_nil ⟨.add (by rfl) (.add (by rfl) (.add (by rfl) (.add (by rfl) (.add (by rfl) (.add (by rfl) (.add (by rfl) .nil)))))), LF2, ns2, nk + 1, nc, _, _, by omega, by omega, hG2, hst1.pool.kp2 hkp (nfl hst1.pool.l fun x => (hst1.nf x).1) ntu (fun b K fs hb => hG.foot hb), hkp _ _ hst1.fkn (nfl hst1.fkn fun x => (hst1.nf x).2), hkp _ _ hky hkyF, hnf2, .inl ⟨hnil, rfl, rfl⟩⟩
          · rintro m₁ σ₁ ⟨he₁, LF₁, ns₁, nk₁, nc₁, G₁, known₁, hns₁, hnk₁, hG₁, hp₁, hkn₁, hky₁, hnf₁, hcase⟩
            refine he₁.pre ?_
            refine TXs_cons (TX_ifB (EB_tru (EV_loc (by rfl) (by rfl)) (Tru.bool _)) (fun hq => ?_) fun hq => ?_)
            · have hnil : refs (known.filter (sameB ps e.c)) = [] := by simpa using hq
              obtain ⟨rfl, rfl⟩ : known₁ = known ++ [e.c] ∧ G₁ = fun y => if y = (infoOf ps e.c).kid.getD (infoOf ps e.c).sha then some e.c else G y := by
                rcases hcase with ⟨_, h1, h2⟩ | ⟨q, _⟩
                · exact ⟨h1, h2⟩
                · exact absurd hnil q
              refine TXs_cons (TX_assign (.inl (by rfl)) (TE_cat2 ((EV_loc (by rfl) (by rfl)).te (TE_list (TAs_cons ((EV_cell (by rfl) (by rfl)).te (TAs_nil ?_)))))))
              refine ⟨by simp; decide, fun Dl hDl => ⟨kn, Dl, _, _, rfl, rfl, put_some hkn₁ hDl, put_same .., by simp [refs]; omega, fun Dk hDk => ?_⟩⟩
              have ea : refs known ++ [.ref e.c] = refs (known ++ [e.c]) := by simp [refs]
              rw [ea]
              have kk : Kps σ₁ ((σ₁.put Dl (.list [.ref e.c])).put Dk (.list (refs (known ++ [e.c])))) (fun _ => False) := (Kps.put (.inr hDl)).trans (Kps.put (.inr hDk))
              have hp₂ := hp₁.kp kk
              have hG₂ := hG₁.kp kk id id id id fun _ _ _ => id
              have hky₂ := kk _ _ hky₁ id
              have hkn₂ := put_same (σ₁.put Dl (.list [.ref e.c])) Dk (.list (refs (known ++ [e.c])))
              have hnf₂ : ∀ x, LF₁ x ≠ some pl ∧ LF₁ x ≠ some Dk := fun x => ⟨(hnf₁ x).1, fun z => ne_of_new (put_some (o' := .list [.ref e.c]) (hG₁.l x Dk z) hDl) hDk rfl⟩
              generalize (σ₁.put Dl (.list [.ref e.c])).put Dk (.list (refs (known ++ [e.c]))) = σ2 at hp₂ hG₂ hky₂ hkn₂ ⊢
              refine Crt.elim (hp₂.crt ⟨e, hem, rfl⟩) fun fs na ka kfs c1 c2 c3 c4 c5 c6 c7 c8 c9 c10 => ?_
              refine TXs_cons (TX_setB (x := (infoOf ps e.c).kid.getD (infoOf ps e.c).sha) ((EV_attr (EV_cell (by rfl) (by rfl)) c1 c9 (by rw [hK]; kernel_rfl)).te ⟨EV_loc (by rfl) (by rfl), ?_, hky₂, Nat.le_trans (by omega : nd ≤ 2000) (by decide), ?_⟩))
              · refine EV_if (EB_cmp (EV_attr (EV_cell (by rfl) (by rfl)) c1 c5 (by rw [hK]; kernel_rfl) (by cases (infoOf ps e.c).kid <;> rfl)) EV_none (Cmp.is_kid _)) (fun hq => ?_) fun hq => ?_
                · have hkn : (infoOf ps e.c).kid = none := by cases z : (infoOf ps e.c).kid with | none => rfl | some b => rw [z] at hq; cases hq
                  rw [hkn]
                  exact EV_attr (EV_attr (EV_cell (by rfl) (by rfl)) c1 c6 (by rw [hK]; kernel_rfl)) c7 c8 (by rw [hK]; kernel_rfl)
                · obtain ⟨b, hb⟩ : ∃ b, (infoOf ps e.c).kid = some b := by cases z : (infoOf ps e.c).kid with | none => rw [z] at hq; cases hq | some b => exact ⟨b, rfl⟩
                  rw [hb] at c5 ⊢
                  exact EV_attr (EV_cell (by rfl) (by rfl)) c1 c5 (by rw [hK]; kernel_rfl)
              · have ne2 : ∀ {b : Addr} {o : AO}, σ2 b = some o → (∀ f n, o ≠ .dB f n) → ¬ b = ky := fun hb hn => ne_of_ao hb hky₂ (hn _ _)
                have kp2 := Kps.put (σ := σ2) (a := ky) (o := .dB (fun y => if y = (infoOf ps e.c).kid.getD (infoOf ps e.c).sha then some (.int (infoOf ps e.c).num 0) else (G y).map fun a => .int (infoOf ps a).num 0) (nd + 1)) (P := fun a => a = ky) (.inl rfl)
                have hpl2 := hp₂.kp2 kp2 (ne2 hp₂.l (by intro f n q; cases q)) (fun b xs hb => ne2 hb (by intro f n q; cases q)) (fun b K fs hb => ne2 hb (by intro f n q; cases q))
                refine TXs_nil (TXs_nil (TXs_nil ⟨hpl2.l, LF₁, known ++ [e.c], Dk, ky, _, .add (by rfl) (.add (by rfl) (.add (by rfl) (.add (by rfl) (.add (by rfl) .nil)))), hpl2,
                  ⟨ns₁, nk₁, nc₁, by omega, by omega, hG₂.kp kp2 (ne2 hG₂.r (by intro f n q; cases q)) (ne2 hG₂.s (by intro f n q; cases q)) (Ne.symm hst1.nk) (ne2 hG₂.c (by intro f n q; cases q)) fun x L hL => ne2 (hG₂.l x L hL) (by intro f n q; cases q)⟩,
                  kp2 _ _ hkn₂ (ne2 hkn₂ (by intro f n q; cases q)), ⟨nd + 1, by omega, ?_⟩, fun a ha => ?_, by simp; have := hst1.len; omega, hnf₂, hst1.nk, fun k a hk => ?_⟩))
                · rw [put_same]
                  congr 2
                  funext y
                  by_cases q : y = (infoOf ps e.c).kid.getD (infoOf ps e.c).sha <;> simp [q]
                · rcases List.mem_append.mp ha with ha | ha
                  · exact hst1.sub a ha
                  · obtain rfl : a = e.c := by simpa using ha
                    exact ⟨e, hem, rfl⟩
                · by_cases q : k = (infoOf ps e.c).kid.getD (infoOf ps e.c).sha
                  · simp only [q, if_true] at hk; cases hk; exact ⟨e, hem, rfl⟩
                  · simp only [if_neg q] at hk; exact hst1.gs k a hk
            · have hnil : ¬ refs (known.filter (sameB ps e.c)) = [] := by simpa using hq
              rcases hcase with ⟨q, _⟩ | ⟨_, rfl, rfl⟩
              · exact absurd q hnil
              · exact TXs_nil (TXs_nil (TXs_nil ⟨hp₁.l, LF₁, known₁, kn, ky, G₁, .add (by rfl) (.add (by rfl) (.add (by rfl) (.add (by rfl) (.add (by rfl) .nil)))), hp₁, ⟨ns₁, nk₁, nc₁, hns₁, hnk₁, hG₁⟩, hkn₁, ⟨nd, by omega, hky₁⟩, hst1.sub, by have := hst1.len; omega, hnf₁, hst1.nk, hst1.gs⟩))
      · exact TXs_nil (TXs_nil ⟨hS, LF, known, kn, ky, G, .add (by rfl) (.add (by rfl) (.add (by rfl) (.add (by rfl) (.add (by rfl) .nil)))), hst.mono (Nat.le_succ _)⟩)
    · rintro m' σ' hS ⟨LF, known, kn, ky, G, he, hst⟩
      refine TXs_nil ⟨trivial, LF, known, kn, ky, G, he, hst.mono ?_⟩
      simp [refs]; omega
  · rintro m' σ' ⟨LF, known, kn, ky, G, he, hst⟩
    exact h m' σ' LF known kn ky G he hst
end
end J
end

section
open PySem PySem.W PySem.Calls PyProof.Rows
set_option Elab.async false
set_option linter.unusedVariables false
set_option maxRecDepth 100000
namespace J
theorem LawSt.kp {σ σ' : Ab} {pl : Addr} {ps : List PE} {r ds dk dc : Addr} {LF : Str → Option Addr} {known : List Addr} {kn ky : Addr} {G : List UInt8 → Option Addr} {Cf : Int → Bool} {b : Nat} (h : LawSt σ pl ps r ds dk dc LF known kn ky G Cf b) (kk : Kps σ σ' (fun _ => False)) : LawSt σ' pl ps r ds dk dc LF known kn ky G Cf b := by
  obtain ⟨h1, ⟨ns, nk, nc, h2, h3, h4⟩, h5, ⟨n, h6, h7⟩, h8, h9, h10, h11, h12⟩ := h
  exact ⟨h1.kp kk, ⟨ns, nk, nc, h2, h3, h4.kp kk id id id id fun _ _ _ => id⟩, kk _ _ h5 id, ⟨n, h6, kk _ _ h7 id⟩, h8, h9, h10, h11, h12⟩
def nums (ps : List PE) (l : List Addr) : List Int := l.map fun b => (infoOf ps b).num
section
variable {C : Cx} {A : Around} {env : Env} {m : Loc} {σ σ₀ σ' : Ab} {s s₀ s' : Shared} {P : Params}
theorem turn_sig (hK : C.K = Mine.hd.heap_39 P) {scope : Scope} {ps : List PE} {l : Addr} {res : List Addr} (hc : ∀ b ∈ res, Crt σ b (infoOf ps b)) (hfn : scope.kind = .function) (h1 : ∀ Cc, (compEnvC scope [] Cc env).kindOf "cert" = some .local) {p1 p2 p3 : Pos} :
    CTurn C A env scope [] [] (.Name "cert" p1) (.Attribute (.Name "cert" p2) "signature" p3) [] (refs res).length (fun i => (refs res).getD i .none) (fun σ' => σ' l = some (.list (refs res)))
      (fun i ys σ' => σ' = σ ∧ ys = iV (nums ps (res.take i))) := by
  rintro Cc i ys σ' u hi hu hS ⟨rfl, rfl⟩
  obtain ⟨b, hb, rfl⟩ := refs_get hi hu
  have hbm := List.mem_of_getElem? hb
  have htk : res.take (i + 1) = res.take i ++ [b] := by rw [List.take_add_one, hb]; rfl
  refine Crt.elim (hc b hbm) fun gs nb kb kgs d1 d2 d3 d4 d5 d6 d7 d8 d9 d10 => ?_
  refine ⟨[("cert", .ref b)], Tgt.name hfn (h1 Cc), fun x v hx => fs_one hx (h1 Cc), TIfs_nil ?_⟩
  rw [if_pos rfl]
  refine (EV_attr (EV_loc (by rfl) (h1 Cc)) d1 d9 (by rw [hK]; kernel_rfl)).te ⟨hS, rfl, ?_⟩
  rw [htk]; simp [nums, iV]
theorem res_nums {ps : List PE} {S res : List Addr} {w : Int} (h : (∀ b ∈ S, decide (w = (infoOf ps b).num) = false) ∧ res = S ∨ ∃ f ∈ S, decide (w = (infoOf ps f).num) = true ∧ res = f :: S.filter (fun b => !decide (w = (infoOf ps b).num))) :
    nums ps res = if w ∈ nums ps S then w :: (nums ps S).filter (fun n => !decide (n = w)) else nums ps S := by
  rcases h with ⟨h, rfl⟩ | ⟨f, hf, hw, rfl⟩
  · rw [if_neg]
    intro hm
    obtain ⟨b, hb, hq⟩ := List.mem_map.mp hm
    have := h b hb
    simp [hq] at this
  · have hw : w = (infoOf ps f).num := by simpa using hw
    rw [if_pos (by rw [hw]; exact List.mem_map_of_mem hf)]
    unfold nums
    rw [List.map_cons, List.filter_map, ← hw]
    congr 2
    refine List.filter_congr fun b hb => ?_
    by_cases q : w = (infoOf ps b).num
    · simp [← q]
    · have : ¬ (infoOf ps b).num = w := fun z => q z.symm
      simp [q, this]
set_option maxHeartbeats 2000000 in
theorem seg4 (hK : C.K = Mine.hd.heap_39 P) (hA : A.depth + 12 < recursionLimit) (hh : A.handled = none) (hu : A.units + 64 < cLine) {oc : Value} {od : Option Addr} {fd : FuncData} {osl : Array (Option Value)} {body : List Stmt} (hf : C.K.lookup 248 = some ⟨oc, od, .func fd, osl⟩) (hb : fd.body = .stmts body) {nm : Str} {L fa : Addr} {cd : Value} {Q : Flow → Loc → Ab → Prop}
    {lst pl : Addr} {vs : List Value} {ws : List Int} (hL : C.h₀.IsList lst vs.toArray) (hI : IntsAre vs ws) (hn : ws.length ≤ 63) {ps : List PE} (hlen : ps.length = 6) {r ds dk dc kn ky : Addr} {LF : Str → Option Addr} {known : List Addr} {G : List UInt8 → Option Addr} {Cf : Int → Bool}
    (hm : Ext (lawM ky kn r pl lst) m) (hst : LawSt σ pl ps r ds dk dc LF known kn ky G Cf 12)
    (h : ∀ m' σ', Ext (lawM ky kn r pl lst) m' → LawSt σ' pl ps r ds dk dc LF known kn ky G Cf 12 → TXs C A (envOfC nm fd.scope L fa cd) m' (body.drop 11) σ' Q) :
    TXs C A (envOfC nm fd.scope L fa cd) m (body.drop 9) σ Q := by
  obtain rfl := same_fd hf (by rw [hK]; rfl)
  cases hb
  refine hm.pre ?_
  have hz := ints_size hI
  obtain ⟨x0, hx0⟩ : ∃ x, x = gi ws 0 := ⟨_, rfl⟩
  obtain ⟨z0, z1⟩ := fmod_range (a := x0) (b := 6) (by decide)
  obtain ⟨e, he⟩ : ∃ e, ps[(x0.fmod 6).toNat]? = some e := ⟨_, List.getElem?_eq_getElem (by omega)⟩
  have hem := List.mem_of_getElem? he
  refine TXs_cons (TX_assign (.inr ⟨by rfl, _, by rfl⟩) ((EV_item (vi := .int 0 0) (v := .ref e.c) (EV_item (vi := .int (x0.fmod 6) 0) (v := .ref e.T) (EV_loc (by rfl) (by rfl)) (EV_mod (EV_if (EB_tru (EV_cell (by rfl) (by rfl)) (Tru.list0 hL (by simp; omega))) (fun hq => ?_) (fun hq => ?_)) EV_int (by decide)) (Itm.list hst.pool.l z0 (by omega) ?_)) EV_int (Itm.tup (i := 0) (hst.pool.e e hem).1 (by decide) (by rfl))).te ?_))
  · have hq' : vs.length ≠ 0 := by simpa using hq
    obtain ⟨u, hu', hv⟩ := ints_get hI (i := 0) (by omega)
    rw [hx0]
    exact EV_item (EV_cell (by rfl) (by rfl)) EV_int (Itm.list0 hL (by decide) (by decide) (by simpa using hu') hv)
  · have hq' : vs.length = 0 := by simpa using hq
    have : x0 = 0 := by
      rw [hx0]; unfold gi
      have : ws = [] := List.eq_nil_of_length_eq_zero (by omega)
      rw [this]; rfl
    rw [this]; exact EV_int
  · simp [refs, he]
  obtain ⟨wa, hwa'⟩ : ∃ w, w = e.c := ⟨_, rfl⟩
  have hwa : ∃ e ∈ ps, e.c = wa := ⟨e, hem, hwa'.symm⟩
  rw [← hwa']
  obtain ⟨ns, nk, nc, hns, hnk, hG⟩ := hst.reg
  have hkl : known.length ≤ 30 := by have := hst.len; omega
  have hSl : ∀ x, (SO (infoOf ps) known x).length ≤ 900 := fun x => Nat.le_trans (List.length_filter_le _ _) (by omega)
  refine TXs_seq (fun m' σ' => Ext (lawM ky kn r pl lst) m' ∧ LawSt σ' pl ps r ds dk dc LF known kn ky G Cf 12)
    (TX_for (Src.str hh EV_str (by rw [← Array.all_toList]; decide)) trivial (fun i m' σ' => Ext (("wanted", .ref wa) :: lawM ky kn r pl lst) m' ∧ Kps σ σ' (fun _ => False)) ⟨.add (by rfl) (.add (by rfl) (.add (by rfl) (.add (by rfl) (.add (by rfl) (.add (by rfl) .nil))))), Kps.refl⟩ ?_
      fun m' σ' _ hJ => ⟨fun x v hx => hJ.1 x v (Ext.cons Ext.refl (by rfl) x v hx), hst.kp hJ.2⟩) ?_
  · rintro i m' σ' u hi hu' _ ⟨he', kk⟩
    generalize ht : (⟨#[("abcd" : Str).cps.getD i 0]⟩ : Str) = t at hu'
    refine TS.pre he' (Sub.refl _) (TS_name (.inr ⟨by rfl, _, by rfl⟩) ?_)
    rw [hu']
    have hst' := hst.kp kk
    refine TXs_cons (TX_assignComp (cl := [("text", L + 5)]) (mc := [("text", .str t 0)]) (by rfl) (Src.list hh (EV_loc (by rfl) (by rfl)) hst'.fkn) hst'.fkn
      (fun j ys σ'' => σ'' = σ' ∧ ys = iV (nums ps (SO (infoOf ps) (known.take j) t))) ⟨rfl, rfl⟩ ?_ ?_ (by simp [refs]; exact Nat.le_trans hkl (by decide)) (by rfl) (cl_cons (by rfl) cl_nil) (mc_cons (fun _ => by rfl) (by rfl) (by rfl) (by rfl) mc_nil) (by rfl))
    · rintro Cc j ys σ'' u hj hju hS' ⟨rfl, rfl⟩
      obtain ⟨b, hbj, rfl⟩ := refs_get hj hju
      have hbm := List.mem_of_getElem? hbj
      have htk : known.take (j + 1) = known.take j ++ [b] := by rw [List.take_add_one, hbj]; rfl
      refine Crt.elim (hst'.pool.crt (hst.sub b hbm)) fun gs nb kb kgs d1 d2 d3 d4 d5 d6 d7 d8 d9 d10 => ?_
      refine ⟨[("cert", .ref b)], Tgt.name (by rfl) (by rfl), fun x v hx => fs_one hx (by rfl), TIfs_one ((EB_cmp (EV_attr (EV_attr (EV_loc (by rfl) (by rfl)) d1 d2 (by rw [hK]; kernel_rfl)) d3 (by rfl) (by rw [hK]; kernel_rfl)) (EV_cell (by rfl) (by rfl)) (Cmp.eq_str _ _)).tb ?_)⟩
      by_cases q : (infoOf ps b).text = t
      · rw [if_pos (by rw [q]; exact beq_self_eq_true _)]
        refine (EV_attr (EV_loc (by rfl) (by rfl)) d1 d9 (by rw [hK]; kernel_rfl)).te ⟨hS', rfl, ?_⟩
        rw [htk]; simp [SO, nums, iV, q]
      · rw [if_neg (by simpa using q)]
        refine ⟨hS', rfl, ?_⟩
        rw [htk]; simp [SO, nums, iV, q]
    · rintro ys σ'' D1 hS' ⟨rfl, rfl⟩ hD1
      have e0 : known.take (refs known).length = known := List.take_of_length_le (by simp [refs])
      rw [e0]
      have kk := kk.trans (Kps.put (o := .list (iV (nums ps (SO (infoOf ps) known t)))) (.inr hD1))
      have rdue := put_same σ'' D1 (.list (iV (nums ps (SO (infoOf ps) known t))))
      generalize σ''.put D1 (.list (iV (nums ps (SO (infoOf ps) known t)))) = σ1 at kk rdue ⊢
      have hst1 := hst.kp kk
      have hG1 := hG.kp kk id id id id fun _ _ _ => id
      have hcS : ∀ b ∈ SO (infoOf ps) known t, Crt σ1 b (infoOf ps b) := fun b hb => hst1.pool.crt (hst.sub b (mem_SO.mp hb).1)
      have hSn : (nums ps (SO (infoOf ps) known t)).length ≤ 30 := by simp [nums]; exact Nat.le_trans (List.length_filter_le _ _) hkl
      have hSs : (SO (infoOf ps) known t).length ≤ 30 := Nat.le_trans (List.length_filter_le _ _) hkl
      refine TXs_cons (TX_if (TB_cmp (TE_compL (cl := []) (mc := []) hh (TE_meth (f := 215) (EV_loc (by rfl) (by rfl)) hG1.r (by rfl) (by rw [hK]; kernel_rfl)
        (TAs_cons (TE_call (f := .ref 87) (EV_glob (v := .ref 87) (by rw [hK]; kernel_rfl) (by rfl)) nv_fix_ref (by rw [hK]; kernel_rfl) rfl (TAs_cons ((EV_cell (by rfl) (by rfl)).te (TAs_nil (name_make hK (by omega) fun na hna => TAs_nil ?_))))))) (by rfl) cl_nil mc_nil)))
      have kn1 : Kps σ1 (σ1.put na (.inst 87 (nameFs t))) (fun _ => False) := Kps.put (.inr hna)
      refine byname hK (by omega) hh (hG1.kp kn1 id id id id fun _ _ _ => id) hSl (put_same ..) none (fun x hx => by cases hx) (fun b => (infoOf ps b).num) (fun b hb => ⟨_, (hcS b hb).kp kn1 fun _ _ _ _ => id, rfl⟩) ?_
      intro D res hD hres hcase
      have hres' : nums ps res = nums ps (SO (infoOf ps) known t) := by
        rcases hcase with ⟨_, rfl⟩ | ⟨f, _, q, _⟩
        · rfl
        · cases q
      have hrl : res.length ≤ 30 := by have := congrArg List.length hres'; simp [nums] at this; omega
      have kn2 := kn1.trans (Kps.put (o := .list (refs res)) (.inr hD))
      have rD := put_same (σ1.put na (.inst 87 (nameFs t))) D (.list (refs res))
      generalize (σ1.put na (.inst 87 (nameFs t))).put D (.list (refs res)) = σ2 at kn2 rD ⊢
      refine ⟨D, _, rfl, rD, by simp [refs]; exact Nat.le_trans hrl (by decide), _, ⟨rfl, rfl⟩, turn_sig hK (l := D) (fun b hb => (hcS b (hres b hb)).kp kn2 fun _ _ _ _ => id) (by rfl) (fun _ => by rfl), ?_⟩
      rintro ys σ3 D3 _ ⟨rfl, rfl⟩ hD3
      have e1 : res.take (refs res).length = res := List.take_of_length_le (by simp [refs])
      rw [e1, hres']
      have kk := (kk.trans kn2).trans (Kps.put (o := .list (iV (nums ps (SO (infoOf ps) known t)))) (.inr hD3))
      have rdue := put_some (o' := .list (iV (nums ps (SO (infoOf ps) known t)))) (kn2 _ _ rdue id) hD3
      have rD3 := put_same σ3 D3 (.list (iV (nums ps (SO (infoOf ps) known t))))
      generalize σ3.put D3 (.list (iV (nums ps (SO (infoOf ps) known t)))) = σ4 at kk rdue rD3 ⊢
      refine (EV_loc (by rfl) (by rfl)).te ⟨_, Cmp.ne_ints rD3 rdue hu, ?_⟩
      rw [decide_eq_true rfl, if_neg (by decide)]
      refine TXs_nil ?_
      clear rD rD3 hst1 hG1 hcS kn1 kn2 hD hD3
      have hst1 := hst.kp kk
      have hG1 := hG.kp kk id id id id fun _ _ _ => id
      have hcS : ∀ b ∈ SO (infoOf ps) known t, Crt σ4 b (infoOf ps b) := fun b hb => hst1.pool.crt (hst.sub b (mem_SO.mp hb).1)
      refine Crt.elim (hst1.pool.crt hwa) fun gs nb kb kgs d1 d2 d3 d4 d5 d6 d7 d8 d9 d10 => ?_
      refine TXs_seq (fun m₁ σ₁ => Kps σ σ₁ (fun _ => False) ∧ ∃ Dd, Ext (("due", .ref Dd) :: ("text", .str t 0) :: ("wanted", .ref wa) :: lawM ky kn r pl lst) m₁ ∧ σ₁ Dd = some (.list (iV (if (infoOf ps wa).num ∈ nums ps (SO (infoOf ps) known t) then (infoOf ps wa).num :: (nums ps (SO (infoOf ps) known t)).filter (fun n => !decide (n = (infoOf ps wa).num)) else nums ps (SO (infoOf ps) known t)))))
        (TX_ifB (EB_cmp (EV_attr (EV_cell (by rfl) (by rfl)) d1 d9 (by rw [hK]; kernel_rfl)) (EV_loc (by rfl) (by rfl)) (Cmp.in_ints rdue)) (fun hq => ?_) fun hq => ?_) ?_
      · have hq : (infoOf ps wa).num ∈ nums ps (SO (infoOf ps) known t) := by simpa using hq
        rw [if_pos hq]
        generalize hN : nums ps (SO (infoOf ps) known t) = N at *
        refine TXs_cons (TX_assign (.inl (by rfl)) (TE_cat2 (TE_list (TAs_cons ((EV_attr (EV_cell (by rfl) (by rfl)) d1 d9 (by rw [hK]; kernel_rfl)).te (TAs_nil ?_))))))
        refine ⟨by simp; decide, fun Da hDa => ?_⟩
        have rdue2 := put_some (o' := .list [.int (infoOf ps wa).num 0]) rdue hDa
        have rDa := put_same σ4 Da (.list [.int (infoOf ps wa).num 0])
        have kk := kk.trans (Kps.put (o := .list [.int (infoOf ps wa).num 0]) (.inr hDa))
        have d1 := put_some (o' := .list [.int (infoOf ps wa).num 0]) d1 hDa
        generalize σ4.put Da (.list [.int (infoOf ps wa).num 0]) = σ5 at kk rdue2 rDa d1 ⊢
        refine TE_comp (cl := [("wanted", L + 4)]) (mc := [("wanted", .ref wa)]) (Src.list hh (EV_loc (by rfl) (by rfl)) rdue2) rdue2
          (fun j ys σ'' => σ'' = σ5 ∧ ys = iV ((N.take j).filter (fun n => !decide (n = (infoOf ps wa).num)))) ⟨rfl, rfl⟩ ?_ ?_ (by simp [iV]; exact Nat.le_trans hSn (by decide)) (by rfl) (cl_cons (by rfl) cl_nil) (mc_cons (fun _ => by rfl) (by rfl) (by rfl) (by rfl) mc_nil)
        · rintro Cc j ys σ'' u hj hju hS' ⟨rfl, rfl⟩
          have hj' : j < N.length := by simpa [iV] using hj
          have hnu : nv u = .int N[j] 0 := by rw [hju]; simp [iV, List.getD_eq_getElem?_getD, hj']
          have htk : N.take (j + 1) = N.take j ++ [N[j]] := by rw [List.take_add_one, List.getElem?_eq_getElem hj']; rfl
          refine ⟨[("number", nv u)], Tgt.name (by rfl) (by rfl), fun x v hx => fs_one hx (by rfl), ?_⟩
          rw [hnu]
          refine TIfs_one ((EB_cmp (EV_loc (by rfl) (by rfl)) (EV_attr (EV_cell (by rfl) (by rfl)) d1 d9 (by rw [hK]; kernel_rfl)) (Cmp.ne_int _ _)).tb ?_)
          by_cases q : N[j] = (infoOf ps wa).num
          · rw [if_neg (by simp [q])]
            refine ⟨hS', rfl, ?_⟩
            rw [htk]; simp [iV, q]
          · rw [if_pos (by simp [q])]
            refine (EV_loc (by rfl) (by rfl)).te ⟨hS', rfl, ?_⟩
            have e3 : [N[j]].filter (fun n => !decide (n = (infoOf ps wa).num)) = [N[j]] := by rw [List.filter_cons_of_pos (by simp [q])]; rfl
            rw [htk, List.filter_append, e3]
            unfold iV; rw [List.map_append]; rfl
        · rintro ys σ'' Db hS' ⟨rfl, rfl⟩ hDb
          have e2 : N.take (iV N).length = N := List.take_of_length_le (by simp [iV])
          rw [e2]
          refine ⟨Da, Db, _, _, rfl, rfl, put_some rDa hDb, put_same .., ?_, fun Dd hDd => ?_⟩
          · simp [iV]; have := List.length_filter_le (fun n => !decide (n = (infoOf ps wa).num)) N; omega
          · refine TXs_nil ⟨(kk.trans (Kps.put (.inr hDb))).trans (Kps.put (.inr hDd)), Dd, .add (by rfl) (.add (by rfl) (.add (by rfl) (.add (by rfl) (.add (by rfl) (.add (by rfl) (.add (by rfl) (.add (by rfl) .nil))))))), ?_⟩
            rw [put_same]; simp [iV]
      · have hq : ¬ (infoOf ps wa).num ∈ nums ps (SO (infoOf ps) known t) := by simpa using hq
        rw [if_neg hq]
        exact TXs_nil ⟨kk, D1, .add (by rfl) (.add (by rfl) (.add (by rfl) (.add (by rfl) (.add (by rfl) (.add (by rfl) (.add (by rfl) (.add (by rfl) .nil))))))), rdue⟩
      · clear hst1 hG1 hcS
        rintro m₁ σ₁ ⟨kk, Dd, he₁, rDd⟩
        refine he₁.pre ?_
        have hst1 := hst.kp kk
        have hG1 := hG.kp kk id id id id fun _ _ _ => id
        have hcS : ∀ b ∈ SO (infoOf ps) known t, Crt σ₁ b (infoOf ps b) := fun b hb => hst1.pool.crt (hst.sub b (mem_SO.mp hb).1)
        refine TXs_cons (TX_if (TB_cmp (TE_compL (cl := []) (mc := []) hh (TE_meth (f := 215) (EV_loc (by rfl) (by rfl)) hG1.r (by rfl) (by rw [hK]; kernel_rfl)
          (TAs_cons (TE_call (f := .ref 87) (EV_glob (v := .ref 87) (by rw [hK]; kernel_rfl) (by rfl)) nv_fix_ref (by rw [hK]; kernel_rfl) rfl (TAs_cons ((EV_cell (by rfl) (by rfl)).te (TAs_nil (name_make hK (by omega) fun na hna => TAs_cons ((EV_cell (by rfl) (by rfl)).te (TAs_nil ?_))))))))) (by rfl) cl_nil mc_nil)))
        have kn1 : Kps σ₁ (σ₁.put na (.inst 87 (nameFs t))) (fun _ => False) := Kps.put (.inr hna)
        refine byname hK (by omega) hh (hG1.kp kn1 id id id id fun _ _ _ => id) hSl (put_same ..) (some (wa, infoOf ps wa)) (fun x hx => by cases hx; exact (hst1.pool.crt hwa).kp kn1 fun _ _ _ _ => id) (fun b => (infoOf ps b).num) (fun b hb => ⟨_, (hcS b hb).kp kn1 fun _ _ _ _ => id, rfl⟩) ?_
        intro D res hD hres hcase
        have hres' := res_nums (ps := ps) hcase
        have hrl : res.length ≤ 40 := by
          rcases hcase with ⟨_, rfl⟩ | ⟨f, _, _, rfl⟩
          · omega
          · have := List.length_filter_le (fun b => !isW (some (wa, infoOf ps wa)) ((infoOf ps b).num)) (SO (infoOf ps) known t)
            simp; omega
        have kn2 := kn1.trans (Kps.put (o := .list (refs res)) (.inr hD))
        have rD := put_same (σ₁.put na (.inst 87 (nameFs t))) D (.list (refs res))
        generalize (σ₁.put na (.inst 87 (nameFs t))).put D (.list (refs res)) = σ2 at kn2 rD ⊢
        refine ⟨D, _, rfl, rD, by simp [refs]; exact Nat.le_trans hrl (by decide), _, ⟨rfl, rfl⟩, turn_sig hK (l := D) (fun b hb => (hcS b (hres b hb)).kp kn2 fun _ _ _ _ => id) (by rfl) (fun _ => by rfl), ?_⟩
        rintro ys σ3 D3 _ ⟨rfl, rfl⟩ hD3
        have e1 : res.take (refs res).length = res := List.take_of_length_le (by simp [refs])
        rw [e1, hres']
        generalize (if (infoOf ps wa).num ∈ nums ps (SO (infoOf ps) known t) then (infoOf ps wa).num :: (nums ps (SO (infoOf ps) known t)).filter (fun n => !decide (n = (infoOf ps wa).num)) else nums ps (SO (infoOf ps) known t)) = W at *
        have kk := (kk.trans kn2).trans (Kps.put (o := .list (iV W)) (.inr hD3))
        have rdue := put_some (o' := .list (iV W)) (kn2 _ _ rDd id) hD3
        have rD3 := put_same σ3 D3 (.list (iV W))
        generalize σ3.put D3 (.list (iV W)) = σ4 at kk rdue rD3 ⊢
        refine (EV_loc (by rfl) (by rfl)).te ⟨_, Cmp.ne_ints rD3 rdue hu, ?_⟩
        rw [decide_eq_true rfl, if_neg (by decide)]
        exact TXs_nil (TXs_nil ⟨trivial, .add (by rfl) (.add (by rfl) (.add (by rfl) (.add (by rfl) (.add (by rfl) (.add (by rfl) .nil))))), kk⟩)
  · rintro m' σ' ⟨he', hst'⟩
    exact h m' σ' he' hst'
end
end J
end

section
open PySem PySem.W PySem.Calls PyProof.Rows
set_option Elab.async false
set_option linter.unusedVariables false
set_option maxRecDepth 100000
namespace J
def bV (xs : List (List UInt8)) : List Value := xs.map fun b => .bytes b.toArray 0
def told (o : Option Addr) : Value := match o with | some a => .ref a | none => .none
section
variable {C : Cx} {A : Around} {env : Env} {m : Loc} {σ σ₀ σ' : Ab} {s s₀ s' : Shared} {P : Params}
theorem Cmp.is_told (o : Option Addr) : Cmp C A σ .Is (told o) .none (!o.isSome) := by
  cases o with
  | none => exact fun a' b' ha hb s R E S h => by obtain rfl := nv_to_none ha; obtain rfl := nv_to_none hb; exact wpAny_is_plain rfl (h _)
  | some a => exact Cmp.is_ref
set_option maxHeartbeats 2000000 in
theorem seg5 (hK : C.K = Mine.hd.heap_39 P) (hA : A.depth + 12 < recursionLimit) (hh : A.handled = none) (hu : A.units + 64 < cLine) {oc : Value} {od : Option Addr} {fd : FuncData} {osl : Array (Option Value)} {body : List Stmt} (hf : C.K.lookup 248 = some ⟨oc, od, .func fd, osl⟩) (hb : fd.body = .stmts body) {nm : Str} {L fa : Addr} {cd : Value} {Q : Flow → Loc → Ab → Prop}
    {lst pl : Addr} {ps : List PE} {r ds dk dc kn ky : Addr} {LF : Str → Option Addr} {known : List Addr} {G : List UInt8 → Option Addr} {Cf : Int → Bool}
    (hm : Ext (lawM ky kn r pl lst) m) (hst : LawSt σ pl ps r ds dk dc LF known kn ky G Cf 12)
    (h : ∀ m' σ', Ext (lawM ky kn r pl lst) m' → LawSt σ' pl ps r ds dk dc LF known kn ky G Cf 12 → TXs C A (envOfC nm fd.scope L fa cd) m' (body.drop 12) σ' Q) :
    TXs C A (envOfC nm fd.scope L fa cd) m (body.drop 11) σ Q := by
  obtain rfl := same_fd hf (by rw [hK]; rfl)
  cases hb
  refine hm.pre ?_
  refine TXs_seq (fun m' σ' => Ext (lawM ky kn r pl lst) m' ∧ LawSt σ' pl ps r ds dk dc LF known kn ky G Cf 12) (TX_forL hh (TE_cat2 (TE_list (TAs_cons (EV_bytes.te (TAs_cons (EV_bytes.te (TAs_cons (EV_bytes.te (TAs_nil ?_))))))))) ) ?_
  · refine ⟨by simp; decide, fun D1 hD1 => ?_⟩
    have k1 := Kps.put (σ := σ) (a := D1) (o := .list (bV [[107, 49], [107, 50], [107, 51]])) (P := fun _ => False) (.inr hD1)
    have rD1 := put_same σ D1 (.list (bV [[107, 49], [107, 50], [107, 51]]))
    show TE C A _ _ _ (σ.put D1 (.list (bV [[107, 49], [107, 50], [107, 51]]))) _
    generalize σ.put D1 (.list (bV [[107, 49], [107, 50], [107, 51]])) = σ1 at k1 rD1 ⊢
    refine TE_comp (cl := []) (mc := []) (Src.range2 (a := 1) (b := 5) (n := 4) hh (EV_built (v := .type "range") (by rw [hK]; kernel_rfl) (by kernel_rfl) (by rfl)) EV_int EV_int (by rfl) (by rfl)) trivial
      (fun j ys σ'' => Kps σ1 σ'' (fun _ => False) ∧ ys = bV ((List.range j).map fun k : Nat => big20 (1 + (k : Int)))) ⟨Kps.refl, rfl⟩ ?_ ?_ (by decide) (by rfl) cl_nil mc_nil
    · rintro Cc j ys σ'' u hj hju _ ⟨hk, rfl⟩
      refine ⟨[("number", nv u)], Tgt.name (by rfl) (by rfl), fun x v hx => fs_one hx (by rfl), TIfs_nil ?_⟩
      rw [if_pos rfl, hju]
      refine TE_attr (TE_call (f := .ref 108) (EV_glob (v := .ref 108) (by rw [hK]; kernel_rfl) (by rfl)) nv_fix_ref (by rw [hK]; kernel_rfl) rfl (TAs_cons ((EV_loc (by rfl) (by rfl)).te (TAs_nil (key_make hK (by omega) (by omega) (by omega) fun ka hka => ?_)))))
      refine ⟨ka, 108, _, _, rfl, put_same .., by rfl, (by rw [hK]; kernel_rfl), rfl, trivial, hk.trans (Kps.put (.inr hka)), ?_⟩
      rw [List.range_succ, List.map_append]; simp [bV]
    · rintro ys σ2 D2 _ ⟨hk, rfl⟩ hD2
      have rD1 := put_some (o' := .list (bV ((List.range 4).map fun k : Nat => big20 (1 + (k : Int))))) (hk _ _ rD1 id) hD2
      have rD2 := put_same σ2 D2 (.list (bV ((List.range 4).map fun k : Nat => big20 (1 + (k : Int)))))
      have kk := (k1.trans hk).trans (Kps.put (o := .list (bV ((List.range 4).map fun k : Nat => big20 (1 + (k : Int))))) (.inr hD2))
      generalize σ2.put D2 (.list (bV ((List.range 4).map fun k : Nat => big20 (1 + (k : Int))))) = σ3 at rD1 rD2 kk ⊢
      refine ⟨D1, D2, _, _, rfl, rfl, rD1, rD2, by simp [bV], fun D hD => ?_⟩
      have e1 : bV [[107, 49], [107, 50], [107, 51]] ++ bV ((List.range 4).map fun k : Nat => big20 (1 + (k : Int))) = bV ([[107, 49], [107, 50], [107, 51]] ++ (List.range 4).map fun k : Nat => big20 (1 + (k : Int))) := by simp [bV]
      rw [e1]
      generalize ([[107, 49], [107, 50], [107, 51]] ++ (List.range 4).map fun k : Nat => big20 (1 + (k : Int)) : List (List UInt8)) = M at *
      have kk := kk.trans (Kps.put (o := .list (bV M)) (.inr hD))
      have rD := put_same σ3 D (.list (bV M))
      generalize σ3.put D (.list (bV M)) = σ4 at kk rD ⊢
      refine ⟨D, _, rfl, rD, fun i m' σ' => σ' = σ4 ∧ Ext (lawM ky kn r pl lst) m', ⟨rfl, Ext.refl⟩, ?_, fun m' σ' _ hJ => ⟨hJ.2, hJ.1 ▸ hst.kp kk⟩⟩
      rintro i m' σ' u hi hiu hS ⟨rfl, he⟩
      have hi' : i < M.length := by simpa [bV] using hi
      have hux : nv u = .bytes M[i].toArray 0 := by rw [hiu]; simp [bV, List.getD_eq_getElem?_getD, hi']
      generalize M[i] = x at hux
      have hst1 := hst.kp kk
      obtain ⟨ns, nk, nc, hns, hnk, hG⟩ := hst1.reg
      obtain ⟨nd, hnd, hky⟩ := hst1.fky
      refine TS.pre he (Sub.refl _) (TS_name (.inl (by rfl)) ?_)
      rw [hux]
      refine TXs_cons (TX_assign (.inl (by rfl)) (TE_meth (f := 207) (EV_loc (by rfl) (by rfl)) hG.r (by rfl) (by rw [hK]; kernel_rfl) (TAs_cons ((EV_loc (by rfl) (by rfl)).te (TAs_nil (bykey hK (by omega) hG (x := x) ?_))))))
      show TXs C A _ (("told", told (G x)) :: _) _ _ _
      refine TXs_cons (TX_if (TB_cmp ((EV_if (v := oV ((G x).map fun a => (infoOf ps a).num)) (EB_cmp (EV_loc (by rfl) (by rfl)) EV_none (Cmp.is_told _)) (fun hq => ?_) (fun hq => ?_)).te ?_)))
      · have hg : G x = none := by cases z : G x with | none => rfl | some a => rw [z] at hq; cases hq
        rw [hg]; exact EV_none
      · obtain ⟨a, hg⟩ : ∃ a, G x = some a := by cases z : G x with | none => rw [z] at hq; cases hq | some a => exact ⟨a, rfl⟩
        refine Crt.elim (hst1.pool.crt (hst1.gs x a hg)) fun gs nb kb kgs d1 d2 d3 d4 d5 d6 d7 d8 d9 d10 => ?_
        rw [hg]
        exact EV_attr (EV_loc (by rfl) (by rfl)) d1 d9 (by rw [hK]; kernel_rfl)
      · refine TE_bmeth (ao := .dB _ nd) (EV_loc (by rfl) (by rfl)) hky rfl PySem.F.plainAttrs_dict PySem.F.slot_dict_get PySem.F.type_dict_get (TAs_cons ((EV_loc (by rfl) (by rfl)).te (TAs_nil (call_get1B hky ?_))))
        have e2 : ((G x).map fun a => Value.int (infoOf ps a).num 0).getD .none = oV ((G x).map fun a => (infoOf ps a).num) := by cases G x <;> rfl
        rw [e2]
        refine ⟨_, Cmp.ne_opt _ _ hu, ?_⟩
        rw [decide_eq_true rfl, if_neg (by decide)]
        exact TXs_nil (TXs_nil ⟨hS, rfl, .add (by rfl) (.add (by rfl) (.add (by rfl) (.add (by rfl) (.add (by rfl) .nil))))⟩)
  · rintro m' σ' ⟨he, hst'⟩
    exact h m' σ' he hst'
end
end J
end

section
open PySem PySem.W PySem.Calls PyProof.Rows
set_option Elab.async false
set_option linter.unusedVariables false
set_option maxRecDepth 100000
namespace J
section
variable {C : Cx} {A : Around} {env : Env} {m : Loc} {σ σ₀ σ' : Ab} {s s₀ s' : Shared} {P : Params}
theorem any_ints {x : Int} : ∀ (us : List Value) (xs : List Int), us.map nv = iV xs → (us.any fun y => match y with | .int i _ => i == x | _ => false) = decide (x ∈ xs) := fun us => by
  induction us with
  | nil => intro xs h; cases xs with
    | nil => rfl
    | cons y ys => simp [iV] at h
  | cons u us ih =>
    intro xs h
    cases xs with
    | nil => simp [iV] at h
    | cons y ys =>
      obtain ⟨h1, h2⟩ := List.cons.inj h
      obtain ⟨t', rfl⟩ := nv_to_int h1
      rw [List.any_cons, ih ys h2]
      by_cases q : y = x
      · simp [q]
      · have h2 : ¬ x = y := fun z => q z.symm
        simp [q, h2]
theorem Cmp.in_tup {l : Addr} {xs : List Int} {x : Int} (hl : σ l = some (.tup (iV xs))) : Cmp C A σ .In (.int x 0) (.ref l) (decide (x ∈ xs)) := fun a' b' ha' hb' s R E S k => by
  obtain ⟨t, rfl⟩ := nv_to_int ha'
  obtain rfl := nv_to_ref hb'
  obtain ⟨vs, hls, hx⟩ := S.isTup hl
  refine SeqAt.in_tupleAt (fun y => match y with | .int i _ => i == x | _ => false) hls (fun y hy => ?_) ?_
  · have : nv y ∈ iV xs := by rw [← hx]; exact List.mem_map_of_mem (Array.mem_toList_iff.mpr hy)
    obtain ⟨i, hi, he⟩ := List.mem_map.mp this
    obtain ⟨t', rfl⟩ := nv_to_int he.symm
    exact SeqAt.EqAt.int_int i t' x t
  · have e3 := any_ints (x := x) vs.toList xs hx
    rw [Array.any_toList] at e3
    rw [e3]; exact k s.toks
theorem ca_kind {ps : List PE} (hn : (ps.map (·.c)).Nodup) (hnu : ∀ e ∈ ps, ∀ e' ∈ ps, e.info.num = e'.info.num → e = e') {e : PE} (he : e ∈ ps) : CO (infoOf ps) (kindL ps 1 ++ kindL ps 2) (infoOf ps e.c).num = decide (e.kind ∈ [(1 : Int), 2]) := by
  have key : ∀ k : Int, (kindL ps k).any (fun b => decide ((infoOf ps b).num = (infoOf ps e.c).num)) = decide (e.kind = k) := fun k => by
    by_cases q : e.kind = k
    · rw [decide_eq_true q, List.any_eq_true]
      exact ⟨e.c, List.mem_map.mpr ⟨e, List.mem_filter.mpr ⟨he, by simpa using q⟩, rfl⟩, by simp⟩
    · rw [decide_eq_false q, List.any_eq_false]
      intro b hb hq
      obtain ⟨e', he', rfl⟩ := List.mem_map.mp hb
      obtain ⟨he', hk⟩ := List.mem_filter.mp he'
      rw [infoOf_mem hn he', infoOf_mem hn he] at hq
      have := hnu e' he' e he (by simpa using hq)
      subst this
      exact q (by simpa using hk)
  unfold CO
  rw [List.any_append, key, key]
  by_cases h1 : e.kind = 1
  · simp [h1]
  · by_cases h2 : e.kind = 2 <;> simp [h1, h2]
set_option maxHeartbeats 2000000 in
theorem seg6 (hK : C.K = Mine.hd.heap_39 P) (hA : A.depth + 12 < recursionLimit) (hh : A.handled = none) (hu : A.units + 64 < cLine) {oc : Value} {od : Option Addr} {fd : FuncData} {osl : Array (Option Value)} {body : List Stmt} (hf : C.K.lookup 248 = some ⟨oc, od, .func fd, osl⟩) (hb : fd.body = .stmts body) {nm : Str} {L fa : Addr} {cd : Value} {Q : Flow → Loc → Ab → Prop}
    {lst pl : Addr} {ps : List PE} (hnu : ∀ e ∈ ps, ∀ e' ∈ ps, e.info.num = e'.info.num → e = e') {r ds dk dc kn ky : Addr} {LF : Str → Option Addr} {known : List Addr} {G : List UInt8 → Option Addr}
    (hm : Ext (lawM ky kn r pl lst) m) (hst : LawSt σ pl ps r ds dk dc LF known kn ky G (CO (infoOf ps) (kindL ps 1 ++ kindL ps 2)) 12)
    (h : ∀ m' σ', Ext (lawM ky kn r pl lst) m' → LawSt σ' pl ps r ds dk dc LF known kn ky G (CO (infoOf ps) (kindL ps 1 ++ kindL ps 2)) 12 → TXs C A (envOfC nm fd.scope L fa cd) m' (body.drop 13) σ' Q) :
    TXs C A (envOfC nm fd.scope L fa cd) m (body.drop 12) σ Q := by
  obtain rfl := same_fd hf (by rw [hK]; rfl)
  cases hb
  refine hm.pre ?_
  refine TXs_seq (fun m' σ' => Ext (lawM ky kn r pl lst) m' ∧ LawSt σ' pl ps r ds dk dc LF known kn ky G (CO (infoOf ps) (kindL ps 1 ++ kindL ps 2)) 12) (TX_for (Src.list hh (EV_loc (by rfl) (by rfl)) hst.pool.l) hst.pool.l
    (fun i m' σ' => Kps σ σ' (fun _ => False) ∧ Ext (lawM ky kn r pl lst) m') ⟨Kps.refl, Ext.refl⟩ ?_ fun m' σ' _ hJ => ⟨hJ.2, hst.kp hJ.1⟩) ?_
  · rintro i m' σ' u hi hiu hS ⟨kk, he⟩
    obtain ⟨T, hT, rfl⟩ := refs_get hi hiu
    rw [List.getElem?_map] at hT
    obtain ⟨e, hei, rfl⟩ := Option.map_eq_some_iff.mp hT
    have hem := List.mem_of_getElem? hei
    have hst1 := hst.kp kk
    obtain ⟨ns, nk, nc, hns, hnk, hG⟩ := hst1.reg
    refine TS.pre he (Sub.refl _) (TS_tupT hh (hst1.pool.e e hem).1 (by rfl) (by rfl) (TIn.cons fun u1 h1 => TS_name (.inr ⟨by rfl, _, by rfl⟩) (TIn.cons fun u2 h2 => TS_name (.inl (by rfl)) (TIn.nil ?_))))
    refine Ext.pre (m₀ := ("kind", .int e.kind 0) :: ("cert", .ref e.c) :: lawM ky kn r pl lst) (.add (by show some (nv u2) = _; rw [h2]) (.add (by show some (nv u1) = _; rw [h1]) (.add (by rfl) (.add (by rfl) (.add (by rfl) (.add (by rfl) (.add (by rfl) .nil))))))) ?_
    clear h1 h2
    refine TXs_cons (TX_if (TB_cmp (TE_meth (f := 193) (EV_loc (by rfl) (by rfl)) hG.r (by rfl) (by rw [hK]; kernel_rfl) (TAs_cons ((EV_cell (by rfl) (by rfl)).te (TAs_nil (isca hK (by omega) hG (hst1.pool.crt ⟨e, hem, rfl⟩) ?_)))))))
    rw [ca_kind hst.pool.n hnu hem]
    refine TE_cmp ((EV_loc (by rfl) (by rfl)).te (TE_tup (TAs_cons (EV_int.te (TAs_cons (EV_int.te (TAs_nil ?_)))))))
    refine ⟨by simp; decide, fun D hD => ⟨_, Cmp.in_tup (xs := [1, 2]) (put_same ..), ?_⟩⟩
    refine ⟨_, Cmp.ne_bool _ _ hu, ?_⟩
    rw [beq_self_eq_true, if_neg (by decide)]
    have kk2 := kk.trans (Kps.put (o := .tup (iV [1, 2])) (.inr hD))
    exact TXs_nil (TXs_nil ⟨(hst.kp kk2).pool.l, kk2, .add (by rfl) (.add (by rfl) (.add (by rfl) (.add (by rfl) (.add (by rfl) .nil))))⟩)
  · rintro m' σ' ⟨he, hst'⟩
    exact h m' σ' he hst'
end
end J
end

section
open PySem PySem.W PySem.Calls PyProof.Rows
set_option Elab.async false
set_option linter.unusedVariables false
set_option maxRecDepth 100000
namespace J
section
variable {C : Cx} {A : Around} {env : Env} {m : Loc} {σ σ₀ σ' : Ab} {s s₀ s' : Shared} {P : Params}
theorem typename (hK : C.K = Mine.hd.heap_39 P) (hA : A.depth + 5 < recursionLimit) {v : Value} {Q : Value → Ab → Prop} (h : Q (.str "" 0) σ) : CallR C A (.ref 35) [v] σ Q := CallR.tc fun us hu => by
  obtain ⟨u, rfl, hv⟩ := map_one hu
  refine TC_fn (C := C) (binds := [("value", u)]) (m := [("value", v)]) (by omega) (by rw [hK]; rfl) (by rw [hK]; kernel_rfl) rfl (fun S => by rw [hK]; kernel_rfl) (by decide +kernel) (by simp <;> decide +kernel) (by simp [locOf, hv]) fun L A' hd hh hun => ?_
  exact TXs_cons (TX_ret (EV_str.te h))
theorem pretty (hK : C.K = Mine.hd.heap_39 P) (hA : A.depth + 5 < recursionLimit) {v w : Value} {Q : Value → Ab → Prop} (h : Q v σ) : CallR C A (.ref 28) [v, w] σ Q := CallR.tc fun us hu => by
  obtain ⟨u, u2, rfl, hv, hw⟩ := map_two hu
  refine TC_callV (C := C) (binds := fun D => [("string", u), ("params", .ref D)]) (ot := { cls := .type "tuple", data := .seq #[u2] }) (g := fun D => pure [("string", u), ("params", .ref D)]) (m := [("string", v)]) (by omega) (by rw [hK]; rfl) (by rw [hK]; kernel_rfl) rfl (fun S => by rw [hK]; kernel_rfl) (fun D => rfl) (by decide +kernel) (fun D => by simp; decide +kernel) (fun D => .add (by show some (nv u) = _; rw [hv]) .nil) fun L A' hd hh hun => ?_
  exact TXs_cons (TX_ret ((EV_loc (by rfl) (by rfl)).te h))
theorem raise_name (hK : C.K = Mine.hd.heap_39 P) (hA : A.depth + 12 < recursionLimit) (hh : A.handled = none) {l : List Env} {base : Heap} {r : Addr} {u : Value} (hu : nv u = .str "a" 0) (W : Wv C A σ₀ s₀ Ab.nil s) (hl : A.frames = some l) (hbs : base.StaysIn s.heap) (hfl : s.heap.FunFrames base l) {R : Result → Shared → Prop}
    (k : ∀ e s', Thrown base l s e s' → R (.error (.ref e)) s') : codeAny C.M A (.call (.ref 215) ⟨[.ref r, u], []⟩) R s := by
  refine raise_call (C := C) (f := 215) (binds := [("self", .ref r), ("name", u), ("first_certificate", .none)]) (m := [("first_certificate", .none), ("name", .str "a" 0), ("self", .ref r)]) (by omega) hh (by rw [hK]; rfl) (by rw [hK]; kernel_rfl) rfl (fun S => by rw [hK]; kernel_rfl) (by decide +kernel) (by simp; decide +kernel) (by simp [locOf, hu]) (fun L A' => EV_built (v := .type "TypeError") (by rw [hK]; kernel_rfl) (by kernel_rfl) (by rfl))
    (fun L A' hd hh' => ?_) (fun L A' hd hh' => ?_) (fun _ => rfl) (fun _ => rfl) W hl hbs hfl k
  · exact EB_not (b := false) (EB_bcall (EV_built (v := .builtin "isinstance") (by rw [hK]; kernel_rfl) (by kernel_rfl) (by rfl)) fun Q q => TAs_cons ((EV_loc (by rfl) (by rfl)).te (TAs_cons ((EV_glob (v := .ref 87) (by rw [hK]; kernel_rfl) (by rfl)).te (TAs_nil (call_isStr (fun u hu => nv_to_ref hu) rfl (by rw [hK]; kernel_rfl) q))))))
  · exact TAs_cons (TE_call (f := .ref 28) (EV_glob (v := .ref 28) (by rw [hK]; kernel_rfl) (by rfl)) nv_fix_ref (by rw [hK]; kernel_rfl) rfl (TAs_cons (EV_str.te (TAs_cons (TE_call (f := .ref 35) (EV_glob (v := .ref 35) (by rw [hK]; kernel_rfl) (by rfl)) nv_fix_ref (by rw [hK]; kernel_rfl) rfl
      (TAs_cons ((EV_loc (by rfl) (by rfl)).te (TAs_nil (typename hK (by omega) (TAs_nil (pretty hK (by omega) (TAs_nil (by decide))))))))))))) 
theorem raise_key (hK : C.K = Mine.hd.heap_39 P) (hA : A.depth + 12 < recursionLimit) (hh : A.handled = none) {l : List Env} {base : Heap} {r : Addr} {u : Value} (hu : nv u = .str "k1" 0) (W : Wv C A σ₀ s₀ Ab.nil s) (hl : A.frames = some l) (hbs : base.StaysIn s.heap) (hfl : s.heap.FunFrames base l) {R : Result → Shared → Prop}
    (k : ∀ e s', Thrown base l s e s' → R (.error (.ref e)) s') : codeAny C.M A (.call (.ref 207) ⟨[.ref r, u], []⟩) R s := by
  refine raise_call (C := C) (f := 207) (binds := [("self", .ref r), ("key_identifier", u)]) (m := [("key_identifier", .str "k1" 0), ("self", .ref r)]) (by omega) hh (by rw [hK]; rfl) (by rw [hK]; kernel_rfl) rfl (fun S => by rw [hK]; kernel_rfl) (by decide +kernel) (by simp; decide +kernel) (by simp [locOf, hu]) (fun L A' => EV_built (v := .type "TypeError") (by rw [hK]; kernel_rfl) (by kernel_rfl) (by rfl))
    (fun L A' hd hh' => ?_) (fun L A' hd hh' => ?_) (fun _ => rfl) (fun _ => rfl) W hl hbs hfl k
  · exact EB_not (b := false) (EB_bcall (EV_built (v := .builtin "isinstance") (by rw [hK]; kernel_rfl) (by kernel_rfl) (by rfl)) fun Q q => TAs_cons ((EV_loc (by rfl) (by rfl)).te (TAs_cons ((EV_built (v := .type "bytes") (by rw [hK]; kernel_rfl) (by kernel_rfl) (by rfl)).te (TAs_nil (call_isStr (fun u hu => nv_to_type hu) rfl (by rw [hK]; kernel_rfl) q))))))
  · exact TAs_cons (TE_call (f := .ref 28) (EV_glob (v := .ref 28) (by rw [hK]; kernel_rfl) (by rfl)) nv_fix_ref (by rw [hK]; kernel_rfl) rfl (TAs_cons (EV_str.te (TAs_cons (TE_call (f := .ref 35) (EV_glob (v := .ref 35) (by rw [hK]; kernel_rfl) (by rfl)) nv_fix_ref (by rw [hK]; kernel_rfl) rfl
      (TAs_cons ((EV_loc (by rfl) (by rfl)).te (TAs_nil (typename hK (by omega) (TAs_nil (pretty hK (by omega) (TAs_nil (by decide)))))))))))))
theorem seg7 (hK : C.K = Mine.hd.heap_39 P) (hA : A.depth + 12 < recursionLimit) (hh : A.handled = none) {oc : Value} {od : Option Addr} {fd : FuncData} {osl : Array (Option Value)} {body : List Stmt} (hf : C.K.lookup 248 = some ⟨oc, od, .func fd, osl⟩) (hb : fd.body = .stmts body) {nm : Str} {L fa : Addr} {cd : Value} {Q : Flow → Loc → Ab → Prop}
    (hl : A.frames = some [envOfC nm fd.scope L fa cd]) {lst pl : Addr} {ps : List PE} {r ds dk dc kn ky : Addr} {LF : Str → Option Addr} {known : List Addr} {G : List UInt8 → Option Addr} {Cf : Int → Bool}
    (hm : Ext (lawM ky kn r pl lst) m) (hst : LawSt σ pl ps r ds dk dc LF known kn ky G Cf 12) (h : ∀ m' σ', Q (.ret (.bool true)) m' σ') :
    TXs C A (envOfC nm fd.scope L fa cd) m (body.drop 13) σ Q := by
  obtain rfl := same_fd hf (by rw [hK]; rfl)
  cases hb
  refine hm.pre ?_
  obtain ⟨ns, nk, nc, hns, hnk, hG⟩ := hst.reg
  refine TXs_cons (TX_assign (.inl (by rfl)) (EV_int.te ?_))
  refine TXs_cons (TX_tryTE hl rfl (fun A' => EV_built (v := .type "TypeError") (by rw [hK]; kernel_rfl) (by kernel_rfl) (by rfl)) (raise_meth (f := 215) (EV_loc (by rfl) (by rfl)) hG.r (by rfl) (by rw [hK]; kernel_rfl) (EV_str (x := "a")) hl rfl fun u hu σ₀ s₀ s base R W hbs hfl k => raise_name hK hA hh hu W hl hbs hfl k) fun x => ?_)
  refine TXs_cons (TX_aug (by rfl) (by rfl) EV_int (TXs_nil ?_))
  refine TXs_cons (TX_tryTE hl rfl (fun A' => EV_built (v := .type "TypeError") (by rw [hK]; kernel_rfl) (by kernel_rfl) (by rfl)) (raise_meth (f := 207) (EV_loc (by rfl) (by rfl)) hG.r (by rfl) (by rw [hK]; kernel_rfl) (EV_str (x := "k1")) hl rfl fun u hu σ₀ s₀ s base R W hbs hfl k => raise_key hK hA hh hu W hl hbs hfl k) fun x => ?_)
  refine TXs_cons (TX_aug (by rfl) (by rfl) EV_int (TXs_nil ?_))
  refine TXs_cons (TX_ret ((EV_cmp (EV_loc (by rfl) (by rfl)) EV_int (Cmp.eq_int (0 + 1 + 1) 2)).te ?_))
  exact h _ _
end
end J
end

section
open PySem PySem.W PySem.Calls PyProof.Rows
set_option Elab.async false
set_option linter.unusedVariables false
set_option maxRecDepth 100000
namespace J
theorem infoJ_kid {ws : List Int} {j : Nat} {y : List UInt8} (h : (infoJ ws j).kid = some y) : y ≠ [] ∧ y.length ≤ 1000 := by
  unfold infoJ at h
  dsimp only at h
  split at h
  · cases h
  · split at h
    · cases h; exact ⟨by simp, by simp⟩
    · cases h; exact ⟨by simp, by simp⟩
theorem ps_facts {ws : List Int} {ps : List PE} (h : ps.map (fun e => (e.info, e.kind)) = (List.range 6).map (fun k => (infoJ ws (k + 1), kindJ ws (k + 1)))) :
    ps.length = 6 ∧ (∀ e ∈ ps, ∀ y, e.info.kid = some y → y ≠ [] ∧ y.length ≤ 1000) ∧ ∀ e ∈ ps, ∀ e' ∈ ps, e.info.num = e'.info.num → e = e' := by
  have hl : ps.length = 6 := by have := congrArg List.length h; simpa using this
  have at' : ∀ (i : Nat) (hi : i < ps.length), ps[i].info = infoJ ws (i + 1) := fun i hi => by
    have h1 : (ps.map (fun e => (e.info, e.kind)))[i]? = some (ps[i].info, ps[i].kind) := by rw [List.getElem?_map, List.getElem?_eq_getElem hi]; rfl
    have h2 : ((List.range 6).map (fun k => (infoJ ws (k + 1), kindJ ws (k + 1))))[i]? = some (infoJ ws (i + 1), kindJ ws (i + 1)) := by
      rw [List.getElem?_map, List.getElem?_range (by omega)]; rfl
    rw [h, h2] at h1
    exact (congrArg Prod.fst (Option.some.inj h1)).symm
  refine ⟨hl, fun e he y hy => ?_, fun e he e' he' hn => ?_⟩
  · obtain ⟨i, hi, rfl⟩ := List.getElem_of_mem he
    rw [at' i hi] at hy; exact infoJ_kid hy
  · obtain ⟨i, hi, rfl⟩ := List.getElem_of_mem he
    obtain ⟨i', hi', rfl⟩ := List.getElem_of_mem he'
    rw [at' i hi, at' i' hi'] at hn
    have : i = i' := by
      have : ((i + 1 : Nat) : Int) = ((i' + 1 : Nat) : Int) := hn
      omega
    subst this; rfl
section
variable {C : Cx} {A : Around} {env : Env} {m : Loc} {σ σ₀ σ' : Ab} {s s₀ s' : Shared} {P : Params}
theorem law_body (hK : C.K = Mine.hd.heap_39 P) (hA : A.depth + 12 < recursionLimit) (hh : A.handled = none) (hu : A.units + 64 < cLine) {oc : Value} {od : Option Addr} {fd : FuncData} {osl : Array (Option Value)} {body : List Stmt} (hf : C.K.lookup 248 = some ⟨oc, od, .func fd, osl⟩) (hb : fd.body = .stmts body) {nm : Str} {L fa : Addr} {cd : Value}
    (hl : A.frames = some [envOfC nm fd.scope L fa cd]) {lst : Addr} {vs : List Value} {ws : List Int} (hL : C.h₀.IsList lst vs.toArray) (hI : IntsAre vs ws) (hn : ws.length ≤ 63) :
    TXs C A (envOfC nm fd.scope L fa cd) [("script", .ref lst)] body Ab.nil fun f _ _ => f = .ret (.bool true) := by
  refine seg0 hK hf hb fun pl hpl => ?_
  refine seg1 hK (by omega) hh hf hb hL hI hn (pl := pl) (put_same ..) (.add (by rfl) (.add (by rfl) .nil)) fun m1 σ1 ps hm1 hps hinf => ?_
  obtain ⟨hlen, hkid, hnu⟩ := ps_facts hinf
  refine seg2 hK hA hh hf hb hps (by omega) hkid hm1 fun m2 σ2 r ds dk dc LF kn ky G hm2 hst2 => ?_
  refine seg3 hK hA hh hu hf hb (by omega) hkid hm2 hst2 fun m3 σ3 LF known kn ky G hm3 hst3 => ?_
  refine seg4 hK hA hh hu hf hb hL hI hn hlen hm3 hst3 fun m4 σ4 hm4 hst4 => ?_
  refine seg5 hK hA hh hu hf hb hm4 hst4 fun m5 σ5 hm5 hst5 => ?_
  refine seg6 hK hA hh hu hf hb hnu hm5 hst5 fun m6 σ6 hm6 hst6 => ?_
  exact seg7 hK hA hh hf hb hl hm6 hst6 fun _ _ => rfl
end
end J
end

section
open PySem PySem.W PySem.Calls PyProof.Rows
set_option Elab.async false
set_option linter.unusedVariables false
set_option maxRecDepth 100000
namespace J
noncomputable def lawFd (P : Params) : Option FuncData := match (Mine.hd.heap_39 P).lookup 248 with | some ⟨_, _, .func fd, _⟩ => some fd | _ => none
theorem lookup_of_lawFd {P : Params} {fd : FuncData} (h : lawFd P = some fd) : ∃ oc od osl, (Mine.hd.heap_39 P).lookup 248 = some ⟨oc, od, .func fd, osl⟩ := by
  unfold lawFd at h
  split at h
  · rename_i oc od fd' osl hl
    cases h; exact ⟨oc, od, osl, hl⟩
  · cases h
theorem law_goal {prog : Program} {w : World} {s₁ : Shared} {h₁ : Heap} {tk₁ : Nat} {p : Program} {loose : List Str} {mean : ExcName → Option Value} {mg mb : Str → Option Value} {M : Str → Option Value} {nm : Str} {sc : Scope} {fa : Addr} {cd : Value} {body : List Stmt} {lst : Addr} {vs : List Value} {ws : List Int} {o1 o2 o3 o4 o5 : Obj} {v2 v3 v4 v5 : Option Value}
    (KX : (Mine.hd.heap_39 w.params).In s₁.heap) (T : Top p loose mean mg mb s₁.heap) (hfd : ∃ fd, lawFd w.params = some fd ∧ fd.body = .stmts body ∧ fd.scope = sc) (F : Fr s₁.heap s₁.heap.objs.size h₁ M)
    (N : News s₁.heap s₁.heap.objs.size h₁ [(s₁.heap.objs.size + 1 + 1 + 1 + 1 + 1, o5), (s₁.heap.objs.size + 1 + 1 + 1 + 1, o4), (s₁.heap.objs.size + 1 + 1 + 1, o3), (s₁.heap.objs.size + 1 + 1, o2), (s₁.heap.objs.size + 1, o1)])
    (d5 : o5.data = .cell v5) (d4 : o4.data = .cell v4) (d3 : o3.data = .cell v3) (d2 : o2.data = .cell v2) (d1 : o1.data = .cell (some (.ref lst)))
    (hcs : cellsFrom (s₁.heap.objs.size + 1) sc.names [] = [(("text" : Str), s₁.heap.objs.size + 1 + 1 + 1 + 1 + 1), ("wanted", s₁.heap.objs.size + 1 + 1 + 1 + 1), ("cert", s₁.heap.objs.size + 1 + 1 + 1), ("j", s₁.heap.objs.size + 1 + 1), ("script", s₁.heap.objs.size + 1)])
    (hkd : sc.names.lookup ("script" : Str) = some .cell) (hks : sc.kind = .function) (hL : s₁.heap.IsList lst vs.toArray) (hI : IntsAre vs ws) (hn : ¬ ((63 : Int) < (ws.length : Int))) {Q : Flow → Shared → Prop} {E : Value → Shared → Prop}
    (k : ∀ s', (∀ b o, s₁.heap.get? b = some o → s'.heap.get? b = some o) → s'.os = s₁.os → (AllBare s₁.gens → AllBare s'.gens) → Q (.ret (.bool true)) s') :
    wpAny (model prog w) (callerA.deeper (envOfC nm sc s₁.heap.objs.size fa cd)) (execs body (envOfC nm sc s₁.heap.objs.size fa cd)) Q E { s₁ with heap := h₁, toks := tk₁ } := by
  obtain ⟨fd, hfd, hb, rfl⟩ := hfd
  obtain ⟨oc, od, osl, hf⟩ := lookup_of_lawFd hfd
  let C : Cx := ⟨prog, w, s₁.heap, Mine.hd.heap_39 w.params, p, loose, mg, mb, KX, topRead_of T⟩
  have hnew : ∀ {b : Addr}, s₁.heap.objs.size ≤ b → s₁.heap.get? b = none := fun {b} hb => by
    cases q : s₁.heap.get? b with
    | none => rfl
    | some o => exact absurd (Heap.lt_size q) (Nat.not_lt.mpr hb)
  have hcell : ∀ x c, (envOfC nm fd.scope s₁.heap.objs.size fa cd).cells.lookup x = some c → ∃ i : Nat, 1 ≤ i ∧ c = s₁.heap.objs.size + i ∧ (∃ v, h₁.IsCell c v) ∧ (x = "text" ∧ i = 5 ∨ x = "wanted" ∧ i = 4 ∨ x = "cert" ∧ i = 3 ∨ x = "j" ∧ i = 2 ∨ x = "script" ∧ i = 1) := fun x c hc => by
    change List.lookup x (cellsFrom (s₁.heap.objs.size + 1) fd.scope.names []) = some c at hc
    rw [hcs] at hc
    by_cases q1 : x = "text"
    · subst q1; rw [List.lookup_cons, beq_self_eq_true] at hc; cases hc
      exact ⟨5, by decide, rfl, ⟨v5, o5, (N _ (.head _)).1, d5⟩, .inl ⟨rfl, rfl⟩⟩
    · rw [List.lookup_cons, beq_eq_false_iff_ne.mpr q1] at hc
      by_cases q2 : x = "wanted"
      · subst q2; rw [List.lookup_cons, beq_self_eq_true] at hc; cases hc
        exact ⟨4, by decide, rfl, ⟨v4, o4, (N _ (.tail _ (.head _))).1, d4⟩, .inr (.inl ⟨rfl, rfl⟩)⟩
      · rw [List.lookup_cons, beq_eq_false_iff_ne.mpr q2] at hc
        by_cases q3 : x = "cert"
        · subst q3; rw [List.lookup_cons, beq_self_eq_true] at hc; cases hc
          exact ⟨3, by decide, rfl, ⟨v3, o3, (N _ (.tail _ (.tail _ (.head _)))).1, d3⟩, .inr (.inr (.inl ⟨rfl, rfl⟩))⟩
        · rw [List.lookup_cons, beq_eq_false_iff_ne.mpr q3] at hc
          by_cases q4 : x = "j"
          · subst q4; rw [List.lookup_cons, beq_self_eq_true] at hc; cases hc
            exact ⟨2, by decide, rfl, ⟨v2, o2, (N _ (.tail _ (.tail _ (.tail _ (.head _))))).1, d2⟩, .inr (.inr (.inr (.inl ⟨rfl, rfl⟩)))⟩
          · rw [List.lookup_cons, beq_eq_false_iff_ne.mpr q4] at hc
            by_cases q5 : x = "script"
            · subst q5; rw [List.lookup_cons, beq_self_eq_true] at hc; cases hc
              exact ⟨1, by decide, rfl, ⟨_, o1, (N _ (.tail _ (.tail _ (.tail _ (.tail _ (.head _)))))).1, d1⟩, .inr (.inr (.inr (.inr ⟨rfl, rfl⟩)))⟩
            · rw [List.lookup_cons, beq_eq_false_iff_ne.mpr q5] at hc; cases hc
  have hm1 : ∀ x v, List.lookup x ([("script", .ref lst)] : Loc) = some v → x = "script" ∧ v = .ref lst := fun x v hx => by
    by_cases q : x = "script"
    · subst q; rw [lookup_cons_self] at hx; cases hx; exact ⟨rfl, rfl⟩
    · rw [lookup_cons_ne q] at hx; cases hx
  have W : Wx C (callerA.deeper (envOfC nm fd.scope s₁.heap.objs.size fa cd)) (envOfC nm fd.scope s₁.heap.objs.size fa cd) [("script", .ref lst)] Ab.nil { s₁ with heap := h₁, toks := tk₁ } Ab.nil { s₁ with heap := h₁, toks := tk₁ } := by
    refine ⟨⟨F.keep, fun a o e => (by cases e), fun b d => absurd d dom_nil, fun b K fs e => (by cases e)⟩, ⟨_, rfl, .cons (L := s₁.heap.objs.size) (by show fd.scope.kind ≠ .module; rw [hks]; decide) rfl F.ns (hnew (Nat.le_refl _)) trivial, fun e he L hL d => dom_nil d⟩,
      ⟨hks, rfl, rfl, fun b hb => ⟨dom_nil, ?_⟩, ⟨M, F.ns, fun x v hx hk => ?_⟩, fun x c hc => ?_, fun x v hx hk => ?_, fun x y c h1 h2 => ?_⟩, Mv.refl ..⟩
    · rcases hb with rfl | ⟨x, hx⟩
      · exact hnew (Nat.le_refl _)
      · obtain ⟨i, h1, rfl, _⟩ := hcell x b hx
        exact hnew (Nat.le_add_right _ _)
    · obtain ⟨rfl, _⟩ := hm1 x v hx
      have hk' : fd.scope.names.lookup ("script" : Str) = some .local := hk
      rw [hkd] at hk'; cases hk'
    · obtain ⟨i, h1, rfl, hv, _⟩ := hcell x c hc
      exact ⟨Nat.ne_of_gt (Nat.lt_add_of_pos_right h1), hv⟩
    · obtain ⟨rfl, rfl⟩ := hm1 x v hx
      refine ⟨s₁.heap.objs.size + 1, .ref lst, ?_, ⟨o1, (N _ (.tail _ (.tail _ (.tail _ (.tail _ (.head _)))))).1, d1⟩, rfl⟩
      show List.lookup ("script" : Str) (cellsFrom (s₁.heap.objs.size + 1) fd.scope.names []) = _
      rw [hcs]; rfl
    · obtain ⟨i, _, e1, _, q1⟩ := hcell x c h1
      obtain ⟨i', _, e2, _, q2⟩ := hcell y c h2
      have e : i = i' := Nat.add_left_cancel (e1.symm.trans e2)
      subst e
      rcases q1 with ⟨rfl, rfl⟩ | ⟨rfl, rfl⟩ | ⟨rfl, rfl⟩ | ⟨rfl, rfl⟩ | ⟨rfl, rfl⟩ <;> rcases q2 with ⟨rfl, h⟩ | ⟨rfl, h⟩ | ⟨rfl, h⟩ | ⟨rfl, h⟩ | ⟨rfl, h⟩ <;> first | rfl | (cases h)
  have hlen : ws.length ≤ 63 := by omega
  refine law_body (C := C) (P := w.params) rfl (by show callerA.depth + 1 + 12 < recursionLimit; decide) rfl (by show callerA.units + 3 + 64 < cLine; decide) hf hb rfl hL hI hlen Ab.nil _ _ Q E W fun f s' m' σ' W' q => ?_
  have hfq : f = .ret (.bool true) := by
    cases f with
    | ret v => rw [nf_ret] at q; rw [nv_to_bool (Flow.ret.inj q)]
    | _ => cases q
  subst hfq
  exact k s' W'.st.keep W'.mv.os W'.mv.gen.2.2
end J
end

section
open PySem PySem.W PyProof.Rows
set_option Elab.async false
set_option maxRecDepth 100000 in
set_option maxHeartbeats 8000000 in
theorem PySem.Challenge.cw_je0006_02_holds : PySem.Challenge.rw_je0006_02.Holds := by
  w_on
  refine holds_law (by kernel_rfl) fun said => ?_
  refine holds_open (q := Mine.hd.q) (loose := Mine.hd.loose) (Xt := Mine.hd.Xt) (XP := XL Mine.hd.q []) (Yf := Mine.hd.hk.obs) (Ya := Mine.hd.hk.val) (YP := Mine.hd.hk.says) (N := 4054) Mine.hd.left (Hook.of Mine.hd.hk) (Hook.keeps Mine.hd.hk) (fun s e => xl_of s (Bool.and_eq_true_iff.mp e).1) XL.keeps (by rfl) (by rfl) (by rfl) (fun s e => recFacts_of (Bool.and_eq_true_iff.mp e).2) (by rfl) said (by decide +kernel) ⟨rfl, rfl, rfl, rfl, rfl, by decide +kernel⟩ ?hw ?hc
  case hw => w_witness2
  case hc =>
  w_strict (
    intro w s₀ s₁ mg mb G Y fa o pm cd doc dV kV ho hd hcd hD hmg hg args vals as hpre hlay hrd hwl hlo
    have KX : (Mine.hd.heap_39 w.params).In s₁.heap := kIn_of Y
    refine Ground.open G ?_
    intro T B D TE TW
    clear hmg
    wrow_args hpre hlay hrd hwl hlo
    all_goals (
      first | refine callC_kw (enter_call ?_) | refine enter_call ?_
      w_top on
      have K0 := below_caller (Top.heap T)
      w_call any ho hd hcd hD T F)
    rename_i o5 o4 o3 o2 o1 d5 d4 d3 d2 d1 N0 X0
    refine J.law_goal KX T ⟨_, rfl, rfl, rfl⟩ F N0 d5 d4 d3 d2 d1 (by rfl) (by rfl) (by rfl) (by assumption) (by assumption) (by assumption) ?_
    intro s' hk hos hb
    exact ⟨.inl ⟨_, _, [], rfl, (fun _ => rfl), ReadsW.bool true, (by first | rfl | wrow_post), fun _ => ⟨List.nodup_nil, fun _ hm => nomatch hm⟩⟩, OldK.of_keep hk, hos, hb (.of_eq hg)⟩)
end
