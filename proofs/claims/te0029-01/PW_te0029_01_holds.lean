import PyProof.Rows.All
import Wide.All
import OpenK.AllK
import Wide.FinOn
import KE.KEqDict
import KE.KRevSl
import KE.KItemsList
import KE.KEqDat
import PySem.Challenge.RW_te0029_01

open PySem PySem.W PyProof.Rows
set_option Elab.async false
set_option maxRecDepth 100000
set_option maxHeartbeats 8000000
namespace Mine
open_top hd1 for PySem.Challenge.rw_te0029_01
end Mine
open PySem PySem.W PySem.Calls PyProof.Rows
set_option Elab.async false
set_option maxRecDepth 100000
set_option maxHeartbeats 4000000
namespace Mine

abbrev Led := List (Addr × Obj)

structure Gx where
  prog : Program
  w : World
  K : Frag
  A : Around
  env : Env
  h₀ : Heap

structure Sg where
  m : Str → Option Value
  c : Str → Option Value
  n : Led

structure Ok (G : Gx) (d : Nat) : Prop where
  X : G.K.In G.h₀
  T : ∃ p loose mg mb, TopRead p loose mg mb G.h₀
  B : ∃ base outer, (G.K.In base ∧ ∃ p loose mg mb, TopRead p loose mg mb base) ∧ ∀ h m, Fr G.h₀ G.env.locals h m → Below G.A base outer h
  kind : G.env.scope.kind = .function
  glob : G.env.globals = mainGlobals
  blt : G.env.builtins = builtinsNs
  hh : G.A.handled = none
  depth : G.A.depth + d < recursionLimit
  units : G.A.units + 10 * d < cLine
  cpw : ∀ x y a, G.env.cells.lookup x = some a → G.env.cells.lookup y = some a → x = y
  cL : ∀ x a, G.env.cells.lookup x = some a → a ≠ G.env.locals

structure Cx (G : Gx) (own : Led) (σ : Sg) (h : Heap) : Prop where
  F : Fr G.h₀ G.env.locals h σ.m
  N : News G.h₀ G.env.locals h (own ++ σ.n)
  C : ∀ x a, G.env.cells.lookup x = some a → h.IsCell a (σ.c x)
  offO : ∀ p ∈ own, ∀ q ∈ σ.n, p.1 ≠ q.1
  offC : ∀ p ∈ own ++ σ.n, ∀ x a, G.env.cells.lookup x = some a → p.1 ≠ a

section
variable {G : Gx} {own : Led} {σ : Sg} {h h' : Heap}

theorem Cx.keep (x : Cx G own σ h) (k : ∀ b o, h.get? b = some o → h'.get? b = some o) : Cx G own σ h' :=
  ⟨⟨x.F.ns.keeps k, fun b o e => k _ _ (x.F.keep b o e), x.F.above⟩, x.N.keepsAll k, fun y a e => (x.C y a e).keeps k, x.offO, x.offC⟩

theorem Cx.push (x : Cx G own σ h) (o : Obj) : Cx G own σ (h.push o) := x.keep fun _ _ e => Heap.get?_push_of_some _ e

/-- what is new may be put in the ledger -/
theorem Cx.more (x : Cx G own σ h) {nw : Led} (hg : ∀ p ∈ nw, h.get? p.1 = some p.2 ∧ p.1 ≠ G.env.locals ∧ G.h₀.get? p.1 = none)
    (ho : ∀ p ∈ own, ∀ q ∈ nw, p.1 ≠ q.1) (hc : ∀ p ∈ nw, ∀ x a, G.env.cells.lookup x = some a → p.1 ≠ a) : Cx G own { σ with n := nw ++ σ.n } h := by
  refine ⟨x.F, fun p hp => ?_, x.C, fun p hp q hq => ?_, fun p hp => ?_⟩
  · rcases List.mem_append.mp hp with hp | hp
    · exact x.N p (List.mem_append_left _ hp)
    · rcases List.mem_append.mp hp with hp | hp
      · exact hg p hp
      · exact x.N p (List.mem_append_right _ hp)
  · rcases List.mem_append.mp hq with hq | hq
    · exact ho p hp q hq
    · exact x.offO p hp q hq
  · rcases List.mem_append.mp hp with hp | hp
    · exact x.offC p (List.mem_append_left _ hp)
    · rcases List.mem_append.mp hp with hp | hp
      · exact hc p hp
      · exact x.offC p (List.mem_append_right _ hp)

/-- objects made since an elder heap -/
theorem Cx.fresh (x : Cx G own σ h) (k : ∀ b o, h.get? b = some o → h'.get? b = some o) {nw : Led}
    (hg : ∀ p ∈ nw, h'.get? p.1 = some p.2 ∧ h.get? p.1 = none) : Cx G own { σ with n := nw ++ σ.n } h' := by
  refine (x.keep k).more (fun p hp => ⟨(hg p hp).1, fun e => ?_, ?_⟩) (fun p hp q hq e => ?_) fun p hp y a ha e => ?_
  · obtain ⟨o, _, _, ho, _⟩ := x.F.ns
    have := (hg p hp).2; rw [e, ho] at this; cases this
  · cases hq : G.h₀.get? p.1 with
    | none => rfl
    | some o => have := (hg p hp).2; rw [x.F.keep _ _ hq] at this; cases this
  · have := (hg q hq).2; rw [← e, (x.N p (List.mem_append_left _ hp)).1] at this; cases this
  · obtain ⟨o, ho, _⟩ := x.C y a ha
    have := (hg p hp).2; rw [e, ho] at this; cases this

theorem Cx.pushN (x : Cx G own σ h) (o : Obj) (hf : o.isFreed = false := by rfl) : Cx G own { σ with n := (h.objs.size, o) :: σ.n } (h.push o) := by
  refine x.fresh (h' := h.push o) (nw := [(h.objs.size, o)]) (fun _ _ e => Heap.get?_push_of_some _ e) fun p hp => ?_
  obtain rfl := List.mem_singleton.mp hp
  refine ⟨Heap.get?_push_size _ hf, ?_⟩
  cases hq : h.get? h.objs.size with
  | none => rfl
  | some o' => exact absurd (Heap.lt_size hq) (Nat.lt_irrefl _)

def updL (d : Addr) (o' : Obj) (l : Led) : Led := l.map fun p => if p.1 = d then (d, o') else p
theorem updL_self {d : Addr} {o o' : Obj} {l : Led} (h : (d, o) ∈ l) : (d, o') ∈ updL d o' l := by
  refine List.mem_map.mpr ⟨_, h, ?_⟩
  simp
theorem updL_ne {d a : Addr} {o o' : Obj} {l : Led} (h : (a, o) ∈ l) (hne : a ≠ d) : (a, o) ∈ updL d o' l := by
  refine List.mem_map.mpr ⟨_, h, ?_⟩
  simp [hne]
theorem updL_fst {d : Addr} {o' : Obj} {l : Led} {p : Addr × Obj} (h : p ∈ updL d o' l) : ∃ q ∈ l, q.1 = p.1 := by
  obtain ⟨q, hq, rfl⟩ := List.mem_map.mp h
  refine ⟨q, hq, ?_⟩
  by_cases e : q.1 = d <;> simp [e]

theorem Cx.upd (x : Cx G own σ h) {d : Addr} {o o' : Obj} (hm : (d, o) ∈ σ.n) (hs : Heap.SameBut d h h') (ho : h'.get? d = some o') : Cx G own { σ with n := updL d o' σ.n } h' := by
  have hd := x.N (d, o) (List.mem_append_right _ hm)
  have offd : ∀ p ∈ own, p.1 ≠ d := fun p hp => x.offO p hp _ hm
  refine ⟨⟨x.F.ns.sameBut hs (Ne.symm hd.2.1), fun b ob e => (hs.2 b fun q => ?_).trans (x.F.keep b ob e), x.F.above⟩, fun p hp => ?_, fun y a ha => (x.C y a ha).sameBut hs fun e => ?_, fun p hp q hq => ?_, fun p hp y a ha => ?_⟩
  · rw [q, hd.2.2] at e; cases e
  · rcases List.mem_append.mp hp with hp | hp
    · have := x.N p (List.mem_append_left _ hp)
      exact ⟨(hs.2 _ (offd p hp)).trans this.1, this.2⟩
    · obtain ⟨q, hq, rfl⟩ := List.mem_map.mp hp
      have hq' := x.N q (List.mem_append_right _ hq)
      by_cases e : q.1 = d
      · simp only [e, if_true]; exact ⟨ho, hd.2⟩
      · simp only [e, if_false]; exact ⟨(hs.2 _ e).trans hq'.1, hq'.2⟩
  · exact x.offC (d, o) (List.mem_append_right _ hm) y a ha e.symm
  · obtain ⟨q', hq', e⟩ := updL_fst hq
    rw [← e]; exact x.offO p hp q' hq'
  · rcases List.mem_append.mp hp with hp | hp
    · exact x.offC p (List.mem_append_left _ hp) y a ha
    · obtain ⟨q', hq', e⟩ := updL_fst hp
      rw [← e]; exact x.offC q' (List.mem_append_right _ hq') y a ha

def put (m : Str → Option Value) (x : Str) (v : Value) : Str → Option Value := fun y => if y = x then some v else m y

theorem Cx.store (x : Cx G own σ h) {y : Str} {v : Value} (hn : h'.Ns G.env.locals (put σ.m y v)) (hs : Heap.SameBut G.env.locals h h') (hL : ∀ z a, G.env.cells.lookup z = some a → a ≠ G.env.locals) : Cx G own { σ with m := put σ.m y v } h' :=
  ⟨x.F.set hn hs, x.N.set hs, fun z a ha => (x.C z a ha).sameBut hs (hL z a ha), x.offO, x.offC⟩

theorem Cx.get (x : Cx G own σ h) {a : Addr} {o : Obj} (hm : (a, o) ∈ σ.n) : h.get? a = some o := (x.N _ (List.mem_append_right _ hm)).1
theorem Cx.old (x : Cx G own σ h) {a : Addr} {o : Obj} (hm : G.h₀.get? a = some o) : h.get? a = some o := x.F.keep _ _ hm
theorem Cx.ne (x : Cx G own σ h) {a b : Addr} {o o' : Obj} (ha : (a, o) ∈ σ.n) (hb : (b, o') ∈ σ.n) (hne : o ≠ o') : a ≠ b := by
  rintro rfl
  have := x.get ha; rw [x.get hb] at this; exact hne (Option.some.inj this).symm
theorem Cx.ne₀ (x : Cx G own σ h) {a b : Addr} {o o' : Obj} (ha : (a, o) ∈ σ.n) (hb : G.h₀.get? b = some o') : a ≠ b := by
  rintro rfl
  have := (x.N _ (List.mem_append_right _ ha)).2.2; rw [hb] at this; cases this
end

/-- a tree that runs to its end in every heap of the kind σ and changes what P says -/
def Tm {α : Type} (G : Gx) (σ : Sg) (t : Sem α) (P : α → Sg → Prop) : Prop :=
  ∀ (own : Led) (s : Shared) (Q : α → Shared → Prop) (E : Value → Shared → Prop), Cx G own σ s.heap →
    (∀ v σ' h' tk', P v σ' → Cx G own σ' h' → Q v { s with heap := h', toks := tk' }) → wpAny (model G.prog G.w) G.A t Q E s
/-- .. that changes nothing -/
def Tr {α : Type} (G : Gx) (σ : Sg) (t : Sem α) (P : α → Prop) : Prop :=
  ∀ (own : Led) (s : Shared) (Q : α → Shared → Prop) (E : Value → Shared → Prop), Cx G own σ s.heap →
    (∀ v h' tk', P v → Cx G own σ h' → Q v { s with heap := h', toks := tk' }) → wpAny (model G.prog G.w) G.A t Q E s
/-- what every heap of the kind σ shows -/
def Ent (G : Gx) (σ : Sg) (φ : Heap → Prop) : Prop := ∀ own h, Cx G own σ h → φ h

section
variable {α β : Type} {G : Gx} {σ : Sg}
theorem Tr.m {t : Sem α} {P : α → Prop} (h : Tr G σ t P) : Tm G σ t (fun v σ' => σ' = σ ∧ P v) := fun own s Q E c k => h own s Q E c fun v h' tk' p c' => k v σ h' tk' ⟨rfl, p⟩ c'
theorem Tm.r {t : Sem α} {P : α → Prop} (h : Tm G σ t (fun v σ' => σ' = σ ∧ P v)) : Tr G σ t P := fun own s Q E c k => h own s Q E c fun v σ' h' tk' p c' => k v h' tk' p.2 (p.1 ▸ c')
theorem Tm.mono {t : Sem α} {P R : α → Sg → Prop} (h : Tm G σ t P) (k : ∀ v σ', P v σ' → R v σ') : Tm G σ t R := fun own s Q E c q => h own s Q E c fun v σ' h' tk' p c' => q v σ' h' tk' (k v σ' p) c'
theorem Tr.mono {t : Sem α} {P R : α → Prop} (h : Tr G σ t P) (k : ∀ v, P v → R v) : Tr G σ t R := fun own s Q E c q => h own s Q E c fun v h' tk' p c' => q v h' tk' (k v p) c'
theorem tm_bind {t : Sem α} {f : α → Sem β} {P : α → Sg → Prop} {R : β → Sg → Prop} (h : Tm G σ t P) (k : ∀ v σ', P v σ' → Tm G σ' (f v) R) : Tm G σ (t >>= f) R := fun own s Q E c q =>
  wpAny_bind (h own s _ E c fun v σ' h' tk' p c' => k v σ' p own _ Q E c' fun v₂ σ₂ h₂ tk₂ p₂ c₂ => q v₂ σ₂ h₂ tk₂ p₂ c₂)
theorem tr_pure {v : α} {P : α → Prop} (h : P v) : Tr G σ (pure v) P := fun _ s _ _ c k => wpAny_pure (k v s.heap s.toks h c)
end

abbrev IsV (v : Value) : Value → Prop := fun x => x = v
abbrev IsI (a : Int) : Value → Prop := fun v => ∃ t, v = .int a t
abbrev IsS (x : Str) : Value → Prop := fun v => ∃ t, v = .str x t
abbrev IsB (b : Bool) : Value → Prop := fun v => v = .bool b

section
variable {G : Gx} {σ : Sg} {d : Nat}

/-- names -/
theorem tr_name (O : Ok G d) {x : Str} {pos : Pos} {v : Value} (hv : σ.m x = some v) (hx : G.env.kindOf x = some .local := by rfl) (hd : (x == ("__debug__" : Str)) = false := by decide) :
    Tr G σ (eval (.Name x pos) G.env) (IsV v) := fun _ s _ _ c k => wpAny_Name (wpAny_loadName_local O.kind hx c.F.ns hv (k v s.heap s.toks rfl c)) hd
theorem tr_nameC (O : Ok G d) {x : Str} {pos : Pos} {v : Value} {a : Addr} (ha : G.env.cells.lookup x = some a) (hv : σ.c x = some v) (hx : G.env.kindOf x = some .cell := by rfl) (hd : (x == ("__debug__" : Str)) = false := by decide) :
    Tr G σ (eval (.Name x pos) G.env) (IsV v) := fun _ s _ _ c k => wpAny_Name (wpAny_loadName_cell O.kind hx ha (hv ▸ c.C x a ha) (k v s.heap s.toks rfl c)) hd
theorem tr_nameF (O : Ok G d) {x : Str} {pos : Pos} {v : Value} {a : Addr} (ha : G.env.cells.lookup x = some a) (hv : σ.c x = some v) (hx : G.env.kindOf x = some .free := by rfl) (hd : (x == ("__debug__" : Str)) = false := by decide) (hn : (x == ("__classdict__" : Str)) = false := by decide) :
    Tr G σ (eval (.Name x pos) G.env) (IsV v) := fun _ s _ _ c k => wpAny_Name (wpAny_loadName_free O.kind hx ha (hv ▸ c.C x a ha) (k v s.heap s.toks rfl c) hn) hd
theorem tr_int {i : Int} {k : Nat} {pos : Pos} : Tr G σ (eval (.Constant (.int i) k pos) G.env) (IsI i) := fun _ s _ _ c q => wpAny_Constant_int (q _ s.heap _ ⟨_, rfl⟩ c)
theorem tr_str {x : Str} {k : Nat} {pos : Pos} : Tr G σ (eval (.Constant (.str x) k pos) G.env) (IsS x) := fun _ s _ _ c q => wpAny_Constant_str (q _ s.heap _ ⟨_, rfl⟩ c)
end
end Mine
open PySem PySem.W PySem.Calls PyProof.Rows
set_option Elab.async false
set_option maxRecDepth 100000
namespace Mine
abbrev lw (x : Str) : List Nat := x.cps.toList
theorem str_ext {x y : Str} (h : lw x = lw y) : x = y := by
  cases x; cases y; simp only [lw, Array.toList_inj] at h; rw [h]
theorem lw_append (x y : Str) : lw (x ++ y) = lw x ++ lw y := by
  show (x.cps ++ y.cps).toList = _
  simp [lw]
theorem lw_length (x : Str) : (lw x).length = x.length := rfl
open Builtin.Str in
theorem slice_gen {x : Str} {l u : Option Int} {a b : Nat} (hab : a ≤ b) (hb : b ≤ x.length) (e : strSliceIndices l u 1 x.length = strSliceIndices (some (a : Int)) (some (b : Int)) 1 x.length) : lw (Txt.slice x l u) = ((lw x).drop a).take (b - a) := by
  have h := PySem.StrLaws.sliced_plain x hab hb
  unfold Txt.slice
  rw [e]
  split
  · rename_i hc
    have hl : (strSliceIndices (some (a : Int)) (some (b : Int)) 1 x.length).length = x.length := by simpa using hc
    rw [PySem.StrLaws.strSliceIndices_plain hab hb] at hl
    simp only [List.length_map, List.length_range] at hl
    have ha : a = 0 := by omega
    have hb' : b = x.length := by omega
    subst ha; subst hb'
    rw [List.drop_zero, Nat.sub_zero, ← lw_length, List.take_length]
  · show (((strSliceIndices (some (a : Int)) (some (b : Int)) 1 x.length).filterMap (x.cps[·]?)).toArray).toList = _
    rw [h]
theorem slice_to {x : Str} {k : Int} (h : 0 ≤ k) : lw (Txt.slice x none (some k)) = (lw x).take k.toNat := by
  by_cases hk : k.toNat ≤ x.length
  · rw [slice_gen (a := 0) (b := k.toNat) (Nat.zero_le _) hk (by rw [PySem.StrLaws.sliceIdx_none_lo, Int.toNat_of_nonneg h]; rfl)]
    simp
  · have hk' : (x.length : Int) ≤ k := by omega
    rw [slice_gen (a := 0) (b := x.length) (Nat.zero_le _) (Nat.le_refl _) (by rw [sliceIdx_hi_beyond _ hk', PySem.StrLaws.sliceIdx_none_lo]; rfl)]
    rw [List.drop_zero, Nat.sub_zero, ← lw_length, List.take_length, List.take_of_length_le]
    rw [lw_length]; omega
theorem slice_from {x : Str} {k : Nat} (h : k ≤ x.length) : lw (Txt.slice x (some (k : Int)) none) = (lw x).drop k := by
  rw [slice_gen (a := k) (b := x.length) h (Nat.le_refl _) (by rw [PySem.StrLaws.sliceIdx_none_hi])]
  rw [List.take_of_length_le (by rw [List.length_drop, lw_length]; omega)]
theorem slice_neg {x : Str} {k : Nat} (h : 1 ≤ k) (h' : k ≤ x.length) : lw (Txt.slice x none (some (-(k:Int)))) = (lw x).take (x.length - k) := by
  rw [slice_gen (a := 0) (b := x.length - k) (Nat.zero_le _) (by omega) (by
    rw [PySem.StrLaws.sliceIdx_none_lo, PySem.StrLaws.sliceIdx_neg_hi _ _ (by omega) (by omega)]
    congr 2; omega)]
  simp
theorem starts_iff (x y : Str) : Txt.startswith x y = decide (lw y <+: lw x) := by
  unfold Txt.startswith
  rw [PySem.StrLaws.subAt_eq]
  rw [Bool.eq_iff_iff]
  simp only [Nat.zero_add, List.drop_zero, Bool.and_eq_true, decide_eq_true_eq, beq_iff_eq]
  rw [List.prefix_iff_eq_take]
  constructor
  · rintro ⟨_, h⟩; exact h.symm
  · intro h
    refine ⟨?_, h.symm⟩
    have := congrArg List.length h
    rw [List.length_take] at this
    simp only [lw_length] at this
    omega
/-- the order of words -/
theorem le_of_prefix {a b : List Nat} (h : a <+: b) : ¬ b < a := by
  obtain ⟨t, rfl⟩ := h
  induction a with
  | nil => simp
  | cons x a ih => rw [List.cons_append, List.cons_lt_cons_iff]; simpa using ih
theorem prefix_between {p a k : List Nat} (h1 : ¬ a < p) (h2 : ¬ k < a) (h3 : p <+: k) : p <+: a := by
  obtain ⟨t, rfl⟩ := h3
  induction p generalizing a with
  | nil => exact List.nil_prefix
  | cons x p ih =>
    cases a with
    | nil => exact (h1 (by simp)).elim
    | cons y a =>
      rw [List.cons_append] at h2
      simp only [List.cons_lt_cons_iff, not_or, not_and] at h1 h2
      have : x = y := by omega
      subst this
      exact List.cons_prefix_cons.mpr ⟨rfl, ih (h1.2 rfl) (h2.2 rfl)⟩
end Mine
open PySem PySem.W PySem.Calls PyProof.Rows
set_option Elab.async false
set_option maxRecDepth 100000
set_option maxHeartbeats 4000000
set_option linter.unusedVariables false
namespace Mine
section
variable {G : Gx} {σ : Sg} {d : Nat}

theorem tr_glob (O : Ok G d) {x : Str} {pos : Pos} {v : Value} (e : nsIn G.K mainGlobals x = some (some v)) (hx : G.env.kindOf x = some .globalImplicit := by rfl) (hd : (x == ("__debug__" : Str)) = false := by decide) :
    Tr G σ (eval (.Name x pos) G.env) (IsV v) := fun _ s _ _ c k => by
  obtain ⟨p, lo, mg, mb, T⟩ := O.T
  exact Calls.Name_function_global O.kind hx (Calls.loadGlobal_global (by rw [O.glob]; exact T.g.keeps c.F.keep) (mg_of O.X T.g e) (k v s.heap s.toks rfl c)) hd
theorem tr_blt (O : Ok G d) {x : Str} {pos : Pos} {v : Value} (e : nsIn G.K mainGlobals x = some none) (hb : bootBuiltins x = some v) (hn : x ≠ "__name__" := by decide) (hx : G.env.kindOf x = some .globalImplicit := by rfl) (hd : (x == ("__debug__" : Str)) = false := by decide) :
    Tr G σ (eval (.Name x pos) G.env) (IsV v) := fun _ s _ _ c k => by
  obtain ⟨p, lo, mg, mb, T⟩ := O.T
  exact Calls.Name_function_global O.kind hx (Calls.loadGlobal_builtin (by rw [O.glob]; exact T.g.keeps c.F.keep) (mg_none_of O.X T.g e) (by rw [O.blt]; exact T.b.keeps c.F.keep) ((T.builtins x hn).trans hb) (k v s.heap s.toks rfl c)) hd

theorem tr_none {k : Nat} {pos : Pos} : Tr G σ (eval (.Constant .none k pos) G.env) (IsV .none) := fun _ s _ _ c q => wpAny_Constant_none (q _ s.heap s.toks rfl c)
theorem tr_bool {b : Bool} {k : Nat} {pos : Pos} : Tr G σ (eval (.Constant (.bool b) k pos) G.env) (IsB b) := fun _ s _ _ c q => wpAny_Constant_bool (q _ s.heap s.toks rfl c)

theorem tm_binop {l r : Expr} {op : Operator} {pos : Pos} {Pa : Value → Sg → Prop} {Pb : Value → Value → Sg → Prop} {R : Value → Sg → Prop} (hl : Tm G σ (eval l G.env) Pa) (hr : ∀ a σ', Pa a σ' → Tm G σ' (eval r G.env) (Pb a))
    (ho : ∀ a b σ', Pb a b σ' → Tm G σ' (binaryOp op a b) R) : Tm G σ (eval (.BinOp l op r pos) G.env) R := fun own s Q E c k =>
  wpAny_BinOp (hl own s _ E c fun a σ₁ h₁ t₁ pa c₁ => hr a σ₁ pa own _ _ E c₁ fun b σ₂ h₂ t₂ pb c₂ => ho a b σ₂ pb own _ Q E c₂ fun v σ₃ h₃ t₃ pv c₃ => k v σ₃ h₃ t₃ pv c₃)
theorem tr_binop {l r : Expr} {op : Operator} {pos : Pos} {Pa Pb R : Value → Prop} (hl : Tr G σ (eval l G.env) Pa) (hr : Tr G σ (eval r G.env) Pb)
    (ho : ∀ a b, Pa a → Pb b → Tr G σ (binaryOp op a b) R) : Tr G σ (eval (.BinOp l op r pos) G.env) R := fun own s Q E c k =>
  wpAny_BinOp (hl own s _ E c fun a h₁ t₁ pa c₁ => hr own _ _ E c₁ fun b h₂ t₂ pb c₂ => ho a b pa pb own _ Q E c₂ fun v h₃ t₃ pv c₃ => k v h₃ t₃ pv c₃)
theorem tr_add {l r : Expr} {pos : Pos} {a b : Int} (hl : Tr G σ (eval l G.env) (IsI a)) (hr : Tr G σ (eval r G.env) (IsI b)) : Tr G σ (eval (.BinOp l .Add r pos) G.env) (IsI (a + b)) :=
  tr_binop hl hr fun _ _ ⟨_, e1⟩ ⟨_, e2⟩ => by subst e1; subst e2; exact fun _ s _ _ c k => add_int (k _ s.heap _ ⟨_, rfl⟩ c)
theorem tr_sub {l r : Expr} {pos : Pos} {a b : Int} (hl : Tr G σ (eval l G.env) (IsI a)) (hr : Tr G σ (eval r G.env) (IsI b)) : Tr G σ (eval (.BinOp l .Sub r pos) G.env) (IsI (a - b)) :=
  tr_binop hl hr fun _ _ ⟨_, e1⟩ ⟨_, e2⟩ => by subst e1; subst e2; exact fun _ s _ _ c k => sub_int (k _ s.heap _ ⟨_, rfl⟩ c)
theorem tr_mod {l r : Expr} {pos : Pos} {a b : Int} (hl : Tr G σ (eval l G.env) (IsI a)) (hr : Tr G σ (eval r G.env) (IsI b)) (hb : b ≠ 0) : Tr G σ (eval (.BinOp l .Mod r pos) G.env) (IsI (a.fmod b)) :=
  tr_binop hl hr fun _ _ ⟨_, e1⟩ ⟨_, e2⟩ => by subst e1; subst e2; exact fun _ s _ _ c k => mod_int hb (k _ s.heap _ ⟨_, rfl⟩ c)
theorem tr_div {l r : Expr} {pos : Pos} {a b : Int} (hl : Tr G σ (eval l G.env) (IsI a)) (hr : Tr G σ (eval r G.env) (IsI b)) (hb : b ≠ 0) (hg : Builtin.divisionGoesByPylong a b = false) : Tr G σ (eval (.BinOp l .FloorDiv r pos) G.env) (IsI (a.fdiv b)) :=
  tr_binop hl hr fun _ _ ⟨_, e1⟩ ⟨_, e2⟩ => by subst e1; subst e2; exact fun _ s _ _ c k => floordiv_int hb (k _ s.heap _ ⟨_, rfl⟩ c) (.inl hg)
theorem tr_cat {l r : Expr} {pos : Pos} {x y : Str} (hl : Tr G σ (eval l G.env) (IsS x)) (hr : Tr G σ (eval r G.env) (IsS y)) (hz : x.length + y.length ≤ sizeLine) : Tr G σ (eval (.BinOp l .Add r pos) G.env) (IsS (x ++ y)) :=
  tr_binop hl hr fun _ _ ⟨_, e1⟩ ⟨_, e2⟩ => by subst e1; subst e2; exact fun _ s _ _ c k => SBL.add (fun t' n _ => k _ s.heap n ⟨_, rfl⟩ c) hz
theorem tr_neg1 {pos p' : Pos} {i : Int} {n : Nat} : Tr G σ (eval (.UnaryOp .USub (.Constant (.int i) n p') pos) G.env) (IsI (-i)) := fun _ s _ _ c k =>
  wpAny_UnaryOp (wpAny_Constant_int (neg_int (k _ s.heap _ ⟨_, rfl⟩ c)))
theorem tr_neg {pos : Pos} {a : Int} {e : Expr} (h : Tr G σ (eval e G.env) (IsI a)) : Tr G σ (eval (.UnaryOp .USub e pos) G.env) (IsI (-a)) := fun own s Q E c k =>
  wpAny_UnaryOp (h own s _ E c fun v h₁ t₁ ⟨t, e1⟩ c₁ => by subst e1; exact neg_int (k _ h₁ _ ⟨_, rfl⟩ c₁))

theorem tr_cmp {l r : Expr} {op : CmpOp} {pos : Pos} {Pa Pb R : Value → Prop} (hl : Tr G σ (eval l G.env) Pa) (hr : Tr G σ (eval r G.env) Pb)
    (ho : ∀ a b, Pa a → Pb b → Tr G σ (compareOp op a b) R) (hm : behindInMarks op r = false := by rfl) : Tr G σ (eval (.Compare l [op] [r] pos) G.env) R := fun own s Q E c k =>
  wpAny_Compare1 (hl own s _ E c fun a h₁ t₁ pa c₁ => hr own _ _ E c₁ fun b h₂ t₂ pb c₂ => ho a b pa pb own _ Q E c₂ fun v h₃ t₃ pv c₃ => k v h₃ t₃ pv c₃) hm
theorem tr_testCmp {l r : Expr} {op : CmpOp} {pos : Pos} {Pa Pb : Value → Prop} {b : Bool} {whole : Sem Value} (hl : Tr G σ (eval l G.env) Pa) (hr : Tr G σ (eval r G.env) Pb)
    (ho : ∀ x y, Pa x → Pb y → Tr G σ (compareOp op x y) (IsB b)) (hm : behindInMarks op r = false := by rfl) : Tr G σ (PySem.isTrue (.Compare l [op] [r] pos) G.env whole) (fun x => x = b) := fun own s Q E c k =>
  wpAny_isTrue_Compare1 (hl own s _ E c fun a h₁ t₁ pa c₁ => hr own _ _ E c₁ fun b h₂ t₂ pb c₂ => ho a b pa pb own _ _ E c₂ fun v h₃ t₃ pv c₃ => by subst pv; exact wpAny_truthy_bool (k _ h₃ t₃ rfl c₃)) hm

theorem tr_lt_int {a b : Int} {u v : Value} (h1 : IsI a u) (h2 : IsI b v) : Tr G σ (compareOp .Lt u v) (IsB (decide (a < b))) := by
  obtain ⟨_, rfl⟩ := h1; obtain ⟨_, rfl⟩ := h2; exact fun _ s _ _ c k => PyProof.Rows.lt_int (k _ s.heap s.toks rfl c)
theorem tr_eq_int {a b : Int} {u v : Value} (h1 : IsI a u) (h2 : IsI b v) : Tr G σ (compareOp .Eq u v) (IsB (a == b)) := by
  obtain ⟨_, rfl⟩ := h1; obtain ⟨_, rfl⟩ := h2; exact fun _ s _ _ c k => PyProof.Rows.eq_int (k _ s.heap s.toks rfl c)
theorem tr_lt_str {a b : Str} {u v : Value} (h1 : IsS a u) (h2 : IsS b v) : Tr G σ (compareOp .Lt u v) (IsB (decide (a.cps.toList < b.cps.toList))) := by
  obtain ⟨_, rfl⟩ := h1; obtain ⟨_, rfl⟩ := h2; exact fun _ s _ _ c k => PyProof.Rows.lt_str (k _ s.heap s.toks rfl c)
theorem tr_eq_str {a b : Str} {u v : Value} (h1 : IsS a u) (h2 : IsS b v) : Tr G σ (compareOp .Eq u v) (IsB (a == b)) := by
  obtain ⟨_, rfl⟩ := h1; obtain ⟨_, rfl⟩ := h2; exact fun _ s _ _ c k => PyProof.Rows.eq_str (k _ s.heap s.toks rfl c)

/-- tests -/
theorem tr_test {e : Expr} {P : Value → Prop} {b : Bool} (h : Tr G σ (eval e G.env) P) (ht : ∀ v, P v → Tr G σ (truthy v) (fun x => x = b)) (hp : PySem.isTrue e G.env (eval e G.env) = (do
          let v ← eval e G.env
          standAt e.pos
          holding [v] (truthy v)) := by rfl) : Tr G σ (PySem.isTrue e G.env (eval e G.env)) (fun x => x = b) := fun own s Q E c k =>
  isTrue_plain (h own s _ E c fun v h₁ t₁ pv c₁ => ht v pv own _ Q E c₁ fun x h₂ t₂ px c₂ => k x h₂ t₂ px c₂) hp
theorem tr_truthyB {b : Bool} {v : Value} (h : IsB b v) : Tr G σ (truthy v) (fun x => x = b) := by
  subst h; exact fun _ s _ _ c k => wpAny_truthy_bool (k _ s.heap s.toks rfl c)
theorem tm_ifexp {t a b : Expr} {pos : Pos} {x : Bool} {R : Value → Sg → Prop} (ht : Tr G σ (PySem.isTrue t G.env (eval t G.env)) (fun y => y = x)) (h : Tm G σ (if x = true then eval a G.env else eval b G.env) R) : Tm G σ (eval (.IfExp t a b pos) G.env) R := fun own s Q E c k =>
  wpAny_IfExp (ht own s _ E c fun v h₁ t₁ pv c₁ => by subst pv; cases v <;> exact h own _ Q E c₁ fun v h₂ t₂ pv c₂ => k v h₂ t₂ pv c₂)
theorem tr_ifexp {t a b : Expr} {pos : Pos} {x : Bool} {R : Value → Prop} (ht : Tr G σ (PySem.isTrue t G.env (eval t G.env)) (fun y => y = x)) (h : Tr G σ (if x = true then eval a G.env else eval b G.env) R) : Tr G σ (eval (.IfExp t a b pos) G.env) R := fun own s Q E c k =>
  wpAny_IfExp (ht own s _ E c fun v h₁ t₁ pv c₁ => by subst pv; cases v <;> exact h own _ Q E c₁ fun v h₂ t₂ pv c₂ => k v h₂ t₂ pv c₂)

/-- reading -/
theorem tr_sub_ {v i : Expr} {pos : Pos} {Pa Pb R : Value → Prop} (hl : Tr G σ (eval v G.env) Pa) (hr : Tr G σ (eval i G.env) Pb) (ho : ∀ a b, Pa a → Pb b → Tr G σ (subscriptTail v i a b) R) : Tr G σ (eval (.Subscript v i pos) G.env) R := fun own s Q E c k =>
  Subscript_ (hl own s _ E c fun a h₁ t₁ pa c₁ => hr own _ _ E c₁ fun b h₂ t₂ pb c₂ => ho a b pa pb own _ Q E c₂ fun v h₃ t₃ pv c₃ => k v h₃ t₃ pv c₃)
theorem tm_sub_ {v i : Expr} {pos : Pos} {Pa : Value → Sg → Prop} {Pb : Value → Value → Sg → Prop} {R : Value → Sg → Prop} (hl : Tm G σ (eval v G.env) Pa) (hr : ∀ a σ', Pa a σ' → Tm G σ' (eval i G.env) (Pb a)) (ho : ∀ a b σ', Pb a b σ' → Tm G σ' (subscriptTail v i a b) R) : Tm G σ (eval (.Subscript v i pos) G.env) R := fun own s Q E c k =>
  Subscript_ (hl own s _ E c fun a σ₁ h₁ t₁ pa c₁ => hr a σ₁ pa own _ _ E c₁ fun b σ₂ h₂ t₂ pb c₂ => ho a b σ₂ pb own _ Q E c₂ fun v σ₃ h₃ t₃ pv c₃ => k v σ₃ h₃ t₃ pv c₃)

theorem tr_item {ve ie : Expr} {l : Addr} {its : Array Value} {k : Int} {v i : Value} {x : Value} (hl : Ent G σ (fun h => h.IsList l its)) (hv : v = .ref l) (hi : IsI k i) (h0 : 0 ≤ k) (hk : k < 2 ^ 63) (hx : its[k.toNat]? = some x)
    (hs : ∀ t, subscripted ie false (.ref l) (.int k t) = operate [.ref l, .int k t] (getItem (.ref l) (.int k t)) := by intro _; with_unfolding_all rfl) : Tr G σ (subscriptTail ve ie v i) (IsV x) := by
  obtain ⟨t, rfl⟩ := hi; subst hv
  exact fun own s Q E c q => tail_any (hl own _ c).typeIs slot_list_getitem.lookup (wpAny_getItem_list (hl own _ c) h0 hk hx (q x s.heap s.toks rfl c)) (hs t)
theorem tr_itemN {ve ie : Expr} {l : Addr} {its : Array Value} {k : Int} {v i : Value} {x : Value} (hl : Ent G σ (fun h => h.IsList l its)) (hv : v = .ref l) (hi : IsI k i) (h0 : k < 0) (hk : -(its.size : Int) ≤ k) (hb : -2 ^ 63 ≤ k) (hx : its[(k + its.size).toNat]? = some x)
    (hs : ∀ t, subscripted ie false (.ref l) (.int k t) = operate [.ref l, .int k t] (getItem (.ref l) (.int k t)) := by intro _; with_unfolding_all rfl) : Tr G σ (subscriptTail ve ie v i) (IsV x) := by
  obtain ⟨t, rfl⟩ := hi; subst hv
  exact fun own s Q E c q => tail_any (hl own _ c).typeIs slot_list_getitem.lookup (wpAny_getItem_list_neg (hl own _ c) h0 hk hb hx (q x s.heap s.toks rfl c)) (hs t)

abbrev SK (G : Gx) := PySem.strKind G.prog G.w
theorem isStr_str (x : Str) (t : Tok) : Value.isStrOf x (.str x t) = true := by simp [Value.isStrOf]
theorem tr_dItem {ve ie : Expr} {a : Addr} {kvs : List (Str × Value)} {x : Str} {v i : Value} {y : Value} (hd : Ent G σ (fun h => h.DictOf (SK G) a kvs)) (hv : v = .ref a) (hi : IsS x i) (hx : valueAt kvs x = some y)
    (hs : ∀ t, subscripted ie false (.ref a) (.str x t) = operate [.ref a, .str x t] (getItem (.ref a) (.str x t)) := by intro _; with_unfolding_all rfl) : Tr G σ (subscriptTail ve ie v i) (IsV y) := by
  obtain ⟨t, rfl⟩ := hi; subst hv
  exact fun own s Q E c q => tail_any (hd own _ c).typeIs slot_dict_getitem.lookup (wpAny_getItem_of (knd := SK G) (k := x) (isStr_str x t) (hd own _ c).mapOf hx (q y s.heap _ rfl c)) (hs t)
theorem tr_dIn {a : Addr} {kvs : List (Str × Value)} {x : Str} {v i : Value} (hd : Ent G σ (fun h => h.DictOf (SK G) a kvs)) (hlo : (a == sysModules) = false) (hv : v = .ref a) (hi : IsS x i) : Tr G σ (compareOp .In i v) (IsB (valueAt kvs x).isSome) := by
  obtain ⟨t, rfl⟩ := hi; subst hv
  exact fun own s Q E c q => wpAny_in_of (knd := SK G) (k := x) (isStr_str x t) hlo (hd own _ c).mapOf (q _ s.heap _ rfl c)
end
end Mine
open PySem PySem.W PySem.Calls PyProof.Rows
set_option Elab.async false
set_option maxRecDepth 100000
set_option maxHeartbeats 4000000
set_option linter.unusedVariables false
namespace Mine
section
variable {G : Gx} {σ : Sg} {d : Nat}

/-- texts cut -/
theorem keptCx {own : Led} : KeptH (fun h => Cx G own σ h) := fun _ o c => c.push o
theorem tr_cutTo {ve e : Expr} {p pos : Pos} {x : Str} {j : Int} (hv : Tr G σ (eval ve G.env) (IsS x)) (he : Tr G σ (eval e G.env) (IsI j)) (hz : x.length ≤ sizeLine)
    (hs : ∀ t a, subscripted (.Slice none (some e) none p) false (.str x t) (.ref a) = operate [.ref a, .str x t] (getItem (.str x t) (.ref a)) := by intro _ _; with_unfolding_all rfl)
    (ht : ∀ t r, letTemporaryGo ve (.str x t) r = pure () := by intro _ _; with_unfolding_all rfl) :
    Tr G σ (eval (.Subscript ve (.Slice none (some e) none p) pos) G.env) (IsS (Txt.slice x none (some j))) := fun own s Q E c k =>
  Subscript_ (hv own s _ E c fun v h₁ t₁ ⟨t, e1⟩ c₁ => by
    subst e1
    exact wpAny_Slice (evalPart_none_step (evalPart_some_step (he own _ _ E c₁ fun u h₂ t₂ ⟨t', e2⟩ c₂ => by
      subst e2
      exact evalPart_none_step (tail_of_ItemOn (s := { s with heap := h₂.push _, toks := t₂ }) (SBH.sliceItem_ns (s := { s with heap := h₂, toks := t₂ }) keptCx c₂ (fun h' t' n c' => k _ h' n ⟨_, rfl⟩ c') hz) (hs _ _) (ht _))))))
theorem tr_cutFrom {ve e : Expr} {p pos : Pos} {x : Str} {j : Int} (hv : Tr G σ (eval ve G.env) (IsS x)) (he : Tr G σ (eval e G.env) (IsI j)) (hz : x.length ≤ sizeLine)
    (hs : ∀ t a, subscripted (.Slice (some e) none none p) false (.str x t) (.ref a) = operate [.ref a, .str x t] (getItem (.str x t) (.ref a)) := by intro _ _; with_unfolding_all rfl)
    (ht : ∀ t r, letTemporaryGo ve (.str x t) r = pure () := by intro _ _; with_unfolding_all rfl) :
    Tr G σ (eval (.Subscript ve (.Slice (some e) none none p) pos) G.env) (IsS (Txt.slice x (some j) none)) := fun own s Q E c k =>
  Subscript_ (hv own s _ E c fun v h₁ t₁ ⟨t, e1⟩ c₁ => by
    subst e1
    exact wpAny_Slice (evalPart_some_step (he own _ _ E c₁ fun u h₂ t₂ ⟨t', e2⟩ c₂ => by
      subst e2
      exact evalPart_none_step (evalPart_none_step (tail_of_ItemOn (s := { s with heap := h₂.push _, toks := t₂ }) (SBH.sliceItem_sn (s := { s with heap := h₂, toks := t₂ }) keptCx c₂ (fun h' t' n c' => k _ h' n ⟨_, rfl⟩ c') hz) (hs _ _) (ht _))))))

/-- arguments -/
theorem tr_args0 {pos : Pos} : Tr G σ (spliced (backTo pos (starEach [] G.env))) (fun vs => vs = []) := fun _ s _ _ c k => spliced_none (k [] s.heap s.toks rfl c)
theorem tm_arg {e : Expr} {rest : List Expr} {pos : Pos} {P : Value → Sg → Prop} {R : List Value → Sg → Prop} (he : Tm G σ (eval e G.env) P)
    (hr : ∀ v σ', P v σ' → Tm G σ' (spliced (backTo pos (starEach rest G.env))) (fun vs σ₂ => R (v :: vs) σ₂)) (hs : starEach (e :: rest) G.env = (false, eval e G.env) :: starEach rest G.env := by rfl) :
    Tm G σ (spliced (backTo pos (starEach (e :: rest) G.env))) R := fun own s Q E c k =>
  spliced_more (he own s _ E c fun v σ₁ h₁ t₁ pv c₁ => hr v σ₁ pv own _ _ E c₁ fun vs σ₂ h₂ t₂ pr c₂ => k _ σ₂ h₂ t₂ pr c₂) hs
theorem tr_arg {e : Expr} {rest : List Expr} {pos : Pos} {P : Value → Prop} {R : List Value → Prop} (he : Tr G σ (eval e G.env) P)
    (hr : ∀ v, P v → Tr G σ (spliced (backTo pos (starEach rest G.env))) (fun vs => R (v :: vs))) (hs : starEach (e :: rest) G.env = (false, eval e G.env) :: starEach rest G.env := by rfl) :
    Tr G σ (spliced (backTo pos (starEach (e :: rest) G.env))) R := fun own s Q E c k =>
  spliced_more (he own s _ E c fun v h₁ t₁ pv c₁ => hr v pv own _ _ E c₁ fun vs h₂ t₂ pr c₂ => k _ h₂ t₂ pr c₂) hs
theorem tr_arg1 {e : Expr} {pos : Pos} {P : Value → Prop} (he : Tr G σ (eval e G.env) P) (hs : starEach [e] G.env = [(false, eval e G.env)] := by rfl) :
    Tr G σ (spliced (backTo pos (starEach [e] G.env))) (fun vs => ∃ v, vs = [v] ∧ P v) := tr_arg he (fun v pv => Tr.mono tr_args0 fun vs e => by subst e; exact ⟨v, rfl, pv⟩) hs
theorem tr_arg2 {e f : Expr} {pos : Pos} {P R : Value → Prop} (he : Tr G σ (eval e G.env) P) (hf : Tr G σ (eval f G.env) R) (hs : starEach [e, f] G.env = [(false, eval e G.env), (false, eval f G.env)] := by rfl) (hs' : starEach [f] G.env = [(false, eval f G.env)] := by rfl) :
    Tr G σ (spliced (backTo pos (starEach [e, f] G.env))) (fun vs => ∃ v u, vs = [v, u] ∧ P v ∧ R u) :=
  tr_arg he (fun v pv => Tr.mono (tr_arg1 hf hs') fun vs ⟨u, e, pu⟩ => by subst e; exact ⟨v, u, rfl, pv, pu⟩) (by rw [hs, hs'])

/-- calls by a name -/
theorem tm_callB {x : Str} {np pos : Pos} {id : String} {e : Expr} {rest : List Expr} {P : List Value → Sg → Prop} {R : Value → Sg → Prop} (hf : Tr G σ (eval (.Name x np) G.env) (IsV (.builtin id)))
    (ha : Tm G σ (spliced (backTo pos (starEach (e :: rest) G.env))) P) (hc : ∀ vs σ', P vs σ' → Tm G σ' (call (.builtin id) vs) R)
    (he : starEach (e :: rest) G.env = (false, eval e G.env) :: starEach rest G.env := by rfl) (hp : (backTo pos (starEach rest G.env)).any (·.1) = false := by rfl) : Tm G σ (eval (.Call (.Name x np) (e :: rest) [] pos) G.env) R := fun own s Q E c k =>
  wpAny_Call_NameR (hf own s _ E c fun v h₁ t₁ pv c₁ => by
    subst pv
    exact callWith_method1 (ha own _ _ E c₁ fun vs σ₂ h₂ t₂ pa c₂ => hc vs σ₂ pa own _ Q E c₂ fun v σ₃ h₃ t₃ pv c₃ => k v σ₃ h₃ t₃ pv c₃) he hp)
theorem tm_callT {x : Str} {np pos : Pos} {T : String} {e : Expr} {rest : List Expr} {P : List Value → Sg → Prop} {R : Value → Sg → Prop} (hf : Tr G σ (eval (.Name x np) G.env) (IsV (.type T)))
    (ha : Tm G σ (spliced (backTo pos (starEach (e :: rest) G.env))) P) (hc : ∀ vs σ', P vs σ' → Tm G σ' (call (.type T) vs) R)
    (he : starEach (e :: rest) G.env = (false, eval e G.env) :: starEach rest G.env := by rfl) (hp : (backTo pos (starEach rest G.env)).any (·.1) = false := by rfl) : Tm G σ (eval (.Call (.Name x np) (e :: rest) [] pos) G.env) R := fun own s Q E c k =>
  wpAny_Call_NameR (hf own s _ E c fun v h₁ t₁ pv c₁ => by
    subst pv
    exact Pv.callWith_type1 (ha own _ _ E c₁ fun vs σ₂ h₂ t₂ pa c₂ => hc vs σ₂ pa own _ Q E c₂ fun v σ₃ h₃ t₃ pv c₃ => k v σ₃ h₃ t₃ pv c₃) he hp)
theorem tm_callK (O : Ok G d) {x : Str} {np pos : Pos} {f : Addr} {e : Expr} {rest : List Expr} {P : List Value → Sg → Prop} {R : Value → Sg → Prop} (hf : Tr G σ (eval (.Name x np) G.env) (IsV (.ref f))) (hk : keepIn G.K (.ref f) = true)
    (ha : Tm G σ (spliced (backTo pos (starEach (e :: rest) G.env))) P) (hc : ∀ vs σ', P vs σ' → Tm G σ' (call (.ref f) vs) R)
    (he : starEach (e :: rest) G.env = (false, eval e G.env) :: starEach rest G.env := by rfl) (hp : (backTo pos (starEach rest G.env)).any (·.1) = false := by rfl) : Tm G σ (eval (.Call (.Name x np) (e :: rest) [] pos) G.env) R := fun own s Q E c k =>
  wpAny_Call_NameR (hf own s _ E c fun v h₁ t₁ pv c₁ => by
    subst pv
    exact callWith_K (first := []) O.X hk (ha own _ _ E c₁ fun vs σ₂ h₂ t₂ pa c₂ => ⟨O.X.keeps c₂.F.keep, hc vs σ₂ pa own _ Q E c₂ fun v σ₃ h₃ t₃ pv c₃ => k v σ₃ h₃ t₃ pv c₃⟩) he hp)
theorem tm_callK0 (O : Ok G d) {x : Str} {np pos : Pos} {f : Addr} {R : Value → Sg → Prop} (hf : Tr G σ (eval (.Name x np) G.env) (IsV (.ref f))) (hk : keepIn G.K (.ref f) = true)
    (hc : Tm G σ (call (.ref f) []) R) : Tm G σ (eval (.Call (.Name x np) [] [] pos) G.env) R := fun own s Q E c k =>
  wpAny_Call_NameR (hf own s _ E c fun v h₁ t₁ pv c₁ => by
    subst pv
    exact callWith_K0 (first := []) (O.X.keeps c₁.F.keep) hk (hc own _ Q E c₁ fun v σ₃ h₃ t₃ pv c₃ => k v σ₃ h₃ t₃ pv c₃))

/-- methods -/
theorem tm_meth {pl : Sem Bool} {o : Expr} {name : Str} {apos pos : Pos} {args : List Expr} {P : Value → Sg → Prop} {R : Value → Sg → Prop} (ho : Tm G σ (eval o G.env) P)
    (hm : ∀ v σ', P v σ' → ∀ own s Q E, Cx G own σ' s.heap → (∀ v σ₂ h' tk', R v σ₂ → Cx G own σ₂ h' → Q v { s with heap := h', toks := tk' }) →
      wpAny (model G.prog G.w) G.A (getMethod v name pl) (fun fx s₂ => wpAny (model G.prog G.w) G.A (callWith pos fx.1 fx.2 (backTo pos (starEach args G.env)) []) Q E s₂) E s)
    (hq : eval (.Call (.Attribute o name apos) args [] pos) G.env = (do
          let ov ← eval o G.env
          standAt apos.atName
          let (f, first) ← holding [ov] (getMethod ov name pl)
          callWith pos f first (backTo pos (starEach args G.env)) []) := by rfl) :
    Tm G σ (eval (.Call (.Attribute o name apos) args [] pos) G.env) R := fun own s Q E c k =>
  MethodCall_ (pl := pl) (ho own s _ E c fun v σ₁ h₁ t₁ pv c₁ => hm v σ₁ pv own _ Q E c₁ fun v σ₂ h₂ t₂ pr c₂ => k v σ₂ h₂ t₂ pr c₂) hq
end
end Mine
open PySem PySem.W PySem.Calls PyProof.Rows
set_option Elab.async false
set_option maxRecDepth 100000
set_option maxHeartbeats 4000000
set_option linter.unusedVariables false
namespace Mine
section
variable {G : Gx} {σ : Sg} {d : Nat}

/-- statements -/
theorem tm_nil {P : Flow → Sg → Prop} (h : P .next σ) : Tm G σ (execs [] G.env) P := fun own s Q E c k => wpAny_execs_nil (k .next σ s.heap s.toks h c)
theorem tm_cons {st : Stmt} {rest : List Stmt} {P₁ P : Flow → Sg → Prop} (h : Tm G σ (exec st G.env) P₁) (hn : ∀ σ', P₁ .next σ' → Tm G σ' (execs rest G.env) P) (hr : ∀ f σ', (∀ x : Unit, f ≠ .next) → P₁ f σ' → P f σ') :
    Tm G σ (execs (st :: rest) G.env) P := fun own s Q E c k =>
  wpAny_execs_cons (h own s _ E c fun f σ₁ h₁ t₁ p c₁ => by
    cases f with
    | next => exact hn σ₁ p own _ Q E c₁ fun v σ₂ h₂ t₂ p₂ c₂ => k v σ₂ h₂ t₂ p₂ c₂
    | brk => exact k _ σ₁ h₁ t₁ (hr _ σ₁ (fun _ => by simp) p) c₁
    | cont => exact k _ σ₁ h₁ t₁ (hr _ σ₁ (fun _ => by simp) p) c₁
    | ret v => exact k _ σ₁ h₁ t₁ (hr _ σ₁ (fun _ => by simp) p) c₁)
/-- a statement that only goes on -/
theorem tm_next {st : Stmt} {rest : List Stmt} {P₁ : Sg → Prop} {P : Flow → Sg → Prop} (h : Tm G σ (exec st G.env) (fun f σ' => f = .next ∧ P₁ σ')) (hn : ∀ σ', P₁ σ' → Tm G σ' (execs rest G.env) P) :
    Tm G σ (execs (st :: rest) G.env) P := tm_cons h (fun σ' p => hn σ' p.2) fun f σ' hf p => absurd p.1 (hf ())

theorem tm_assign (O : Ok G d) {x : Str} {p pos : Pos} {e : Expr} {P : Value → Sg → Prop} {R : Flow → Sg → Prop} (he : Tm G σ (eval e G.env) P) (hr : ∀ v σ', P v σ' → R .next { σ' with m := put σ'.m x v })
    (hx : G.env.kindOf x = some .local := by rfl) (hw : swapsWith e (some (.Name x p)) pos.line G.env = pure false := by rfl) : Tm G σ (exec (.Assign [.Name x p] e pos) G.env) R := fun own s Q E c k =>
  wpAny_Assign_Name (he own s _ E c fun v σ₁ h₁ t₁ pv c₁ => wpAny_storeName_local hx c₁.F.ns (fun h' hn hs => k .next _ h' _ (hr v σ₁ pv) (c₁.store hn hs O.cL))
    (by rw [O.kind]; rfl)) hw
theorem tm_storeName (O : Ok G d) {x : Str} {v : Value} (hx : G.env.kindOf x = some .local := by rfl) : Tm G σ (storeName G.env x v) (fun _ σ' => σ' = { σ with m := put σ.m x v }) := fun own s Q E c k =>
  wpAny_storeName_local hx c.F.ns (fun h' hn hs => k () _ h' _ rfl (c.store hn hs O.cL)) (by rw [O.kind]; rfl)

theorem Cx.storeC {own : Led} {h h' : Heap} (x : Cx G own σ h) (O : Ok G d) {y : Str} {v : Value} {a : Addr} (ha : G.env.cells.lookup y = some a) (a0 : G.h₀.get? a = none) (hv : h'.IsCell a (some v)) (hs : Heap.SameBut a h h') : Cx G own { σ with c := put σ.c y v } h' := by
  have aL := O.cL y a ha
  refine ⟨⟨x.F.ns.sameBut hs (Ne.symm aL), fun b o e => (hs.2 b fun q => ?_).trans (x.F.keep b o e), x.F.above⟩, fun p hp => ⟨(hs.2 _ fun q => ?_).trans (x.N p hp).1, (x.N p hp).2⟩, fun z b hb => ?_, x.offO, x.offC⟩
  · rw [q, a0] at e; cases e
  · exact x.offC p hp y a ha q
  · by_cases e : z = y
    · subst e
      have : b = a := by rw [ha] at hb; exact (Option.some.inj hb).symm
      subst this; simpa [put] using hv
    · have : b ≠ a := fun q => e (O.cpw z y a (q ▸ hb) ha)
      simpa [put, e] using (x.C z b hb).sameBut hs this
theorem tm_assignC (O : Ok G d) {x : Str} {p pos : Pos} {e : Expr} {a : Addr} {P : Value → Sg → Prop} {R : Flow → Sg → Prop} (ha : G.env.cells.lookup x = some a) (a0 : G.h₀.get? a = none) (he : Tm G σ (eval e G.env) P) (hr : ∀ v σ', P v σ' → R .next { σ' with c := put σ'.c x v })
    (hx : G.env.kindOf x = some .cell := by rfl) (hw : swapsWith e (some (.Name x p)) pos.line G.env = pure false := by rfl) : Tm G σ (exec (.Assign [.Name x p] e pos) G.env) R := fun own s Q E c k =>
  wpAny_Assign_Name (he own s _ E c fun v σ₁ h₁ t₁ pv c₁ => wpAny_storeName_cell O.kind hx ha (c₁.C x a ha) (fun h' hn hs => k .next _ h' _ (hr v σ₁ pv) (c₁.storeC O ha a0 hn hs))) hw
theorem tm_storeC (O : Ok G d) {x : Str} {v : Value} {a : Addr} (ha : G.env.cells.lookup x = some a) (a0 : G.h₀.get? a = none) (hx : G.env.kindOf x = some .cell := by rfl) : Tm G σ (storeName G.env x v) (fun _ σ' => σ' = { σ with c := put σ.c x v }) := fun own s Q E c k =>
  wpAny_storeName_cell O.kind hx ha (c.C x a ha) (fun h' hn hs => k () _ h' _ rfl (c.storeC O ha a0 hn hs))

theorem tm_assignSub {o i e : Expr} {p pos : Pos} {P : Value → Sg → Prop} {P₂ : Value → Value → Sg → Prop} {P₃ : Value → Value → Value → Sg → Prop} {R : Flow → Sg → Prop} (he : Tm G σ (eval e G.env) P) (ho : ∀ v σ', P v σ' → Tm G σ' (eval o G.env) (P₂ v))
    (hi : ∀ v u σ', P₂ v u σ' → Tm G σ' (eval i G.env) (P₃ v u)) (hs : ∀ v u w σ', P₃ v u w σ' → Tm G σ' (setItem u w v) (fun _ σ₂ => R .next σ₂)) (hw : swapsWith e (some (.Subscript o i p)) pos.line G.env = pure false := by rfl) :
    Tm G σ (exec (.Assign [.Subscript o i p] e pos) G.env) R := fun own s Q E c k =>
  wpAny_Assign_Subscript (he own s _ E c fun v σ₁ h₁ t₁ pv c₁ => ho v σ₁ pv own _ _ E c₁ fun u σ₂ h₂ t₂ pu c₂ => hi v u σ₂ pu own _ _ E c₂ fun w σ₃ h₃ t₃ pw c₃ => hs v u w σ₃ pw own _ _ E c₃ fun _ σ₄ h₄ t₄ p c₄ => k .next σ₄ h₄ t₄ p c₄) hw

theorem tm_expr {e : Expr} {pos : Pos} {P : Value → Sg → Prop} {R : Flow → Sg → Prop} (he : Tm G σ (eval e G.env) P) (hr : ∀ v σ', P v σ' → R .next σ') (hi : interactive G.env = false := by rfl) (hw : swapsWith e none pos.line G.env = pure false := by rfl) :
    Tm G σ (exec (.Expr e pos) G.env) R := fun own s Q E c k => wpAny_Expr_any (he own s _ E c fun v σ₁ h₁ t₁ pv c₁ => k .next σ₁ h₁ t₁ (hr v σ₁ pv) c₁) hi hw
theorem tm_ret {e : Expr} {pos : Pos} {P : Value → Sg → Prop} {R : Flow → Sg → Prop} (he : Tm G σ (eval e G.env) P) (hr : ∀ v σ', P v σ' → R (.ret v) σ') : Tm G σ (exec (.Return (some e) pos) G.env) R := fun own s Q E c k =>
  wpAny_Return_some (he own s _ E c fun v σ₁ h₁ t₁ pv c₁ => k (.ret v) σ₁ h₁ t₁ (hr v σ₁ pv) c₁)
theorem tm_if {t : Expr} {a b : List Stmt} {pos : Pos} {x : Bool} {R : Flow → Sg → Prop} (ht : Tr G σ (PySem.isTrue t G.env (eval t G.env)) (fun y => y = x)) (h : Tm G σ (if x = true then execs a G.env else execs b G.env) R) : Tm G σ (exec (.If t a b pos) G.env) R := fun own s Q E c k =>
  wpAny_If (ht own s _ E c fun v h₁ t₁ pv c₁ => by subst pv; cases v <;> exact h own _ Q E c₁ fun v σ₂ h₂ t₂ pv c₂ => k v σ₂ h₂ t₂ pv c₂)
theorem tm_ifM {t : Expr} {a b : List Stmt} {pos : Pos} {P : Bool → Sg → Prop} {R : Flow → Sg → Prop} (ht : Tm G σ (PySem.isTrue t G.env (eval t G.env)) P) (h : ∀ x σ', P x σ' → Tm G σ' (if x = true then execs a G.env else execs b G.env) R) : Tm G σ (exec (.If t a b pos) G.env) R := fun own s Q E c k =>
  wpAny_If (ht own s _ E c fun v σ₁ h₁ t₁ pv c₁ => by
    have := h v σ₁ pv
    cases v <;> exact this own _ Q E c₁ fun v σ₂ h₂ t₂ pv c₂ => k v σ₂ h₂ t₂ pv c₂)
theorem tm_brk {pos : Pos} {R : Flow → Sg → Prop} (h : R .brk σ) : Tm G σ (exec (.Break pos) G.env) R := fun own s Q E c k => wpAny_Break (k .brk σ s.heap s.toks h c)

/-- stores into objects of the ledger -/
theorem tm_dictSet {a : Addr} {o : Obj} {kvs : List (Str × Value)} {x : Str} {u w v : Value} (hm : (a, o) ∈ σ.n) (hd : o.IsDictOf (SK G) kvs) (hu : u = .ref a) (hw : IsS x w) (hz : kvs.length ≤ sizeLine) :
    Tm G σ (setItem u w v) (fun _ σ' => ∃ o', o'.IsDictOf (SK G) (stored kvs x v) ∧ σ' = { σ with n := updL a o' σ.n }) := by
  obtain ⟨t, rfl⟩ := hw; subst hu
  refine fun own s Q E c k => wpAny_setItem_pairs (knd := SK G) (k := x) (isStr_str x t) (Heap.dictOf_iff.mpr ⟨o, c.get hm, hd⟩) (fun h' hd' hs => ?_) hz
  obtain ⟨o', ho', hd''⟩ := Heap.dictOf_iff.mp hd'
  exact k () _ h' _ ⟨o', hd'', rfl⟩ (c.upd hm hs ho')
theorem tm_append {a : Addr} {its : Array Value} {n : Nat} {v : Value} (hm : (a, listOf its n) ∈ σ.n) (hz : its.size ≤ sizeLine) :
    Tm G σ (call (.builtin "list.append") [.ref a, v]) (fun r σ' => r = .none ∧ ∃ n', σ' = { σ with n := updL a (listOf (its.push v) n') σ.n }) := fun own s Q E c k =>
  wpAny_list_append_plain ⟨n, c.get hm⟩ (fun h' ⟨n', e⟩ hs => k .none _ h' _ ⟨rfl, n', rfl⟩ (c.upd hm hs e)) hz

/-- ledger facts read -/
theorem ent_list {a : Addr} {its : Array Value} {n : Nat} (hm : (a, listOf its n) ∈ σ.n) : Ent G σ (fun h => h.IsList a its) := fun own h c => ⟨_, c.get hm, rfl, n, rfl⟩
theorem ent_dict {a : Addr} {o : Obj} {kvs : List (Str × Value)} (hm : (a, o) ∈ σ.n) (hd : o.IsDictOf (SK G) kvs) : Ent G σ (fun h => h.DictOf (SK G) a kvs) := fun own h c => Heap.dictOf_iff.mpr ⟨o, c.get hm, hd⟩
theorem ent_old {φ : Heap → Prop} (h₀ : φ G.h₀) (hk : ∀ h h' : Heap, (∀ b o, h.get? b = some o → h'.get? b = some o) → φ h → φ h') : Ent G σ φ := fun own h c => hk _ _ c.F.keep h₀
theorem ent_list₀ {a : Addr} {its : Array Value} (h : G.h₀.IsList a its) : Ent G σ (fun h => h.IsList a its) := ent_old h fun _ _ k x => x.at fun o e => k _ _ e
theorem ent_dict₀ {a : Addr} {kvs : List (Str × Value)} (h : G.h₀.DictOf (SK G) a kvs) : Ent G σ (fun h => h.DictOf (SK G) a kvs) := ent_old h fun _ _ k x => x.at fun o e => k _ _ e

/-- built-in methods -/
theorem tm_methB {pl : Sem Bool} {o : Expr} {name : Str} {apos pos : Pos} {e : Expr} {rest : List Expr} {T id : String} {P : Value → Sg → Prop} {P₂ : Value → List Value → Sg → Prop} {R : Value → Sg → Prop} (pa : PlainAttrs T) (slot : Slot T name id) (hty : typeOf (.builtin id) = pure (.type "method_descriptor"))
    (ho : Tm G σ (eval o G.env) P) (ht : ∀ v σ' own (s : Shared), P v σ' → Cx G own σ' s.heap → s.TypeIs v T ∧ ∀ a, v = .ref a → ∃ o : Obj, s.heap.get? a = some o ∧ o.dict = none)
    (ha : ∀ v σ', P v σ' → Tm G σ' (spliced (backTo pos (starEach (e :: rest) G.env))) (P₂ v)) (hc : ∀ v vs σ', P₂ v vs σ' → Tm G σ' (call (.builtin id) (v :: vs)) R)
    (hq : eval (.Call (.Attribute o name apos) (e :: rest) [] pos) G.env = (do
          let ov ← eval o G.env
          standAt apos.atName
          let (f, first) ← holding [ov] (getMethod ov name pl)
          callWith pos f first (backTo pos (starEach (e :: rest) G.env)) []) := by rfl)
    (he : starEach (e :: rest) G.env = (false, eval e G.env) :: starEach rest G.env := by rfl) (hp : (backTo pos (starEach rest G.env)).any (·.1) = false := by rfl) :
    Tm G σ (eval (.Call (.Attribute o name apos) (e :: rest) [] pos) G.env) R :=
  tm_meth ho (fun v σ' pv own s Q E c k => getMethod_builtin (ht v σ' own s pv c).1 pa slot hty (ht v σ' own s pv c).2
    (PyProof.Rows.callWith_method1 (ha v σ' pv own s _ E c fun vs σ₂ h₂ t₂ p₂ c₂ => hc v vs σ₂ p₂ own _ Q E c₂ fun v σ₃ h₃ t₃ pv c₃ => k v σ₃ h₃ t₃ pv c₃) he hp)) hq
theorem tm_methB0 {pl : Sem Bool} {o : Expr} {name : Str} {apos pos : Pos} {T id : String} {P : Value → Sg → Prop} {R : Value → Sg → Prop} (pa : PlainAttrs T) (slot : Slot T name id) (hty : typeOf (.builtin id) = pure (.type "method_descriptor"))
    (ho : Tm G σ (eval o G.env) P) (ht : ∀ v σ' own (s : Shared), P v σ' → Cx G own σ' s.heap → s.TypeIs v T ∧ ∀ a, v = .ref a → ∃ o : Obj, s.heap.get? a = some o ∧ o.dict = none)
    (hc : ∀ v σ', P v σ' → Tm G σ' (call (.builtin id) [v]) R)
    (hq : eval (.Call (.Attribute o name apos) [] [] pos) G.env = (do
          let ov ← eval o G.env
          standAt apos.atName
          let (f, first) ← holding [ov] (getMethod ov name pl)
          callWith pos f first (backTo pos (starEach [] G.env)) []) := by rfl) :
    Tm G σ (eval (.Call (.Attribute o name apos) [] [] pos) G.env) R :=
  tm_meth ho (fun v σ' pv own s Q E c k => getMethod_builtin (ht v σ' own s pv c).1 pa slot hty (ht v σ' own s pv c).2
    (callWith_method0 (hc v σ' pv own s Q E c fun v σ₃ h₃ t₃ pv c₃ => k v σ₃ h₃ t₃ pv c₃))) hq

/-- words.append(e) -/
theorem tm_appendStmt {pl : Sem Bool} {o e : Expr} {apos pos p : Pos} {a : Addr} {its : Array Value} {n : Nat} {v : Value} {P : Value → Prop} {R : Flow → Sg → Prop} (ho : Tr G σ (eval o G.env) (IsV (.ref a))) (hm : (a, listOf its n) ∈ σ.n) (hz : its.size ≤ sizeLine) (he : Tr G σ (eval e G.env) P)
    (hr : ∀ v n', P v → R .next { σ with n := updL a (listOf (its.push v) n') σ.n })
    (hq : eval (.Call (.Attribute o "append" apos) [e] [] pos) G.env = (do
          let ov ← eval o G.env
          standAt apos.atName
          let (f, first) ← holding [ov] (getMethod ov "append" pl)
          callWith pos f first (backTo pos (starEach [e] G.env)) []) := by rfl)
    (hs : starEach [e] G.env = [(false, eval e G.env)] := by rfl) (hi : interactive G.env = false := by rfl) (hw : swapsWith (.Call (.Attribute o "append" apos) [e] [] pos) none p.line G.env = pure false := by rfl) :
    Tm G σ (exec (.Expr (.Call (.Attribute o "append" apos) [e] [] pos) p) G.env) R :=
  tm_expr (tm_methB (P₂ := fun v vs σ' => σ' = σ ∧ v = .ref a ∧ ∃ x, vs = [x] ∧ P x) (R := fun r σ' => R .next σ') F.plainAttrs_list F.slot_list_append F.type_list_append ho.m
    (fun v σ' own s pv c => by obtain ⟨rfl, rfl⟩ := pv; exact ⟨⟨_, c.get hm, rfl⟩, fun b e => by cases e; exact ⟨_, c.get hm, rfl⟩⟩)
    (fun v σ' pv => by obtain ⟨rfl, rfl⟩ := pv; exact (tr_arg1 he hs).m.mono fun vs σ' p => ⟨p.1, rfl, p.2⟩)
    (fun v vs σ' p => by
      obtain ⟨rfl, rfl, x, rfl, px⟩ := p
      exact (tm_append hm hz).mono fun r σ' pr => by obtain ⟨_, n', rfl⟩ := pr; exact hr x n' px) hq (by rw [hs]; rfl) rfl) (fun v σ' p => p) hi hw
end
end Mine
open PySem PySem.W PySem.Calls PyProof.Rows
set_option Elab.async false
set_option maxRecDepth 100000
set_option maxHeartbeats 4000000
set_option linter.unusedVariables false
namespace Mine

/-- the callee's frame: all of the caller's heap is its base -/
def Cal (G : Gx) (h : Heap) (fd : FuncData) (L f : Addr) : Gx := { G with A := G.A.deeper (callEnv fd L f), env := callEnv fd L f, h₀ := h }

section
variable {G : Gx} {σ : Sg} {d : Nat}

theorem Ok.cal {own : Led} {h : Heap} {fd : FuncData} {L f : Addr} (O : Ok G (d + 1)) (c : Cx G own σ h) (hk : fd.scope.kind = .function) (hg : fd.globals = mainGlobals) (hb : fd.builtins = builtinsNs) (hc : fd.closure = []) : Ok (Cal G h fd L f) d where
  X := O.X.keeps c.F.keep
  T := let ⟨p, lo, mg, mb, T⟩ := O.T; ⟨p, lo, mg, mb, T.keeps c.F.keep⟩
  B := by
    obtain ⟨base, outer, hb, B⟩ := O.B
    exact ⟨base, _, hb, fun h' m F => pushX (B h _ c.F) F rfl hk⟩
  kind := hk
  glob := hg
  blt := hb
  hh := O.hh
  depth := by show G.A.depth + 1 + d < _; have := O.depth; omega
  units := by show G.A.units + 3 + 10 * d < _; have := O.units; omega
  cpw := fun x y a e => by
    have : (callEnv fd L f).cells = [] := hc
    change (callEnv fd L f).cells.lookup x = some a at e
    rw [this] at e; cases e
  cL := fun x a e => by
    have : (callEnv fd L f).cells = [] := hc
    change (callEnv fd L f).cells.lookup x = some a at e
    rw [this] at e; cases e

def retOf : Flow → Value
  | .ret v => v
  | _ => .none

/-- a call of a plain def: all that stood stands -/
theorem call_fn {own : Led} {s : Shared} {Q E : Value → Shared → Prop} {f : Addr} {fd : FuncData} {oc : Value} {od : Option Addr} {osl : Array (Option Value)} {body : List Stmt} {args : List Value} {binds : List (Str × Value)} {R : Value → Led → Prop}
    (O : Ok G (d + 1)) (c : Cx G own σ s.heap) (hK : G.K.lookup f = some ⟨oc, od, .func fd, osl⟩) (hbody : fd.body = .stmts body) (hcode : codeIn G.K fd.code fd.qualname = true)
    (hk : fd.scope.kind = .function) (hg : fd.globals = mainGlobals) (hb : fd.builtins = builtinsNs) (hc : fd.closure = []) (hco : fd.scope.isCoroutine = false) (hgen : fd.scope.isGenerator = false)
    (hcell : ∀ x ∈ fd.scope.names, x.2 ≠ .cell) (hbind : BindsTo s fd ⟨args, []⟩ binds) (hloc : ∀ x ∈ binds, fd.scope.names.lookup x.1 = some .local)
    (hw : ∀ L, Ok (Cal G s.heap fd L f) d → Tm (Cal G s.heap fd L f) ⟨fun x => binds.reverse.lookup x, fun _ => none, []⟩ (execs body (Cal G s.heap fd L f).env) (fun fl σ' => R (retOf fl) σ'.n))
    (hQ : ∀ v nw h' tk', R v nw → (∀ b o, s.heap.get? b = some o → h'.get? b = some o) → (∀ p ∈ nw, h'.get? p.1 = some p.2 ∧ s.heap.get? p.1 = none) → Q v { s with heap := h', toks := tk' }) :
    wpAny (model G.prog G.w) G.A (call (.ref f) args []) Q E s := by
  obtain ⟨p, lo, mg, mb, T⟩ := O.T
  have X := O.X.keeps c.F.keep
  refine wpAny_call (codeAny_call_def (by have := O.depth; omega) (X _ _ hK) rfl (T.nolimit.keeps c.F.keep) (codeRec_of X hcode) hbody hbind hcell hloc (fun h₁ hns hk₁ => ?_) hco hgen hk)
  have F₁ : Fr s.heap s.heap.objs.size h₁ (fun x => binds.reverse.lookup x) := ⟨hns, hk₁, Nat.le_refl _⟩
  have c₁ : Cx (Cal G s.heap fd s.heap.objs.size f) [] ⟨fun x => binds.reverse.lookup x, fun _ => none, []⟩ h₁ :=
    ⟨F₁, News.nil, (fun x a e => by
      have : (callEnv fd s.heap.objs.size f).cells = [] := hc
      change (callEnv fd s.heap.objs.size f).cells.lookup x = some a at e
      rw [this] at e; cases e), (fun _ h => nomatch h), fun _ h => nomatch h⟩
  refine hw s.heap.objs.size (O.cal c hk hg hb hc) [] _ _ _ c₁ fun fl σ' h' tk' pr c' => ?_
  have := hQ (retOf fl) σ'.n h' tk' pr c'.F.keep (fun q hq => ⟨c'.get hq, (c'.N q (List.mem_append_right _ hq)).2.2⟩)
  cases fl <;> exact this

/-- as a tree of the caller's -/
theorem tm_fn {f : Addr} {fd : FuncData} {oc : Value} {od : Option Addr} {osl : Array (Option Value)} {body : List Stmt} {args : List Value} {binds : List (Str × Value)} {R : Value → Led → Prop}
    (O : Ok G (d + 1)) (hK : G.K.lookup f = some ⟨oc, od, .func fd, osl⟩) (hbody : fd.body = .stmts body) (hcode : codeIn G.K fd.code fd.qualname = true)
    (hk : fd.scope.kind = .function) (hg : fd.globals = mainGlobals) (hb : fd.builtins = builtinsNs) (hc : fd.closure = []) (hco : fd.scope.isCoroutine = false) (hgen : fd.scope.isGenerator = false)
    (hcell : ∀ x ∈ fd.scope.names, x.2 ≠ .cell) (hbind : ∀ s : Shared, G.K.In s.heap → BindsTo s fd ⟨args, []⟩ binds) (hloc : ∀ x ∈ binds, fd.scope.names.lookup x.1 = some .local)
    (hw : ∀ own h L, Cx G own σ h → Ok (Cal G h fd L f) d → Tm (Cal G h fd L f) ⟨fun x => binds.reverse.lookup x, fun _ => none, []⟩ (execs body (Cal G h fd L f).env) (fun fl σ' => R (retOf fl) σ'.n)) :
    Tm G σ (call (.ref f) args []) (fun v σ' => ∃ nw, σ' = { σ with n := nw ++ σ.n } ∧ R v nw ∧ ∀ p ∈ nw, ∀ q ∈ σ.n, p.1 ≠ q.1) := fun own s Q E c k =>
  call_fn O c hK hbody hcode hk hg hb hc hco hgen hcell (hbind s (O.X.keeps c.F.keep)) hloc (fun L O' => hw own s.heap L c O') fun v nw h' tk' r kp hn =>
    k v _ h' tk' ⟨nw, rfl, r, fun p hp q hq e => by have := (hn p hp).2; rw [e, c.get hq] at this; cases this⟩ (c.fresh kp hn)

/-- instances -/
def InstIn (h : Heap) (x C dx : Addr) (es : List DictEntry) (n : Nat) : Prop := h.get? x = some (instObj C dx) ∧ h.get? dx = some (dictOf es n)
theorem InstIn.at {h : Heap} {x C dx : Addr} {es : List DictEntry} {n : Nat} (i : InstIn h x C dx es n) : PySem.W.InstAt h x (instObj C dx) C (some (dictOf es n)) := ⟨i.1, rfl, rfl, i.2⟩
theorem InstIn.keep {h h' : Heap} {x C dx : Addr} {es : List DictEntry} {n : Nat} (i : InstIn h x C dx es n) (k : ∀ b o, h.get? b = some o → h'.get? b = some o) : InstIn h' x C dx es n := ⟨k _ _ i.1, k _ _ i.2⟩

theorem tr_attr (O : Ok G d) {y name : Str} {np pos : Pos} {x C dx : Addr} {es : List DictEntry} {n : Nat} {v : Value} {attr : Option Value} (he : Tr G σ (eval (.Name y np) G.env) (IsV (.ref x))) (hi : Ent G σ (fun h => InstIn h x C dx es n))
    (hg : plainGet G.K C name = true) (hh : hasDictIn G.K C = true) (ha : findIn G.K (.ref C) name = some attr) (hn : noGet G.K attr = true) (hl : getL name es = some (some v)) (hv : handedIn v = true) : Tr G σ (eval (.Attribute (.Name y np) name pos) G.env) (IsV v) := fun own s Q E c k =>
  Attribute_name (he own s _ E c fun o h₁ t₁ e c₁ => by
    subst e
    exact get_own (L := G.env.locals) (m := σ.m) (s := { s with heap := h₁, toks := t₁ }) c₁.F O.X (hi own _ c₁).at hg hh ha hn hl hv (k v h₁ _ rfl c₁))

/-- a method of an instance's class -/
theorem tm_methI (O : Ok G d) {pl : Sem Bool} {o : Expr} {name : Str} {apos pos : Pos} {e : Expr} {rest : List Expr} {x C dx f : Addr} {es : List DictEntry} {n : Nat} {P : List Value → Sg → Prop} {R : Value → Sg → Prop} (ho : Tr G σ (eval o G.env) (IsV (.ref x))) (hi : Ent G σ (fun h => InstIn h x C dx es n))
    (hg : plainGet G.K C name = true) (hf : findIn G.K (.ref C) name = some (some (.ref f))) (ht : isFn G.K (.ref f) = true) (hl : getL name es = some none) (hk : keepIn G.K (.ref f) = true)
    (ha : Tm G σ (spliced (backTo pos (starEach (e :: rest) G.env))) P) (hc : ∀ vs σ', P vs σ' → Tm G σ' (call (.ref f) (.ref x :: vs)) R)
    (hq : eval (.Call (.Attribute o name apos) (e :: rest) [] pos) G.env = (do
          let ov ← eval o G.env
          standAt apos.atName
          let (f, first) ← holding [ov] (getMethod ov name pl)
          callWith pos f first (backTo pos (starEach (e :: rest) G.env)) []) := by rfl)
    (he : starEach (e :: rest) G.env = (false, eval e G.env) :: starEach rest G.env := by rfl) (hp : (backTo pos (starEach rest G.env)).any (·.1) = false := by rfl) :
    Tm G σ (eval (.Call (.Attribute o name apos) (e :: rest) [] pos) G.env) R :=
  tm_meth ho.m (fun v σ' pv own s Q E c k => by
    obtain ⟨rfl, rfl⟩ := pv
    refine method_inst (L := G.env.locals) (m := σ'.m) c.F O.X (hi own _ c).at hg hf ht hl ?_
    exact callWith_K (first := [.ref x]) O.X hk (ha own s _ E c fun vs σ₂ h₂ t₂ pa c₂ => ⟨O.X.keeps c₂.F.keep, hc vs σ₂ pa own _ Q E c₂ fun v σ₃ h₃ t₃ pv c₃ => k v σ₃ h₃ t₃ pv c₃⟩) he hp) hq

theorem putL_length (name : Str) (hsh : Int) (key v : Value) : ∀ es : List DictEntry, (putL name hsh key v es).length ≤ es.length + 1
  | [] => Nat.le_refl _
  | e :: r => by
    unfold putL
    split
    · simp
    · simpa using putL_length name hsh key v r
/-- an attribute stored -/
theorem tm_setAttr (O : Ok G d) {name : Str} {x C dx : Addr} {es : List DictEntry} {n : Nat} {v : Value} {pre post : Led} (hcl : ∀ z, G.env.cells.lookup z = none)
    (hs : findIn G.K (.ref C) "__setattr__" = some (some (.builtin "object.__setattr__"))) (hp : plainOver G.K C = true) (ht : takerIn G.K C name = some none) (hh : hasDictIn G.K C = true) (hl : (getL name es).isSome = true)
    (he : σ.n = pre ++ (dx, dictOf es n) :: post) (h1 : ∀ p ∈ pre, p.1 ≠ dx) (h2 : ∀ p ∈ post, p.1 ≠ dx) (hx : (x, instObj C dx) ∈ σ.n) (hz : es.length ≤ 900) :
    Tm G σ (setAttr (.ref x) name v) (fun _ σ' => ∃ hash tk, σ' = { σ with n := pre ++ (dx, dictOf (putL name hash (.str name tk) v es) (putN name es n)) :: post }) := fun own s Q E c k => by
  have e1 : own ++ σ.n = (own ++ pre) ++ (dx, dictOf es n) :: post := by rw [he, List.append_assoc]
  have N := c.N
  rw [e1] at N
  have off : ∀ p ∈ own ++ pre, p.1 ≠ dx := fun p hp => by
    rcases List.mem_append.mp hp with h | h
    · exact c.offO p h (dx, dictOf es n) (by rw [he]; simp)
    · exact h1 p h
  refine set_plain (O.X.keeps c.F.keep) (C := C) (od := some (dictOf es n)) ⟨c.get hx, rfl, rfl, c.get (by rw [he]; simp)⟩ hs
    (osa_dict (s := { s with toks := s.toks + 1 }) c.F N (O.X.keeps c.F.keep) ⟨c.get hx, rfl, rfl, c.get (by rw [he]; simp)⟩ rfl hp ht hh hl off h2 (by rw [putName_dict]) rfl ?_ fun h' F' N' => ?_)
  · exact Nat.le_trans (putL_length _ _ _ _ es) (by omega)
  · have C' : Cx G own { σ with n := pre ++ (dx, dictOf (putL name (PyData.keyHash G.w.params name) (.str name (s.toks + 1)) v es) (putN name es n)) :: post } h' := by
      refine ⟨F', ?_, fun y a ha => ?_, ?_, fun p _ y a ha => ?_⟩
      · show News _ _ _ (own ++ (pre ++ _))
        rw [← List.append_assoc]; exact N'
      · rw [hcl] at ha; cases ha
      · intro p hp q hq
        rcases List.mem_append.mp hq with h | h
        · exact c.offO p hp q (by rw [he]; exact List.mem_append_left _ h)
        · rcases List.mem_cons.mp h with rfl | h
          · exact c.offO p hp (dx, dictOf es n) (by rw [he]; simp)
          · exact c.offO p hp q (by rw [he]; exact List.mem_append_right _ (.tail _ h))
      · rw [hcl] at ha; cases ha
    exact k () _ h' _ ⟨_, _, rfl⟩ C'
theorem tm_assignAttr {o e : Expr} {name : Str} {p pos : Pos} {P : Value → Sg → Prop} {P₂ : Value → Value → Sg → Prop} {R : Flow → Sg → Prop} (he : Tm G σ (eval e G.env) P) (ho : ∀ v σ', P v σ' → Tm G σ' (eval o G.env) (P₂ v))
    (hs : ∀ v u σ', P₂ v u σ' → Tm G σ' (setAttr u name v) (fun _ σ₂ => R .next σ₂)) (hw : swapsWith e (some (.Attribute o name p)) pos.line G.env = pure false := by rfl) :
    Tm G σ (exec (.Assign [.Attribute o name p] e pos) G.env) R := fun own s Q E c k =>
  plainObj_wpAny_Assign_Attribute (he own s _ E c fun v σ₁ h₁ t₁ pv c₁ => ho v σ₁ pv own _ _ E c₁ fun u σ₂ h₂ t₂ pu c₂ => hs v u σ₂ pu own _ _ E c₂ fun _ σ₄ h₄ t₄ p c₄ => k .next σ₄ h₄ t₄ p c₄) hw
end
end Mine
open PySem PySem.W PySem.Calls PyProof.Rows
set_option Elab.async false
set_option maxRecDepth 100000
set_option maxHeartbeats 4000000
set_option linter.unusedVariables false
namespace Mine
section
variable {G : Gx} {σ : Sg} {d : Nat}

def Gx.at (G : Gx) (A : Around) : Gx := { G with A := A }
theorem Cx.at {own : Led} {h : Heap} (c : Cx G own σ h) (A : Around) : Cx (G.at A) own σ h := ⟨c.F, c.N, c.C, c.offO, c.offC⟩
theorem Cx.un {own : Led} {h : Heap} {A : Around} (c : Cx (G.at A) own σ h) : Cx G own σ h := ⟨c.F, c.N, c.C, c.offO, c.offC⟩
theorem Ok.at {A : Around} {e : Nat} (O : Ok G d) (hf : A.frames = G.A.frames) (hh : A.handled = G.A.handled) (hd : A.depth + e < recursionLimit) (hu : A.units + 10 * e < cLine) : Ok (G.at A) e where
  X := O.X
  T := O.T
  B := by
    obtain ⟨base, outer, hb, B⟩ := O.B
    exact ⟨base, outer, hb, fun h m F => ⟨hf.trans (B h m F).stack, (B h m F).stays, (B h m F).frames⟩⟩
  kind := O.kind
  glob := O.glob
  blt := O.blt
  hh := hh.trans O.hh
  depth := hd
  units := hu
  cpw := O.cpw
  cL := O.cL
theorem Ok.in1 (O : Ok G (d + 1)) : Ok (G.at G.A.in1) d := O.at rfl rfl (by have := O.depth; show G.A.depth + d < _; omega) (by have := O.units; show G.A.units + 1 + 10 * d < _; omega)
theorem Ok.less {e : Nat} (O : Ok G d) (h : e ≤ d) : Ok G e := ⟨O.X, O.T, O.B, O.kind, O.glob, O.blt, O.hh, by have := O.depth; omega, by have := O.units; omega, O.cpw, O.cL⟩

/-- a def called upon a heap that has more than the caller's -/
theorem code_fn {own n₀ : Led} {hb : Heap} {s : Shared} {Rr : Result → Shared → Prop} {f : Addr} {fd : FuncData} {oc : Value} {od : Option Addr} {osl : Array (Option Value)} {body : List Stmt} {args : List Value} {binds : List (Str × Value)} {R : Value → Led → Prop}
    (O : Ok G (d + 1)) (c : Cx G own σ hb) (kb : ∀ b o, hb.get? b = some o → s.heap.get? b = some o) (hsz : hb.objs.size ≤ s.heap.objs.size) (hn₀ : ∀ p ∈ n₀, s.heap.get? p.1 = some p.2 ∧ hb.get? p.1 = none)
    (hK : G.K.lookup f = some ⟨oc, od, .func fd, osl⟩) (hbody : fd.body = .stmts body) (hcode : codeIn G.K fd.code fd.qualname = true)
    (hk : fd.scope.kind = .function) (hg : fd.globals = mainGlobals) (hb' : fd.builtins = builtinsNs) (hc : fd.closure = []) (hco : fd.scope.isCoroutine = false) (hgen : fd.scope.isGenerator = false)
    (hcell : ∀ x ∈ fd.scope.names, x.2 ≠ .cell) (hbind : BindsTo s fd ⟨args, []⟩ binds) (hloc : ∀ x ∈ binds, fd.scope.names.lookup x.1 = some .local)
    (hw : ∀ L, Ok (Cal G hb fd L f) d → Tm (Cal G hb fd L f) ⟨fun x => binds.reverse.lookup x, fun _ => none, n₀⟩ (execs body (Cal G hb fd L f).env) (fun fl σ' => R (retOf fl) σ'.n))
    (hQ : ∀ v nw h' tk', R v nw → (∀ b o, hb.get? b = some o → h'.get? b = some o) → (∀ p ∈ nw, h'.get? p.1 = some p.2 ∧ hb.get? p.1 = none) → Rr (.ok (.ret v)) { s with heap := h', toks := tk' }) :
    codeAny (model G.prog G.w) G.A (.call (.ref f) ⟨args, []⟩) Rr s := by
  obtain ⟨p, lo, mg, mb, T⟩ := O.T
  have X := (O.X.keeps c.F.keep).keeps kb
  refine codeAny_call_def (by have := O.depth; omega) (X _ _ hK) rfl ((T.nolimit.keeps c.F.keep).keeps kb) (codeRec_of X hcode) hbody hbind hcell hloc (fun h₁ hns hk₁ => ?_) hco hgen hk
  have F₁ : Fr hb s.heap.objs.size h₁ (fun x => binds.reverse.lookup x) := ⟨hns, fun b o e => hk₁ _ _ (kb _ _ e), hsz⟩
  have nc : ∀ x, (callEnv fd s.heap.objs.size f).cells.lookup x = none := fun x => by
    have : (callEnv fd s.heap.objs.size f).cells = [] := hc
    rw [this]; rfl
  have c₁ : Cx (Cal G hb fd s.heap.objs.size f) [] ⟨fun x => binds.reverse.lookup x, fun _ => none, n₀⟩ h₁ := by
    refine ⟨F₁, fun p hp => ⟨hk₁ _ _ (hn₀ p hp).1, Nat.ne_of_lt (Heap.lt_size (hn₀ p hp).1), (hn₀ p hp).2⟩, fun x a e => ?_, (fun _ h => nomatch h), fun p _ x a e => ?_⟩
    · have := nc x; change (callEnv fd s.heap.objs.size f).cells.lookup x = some a at e; rw [this] at e; cases e
    · have := nc x; change (callEnv fd s.heap.objs.size f).cells.lookup x = some a at e; rw [this] at e; cases e
  refine hw s.heap.objs.size (O.cal c hk hg hb' hc) [] _ _ _ c₁ fun fl σ' h' tk' pr c' => ?_
  have := hQ (retOf fl) σ'.n h' tk' pr c'.F.keep (fun q hq => ⟨c'.get hq, (c'.N q (List.mem_append_right _ hq)).2.2⟩)
  cases fl <;> exact this

/-- an instance made: x is its address, dx its dict's -/
theorem tm_make {C fI : Addr} {fd : FuncData} {oc : Value} {od : Option Addr} {osl : Array (Option Value)} {body : List Stmt} {args : List Value} {binds : Addr → List (Str × Value)} {R : Addr → Led → Prop}
    (O : Ok G (d + 2)) (hm : makesIn G.K C = true) (hi : findIn G.K (.ref C) "__init__" = some (some (.ref fI))) (hf : typeIn G.K (.ref fI) = some (.type "function"))
    (hK : G.K.lookup fI = some ⟨oc, od, .func fd, osl⟩) (hbody : fd.body = .stmts body) (hcode : codeIn G.K fd.code fd.qualname = true)
    (hk : fd.scope.kind = .function) (hg : fd.globals = mainGlobals) (hb : fd.builtins = builtinsNs) (hc : fd.closure = []) (hco : fd.scope.isCoroutine = false) (hgen : fd.scope.isGenerator = false)
    (hcell : ∀ x ∈ fd.scope.names, x.2 ≠ .cell) (hbind : ∀ x (s : Shared), G.K.In s.heap → BindsTo s fd ⟨.ref x :: args, []⟩ (binds x)) (hloc : ∀ x, ∀ y ∈ binds x, fd.scope.names.lookup y.1 = some .local)
    (hw : ∀ own h L A x dx, Cx G own σ h → x ≠ dx → Ok (Cal (G.at A) h fd L fI) d → Tm (Cal (G.at A) h fd L fI) ⟨fun y => (binds x).reverse.lookup y, fun _ => none, [(x, instObj C dx), (dx, dictOf [] 0)]⟩ (execs body (Cal (G.at A) h fd L fI).env) (fun fl σ' => retOf fl = .none ∧ R x σ'.n)) :
    Tm G σ (call (.ref C) args []) (fun v σ' => ∃ x nw, v = .ref x ∧ σ' = { σ with n := nw ++ σ.n } ∧ R x nw ∧ ∀ p ∈ nw, ∀ q ∈ σ.n, p.1 ≠ q.1) := by
  rintro own ⟨h, g, dr, tk, os⟩ Q E c k
  have X := O.X.keeps c.F.keep
  refine wpAny_call (make_core (makes_of X hm) (looks_findIn X hi) (fun self => bind_fn X self hf) (.inl rfl) ?_)
  have gx : ((h.push emptyDict).push (instObj C h.objs.size)).get? (h.objs.size + 1) = some (instObj C h.objs.size) := by
    have := Heap.get?_push_size (h.push emptyDict) (o := instObj C h.objs.size) rfl
    rwa [Heap.size_push] at this
  have gd : ((h.push emptyDict).push (instObj C h.objs.size)).get? h.objs.size = some (dictOf [] 0) := Heap.get?_push_of_some _ (Heap.get?_push_size _ rfl)
  have none_ : ∀ b, h.objs.size ≤ b → h.get? b = none := fun b hb => by
    cases e : h.get? b with
    | none => rfl
    | some o => exact absurd (Heap.lt_size e) (Nat.not_lt.mpr hb)
  have kp : ∀ b o, h.get? b = some o → ((h.push emptyDict).push (instObj C h.objs.size)).get? b = some o := fun b o e => Heap.get?_push_of_some _ (Heap.get?_push_of_some _ e)
  have O' : Ok (G.at (G.A.under (.builtin "type.__call__" ⟨.ref C :: args, []⟩))) (d + 1) := O.at rfl rfl (by have := O.depth; show G.A.depth + 1 + (d + 1) < _; omega) (by have := O.units; show G.A.units + 1 + 10 * (d + 1) < _; omega)
  refine code_fn (G := G.at (G.A.under (.builtin "type.__call__" ⟨.ref C :: args, []⟩))) (σ := σ) (own := own) (hb := h) (n₀ := [(h.objs.size + 1, instObj C h.objs.size), (h.objs.size, dictOf [] 0)]) (R := fun v nw => v = .none ∧ R (h.objs.size + 1) nw)
    O' (c.at _) kp (by simp only [Heap.size_push]; omega) (fun p hp => ?_) hK hbody hcode hk hg hb hc hco hgen hcell (hbind _ _ (X.keeps kp)) (hloc _)
    (fun L O₂ => hw own h L _ _ _ c (Nat.succ_ne_self _) O₂) fun v nw h' tk' r kp' hn => ?_
  · rcases List.mem_cons.mp hp with rfl | hp
    · exact ⟨gx, none_ _ (Nat.le_succ _)⟩
    · obtain rfl := List.mem_singleton.mp hp
      exact ⟨gd, none_ _ (Nat.le_refl _)⟩
  · obtain ⟨rfl, r⟩ := r
    exact ⟨rfl, k (.ref (h.objs.size + 1)) _ h' tk' ⟨_, nw, rfl, rfl, r, fun p hp q hq e => by have := (hn p hp).2; rw [e, c.get hq] at this; cases this⟩ (c.fresh kp' hn)⟩
end
end Mine
open PySem PySem.W PySem.Calls PyProof.Rows
set_option Elab.async false
set_option maxRecDepth 100000
set_option maxHeartbeats 4000000
set_option linter.unusedVariables false
namespace Mine

/-- addresses that no one of the frame's own touches -/
structure Off (G : Gx) (own : Led) (σ : Sg) (its : List Addr) : Prop where
  n : ∀ p ∈ own ++ σ.n, p.1 ∉ its
  c : ∀ x a, G.env.cells.lookup x = some a → a ∉ its
  L : G.env.locals ∉ its
  h : ∀ b ∈ its, G.h₀.get? b = none

section
variable {G : Gx} {σ : Sg} {d : Nat} {own : Led} {h h' : Heap} {its : List Addr}

theorem Cx.but (x : Cx G own σ h) (o : Off G own σ its) (k : ∀ b ob, b ∉ its → h.get? b = some ob → h'.get? b = some ob) : Cx G own σ h' := by
  refine ⟨⟨x.F.ns.at' fun ob e => k _ ob o.L e, fun b ob e => k _ _ (fun hb => by rw [o.h b hb] at e; cases e) (x.F.keep b ob e), x.F.above⟩, fun p hp => ⟨k _ _ (o.n p hp) (x.N p hp).1, (x.N p hp).2⟩, fun y a ha => ?_, x.offO, x.offC⟩
  obtain ⟨ob, e, q⟩ := x.C y a ha
  exact ⟨ob, k _ _ (o.c y a ha) e, q⟩

def ownAt (h : Heap) (its : List Addr) : Led := its.filterMap fun b => (h.get? b).map fun o => (b, o)
theorem mem_ownAt {p : Addr × Obj} (hp : p ∈ ownAt h its) : p.1 ∈ its ∧ h.get? p.1 = some p.2 := by
  obtain ⟨b, hb, e⟩ := List.mem_filterMap.mp hp
  cases q : h.get? b with
  | none => rw [q] at e; cases e
  | some o => rw [q] at e; cases e; exact ⟨hb, q⟩
theorem ownAt_mem {b : Addr} {o : Obj} (hb : b ∈ its) (e : h.get? b = some o) : (b, o) ∈ ownAt h its := List.mem_filterMap.mpr ⟨b, hb, by rw [e]; rfl⟩

theorem Cx.take (x : Cx G own σ h) (o : Off G own σ its) : Cx G (ownAt h its ++ own) σ h := by
  refine ⟨x.F, fun p hp => ?_, x.C, fun p hp q hq => ?_, fun p hp y a ha => ?_⟩
  · rw [List.append_assoc] at hp
    rcases List.mem_append.mp hp with q | q
    · have := mem_ownAt q
      exact ⟨this.2, fun e => o.L (e ▸ this.1), o.h _ this.1⟩
    · exact x.N p q
  · rcases List.mem_append.mp hp with r | r
    · exact fun e => o.n q (List.mem_append_right _ hq) (e ▸ (mem_ownAt r).1)
    · exact x.offO p r q hq
  · rw [List.append_assoc] at hp
    rcases List.mem_append.mp hp with r | r
    · exact fun e => o.c y a ha (e ▸ (mem_ownAt r).1)
    · exact x.offC p r y a ha
theorem Cx.give {o₁ : Led} (x : Cx G (o₁ ++ own) σ h) : Cx G own σ h :=
  ⟨x.F, fun p hp => x.N p (by rw [List.append_assoc]; exact List.mem_append_right _ hp), x.C, fun p hp => x.offO p (List.mem_append_right _ hp), fun p hp => x.offC p (by rw [List.append_assoc]; exact List.mem_append_right _ hp)⟩
theorem Cx.drop {nw n : Led} {m c : Str → Option Value} (x : Cx G own ⟨m, c, nw ++ n⟩ h) : Cx G own ⟨m, c, n⟩ h :=
  ⟨x.F, fun p hp => x.N p (by rcases List.mem_append.mp hp with q | q; exact List.mem_append_left _ q; exact List.mem_append_right _ (List.mem_append_right _ q)), x.C, fun p hp q hq => x.offO p hp q (List.mem_append_right _ hq),
    fun p hp => x.offC p (by rcases List.mem_append.mp hp with q | q; exact List.mem_append_left _ q; exact List.mem_append_right _ (List.mem_append_right _ q))⟩
/-- what the iterator's addresses are to the ledger behind a body -/
theorem Off.of_take {o₁ : Led} (x : Cx G (o₁ ++ own) σ h) (hm : ∀ b ∈ its, ∃ o, (b, o) ∈ o₁) (hw : ∀ p ∈ own, p.1 ∉ its) : Off G own σ its := by
  refine ⟨fun p hp hb => ?_, fun y a ha hb => ?_, fun hb => ?_, fun b hb => ?_⟩
  · obtain ⟨o, ho⟩ := hm _ hb
    rcases List.mem_append.mp hp with q | q
    · exact hw p q hb
    · exact x.offO _ (List.mem_append_left _ ho) p q rfl
  · obtain ⟨o, ho⟩ := hm _ hb
    exact x.offC (a, o) (List.mem_append_left _ (List.mem_append_left _ ho)) y a ha rfl
  · obtain ⟨o, ho⟩ := hm _ hb
    exact (x.N (_, o) (List.mem_append_left _ (List.mem_append_left _ ho))).2.1 rfl
  · obtain ⟨o, ho⟩ := hm _ hb
    exact (x.N (b, o) (List.mem_append_left _ (List.mem_append_left _ ho))).2.2

end
/-- a loop's own source stands -/
def Fx (G : Gx) (σ : Sg) (fix : Led) : Prop := ∀ p ∈ fix, p ∈ σ.n ∨ G.h₀.get? p.1 = some p.2
theorem Fx.get {G : Gx} {σ : Sg} {own fix : Led} {h : Heap} (f : Fx G σ fix) (c : Cx G own σ h) : ∀ p ∈ fix, h.get? p.1 = some p.2 := fun p hp => (f p hp).elim (fun q => c.get q) fun q => c.old q
theorem Fx.nil {G : Gx} {σ : Sg} : Fx G σ [] := fun _ h => nomatch h
theorem Fx.one {G : Gx} {σ : Sg} {a : Addr} {o : Obj} (h : (a, o) ∈ σ.n) : Fx G σ [(a, o)] := fun p hp => by obtain rfl := List.mem_singleton.mp hp; exact .inl h
theorem Fx.old {G : Gx} {σ : Sg} {a : Addr} {o : Obj} (h : G.h₀.get? a = some o) : Fx G σ [(a, o)] := fun p hp => by obtain rfl := List.mem_singleton.mp hp; exact .inr h

/-- an iterator that drives a loop over a target -/
structure Drv (G : Gx) (target : Expr) (it : Value) (its : List Addr) (fix : Led) (n : Nat) (Pm : Nat → Sg → Sg → Prop) (St : Nat → Heap → Prop) : Prop where
  frame : ∀ i h h', St i h → (∀ b, b ∈ its ∨ b ∈ fix.map (·.1) → ∀ o, h.get? b = some o → h'.get? b = some o) → St i h'
  live : ∀ i h, St i h → ∀ b ∈ its, ∃ o, h.get? b = some o
  step : ∀ i own σ (s : Shared) (Q : Unit → Shared → Prop) (E : Value → Shared → Prop), i < n → St i s.heap → Cx G own σ s.heap → Off G own σ its → Fx G σ fix →
    (∀ σ' h' tk', Pm i σ σ' → σ'.n = σ.n → St (i + 1) h' → Cx G own σ' h' → Off G own σ' its → Q () { s with heap := h', toks := tk' }) →
    wpAny (model G.prog G.w) G.A (pyNext it) (fun r s₁ => match r with
      | some v => wpAny (model G.prog G.w) G.A (letOwnedTupleGo target it v) (fun _ s₂ => wpAny (model G.prog G.w) G.A (assign target G.env v) (fun _ => Q ()) E s₂) E s₁
      | none => False) E s
  self : ∀ i (s : Shared) (Q : Value → Shared → Prop) (E : Value → Shared → Prop), St i s.heap → Q it s → wpAny (model G.prog G.w) G.A (pyIter it) Q E s
  done : ∀ own σ (s : Shared) (Q : Shared → Prop) (E : Value → Shared → Prop), St n s.heap → Cx G own σ s.heap → Off G own σ its →
    (∀ h' tk', Cx G own σ h' → Q { s with heap := h', toks := tk' }) → wpAny (model G.prog G.w) G.A (pyNext it) (fun r s₁ => match r with
      | none => Q s₁
      | some _ => False) E s

/-- what an iterable's expression yields; Pre tells the ledger with the source in it -/
def Src (G : Gx) (σ : Sg) (target iter : Expr) (n : Nat) (Pm : Nat → Sg → Sg → Prop) (Pre : Sg → Led → Prop) : Prop :=
  ∀ own (s : Shared) (Q : Value → Shared → Prop) (E : Value → Shared → Prop), Cx G own σ s.heap →
    (∀ it its St h₁ tk σ₁ fix, Pre σ₁ fix → Drv G target it its fix n Pm St → St 0 h₁ → Cx G own σ₁ h₁ → Off G own σ₁ its → Q it { s with heap := h₁, toks := tk }) →
    wpAny (model G.prog G.w) G.A (eval iter G.env) (fun xv s₁ => wpAny (model G.prog G.w) G.A (pyIter xv) Q E s₁) E s

section
variable {G : Gx} {σ : Sg} {d : Nat}

theorem tm_for {target iter : Expr} {body : List Stmt} {pos : Pos} {n : Nat} {Pm : Nat → Sg → Sg → Prop} {Pre : Sg → Led → Prop} {R : Flow → Sg → Prop} (hsrc : Src G σ target iter n Pm Pre) (Inv : Led → Nat → Sg → Prop) (h0 : ∀ σ₁ fix, Pre σ₁ fix → Inv fix 0 σ₁)
    (hfix : ∀ fix i σ', Inv fix i σ' → Fx G σ' fix)
    (turn : ∀ fix i σ₁ σ₂, i < n → Inv fix i σ₁ → Pm i σ₁ σ₂ → σ₂.n = σ₁.n → Tm G σ₂ (execs body G.env) (fun f σ₃ => match f with
      | .next => Inv fix (i + 1) σ₃
      | .cont => Inv fix (i + 1) σ₃
      | .brk => R .next σ₃
      | .ret v => R (.ret v) σ₃))
    (done : ∀ fix σ₁, Inv fix n σ₁ → R .next σ₁) (hs : ∀ x, foldedSetIterable iter G.env x = pure x := by intro _; rfl) : Tm G σ (exec (.For target iter body [] pos) G.env) R := by
  intro own s Q E c k
  refine wpAny_For (hsrc own s _ E c fun it its St h₁ tk σ fix pre D st c₁ of₁ => ?_) hs
  refine codeAny_forLoop_any (fun m s' => ∃ h' tk' σ' i, s' = { s with heap := h', toks := tk' } ∧ St i h' ∧ Cx G own σ' h' ∧ Off G own σ' its ∧ Inv fix i σ' ∧ i ≤ n ∧ m = n + 1 - i) ?_ (n + 1)
    ⟨h₁, tk, σ, 0, rfl, st, c₁, of₁, h0 _ _ pre, Nat.zero_le _, rfl⟩
  rintro m s' ⟨h', tk', σ', i, rfl, st', c', of', inv, hi, rfl⟩
  by_cases hlt : i < n
  · refine wpAny_mono (D.step i own σ' { s with heap := h', toks := tk' } (fun _ s₃ => wpAny (model G.prog G.w) G.A (execs body G.env) (fun f s₄ => match f with
            | .next | .cont => ∃ m', m' < n + 1 - i ∧ ∃ h' tk' σ' i, s₄ = { s with heap := h', toks := tk' } ∧ St i h' ∧ Cx G own σ' h' ∧ Off G own σ' its ∧ Inv fix i σ' ∧ i ≤ n ∧ m' = n + 1 - i
            | .brk => Q .next s₄
            | .ret v => Q (.ret v) s₄) (notedBy (model G.prog G.w) G.A G.env (cameBackBy (model G.prog G.w) G.A G.env E)) s₃) _ hlt st' c' of' (hfix _ _ _ inv) fun σ₂ h₂ tk₂ pm en st₂ c₂ of₂ => ?_)
      (fun r s₁ hr => ?_) fun _ _ e => e
    · have hf₂ : ∀ p ∈ fix, h₂.get? p.1 = some p.2 := Fx.get (σ := σ₂) (fun p hp => by rw [en]; exact hfix _ _ _ inv p hp) c₂
      refine turn fix i σ' σ₂ hlt inv pm en (ownAt h₂ its ++ own) _ _ _ (c₂.take of₂) fun f σ₃ h₃ tk₃ p c₃ => ?_
      have nx : Inv fix (i + 1) σ₃ → ∃ m', m' < n + 1 - i ∧ ∃ h' tk' σ' i, ({ s with heap := h₃, toks := tk₃ } : Shared) = { s with heap := h', toks := tk' } ∧ St i h' ∧ Cx G own σ' h' ∧ Off G own σ' its ∧ Inv fix i σ' ∧ i ≤ n ∧ m' = n + 1 - i := by
        intro inv₃
        have hf₃ := (hfix _ _ _ inv₃).get c₃
        refine ⟨n + 1 - (i + 1), by omega, h₃, tk₃, σ₃, i + 1, rfl, D.frame _ _ _ st₂ fun b hb o e => ?_, c₃.give, Off.of_take c₃ (fun b hb => ?_) (fun p hp => of₂.n p (List.mem_append_left _ hp)), inv₃, hlt, rfl⟩
        · rcases hb with hb | hb
          · exact (c₃.N (b, o) (List.mem_append_left _ (List.mem_append_left _ (ownAt_mem hb e)))).1
          · obtain ⟨p, hp, rfl⟩ := List.mem_map.mp hb
            rw [hf₂ p hp] at e; cases e; exact hf₃ p hp
        · obtain ⟨o, e⟩ := D.live _ _ st₂ b hb
          exact ⟨o, ownAt_mem hb e⟩
      cases f with
      | next => exact nx p
      | cont => exact nx p
      | brk => exact k .next σ₃ h₃ tk₃ p c₃.give
      | ret v => exact k (.ret v) σ₃ h₃ tk₃ p c₃.give
    · cases r with
      | none => exact hr.elim
      | some v => exact hr
  · have hin : i = n := by omega
    subst hin
    refine wpAny_mono (D.done own σ' { s with heap := h', toks := tk' } (fun s₁ => Q .next s₁) _ st' c' of' fun h₂ tk₂ c₂ => k .next σ' h₂ tk₂ (done fix σ' inv) c₂) (fun r s₁ hr => ?_) fun _ _ e => e
    cases r with
    | none => exact wpAny_execs_nil hr
    | some v => exact hr.elim

/-- drivers by Walks -/
theorem Drv.walks {target : Expr} {I : Addr} {fp : List Addr} {fix : Led} {n : Nat} {P : Nat → Value → Prop} {Pm : Nat → Sg → Sg → Prop} {St : Nat → Heap → Prop} (W : Walks G.prog G.w G.A I fp [I] n P St) (hfp : ∀ b ∈ fp, b = I ∨ b ∈ fix.map (·.1))
    (live : ∀ i h, St i h → ∃ o, h.get? I = some o)
    (hgo : ∀ i own σ (s : Shared) v (Q : Unit → Shared → Prop) (E : Value → Shared → Prop), St (i + 1) s.heap → P i v → Cx G own σ s.heap → Off G own σ [I] → Fx G σ fix → Q () s → wpAny (model G.prog G.w) G.A (letOwnedTupleGo target (.ref I) v) Q E s)
    (has : ∀ i v σ, P i v → Fx G σ fix → Tm G σ (assign target G.env v) (fun _ σ' => Pm i σ σ' ∧ σ'.n = σ.n)) : Drv G target (.ref I) [I] fix n Pm St where
  frame := fun i h h' st k => W.frame i h h' st fun b hb o e => k b ((hfp b hb).imp (fun e => by simp [e]) id) o e
  live := fun i h st b hb => by obtain rfl := List.mem_singleton.mp hb; exact live i h st
  step := fun i own σ s Q E hi st c of hf k => W.item i s _ E hi st fun v h' tk pv st' kp => by
    have c' := c.but of kp
    refine hgo i own σ { s with heap := h', toks := tk } v _ E st' pv c' of hf ?_
    refine has i v σ pv hf (ownAt h' [I] ++ own) { s with heap := h', toks := tk } _ E (c'.take of) fun u σ' h₂ tk₂ ⟨pm, en⟩ c₂ => ?_
    have c₃ := c₂.give
    have hI₂ : ∀ o, h'.get? I = some o → h₂.get? I = some o := fun o e => (c₂.N (I, o) (List.mem_append_left _ (List.mem_append_left _ (ownAt_mem (List.mem_singleton.mpr rfl) e)))).1
    have hf' := hf.get c'
    have hf₂ : ∀ p ∈ fix, h₂.get? p.1 = some p.2 := Fx.get (σ := σ') (fun p hp => by rw [en]; exact hf p hp) c₃
    refine k σ' h₂ tk₂ pm en (W.frame _ _ _ st' fun b hb o e => ?_) c₃ ⟨fun p hp => of.n p (by rw [← en]; exact hp), of.c, of.L, of.h⟩
    rcases hfp b hb with rfl | hb
    · exact hI₂ o e
    · obtain ⟨p, hp, rfl⟩ := List.mem_map.mp hb
      rw [hf' p hp] at e; cases e; exact hf₂ p hp
  self := W.self
  done := fun own σ s Q E st c of k => W.done s _ E st fun h' tk kp => k h' tk (c.but of kp)

/-- a fresh address is off -/
theorem Off.fresh {own : Led} {h : Heap} (c : Cx G own σ h) {I : Addr} (hI : h.get? I = none) : Off G own σ [I] where
  n := fun p hp e => by rw [← List.mem_singleton.mp e, (c.N p hp).1] at hI; cases hI
  c := fun x a ha e => by obtain ⟨o, ho, _⟩ := c.C x a ha; rw [← List.mem_singleton.mp e, ho] at hI; cases hI
  L := fun e => by obtain ⟨o, _, _, ho, _⟩ := c.F.ns; rw [← List.mem_singleton.mp e, ho] at hI; cases hI
  h := fun b e => by
    obtain rfl := List.mem_singleton.mp e
    cases q : G.h₀.get? b with
    | none => rfl
    | some o => rw [c.F.keep _ _ q] at hI; cases hI
theorem get_size (h : Heap) : h.get? h.objs.size = none := by
  cases e : h.get? h.objs.size with
  | none => rfl
  | some o => exact absurd (Heap.lt_size e) (Nat.lt_irrefl _)

/-- targets -/
theorem tm_toName (O : Ok G d) {x : Str} {p : Pos} {v : Value} (hx : G.env.kindOf x = some .local := by rfl) : Tm G σ (assign (.Name x p) G.env v) (fun _ σ' => σ' = { σ with m := put σ.m x v } ∧ σ'.n = σ.n) := fun own s Q E c k =>
  wpAny_assign_Name (tm_storeName O hx own s Q E c fun u σ' h' tk' e c' => by subst e; exact k u _ h' tk' ⟨rfl, rfl⟩ c')
theorem tm_toCell (O : Ok G d) {x : Str} {p : Pos} {v : Value} {a : Addr} (ha : G.env.cells.lookup x = some a) (a0 : G.h₀.get? a = none) (hx : G.env.kindOf x = some .cell := by rfl) : Tm G σ (assign (.Name x p) G.env v) (fun _ σ' => σ' = { σ with c := put σ.c x v } ∧ σ'.n = σ.n) := fun own s Q E c k =>
  wpAny_assign_Name (tm_storeC O ha a0 hx own s Q E c fun u σ' h' tk' e c' => by subst e; exact k u _ h' tk' ⟨rfl, rfl⟩ c')

/-- binds for a one-name target -/
def toN (x : Str) (P : Nat → Value → Prop) (i : Nat) (σ σ' : Sg) : Prop := ∃ v, P i v ∧ σ' = { σ with m := put σ.m x v }
def toC (x : Str) (P : Nat → Value → Prop) (i : Nat) (σ σ' : Sg) : Prop := ∃ v, P i v ∧ σ' = { σ with c := put σ.c x v }
theorem has_toN (O : Ok G d) {x : Str} {p : Pos} {P : Nat → Value → Prop} {fix : Led} (hx : G.env.kindOf x = some .local := by rfl) : ∀ i v σ, P i v → Fx G σ fix → Tm G σ (assign (.Name x p) G.env v) (fun _ σ' => toN x P i σ σ' ∧ σ'.n = σ.n) := fun i v σ pv _ =>
  Tm.mono (tm_toName O hx) fun _ σ' e => ⟨⟨v, pv, e.1⟩, e.2⟩
theorem has_toC (O : Ok G d) {x : Str} {p : Pos} {P : Nat → Value → Prop} {fix : Led} {a : Addr} (ha : G.env.cells.lookup x = some a) (a0 : G.h₀.get? a = none) (hx : G.env.kindOf x = some .cell := by rfl) : ∀ i v σ, P i v → Fx G σ fix → Tm G σ (assign (.Name x p) G.env v) (fun _ σ' => toC x P i σ σ' ∧ σ'.n = σ.n) := fun i v σ pv _ =>
  Tm.mono (tm_toCell O ha a0 hx) fun _ σ' e => ⟨⟨v, pv, e.1⟩, e.2⟩
theorem go_name {x : Str} {p : Pos} {I : Addr} {fix : Led} {P : Nat → Value → Prop} {St : Nat → Heap → Prop} : ∀ i own σ (s : Shared) v (Q : Unit → Shared → Prop) (E : Value → Shared → Prop), St (i + 1) s.heap → P i v → Cx G own σ s.heap → Off G own σ [I] → Fx G σ fix → Q () s → wpAny (model G.prog G.w) G.A (letOwnedTupleGo (.Name x p) (.ref I) v) Q E s :=
  fun _ _ _ _ _ _ _ _ _ _ _ _ q => wpAny_pure q

end
end Mine
open PySem PySem.W PySem.Calls PyProof.Rows
set_option Elab.async false
set_option maxRecDepth 100000
set_option maxHeartbeats 4000000
set_option linter.unusedVariables false
namespace Mine
section
variable {G : Gx} {σ : Sg} {d : Nat}

theorem ext_keeps {h h' : Heap} (x : Heap.ExtBut h.objs.size h h') : ∀ b o, h.get? b = some o → h'.get? b = some o := fun b o e => x b o (Nat.ne_of_lt (Heap.lt_size e)) e

/-- two names by a tuple -/
theorem to_tuple2 (O : Ok G d) {own : Led} {s : Shared} {Q : Unit → Shared → Prop} {E : Value → Shared → Prop} {x y : Str} {p q pos : Pos} {n : Nat} {T : Addr} {a b : Value} (c : Cx G own σ s.heap) (hT : s.heap.IsTuple T #[a, b])
    (hx : G.env.kindOf x = some .local) (hy : G.env.kindOf y = some .local) (hl : ∀ env, (assignEach [Expr.Name x p, Expr.Name y q] env) = [(false, assign (.Name x p) env), (false, assign (.Name y q) env)] := by intro _; rfl)
    (k : ∀ h' tk', Cx G own { σ with m := put (put σ.m x a) y b } h' → Q () { s with heap := h', toks := tk' }) :
    wpAny (model G.prog G.w) G.A (assign (.Tuple [.Name x p, .Name y q] n pos) G.env (.ref T)) Q E s := by
  refine wpAny_assign_Tuple O.hh hT (by rw [hl]; rfl) (by rw [hl]; rfl) fun h' xb => ?_
  have c' := c.keep (ext_keeps xb)
  rw [hl]
  refine wpAny_assignInOrder_more (wpAny_assign_Name (tm_storeName O hx own _ _ E c' fun u σ₁ h₁ t₁ e c₁ => ?_))
  subst e
  refine wpAny_assignInOrder_more (wpAny_assign_Name (tm_storeName O hy own _ _ E c₁ fun u σ₂ h₂ t₂ e c₂ => ?_))
  subst e
  exact wpAny_assignInOrder_none (k h₂ t₂ c₂)
theorem to_tuple3 (O : Ok G d) {own : Led} {s : Shared} {Q : Unit → Shared → Prop} {E : Value → Shared → Prop} {x y z : Str} {p q r pos : Pos} {n : Nat} {T : Addr} {a b e : Value} (c : Cx G own σ s.heap) (hT : s.heap.IsTuple T #[a, b, e])
    (hx : G.env.kindOf x = some .local) (hy : G.env.kindOf y = some .local) (hz : G.env.kindOf z = some .local) (hl : ∀ env, (assignEach [Expr.Name x p, Expr.Name y q, Expr.Name z r] env) = [(false, assign (.Name x p) env), (false, assign (.Name y q) env), (false, assign (.Name z r) env)] := by intro _; rfl)
    (k : ∀ h' tk', Cx G own { σ with m := put (put (put σ.m x a) y b) z e } h' → Q () { s with heap := h', toks := tk' }) :
    wpAny (model G.prog G.w) G.A (assign (.Tuple [.Name x p, .Name y q, .Name z r] n pos) G.env (.ref T)) Q E s := by
  refine wpAny_assign_Tuple O.hh hT (by rw [hl]; rfl) (by rw [hl]; rfl) fun h' xb => ?_
  have c' := c.keep (ext_keeps xb)
  rw [hl]
  refine wpAny_assignInOrder_more (wpAny_assign_Name (tm_storeName O hx own _ _ E c' fun u σ₁ h₁ t₁ e c₁ => ?_))
  subst e
  refine wpAny_assignInOrder_more (wpAny_assign_Name (tm_storeName O hy own _ _ E c₁ fun u σ₂ h₂ t₂ e c₂ => ?_))
  subst e
  refine wpAny_assignInOrder_more (wpAny_assign_Name (tm_storeName O hz own _ _ E c₂ fun u σ₃ h₃ t₃ e c₃ => ?_))
  subst e
  exact wpAny_assignInOrder_none (k h₃ t₃ c₃)

theorem drv_list (O : Ok G d) {target : Expr} {I l : Addr} {o : Obj} {its : Array Value} {Pm : Nat → Sg → Sg → Prop} (hne : l ≠ I)
    (hgo : ∀ i (s : Shared) v (Q : Unit → Shared → Prop) (E : Value → Shared → Prop), s.heap.IsListIter I l i → its[i - 1]? = some v → Q () s → wpAny (model G.prog G.w) G.A (letOwnedTupleGo target (.ref I) v) Q E s)
    (has : ∀ i v σ, its[i]? = some v → Fx G σ [(l, o)] → Tm G σ (assign target G.env v) (fun _ σ' => Pm i σ σ' ∧ σ'.n = σ.n)) :
    Drv G target (.ref I) [I] [(l, o)] its.size Pm (fun i h => h.IsListIter I l i ∧ h.IsList l its) :=
  Drv.walks (Walks.list (prog := G.prog) (w := G.w) O.hh I l hne its) (fun b hb => by simpa using hb) (fun i h st => ⟨_, st.1.choose_spec.1⟩) (fun i own σ s v Q E st pv c of fx q => hgo (i + 1) s v Q E st.1 pv q) has
theorem drv_dict (O : Ok G d) {x : Str} {p : Pos} {I a : Addr} {o : Obj} {kvs : List (Str × Value)} {ep : Nat} {Pm : Nat → Sg → Sg → Prop} (hne : a ≠ I)
    (has : ∀ (i : Nat) v σ, (∃ k y, kvs[i]? = some (k, y) ∧ Value.isStrOf k v = true) → Fx G σ [(a, o)] → Tm G σ (assign (.Name x p) G.env v) (fun _ σ' => Pm i σ σ' ∧ σ'.n = σ.n)) :
    Drv G (.Name x p) (.ref I) [I] [(a, o)] kvs.length Pm (fun i h => h.IsKeyIter I a i kvs.length ep ∧ h.DictAt (SK G) a kvs ep) :=
  Drv.walks (Walks.dictKeys (knd := SK G) O.hh I a hne kvs ep) (fun b hb => by simpa using hb) (fun i h st => ⟨_, st.1.choose_spec.1⟩) (P := fun i v => ∃ k x, kvs[i]? = some (k, x) ∧ Value.isStrOf k v = true) (fun _ _ _ _ _ _ _ _ _ _ _ _ q => wpAny_pure q) has
theorem drv_range (O : Ok G d) {x : Str} {p : Pos} {I : Addr} {a : Int} {n : Nat} (hx : G.env.kindOf x = some .local) :
    Drv G (.Name x p) (.ref I) [I] [] n (toN x (fun i v => IsI (a + (i : Int)) v)) (fun i h => IsRangeIter h I (a + (i : Int) * 1) ((n : Int) - (i : Nat)) 1) :=
  Drv.walks (Walks.range (prog := G.prog) (w := G.w) O.hh I a 1 n) (fun b hb => .inl (List.mem_singleton.mp hb)) (fun i h st => ⟨_, st⟩) (fun _ _ _ _ _ _ _ _ _ _ _ _ q => wpAny_pure q) fun i v σ pv fx => has_toN O hx i v σ (by simpa using pv) fx

def Obj.lst (o : Obj) (its : Array Value) : Prop := o.cls = .type "list" ∧ ∃ n, o.data = .seq its n
theorem lst_of {its : Array Value} {n : Nat} : Obj.lst (listOf its n) its := ⟨rfl, n, rfl⟩

/-- for x in a list -/
theorem src_list (O : Ok G d) {target iter : Expr} {its : Array Value} {Pm : Nat → Sg → Sg → Prop} {Pre : Sg → Led → Prop} (he : Tm G σ (eval iter G.env) (fun v σ₁ => ∃ l o, v = .ref l ∧ Pre σ₁ [(l, o)] ∧ Fx G σ₁ [(l, o)] ∧ Obj.lst o its))
    (hgo : ∀ (I l : Addr) i (s : Shared) v (Q : Unit → Shared → Prop) (E : Value → Shared → Prop), s.heap.IsListIter I l i → its[i - 1]? = some v → Q () s → wpAny (model G.prog G.w) G.A (letOwnedTupleGo target (.ref I) v) Q E s)
    (has : ∀ l o i v σ₁ σ, Pre σ₁ [(l, o)] → its[i]? = some v → Fx G σ [(l, o)] → Tm G σ (assign target G.env v) (fun _ σ' => Pm i σ σ' ∧ σ'.n = σ.n)) : Src G σ target iter its.size Pm Pre := fun own s Q E c k =>
  he own s _ E c fun v σ₁ h₁ t₁ ⟨l, o, e, pre, fx, ho⟩ c₁ => by
    subst e
    have gl := fx.get c₁ _ (.head _)
    have il : h₁.IsList l its := ⟨o, gl, ho.1, ho.2⟩
    refine wpAny_pyIter_list il ?_
    exact k (.ref h₁.objs.size) [h₁.objs.size] _ _ _ σ₁ _ pre (drv_list O (Nat.ne_of_lt (Heap.lt_size gl)) (hgo _ _) (fun i v σ => has l o i v σ₁ σ pre))
      ⟨⟨_, Heap.get?_push_size _ rfl, rfl, rfl⟩, il.push _⟩ (c₁.push _) (Off.fresh c₁ (get_size _))
/-- for x in a dict -/
theorem src_dict (O : Ok G d) {x : Str} {p : Pos} {iter : Expr} {a : Addr} {o : Obj} {kvs : List (Str × Value)} {Pm : Nat → Sg → Sg → Prop} (he : Tr G σ (eval iter G.env) (IsV (.ref a))) (hl : Fx G σ [(a, o)]) (ho : o.IsDictOf (SK G) kvs) (hlo : (a == sysModules) = false)
    (has : ∀ (i : Nat) v σ, (∃ k y, kvs[i]? = some (k, y) ∧ Value.isStrOf k v = true) → Fx G σ [(a, o)] → Tm G σ (assign (.Name x p) G.env v) (fun _ σ' => Pm i σ σ' ∧ σ'.n = σ.n)) : Src G σ (.Name x p) iter kvs.length Pm (fun σ₁ fix => σ₁ = σ ∧ fix = [(a, o)]) := fun own s Q E c k =>
  he own s _ E c fun v h₁ t₁ e c₁ => by
    subst e
    have gl := hl.get c₁ _ (.head _)
    obtain ⟨ep, hA⟩ := (Heap.dictOf_iff.mpr ⟨o, gl, ho⟩ : h₁.DictOf (SK G) a kvs).dictAt
    refine wpAny_pyIter_dict hlo (s := { s with heap := h₁, toks := t₁ }) hA ?_
    exact k (.ref h₁.objs.size) [h₁.objs.size] _ _ _ σ _ ⟨rfl, rfl⟩ (drv_dict O (ep := ep) (Nat.ne_of_lt (Heap.lt_size gl)) has)
      ⟨⟨_, Heap.get?_push_size _ rfl, rfl, rfl⟩, hA.push _⟩ (c₁.push _) (Off.fresh c₁ (get_size _))

/-- range(a, b), small -/
theorem range_small {a b : Int} (ha : -1000 ≤ a) (ha' : a ≤ 100000000) (hb : b ≤ 100000000) (hb' : -1000 ≤ b) : Builtin.Range.small a b 1 = true := by
  unfold Builtin.Range.small Builtin.Range.rangeFitsLong
  rw [rangeSize_one]
  simp only [Bool.and_eq_true, Bool.or_eq_true, decide_eq_true_eq, beq_iff_eq]
  simp only [show ((1 : Int) > 0) = True from by simp, if_true]
  split <;> refine ⟨⟨⟨⟨⟨?_, ?_⟩, ⟨?_, ?_⟩⟩, ⟨?_, ?_⟩⟩, ⟨?_, ?_⟩⟩, .inr ?_⟩ <;> first | omega | (simp only [Bool.and_eq_true, decide_eq_true_eq]; omega)
theorem range_iter0 {h : Heap} {a b : Int} : IsRangeIter (h.push { cls := .type "range_iterator", data := .fields #[rawInt a, rawInt (Builtin.Range.rangeSize a b 1), rawInt 1] }) h.objs.size (a + ((0 : Nat) : Int) * 1) (((b - a).toNat : Int) - (0 : Nat)) 1 := by
  have e : Builtin.Range.rangeSize a b 1 = ((b - a).toNat : Int) := by rw [rangeSize_one]; split <;> omega
  rw [e]
  simpa using Heap.get?_push_size h (o := { cls := .type "range_iterator", data := .fields #[rawInt a, rawInt ((b - a).toNat : Int), rawInt 1] }) rfl
theorem range_driven (O : Ok G d) {own : Led} {x : Str} {p : Pos} {a b : Int} {r : Addr} {t u v : Tok} {s : Shared} {Q : Value → Shared → Prop} {E : Value → Shared → Prop} (c : Cx G own σ s.heap) (hr : IsRange s.heap r a b 1 t u v) (ha : -1000 ≤ a) (ha' : a ≤ 100000000) (hb : b ≤ 100000000) (hb' : -1000 ≤ b) (hx : G.env.kindOf x = some .local)
    (k : ∀ it its St h₁ tk, Drv G (.Name x p) it its [] (b - a).toNat (toN x (fun i v => IsI (a + (i : Int)) v)) St → St 0 h₁ → Cx G own σ h₁ → Off G own σ its → Q it { s with heap := h₁, toks := tk }) :
    wpAny (model G.prog G.w) G.A (pyIter (.ref r)) Q E s :=
  wpAny_pyIter_range hr (range_small ha ha' hb hb') (k (.ref s.heap.objs.size) [s.heap.objs.size] _ _ s.toks (drv_range O hx) range_iter0 (c.push _) (Off.fresh c (get_size _)))
theorem range2_made (O : Ok G d) {np pos : Pos} {ea eb : Expr} {a b : Int} (hn : nsIn G.K mainGlobals "range" = some none) (hg : G.env.kindOf "range" = some .globalImplicit) (hea : Tr G σ (eval ea G.env) (IsI a)) (heb : Tr G σ (eval eb G.env) (IsI b))
    (he : starEach [ea, eb] G.env = [(false, eval ea G.env), (false, eval eb G.env)]) (he' : starEach [eb] G.env = [(false, eval eb G.env)]) :
    Tm G σ (eval (.Call (.Name "range" np) [ea, eb] [] pos) G.env) (fun v σ₁ => ∃ r t u w, v = .ref r ∧ σ₁ = { σ with n := (r, { cls := .type "range", data := .fields #[.int a t, .int b u, .int 1 w] }) :: σ.n }) := fun own s Q E c k =>
  wpAny_Call_NameR ((tr_blt O (v := .type "range") hn (by decide +kernel) (by decide) hg) own s _ E c fun v h₁ t₁ pv c₁ => by
    subst pv
    refine Pv.callWith_type1 (tr_arg2 hea heb he he' own _ _ E c₁ fun vs h₂ t₂ ⟨v, u, e, ⟨tv, pv⟩, ⟨tu, pu⟩⟩ c₂ => ?_) (by rw [he, he']) (by rw [he']; rfl)
    subst e; subst pv; subst pu
    exact call_range_2 (k _ _ _ _ ⟨_, _, _, _, rfl, rfl⟩ (c₂.pushN _)))
theorem range1_made (O : Ok G d) {np pos : Pos} {eb : Expr} {b : Int} (hn : nsIn G.K mainGlobals "range" = some none) (hg : G.env.kindOf "range" = some .globalImplicit) (heb : Tr G σ (eval eb G.env) (IsI b))
    (he' : starEach [eb] G.env = [(false, eval eb G.env)]) :
    Tm G σ (eval (.Call (.Name "range" np) [eb] [] pos) G.env) (fun v σ₁ => ∃ r t u w, v = .ref r ∧ σ₁ = { σ with n := (r, { cls := .type "range", data := .fields #[.int 0 t, .int b u, .int 1 w] }) :: σ.n }) := fun own s Q E c k =>
  wpAny_Call_NameR ((tr_blt O (v := .type "range") hn (by decide +kernel) (by decide) hg) own s _ E c fun v h₁ t₁ pv c₁ => by
    subst pv
    refine Pv.callWith_type1 (tr_arg1 heb he' own _ _ E c₁ fun vs h₂ t₂ ⟨v, e, ⟨tv, pv⟩⟩ c₂ => ?_) (by rw [he']; rfl) rfl
    subst e; subst pv
    exact call_range_1 (k _ _ _ _ ⟨_, _, _, _, rfl, rfl⟩ (c₂.pushN _)))
/-- for x in a range -/
theorem src_range (O : Ok G d) {x : Str} {p : Pos} {iter : Expr} {a b : Int} (he : Tm G σ (eval iter G.env) (fun v σ₁ => ∃ r t u w, v = .ref r ∧ σ₁ = { σ with n := (r, { cls := .type "range", data := .fields #[.int a t, .int b u, .int 1 w] }) :: σ.n }))
    (ha : -1000 ≤ a) (ha' : a ≤ 100000000) (hb : b ≤ 100000000) (hb' : -1000 ≤ b) (hx : G.env.kindOf x = some .local) :
    Src G σ (.Name x p) iter (b - a).toNat (toN x (fun i v => IsI (a + (i : Int)) v)) (fun σ₁ fix => σ₁ = σ ∧ fix = []) := fun own s Q E c k =>
  he own s _ E c fun v σ₁ h₁ t₁ ⟨r, t, u, w, e, e₁⟩ c₁ => by
    subst e; subst e₁
    exact range_driven O (s := { s with heap := h₁, toks := t₁ }) (Cx.drop (nw := [_]) c₁) (c₁.get (.head _)) ha ha' hb hb' hx fun it its St h₃ tk D st c₃ o => k it its St h₃ tk σ [] ⟨rfl, rfl⟩ D st c₃ o

/-- enumerate over a list -/
def toE (x y : Str) (its : Array Value) (i : Nat) (σ σ' : Sg) : Prop := ∃ t v, its[i]? = some v ∧ σ' = { σ with m := put (put σ.m x (.int i t)) y v }
theorem off2 {own : Led} {h : Heap} (c : Cx G own σ h) {a b : Addr} (ha : h.get? a = none) (hb : h.get? b = none) : Off G own σ [a, b] := by
  have f1 := Off.fresh c ha
  have f2 := Off.fresh c hb
  exact ⟨fun p hp e => by rcases List.mem_cons.mp e with e | e; exact f1.n p hp (by rw [e]; exact .head _); exact f2.n p hp e,
    fun x a ha e => by rcases List.mem_cons.mp e with e | e; exact f1.c x a ha (by rw [e]; exact .head _); exact f2.c x a ha e,
    fun e => by rcases List.mem_cons.mp e with e | e; exact f1.L (by rw [e]; exact .head _); exact f2.L e,
    fun b e => by rcases List.mem_cons.mp e with e | e; exact f1.h b (by rw [e]; exact .head _); exact f2.h b e⟩
theorem drv_enum (O : Ok G d) {x y : Str} {p q tp : Pos} {n : Nat} {e it l : Addr} {o : Obj} {its : Array Value} (hei : e ≠ it) (hle : l ≠ e) (hli : l ≠ it) (hx : G.env.kindOf x = some .local) (hy : G.env.kindOf y = some .local) :
    Drv G (.Tuple [.Name x p, .Name y q] n tp) (.ref e) [e, it] [(l, o)] its.size (toE x y its) (fun i h => (∃ old, IsEnum h e it (i : Int) old) ∧ h.IsListIter it l i ∧ h.IsList l its) := by
  have W := (WalksT.enumerate (prog := G.prog) (w := G.w) O.hh e it l hei hle hli its)
  refine ⟨fun i h h' st kk => W.frame i h h' st fun b hb o e => kk b (by simpa [or_assoc] using hb) o e, fun i h st b hb => ?_, fun i own σ s Q E hi st c of fx k => ?_, W.self, fun own σ s Q E st c of k => ?_⟩
  · rcases List.mem_cons.mp hb with rfl | hb
    · exact ⟨_, st.1.choose_spec⟩
    · obtain rfl := List.mem_singleton.mp hb
      exact ⟨_, st.2.1.choose_spec.1⟩
  · refine W.item i s _ E hi st fun T vals h' tk ⟨t, v, hv, ev⟩ hT iT mid kp' => ?_
    subst ev
    refine W.go _ _ _ i T { s with heap := h', toks := tk } _ E mid fun h'' st' kp'' => ?_
    have c' := (c.but of kp').but of kp''
    have iT' : h''.IsTuple T #[.int i t, v] := by
      obtain ⟨o, ho, r⟩ := iT
      exact ⟨o, kp'' _ _ (W.apart i T h' mid) ho, r⟩
    refine to_tuple2 (s := { s with heap := h'', toks := tk }) O (c'.take of) iT' hx hy (k := fun h₄ tk₄ c₄ => ?_)
    have c₅ := c₄.give
    have f' := fx.get c'
    have f₅ : ∀ p ∈ [(l, o)], h₄.get? p.1 = some p.2 := Fx.get (σ := { σ with m := put (put σ.m x (.int i t)) y v }) fx c₅
    refine k _ h₄ tk₄ ⟨t, v, hv, rfl⟩ rfl (W.frame _ _ _ st' fun b hb ob eb => ?_) c₅ ⟨of.n, of.c, of.L, of.h⟩
    have : b ∈ [e, it] ∨ b = l := by simpa [or_assoc] using hb
    rcases this with hb | rfl
    · exact (c₄.N (b, ob) (List.mem_append_left _ (List.mem_append_left _ (ownAt_mem hb eb)))).1
    · rw [f' _ (.head _)] at eb; cases eb; exact f₅ _ (.head _)
  · exact W.done s _ E st fun h' tk kp => k h' tk (c.but of kp)
theorem none_above {h : Heap} {b : Addr} (hb : h.objs.size ≤ b) : h.get? b = none := by
  cases e : h.get? b with
  | none => rfl
  | some o => exact absurd (Heap.lt_size e) (Nat.not_lt.mpr hb)
theorem enum_made (O : Ok G d) {np pos : Pos} {el : Expr} {l : Addr} {o : Obj} {its : Array Value} (hn : nsIn G.K mainGlobals "enumerate" = some none) (hg : G.env.kindOf "enumerate" = some .globalImplicit) (he : Tr G σ (eval el G.env) (IsV (.ref l))) (hl : Fx G σ [(l, o)]) (ho : Obj.lst o its)
    (hs : starEach [el] G.env = [(false, eval el G.env)]) {own : Led} {s : Shared} {Q : Value → Shared → Prop} {E : Value → Shared → Prop} (c : Cx G own σ s.heap)
    (k : ∀ h₂ h₃ tk, Cx G own σ h₂ → (∀ b o, h₂.get? b = some o → h₃.get? b = some o) → h₃.objs.size = h₂.objs.size + 2 → h₂.get? l = some o → l < h₂.objs.size → IsEnum h₃ (h₂.objs.size + 1) h₂.objs.size 0 .none → h₃.IsListIter h₂.objs.size l 0 → h₃.IsList l its → Q (.ref (h₂.objs.size + 1)) { s with heap := h₃, toks := tk }) :
    wpAny (model G.prog G.w) G.A (eval (.Call (.Name "enumerate" np) [el] [] pos) G.env) (fun xv s₁ => wpAny (model G.prog G.w) G.A (pyIter xv) Q E s₁) E s :=
  wpAny_Call_NameR ((tr_blt O (v := .type "enumerate") hn (by decide +kernel) (by decide) hg) own s _ E c fun v h₁ t₁ pv c₁ => by
    subst pv
    refine Pv.callWith_type1 (tr_arg1 he hs own _ _ E c₁ fun vs h₂ t₂ ⟨v, e, pv⟩ c₂ => ?_) (by rw [hs]; rfl) rfl
    subst e; subst pv
    have gl := hl.get c₂ _ (.head _)
    have il : h₂.IsList l its := ⟨o, gl, ho.1, ho.2⟩
    refine call_enumerate_list (s := { s with heap := h₂, toks := t₂ }) il fun h₃ en it hz kp => ?_
    exact wpAny_pyIter_enum en (k h₂ h₃ t₂ c₂ kp hz gl (Heap.lt_size gl) en it (il.at fun o e => kp _ _ e)))
theorem src_enum (O : Ok G d) {x y : Str} {p q tp np pos : Pos} {n : Nat} {el : Expr} {l : Addr} {o : Obj} {its : Array Value} (hn : nsIn G.K mainGlobals "enumerate" = some none) (hg : G.env.kindOf "enumerate" = some .globalImplicit) (he : Tr G σ (eval el G.env) (IsV (.ref l))) (hl : Fx G σ [(l, o)]) (ho : Obj.lst o its)
    (hx : G.env.kindOf x = some .local) (hy : G.env.kindOf y = some .local) (hs : starEach [el] G.env = [(false, eval el G.env)] := by rfl) :
    Src G σ (.Tuple [.Name x p, .Name y q] n tp) (.Call (.Name "enumerate" np) [el] [] pos) its.size (toE x y its) (fun σ₁ fix => σ₁ = σ ∧ fix = [(l, o)]) := fun own s Q E c k =>
  enum_made O hn hg he hl ho hs c fun h₂ h₃ tk c₂ kp hz gl ll en it il =>
    k _ [h₂.objs.size + 1, h₂.objs.size] _ h₃ tk σ _ ⟨rfl, rfl⟩ (drv_enum O (Nat.succ_ne_self _) (Nat.ne_of_lt (Nat.lt_succ_of_lt ll)) (Nat.ne_of_lt ll) hx hy) ⟨⟨_, by simpa using en⟩, it, il⟩ (c₂.keep kp) (off2 c₂ (none_above (Nat.le_succ _)) (none_above (Nat.le_refl _)))
end
end Mine
open PySem PySem.W PySem.Calls PyProof.Rows
set_option Elab.async false
set_option maxRecDepth 100000
set_option maxHeartbeats 4000000
set_option linter.unusedVariables false
namespace Mine

abbrev Tests (ifs : List Expr) (env : Env) : Sem Bool := forIn ifs true fun c r => if r = true then do let ok ← PySem.isTrue c env (eval c env); pure (ForInStep.yield ok) else pure (ForInStep.yield r)

theorem comp_loop {prog : Program} {w : World} {A : Around} {s : Shared} {R : Result → Shared → Prop} {elt target iter : Expr} {ifs : List Expr} {scope : Scope} {pos : Pos} {it acc : Value} {env : Env} (I : Nat → Shared → Prop)
    (turn : ∀ n s, I n s → wpAny (model prog w) A (pyNext it) (fun r s₁ => match r with
      | none => R (.ok .next) s₁
      | some v => wpAny (model prog w) A (letOwnedTupleGo target it v) (fun _ s₀ => wpAny (model prog w) A (assign target env v) (fun _ s₂ =>
          wpAny (model prog w) A (Tests ifs env) (fun ok s₃ =>
            if ok = true then wpAny (model prog w) A (eval elt env) (fun x s₄ =>
              wpAny (model prog w) A (call (.builtin "list.append") [acc, x]) (fun _ s₅ => ∃ m, m < n ∧ I m s₅) (notedBy (model prog w) A env fun e s' => R (.error e) s') s₄) (notedBy (model prog w) A env fun e s' => R (.error e) s') s₃
            else ∃ m, m < n ∧ I m s₃) (notedBy (model prog w) A env fun e s' => R (.error e) s') s₂) (notedBy (model prog w) A env fun e s' => R (.error e) s') s₀) (notedBy (model prog w) A env fun e s' => R (.error e) s') s₁) (notedBy (model prog w) A env fun e s' => R (.error e) s') s)
    (n : Nat) (h : I n s) :
    codeAny (model prog w) A (.compLoop (.ListComp elt [⟨target, iter, ifs, 0⟩] scope pos) 0 it acc env) R s := by
  refine codeAny_loop rfl I (fun k s₀ inv => ?_) n h
  show wpAny _ A ((compTurn (.ListComp elt [⟨target, iter, ifs, 0⟩] scope pos) 0 it acc env).onRaise (fun x => do noteFrame x env; theTreesLotGoes x)) _ _ s₀
  refine wpAny_noted ?_
  rw [compTurn_list]
  refine wpAny_bind (wpAny_standAt (wpAny_bind (wpAny_mono (turn k s₀ inv) (fun r s₁ hr => ?_) fun _ _ y => y)))
  cases r with
  | none => exact wpAny_pure hr
  | some v =>
    refine wpAny_bind (wpAny_mono hr (fun _ s₂ h₂ => ?_) fun _ _ y => y)
    refine wpAny_bind (wpAny_mono h₂ (fun _ s₃ h₃ => wpAny_bind (wpAny_mono h₃ (fun ok s₄ h₄ => ?_) fun _ _ y => y)) fun _ _ y => y)
    cases ok with
    | false => exact wpAny_pure ⟨rfl, h₄⟩
    | true => exact wpAny_bind (wpAny_bind (wpAny_mono h₄ (fun x s₅ h₅ => wpAny_bind (wpAny_mono h₅ (fun _ s₆ h₆ => wpAny_pure (wpAny_pure ⟨rfl, h₆⟩)) fun _ _ y => y)) fun _ _ y => y))

section
variable {G : Gx} {σ : Sg} {d : Nat}

theorem Cx.updOwn {own : Led} {h h' : Heap} {a : Addr} {o o' : Obj} (x : Cx G ((a, o) :: own) σ h) (hs : Heap.SameBut a h h') (ho : h'.get? a = some o') (hown : ∀ p ∈ own, p.1 ≠ a) : Cx G ((a, o') :: own) σ h' := by
  have ha := x.N (a, o) (.head _)
  have off : ∀ q ∈ σ.n, q.1 ≠ a := fun q hq e => x.offO (a, o) (.head _) q hq e.symm
  refine ⟨⟨x.F.ns.sameBut hs (Ne.symm ha.2.1), fun b ob e => (hs.2 b fun q => ?_).trans (x.F.keep b ob e), x.F.above⟩, fun p hp => ?_, fun y b hb => (x.C y b hb).sameBut hs fun e => ?_, fun p hp q hq => ?_, fun p hp y b hb => ?_⟩
  · rw [q, ha.2.2] at e; cases e
  · rcases List.mem_cons.mp hp with rfl | hp
    · exact ⟨ho, ha.2⟩
    · have := x.N p (.tail _ hp)
      refine ⟨(hs.2 _ ?_).trans this.1, this.2⟩
      rcases List.mem_append.mp hp with q | q
      · exact hown p q
      · exact off p q
  · exact x.offC (a, o) (.head _) y b hb e.symm
  · rcases List.mem_cons.mp hp with rfl | hp
    · exact x.offO (a, o) (.head _) q hq
    · exact x.offO p (.tail _ hp) q hq
  · rcases List.mem_cons.mp hp with rfl | hp
    · exact x.offC (a, o) (.head _) y b hb
    · exact x.offC p (.tail _ hp) y b hb

/-- a comprehension's own context -/
def CG (G : Gx) (h₁ : Heap) (env' : Env) : Gx := { G with h₀ := h₁, env := env' }

def CSrc (G : Gx) (σ : Sg) (target iter : Expr) (n : Nat) (Pm : Nat → Sg → Sg → Prop) (T : Env → Prop) : Prop :=
  ∀ own (s : Shared) (Q : Value → Shared → Prop) (E : Value → Shared → Prop), Cx G own σ s.heap →
    (∀ it its St h₁ h₂ tk fix, Cx G own σ h₁ → (∀ b o, h₁.get? b = some o → h₂.get? b = some o) → (∀ b ∈ its, h₁.get? b = none ∧ b < h₂.objs.size) → h₁.objs.size ≤ h₂.objs.size → (∀ p ∈ fix, h₁.get? p.1 = some p.2) →
      (∀ env' d, T env' → Ok (CG G h₁ env') d → Drv (CG G h₁ env') target it its fix n Pm St) → St 0 h₂ → Q it { s with heap := h₂, toks := tk }) →
    wpAny (model G.prog G.w) G.A (eval iter G.env) (fun xv s₁ => wpAny (model G.prog G.w) G.A (pyIter xv) Q E s₁) E s

theorem Ok.comp {own : Led} {h₁ : Heap} {scope : Scope} {cl : List (Str × Addr)} {C : Addr} (O : Ok G d) (c : Cx G own σ h₁) (hk : scope.kind = .function) (hcl : ∀ x a, cl.lookup x = some a → G.env.cells.lookup x = some a) (hC : h₁.get? C = none) : Ok (CG G h₁ (compEnvC scope cl C G.env)) d where
  X := O.X.keeps c.F.keep
  T := let ⟨p, lo, mg, mb, T⟩ := O.T; ⟨p, lo, mg, mb, T.keeps c.F.keep⟩
  B := by
    obtain ⟨base, outer, hb, B⟩ := O.B
    refine ⟨base, outer, hb, fun h m F => ?_⟩
    have b := B h₁ _ c.F
    exact ⟨b.stack, fun x o e => F.keep _ _ (b.stays x o e), b.frames.of_keeps fun x o e _ => ⟨o, F.keep _ _ e, rfl⟩⟩
  kind := hk
  glob := O.glob
  blt := O.blt
  hh := O.hh
  depth := O.depth
  units := O.units
  cpw := fun x y a hx hy => O.cpw x y a (hcl x a hx) (hcl y a hy)
  cL := fun x a hx e => by
    obtain ⟨o, ho, _⟩ := c.C x a (hcl x a hx)
    change a = C at e
    rw [e, hC] at ho; cases ho

/-- what a turn of a comprehension does to the list and to what its elements make -/
def CTurn (G : Gx) (elt : Expr) (ifs : List Expr) (σ : Sg) (Yes : Value → Led → Prop) (No : Led → Prop) : Prop :=
  Tm G σ (Tests ifs G.env) (fun ok σ' => if ok = true then Tm G σ' (eval elt G.env) (fun y σ'' => Yes y σ''.n) else No σ'.n)

theorem comp_core (O : Ok G d) {elt target iter : Expr} {ifs : List Expr} {scope : Scope} {cl : List (Str × Addr)} {pos pos' : Pos} {n : Nat} {Pm : Nat → Sg → Sg → Prop} {T : Env → Prop} {use : Option (Value → Sem Unit)} {own : Led} {s : Shared} {Q : Value → Shared → Prop} {E : Value → Shared → Prop} (c₀ : Cx G own σ s.heap)
    (hsrc : CSrc G σ target iter n Pm T) (hT : ∀ C, T (compEnvC scope cl C G.env)) (hclos : closureFor scope G.env = pure cl) (hcl : ∀ x a, cl.lookup x = some a → G.env.cells.lookup x = some a) (hcell : ∀ y ∈ scope.names, y.2 ≠ .cell) (hkind : scope.kind = .function)
    (hnames : ∀ x ∈ scope.names, x.2 = .local → scope.names.lookup x.1 = some .local) (hs : ∀ x, foldedSetIterable iter G.env x = pure x)
    (Inv : Nat → List Value → Led → Prop) (h0 : Inv 0 [] [])
    (turn : ∀ i ys m₁ σ₁ h₁ C, i < n → ys.length ≤ i → Inv i ys σ₁.n → (∀ x a, cl.lookup x = some a → σ₁.c x = σ.c x) → Cx G own σ h₁ → Ok (CG G h₁ (compEnvC scope cl C G.env)) d → Pm i m₁ σ₁ → CTurn (CG G h₁ (compEnvC scope cl C G.env)) elt ifs σ₁ (fun y l => Inv (i + 1) (ys ++ [y]) l) (fun l => Inv (i + 1) ys l))
    (hz : n ≤ 1000000)
    (k : ∀ D C ys n' led h₁ h₂ tk m, Inv n ys led → ys.length ≤ n → Cx G own σ h₁ → (∀ b o, h₁.get? b = some o → h₂.get? b = some o) → (∀ p ∈ (D, listOf ys.toArray n') :: led, h₂.get? p.1 = some p.2 ∧ h₁.get? p.1 = none ∧ p.1 ≠ C) → h₁.get? C = none → h₂.Ns C m → compPost (model G.prog G.w) G.A E use Q (.ref D) C (.ok .next) { s with heap := h₂, toks := tk }) :
    wpAny (model G.prog G.w) G.A (comprehension (.ListComp elt [⟨target, iter, ifs, 0⟩] scope pos) scope G.env pos' (newList []) false (eval iter G.env) use) Q E s := by
  refine wpAny_comprehension_free rfl hs hclos hkind hnames (hsrc own s _ E c₀ fun it its St h₁ h₂ tk fix c₁ kp hits hle hfix mk st => ?_)
  refine wpAny_newObj_type (wpAny_newFunctionEnv hcell (by intro y hy; simp at hy) (fun h₃ hns hsb => ?_) hkind)
  dsimp only at hns hsb ⊢
  generalize hH : h₂.push { cls := .type "list", dict := none, data := .seq ([] : List Value).toArray } = H at hns hsb ⊢
  have hC : H.objs.size = h₂.objs.size + 1 := by rw [← hH, Heap.size_push]
  have le₂ : h₁.objs.size ≤ H.objs.size := by rw [hC]; exact Nat.le_succ_of_le hle
  have nC : h₁.get? H.objs.size = none := none_above le₂
  have nD : h₁.get? h₂.objs.size = none := none_above hle
  have DC : h₂.objs.size ≠ H.objs.size := by rw [hC]; exact Nat.ne_of_lt (Nat.lt_succ_self _)
  have up : ∀ b o, h₂.get? b = some o → h₃.get? b = some o := fun b o e => hsb.extBut b o (fun q => absurd (Heap.lt_size e) (by rw [q, hC]; exact Nat.not_lt.mpr (Nat.le_succ _))) (Heap.get?_push_of_some _ (hH ▸ Heap.get?_push_of_some _ e))
  have gD : h₃.get? h₂.objs.size = some (listOf #[] 0) := hsb.extBut _ _ DC (Heap.get?_push_of_some _ (hH ▸ Heap.get?_push_size _ rfl))
  have O' : Ok (CG G h₁ (compEnvC scope cl H.objs.size G.env)) d := O.comp c₁ hkind hcl nC
  have D' := mk _ d (hT H.objs.size) O'
  have F₃ : Fr h₁ H.objs.size h₃ (fun x => List.lookup x ([] : List (Str × Value)).reverse) := ⟨hns, fun b o e => up _ _ (kp _ _ e), le₂⟩
  have c₃ : Cx (CG G h₁ (compEnvC scope cl H.objs.size G.env)) [(h₂.objs.size, listOf #[] 0)] ⟨fun x => List.lookup x ([] : List (Str × Value)).reverse, σ.c, []⟩ h₃ := by
    refine ⟨F₃, fun p hp => ?_, fun x a ha => ?_, (fun _ _ _ h => nomatch h), fun p hp x a ha => ?_⟩
    · obtain rfl := List.mem_singleton.mp hp
      exact ⟨gD, DC, nD⟩
    · exact ((c₁.C x a (hcl x a ha)).keeps kp).keeps up
    · obtain rfl := List.mem_singleton.mp hp
      intro e
      obtain ⟨o, ho, _⟩ := c₁.C x a (hcl x a ha)
      change h₂.objs.size = a at e
      rw [← e, nD] at ho; cases ho
  have of₃ : Off (CG G h₁ (compEnvC scope cl H.objs.size G.env)) [(h₂.objs.size, listOf #[] 0)] ⟨fun x => List.lookup x ([] : List (Str × Value)).reverse, σ.c, []⟩ its := by
    refine ⟨fun p hp hb => ?_, fun x a ha hb => ?_, fun hb => ?_, fun b hb => (hits b hb).1⟩
    · obtain rfl := List.mem_singleton.mp hp
      exact Nat.lt_irrefl _ (hits _ hb).2
    · obtain ⟨o, ho, _⟩ := c₁.C x a (hcl x a ha)
      rw [(hits _ hb).1] at ho; cases ho
    · have := (hits _ hb).2
      change H.objs.size < h₂.objs.size at this
      omega
  have st₃ : St 0 h₃ := D'.frame _ _ _ st fun b _ o e => up _ _ e
  have fx : Fx (CG G h₁ (compEnvC scope cl H.objs.size G.env)) ⟨fun x => List.lookup x ([] : List (Str × Value)).reverse, σ.c, []⟩ fix := fun p hp => .inr (hfix p hp)
  have loop : ∀ s₃ : Shared, s₃ = { s with heap := h₃, toks := tk + ([] : List (Str × Value)).length } → codeAny (model G.prog G.w) G.A (.compLoop (.ListComp elt [⟨target, iter, ifs, 0⟩] scope pos) 0 it (.ref h₂.objs.size) (compEnvC scope cl H.objs.size G.env)) (compPost (model G.prog G.w) G.A E use Q (.ref h₂.objs.size) H.objs.size) s₃ := by
    rintro s₃ rfl
    refine comp_loop (fun m s' => ∃ h' tk' σ' ys n' i, s' = { s with heap := h', toks := tk' } ∧ St i h' ∧ Cx (CG G h₁ (compEnvC scope cl H.objs.size G.env)) [(h₂.objs.size, listOf (List.toArray ys) n')] σ' h' ∧ Off (CG G h₁ (compEnvC scope cl H.objs.size G.env)) [(h₂.objs.size, listOf (List.toArray ys) n')] σ' its ∧
      Inv i ys σ'.n ∧ ys.length ≤ i ∧ i ≤ n ∧ m = n + 1 - i) ?_ (n + 1)
      ⟨h₃, _, _, [], 0, 0, rfl, st₃, c₃, of₃, h0, Nat.le_refl _, Nat.zero_le _, rfl⟩
    rintro m s' ⟨h', tk', σ', ys, n', i, rfl, st', c', of', inv, hl, hi, rfl⟩
    have fx' : Fx (CG G h₁ (compEnvC scope cl H.objs.size G.env)) σ' fix := fun p hp => .inr (hfix p hp)
    by_cases hlt : i < n
    · refine wpAny_mono (D'.step i _ σ' { s with heap := h', toks := tk' } (fun _ s₃ => wpAny (model G.prog G.w) G.A (Tests ifs (compEnvC scope cl H.objs.size G.env)) (fun ok s₃ =>
            if ok = true then wpAny (model G.prog G.w) G.A (eval elt (compEnvC scope cl H.objs.size G.env)) (fun x s₄ =>
              wpAny (model G.prog G.w) G.A (call (.builtin "list.append") [.ref h₂.objs.size, x]) (fun _ s₅ => ∃ m, m < n + 1 - i ∧ ∃ h' tk' σ' ys n' i, s₅ = { s with heap := h', toks := tk' } ∧ St i h' ∧ Cx (CG G h₁ (compEnvC scope cl H.objs.size G.env)) [(h₂.objs.size, listOf (List.toArray ys) n')] σ' h' ∧ Off (CG G h₁ (compEnvC scope cl H.objs.size G.env)) [(h₂.objs.size, listOf (List.toArray ys) n')] σ' its ∧
      Inv i ys σ'.n ∧ ys.length ≤ i ∧ i ≤ n ∧ m = n + 1 - i) (notedBy (model G.prog G.w) G.A (compEnvC scope cl H.objs.size G.env) fun e s' => compPost (model G.prog G.w) G.A E use Q (.ref h₂.objs.size) H.objs.size (.error e) s') s₄) (notedBy (model G.prog G.w) G.A (compEnvC scope cl H.objs.size G.env) fun e s' => compPost (model G.prog G.w) G.A E use Q (.ref h₂.objs.size) H.objs.size (.error e) s') s₃
            else ∃ m, m < n + 1 - i ∧ ∃ h' tk' σ' ys n' i, s₃ = { s with heap := h', toks := tk' } ∧ St i h' ∧ Cx (CG G h₁ (compEnvC scope cl H.objs.size G.env)) [(h₂.objs.size, listOf (List.toArray ys) n')] σ' h' ∧ Off (CG G h₁ (compEnvC scope cl H.objs.size G.env)) [(h₂.objs.size, listOf (List.toArray ys) n')] σ' its ∧
      Inv i ys σ'.n ∧ ys.length ≤ i ∧ i ≤ n ∧ m = n + 1 - i) (notedBy (model G.prog G.w) G.A (compEnvC scope cl H.objs.size G.env) fun e s' => compPost (model G.prog G.w) G.A E use Q (.ref h₂.objs.size) H.objs.size (.error e) s') s₃) _ hlt st' c' of' fx' fun σ₂ hb tkb pm en stb cb ofb => ?_) (fun r s₁ hr => ?_) fun _ _ e => e
      · have hc : ∀ x a, cl.lookup x = some a → σ₂.c x = σ.c x := fun x a ha => by
          obtain ⟨o, ho, e⟩ := cb.C x a ha
          obtain ⟨o', ho', e'⟩ := (c₁.C x a (hcl x a ha)).keeps cb.F.keep
          rw [ho] at ho'; cases ho'
          rw [e] at e'; exact Data.cell.inj e'
        have frame' : ∀ {σ₄ : Sg} {own' : Led} {h₄ : Heap}, Cx (CG G h₁ (compEnvC scope cl H.objs.size G.env)) (ownAt hb its ++ own') σ₄ h₄ → St (i + 1) h₄ := fun {σ₄ own' h₄} c₄ => D'.frame _ _ _ stb fun b hb' o e => by
          rcases hb' with hb' | hb'
          · exact (c₄.N (b, o) (List.mem_append_left _ (List.mem_append_left _ (ownAt_mem hb' e)))).1
          · obtain ⟨p, hp, rfl⟩ := List.mem_map.mp hb'
            have e₁ := cb.F.keep _ _ (hfix p hp)
            rw [e₁] at e; cases e
            exact c₄.F.keep _ _ (hfix p hp)
        have off' : ∀ {σ₄ : Sg} {h₄ : Heap}, Cx (CG G h₁ (compEnvC scope cl H.objs.size G.env)) (ownAt hb its ++ [(h₂.objs.size, listOf (List.toArray ys) n')]) σ₄ h₄ → Off (CG G h₁ (compEnvC scope cl H.objs.size G.env)) [(h₂.objs.size, listOf (List.toArray ys) n')] σ₄ its := fun {σ₄ h₄} c₄ =>
          Off.of_take c₄ (fun b hb' => by obtain ⟨o, e⟩ := D'.live _ _ stb b hb'; exact ⟨o, ownAt_mem hb' e⟩) fun p hp => ofb.n p (List.mem_append_left _ hp)
        refine turn i ys σ' σ₂ h₁ H.objs.size hlt hl (by rw [en]; exact inv) hc c₁ O' pm (ownAt hb its ++ [(h₂.objs.size, listOf (List.toArray ys) n')]) _ _ _ (cb.take ofb) fun ok σ₄ h₄ tk₄ p₄ c₄ => ?_
        cases ok with
        | false => exact ⟨n + 1 - (i + 1), by omega, h₄, tk₄, σ₄, ys, n', i + 1, rfl, frame' c₄, c₄.give, off' c₄, p₄, Nat.le_succ_of_le hl, hlt, rfl⟩
        | true =>
          refine p₄ (ownAt hb its ++ [(h₂.objs.size, listOf (List.toArray ys) n')]) _ _ _ c₄ fun y σ₅ h₅ tk₅ p₅ c₅ => ?_
          have gD₅ : h₅.get? h₂.objs.size = some (listOf (List.toArray ys) n') := (c₅.give.N (h₂.objs.size, listOf (List.toArray ys) n') (.head _)).1
          refine wpAny_list_append_plain (s := { s with heap := h₅, toks := tk₅ }) ⟨n', gD₅⟩ (fun h₆ ⟨n₆, e₆⟩ hs₆ => ?_) (by rw [List.size_toArray, sizeLine_eq]; omega)
          have e₆' : h₆.get? h₂.objs.size = some (listOf (List.toArray (ys ++ [y])) n₆) := by rw [e₆]; simp
          have o₅ := off' c₅
          have Dn : h₂.objs.size ∉ its := o₅.n (h₂.objs.size, listOf (List.toArray ys) n') (.head _)
          refine ⟨n + 1 - (i + 1), by omega, h₆, tk₅, σ₅, ys ++ [y], n₆, i + 1, rfl, D'.frame _ _ _ (frame' c₅) fun b hb' o e => ?_, c₅.give.updOwn hs₆ e₆' (fun _ h => nomatch h), ⟨fun p hp hb' => ?_, o₅.c, o₅.L, o₅.h⟩, p₅, by simp; omega, hlt, rfl⟩
          · refine (hs₆.2 b fun q => ?_).trans e
            rcases hb' with hb' | hb'
            · exact Dn (q ▸ hb')
            · obtain ⟨p, hp, e'⟩ := List.mem_map.mp hb'
              have := hfix p hp
              rw [e', q, nD] at this; cases this
          · rcases List.mem_cons.mp hp with rfl | hp
            · exact Dn hb'
            · exact o₅.n p (.tail _ hp) hb'
      · cases r with
        | none => exact hr.elim
        | some v => exact hr
    · have hin : i = n := by omega
      subst hin
      refine wpAny_mono (D'.done _ σ' { s with heap := h', toks := tk' } (fun s₁ => compPost (model G.prog G.w) G.A E use Q (.ref h₂.objs.size) H.objs.size (.ok .next) s₁) _ st' c' of' fun h'' tk'' c'' => ?_) (fun r s₁ hr => ?_) fun _ _ e => e
      · refine k h₂.objs.size H.objs.size ys n' σ'.n h₁ h'' tk'' σ'.m inv hl c₁ c''.F.keep (fun p hp => ?_) nC c''.F.ns
        have := c''.N p (by simpa using hp)
        exact ⟨this.1, this.2.2, this.2.1⟩
      · cases r with
        | none => exact hr
        | some v => exact hr.elim
  exact codeAny_compStart_list (loop _ rfl) (D'.self 0 { s with heap := h₃, toks := tk + ([] : List (Str × Value)).length } _ _ st₃ (loop _ rfl))

theorem Cx.compEnd {own : Led} {h₁ h₂ h₃ : Heap} {C : Addr} {nw : Led} (c : Cx G own σ h₁) (kp : ∀ b o, h₁.get? b = some o → h₂.get? b = some o) (hC : h₁.get? C = none) (hs : Heap.SameBut C h₂ h₃) (hn : ∀ p ∈ nw, h₂.get? p.1 = some p.2 ∧ h₁.get? p.1 = none ∧ p.1 ≠ C) : Cx G own { σ with n := nw ++ σ.n } h₃ :=
  c.fresh (fun b o e => (hs.2 b fun q => by rw [q, hC] at e; cases e).trans (kp _ _ e)) fun p hp => ⟨(hs.2 _ (hn p hp).2.2).trans (hn p hp).1, (hn p hp).2.1⟩

/-- [elt for target in iter if ..] -/
theorem tm_comp (O : Ok G d) {elt target iter : Expr} {ifs : List Expr} {scope : Scope} {cl : List (Str × Addr)} {pos : Pos} {n : Nat} {Pm : Nat → Sg → Sg → Prop} {T : Env → Prop}
    (hsrc : CSrc G σ target iter n Pm T) (hT : ∀ C, T (compEnvC scope cl C G.env)) (hclos : closureFor scope G.env = pure cl) (hcl : ∀ x a, cl.lookup x = some a → G.env.cells.lookup x = some a) (hcell : ∀ y ∈ scope.names, y.2 ≠ .cell) (hkind : scope.kind = .function)
    (hnames : ∀ x ∈ scope.names, x.2 = .local → scope.names.lookup x.1 = some .local) (hs : ∀ x, foldedSetIterable iter G.env x = pure x)
    (Inv : Nat → List Value → Led → Prop) (h0 : Inv 0 [] [])
    (turn : ∀ i ys m₁ σ₁ own h₁ C, i < n → ys.length ≤ i → Inv i ys σ₁.n → (∀ x a, cl.lookup x = some a → σ₁.c x = σ.c x) → Cx G own σ h₁ → Ok (CG G h₁ (compEnvC scope cl C G.env)) d → Pm i m₁ σ₁ → CTurn (CG G h₁ (compEnvC scope cl C G.env)) elt ifs σ₁ (fun y l => Inv (i + 1) (ys ++ [y]) l) (fun l => Inv (i + 1) ys l))
    (hz : n ≤ 1000000) :
    Tm G σ (eval (.ListComp elt [⟨target, iter, ifs, 0⟩] scope pos) G.env) (fun v σ' => ∃ D ys n' led, v = .ref D ∧ Inv n ys led ∧ ys.length ≤ n ∧ σ' = { σ with n := (D, listOf ys.toArray n') :: (led ++ σ.n) } ∧ ∀ p ∈ (D, listOf ys.toArray n') :: led, ∀ q ∈ σ.n, p.1 ≠ q.1) := fun own s Q E c k => by
  rw [eval_ListComp]
  refine comp_core O (use := none) c hsrc hT hclos hcl hcell hkind hnames hs Inv h0 (fun i ys m₁ σ₁ h₁ C a b e f g o p => turn i ys m₁ σ₁ own h₁ C a b e f g o p) hz fun D C ys n' led h₁ h₂ tk m inv hl c₁ kp hn hC ns => ⟨m, ns, fun h₃ hs₃ => ?_⟩
  exact k (.ref D) _ h₃ tk ⟨D, ys, n', led, rfl, inv, hl, rfl, fun p hp q hq e => by have := (hn p hp).2.1; rw [e, c₁.get hq] at this; cases this⟩ (c₁.compEnd (nw := (D, listOf ys.toArray n') :: led) kp hC hs₃ hn)

/-- y = [elt for target in iter if ..] -/
theorem tm_assignComp (O : Ok G d) {y : Str} {py spos : Pos} {elt target iter : Expr} {ifs : List Expr} {scope : Scope} {cl : List (Str × Addr)} {pos : Pos} {n : Nat} {Pm : Nat → Sg → Sg → Prop} {T : Env → Prop}
    (hsrc : CSrc G σ target iter n Pm T) (hT : ∀ C, T (compEnvC scope cl C G.env)) (hclos : closureFor scope G.env = pure cl) (hcl : ∀ x a, cl.lookup x = some a → G.env.cells.lookup x = some a) (hcell : ∀ y ∈ scope.names, y.2 ≠ .cell) (hkind : scope.kind = .function)
    (hnames : ∀ x ∈ scope.names, x.2 = .local → scope.names.lookup x.1 = some .local) (hs : ∀ x, foldedSetIterable iter G.env x = pure x)
    (Inv : Nat → List Value → Led → Prop) (h0 : Inv 0 [] [])
    (turn : ∀ i ys m₁ σ₁ own h₁ C, i < n → ys.length ≤ i → Inv i ys σ₁.n → (∀ x a, cl.lookup x = some a → σ₁.c x = σ.c x) → Cx G own σ h₁ → Ok (CG G h₁ (compEnvC scope cl C G.env)) d → Pm i m₁ σ₁ → CTurn (CG G h₁ (compEnvC scope cl C G.env)) elt ifs σ₁ (fun y l => Inv (i + 1) (ys ++ [y]) l) (fun l => Inv (i + 1) ys l))
    (hz : n ≤ 1000000) (hy : G.env.kindOf y = some .local) (hsw : swapsWith (.ListComp elt [⟨target, iter, ifs, 0⟩] scope pos) (some (.Name y py)) spos.line G.env = pure true) :
    Tm G σ (exec (.Assign [.Name y py] (.ListComp elt [⟨target, iter, ifs, 0⟩] scope pos) spos) G.env) (fun f σ' => f = .next ∧ ∃ D ys n' led, Inv n ys led ∧ ys.length ≤ n ∧ σ' = { σ with m := put σ.m y (.ref D), n := (D, listOf ys.toArray n') :: (led ++ σ.n) } ∧ ∀ p ∈ (D, listOf ys.toArray n') :: led, ∀ q ∈ σ.n, p.1 ≠ q.1) := fun own s Q E c k => by
  rw [exec_Assign_Name_used _ _ _ _ hsw]
  refine wpAny_bind (wpAny_standAt (wpAny_bind ?_))
  show wpAny _ _ (do let _ ← comprehension (.ListComp elt [⟨target, iter, ifs, 0⟩] scope pos) scope G.env _ (newList []) false (eval iter G.env) (some (assign (.Name y py) G.env))) _ _ s
  refine wpAny_bind (comp_core O (use := some (assign (.Name y py) G.env)) c hsrc hT hclos hcl hcell hkind hnames hs Inv h0 (fun i ys m₁ σ₁ h₁ C a b e f g o p => turn i ys m₁ σ₁ own h₁ C a b e f g o p) hz fun D C ys n' led h₁ h₂ tk m inv hl c₁ kp hn hC ns => ?_)
  have c₂ : Cx G own { σ with n := ((D, listOf ys.toArray n') :: led) ++ σ.n } h₂ := c₁.fresh kp fun p hp => ⟨(hn p hp).1, (hn p hp).2.1⟩
  obtain ⟨oC, eC, pC, gC, r⟩ := ns
  have c₃ : Cx G ((C, oC) :: own) { σ with n := ((D, listOf ys.toArray n') :: led) ++ σ.n } h₂ := by
    have f := Off.fresh (c := c₁) hC
    have off : ∀ p ∈ ((D, listOf ys.toArray n') :: led) ++ σ.n, p.1 ≠ C := fun p hp e => by
      rcases List.mem_append.mp hp with q | q
      · exact (hn p q).2.2 e
      · exact f.n p (List.mem_append_right _ q) (by simp [e])
    refine ⟨c₂.F, fun p hp => ?_, c₂.C, fun p hp q hq e => ?_, fun p hp x a ha e => ?_⟩
    · rcases List.mem_cons.mp hp with rfl | hp
      · exact ⟨gC, fun e => f.L (by simp [← e]), f.h C (by simp)⟩
      · exact c₂.N p hp
    · rcases List.mem_cons.mp hp with rfl | hp
      · exact off q hq e.symm
      · exact c₂.offO p hp q hq e
    · rcases List.mem_cons.mp hp with rfl | hp
      · exact f.c x a ha (by simp [← e])
      · exact c₂.offC p hp x a ha e
  refine tm_toName O hy ((C, oC) :: own) { s with heap := h₂, toks := tk } _ E c₃ fun u σ₄ h₄ tk₄ e₄ c₄ => ?_
  obtain ⟨e₄, _⟩ := e₄
  subst e₄
  have gC₄ := (c₄.N (C, oC) (.head _)).1
  refine ⟨m, ⟨oC, eC, pC, gC₄, r⟩, fun h₅ hs₅ => wpAny_pure (wpAny_pure (k .next _ h₅ tk₄ ⟨rfl, D, ys, n', led, inv, hl, rfl, fun p hp q hq e => by have := (hn p hp).2.1; rw [e, c₁.get hq] at this; cases this⟩ ?_))⟩
  have f := c₄.N (C, oC) (.head _)
  refine ⟨⟨c₄.F.ns.sameBut hs₅ (Ne.symm f.2.1), fun b o e => (hs₅.2 b fun q => ?_).trans (c₄.F.keep b o e), c₄.F.above⟩, fun p hp => ?_, fun x a ha => (c₄.C x a ha).sameBut hs₅ fun e => ?_, fun p hp => c₄.offO p (.tail _ hp), fun p hp => c₄.offC p (.tail _ hp)⟩
  · rw [q, f.2.2] at e; cases e
  · have := c₄.N p (.tail _ hp)
    refine ⟨(hs₅.2 _ fun q => ?_).trans this.1, this.2⟩
    rcases List.mem_append.mp hp with r | r
    · have fr := Off.fresh (c := c₁) hC
      exact fr.n p (List.mem_append_left _ r) (by simp [q])
    · exact c₄.offO (C, oC) (.head _) p r q.symm
  · exact c₄.offC (C, oC) (.head _) x a ha e.symm

/-- tests -/
theorem ct_none {elt : Expr} {Yes : Value → Led → Prop} {No : Led → Prop} (h : Tm G σ (eval elt G.env) (fun y σ'' => Yes y σ''.n)) : CTurn G elt [] σ Yes No := fun own s Q E c k =>
  wpAny_tests_nil (k true σ s.heap s.toks h c)
theorem ct_one {elt t : Expr} {b : Bool} {Yes : Value → Led → Prop} {No : Led → Prop} (ht : Tr G σ (PySem.isTrue t G.env (eval t G.env)) (fun x => x = b)) (hy : b = true → Tm G σ (eval elt G.env) (fun y σ'' => Yes y σ''.n)) (hn : b = false → No σ.n) : CTurn G elt [t] σ Yes No := fun own s Q E c k =>
  wpAny_tests_one (ht own s _ E c fun ok h₁ t₁ e c₁ => by
    subst e
    refine k ok σ h₁ t₁ ?_ c₁
    cases ok with
    | true => exact hy rfl
    | false => exact hn rfl)

/-- sources of comprehensions -/
theorem csrc_range (O : Ok G d) {x : Str} {p : Pos} {iter : Expr} {a b : Int} (he : Tm G σ (eval iter G.env) (fun v σ₁ => ∃ r t u w, v = .ref r ∧ σ₁ = { σ with n := (r, { cls := .type "range", data := .fields #[.int a t, .int b u, .int 1 w] }) :: σ.n }))
    (ha : -1000 ≤ a) (ha' : a ≤ 100000000) (hb : b ≤ 100000000) (hb' : -1000 ≤ b) :
    CSrc G σ (.Name x p) iter (b - a).toNat (toN x (fun i v => IsI (a + (i : Int)) v)) (fun env => env.kindOf x = some .local) := fun own s Q E c k =>
  he own s _ E c fun v σ₁ h₁ t₁ ⟨r, t, u, w, e, e₁⟩ c₁ => by
    subst e; subst e₁
    refine wpAny_pyIter_range (s := { s with heap := h₁, toks := t₁ }) (c₁.get (.head _)) (range_small ha ha' hb hb') ?_
    exact k (.ref h₁.objs.size) [h₁.objs.size] _ h₁ _ t₁ [] (Cx.drop (nw := [_]) c₁) (fun b o e => Heap.get?_push_of_some _ e) (fun b hb => by obtain rfl := List.mem_singleton.mp hb; exact ⟨get_size _, by rw [Heap.size_push]; exact Nat.lt_succ_self _⟩) (by rw [Heap.size_push]; exact Nat.le_succ _) (fun _ h => nomatch h)
      (fun env' d' hx O' => drv_range O' hx) range_iter0
theorem csrc_list (O : Ok G d) {target iter : Expr} {its : Array Value} {Pm : Nat → Sg → Sg → Prop} {T : Env → Prop} (he : Tm G σ (eval iter G.env) (fun v σ₁ => (∃ nw, σ₁ = { σ with n := nw ++ σ.n }) ∧ ∃ l o, v = .ref l ∧ Fx G σ₁ [(l, o)] ∧ Obj.lst o its))
    (hgo : ∀ (I l : Addr) i (s : Shared) v (Q : Unit → Shared → Prop) (E : Value → Shared → Prop), s.heap.IsListIter I l i → its[i - 1]? = some v → Q () s → wpAny (model G.prog G.w) G.A (letOwnedTupleGo target (.ref I) v) Q E s)
    (has : ∀ own h₁ env' d l o i v σ₁ nw, Cx G own { σ with n := nw ++ σ.n } h₁ → T env' → Ok (CG G h₁ env') d → its[i]? = some v → Fx (CG G h₁ env') σ₁ [(l, o)] → Tm (CG G h₁ env') σ₁ (assign target env' v) (fun _ σ' => Pm i σ₁ σ' ∧ σ'.n = σ₁.n)) : CSrc G σ target iter its.size Pm T := fun own s Q E c k =>
  he own s _ E c fun v σ₁ h₁ t₁ ⟨⟨nw, e₁⟩, l, o, e, fx, ho⟩ c₁ => by
    subst e; subst e₁
    have gl := fx.get c₁ _ (.head _)
    have il : h₁.IsList l its := ⟨o, gl, ho.1, ho.2⟩
    refine wpAny_pyIter_list (s := { s with heap := h₁, toks := t₁ }) il ?_
    exact k (.ref h₁.objs.size) [h₁.objs.size] _ h₁ _ t₁ [(l, o)] (Cx.drop c₁) (fun b o e => Heap.get?_push_of_some _ e) (fun b hb => by obtain rfl := List.mem_singleton.mp hb; exact ⟨get_size _, by rw [Heap.size_push]; exact Nat.lt_succ_self _⟩) (by rw [Heap.size_push]; exact Nat.le_succ _) (fun p hp => by obtain rfl := List.mem_singleton.mp hp; exact gl)
      (fun env' d' hx O' => drv_list O' (Nat.ne_of_lt (Heap.lt_size gl)) (hgo _ _) (fun i v σ hv hf => has own h₁ env' d' l o i v σ nw c₁ hx O' hv hf)) ⟨⟨_, Heap.get?_push_size _ rfl, rfl, rfl⟩, il.push _⟩
theorem csrc_enum (O : Ok G d) {x y : Str} {p q tp np pos : Pos} {n : Nat} {el : Expr} {l : Addr} {o : Obj} {its : Array Value} (hn : nsIn G.K mainGlobals "enumerate" = some none) (hg : G.env.kindOf "enumerate" = some .globalImplicit) (he : Tr G σ (eval el G.env) (IsV (.ref l))) (hl : Fx G σ [(l, o)]) (ho : Obj.lst o its)
    (hs : starEach [el] G.env = [(false, eval el G.env)] := by rfl) :
    CSrc G σ (.Tuple [.Name x p, .Name y q] n tp) (.Call (.Name "enumerate" np) [el] [] pos) its.size (toE x y its) (fun env => env.kindOf x = some .local ∧ env.kindOf y = some .local) := fun own s Q E c k =>
  enum_made O hn hg he hl ho hs c fun h₂ h₃ tk c₂ kp hz gl ll en it il =>
    k _ [h₂.objs.size + 1, h₂.objs.size] _ h₂ h₃ tk [(l, o)] c₂ kp (fun b hb => by rcases List.mem_cons.mp hb with rfl | hb; exact ⟨none_above (Nat.le_succ _), by rw [hz]; exact Nat.lt_succ_self _⟩; obtain rfl := List.mem_singleton.mp hb; exact ⟨none_above (Nat.le_refl _), by rw [hz]; exact Nat.lt_succ_of_lt (Nat.lt_succ_self _)⟩) (by rw [hz]; exact Nat.le_add_right _ 2) (fun p hp => by obtain rfl := List.mem_singleton.mp hp; exact gl)
      (fun env' d' hx O' => drv_enum O' (Nat.succ_ne_self _) (Nat.ne_of_lt (Nat.lt_succ_of_lt ll)) (Nat.ne_of_lt ll) hx.1 hx.2) ⟨⟨_, by simpa using en⟩, it, il⟩
end
end Mine
open PySem PySem.W PySem.Calls PyProof.Rows
set_option Elab.async false
set_option maxRecDepth 100000
set_option maxHeartbeats 4000000
set_option linter.unusedVariables false
namespace Mine
section
variable {G : Gx} {σ : Sg} {d : Nat}

theorem Tm.tr {α : Type} {t : Sem α} {P : α → Prop} (h : Tm G σ t (fun v σ' => ∃ nw, σ' = { σ with n := nw ++ σ.n } ∧ P v)) : Tr G σ t P := fun own s Q E c k =>
  h own s Q E c fun v σ' h' tk' ⟨nw, e, p⟩ c' => by subst e; exact k v h' tk' p c'.drop

theorem tm_list {elts : List Expr} {pos : Pos} {P : List Value → Sg → Prop} {R : Value → Sg → Prop} (ha : Tm G σ (spliced (backTo pos (starEach elts G.env))) P) (hr : ∀ vs σ' l, P vs σ' → (∀ p ∈ σ'.n, p.1 ≠ l) → R (.ref l) { σ' with n := (l, listOf vs.toArray 0) :: σ'.n }) (hl : elts.length ≤ 100) (hp : ∀ vs σ', P vs σ' → vs.length ≤ 100) :
    Tm G σ (eval (.List elts pos) G.env) R := fun own s Q E c k =>
  List_ (ha own s _ E c fun vs σ₁ h₁ t₁ p c₁ => wpAny_newObj_type (k _ _ _ _ (hr vs σ₁ h₁.objs.size p fun q hq e => by have := c₁.get hq; rw [e, get_size] at this; cases this) (c₁.pushN _)) (by show vs.toArray.size ≤ sizeLine; rw [List.size_toArray, sizeLine_eq]; have := hp vs σ₁ p; omega))
theorem tm_tuple {elts : List Expr} {m : Nat} {pos : Pos} {P : List Value → Sg → Prop} {R : Value → Sg → Prop} (ha : Tm G σ (spliced (backTo pos (starEach elts G.env))) P) (hr : ∀ vs σ' l, P vs σ' → (∀ p ∈ σ'.n, p.1 ≠ l) → R (.ref l) { σ' with n := (l, { cls := .type "tuple", data := .seq vs.toArray }) :: σ'.n }) (hp : ∀ vs σ', P vs σ' → vs.length ≤ 100) :
    Tm G σ (eval (.Tuple elts m pos) G.env) R := fun own s Q E c k =>
  Tuple_ (ha own s _ E c fun vs σ₁ h₁ t₁ p c₁ => wpAny_newObj_type (k _ _ _ _ (hr vs σ₁ h₁.objs.size p fun q hq e => by have := c₁.get hq; rw [e, get_size] at this; cases this) (c₁.pushN _)) (by show vs.toArray.size ≤ sizeLine; rw [List.size_toArray, sizeLine_eq]; have := hp vs σ₁ p; omega))
theorem tm_dict0 (O : Ok G d) {pos : Pos} {R : Value → Sg → Prop} (hr : ∀ a o, o.IsDictOf (SK G) [] → (a == sysModules) = false → (∀ p ∈ σ.n, p.1 ≠ a) → R (.ref a) { σ with n := (a, o) :: σ.n }) : Tm G σ (eval (.Dict [] [] pos) G.env) R := fun own s Q E c k => by
  refine wpAny_Dict_empty ?_
  have hd : (s.heap.push { cls := .type "dict", data := .dict #[] }).DictOf (SK G) s.heap.objs.size [] := ⟨_, #[], 0, Heap.get?_push_size _ rfl, ⟨rfl, rfl, rfl⟩, rfl, fun e he => by simp at he, by exact .nil, by simp⟩
  obtain ⟨o, ho, hod⟩ := Heap.dictOf_iff.mp hd
  obtain ⟨p, lo, mg, mb, T⟩ := O.T
  have big : sysModules < s.heap.objs.size := modules_low (T.nolimit.keeps c.F.keep)
  have e : o = { cls := .type "dict", data := .dict #[] } := by
    have := Heap.get?_push_size s.heap (o := { cls := .type "dict", data := .dict #[] }) rfl
    rw [ho] at this; exact Option.some.inj this
  subst e
  exact k _ _ _ _ (hr _ _ hod (by simp only [beq_eq_false_iff_ne, ne_eq]; exact Nat.ne_of_gt big) fun q hq e => by have := c.get hq; rw [e, get_size] at this; cases this) (c.pushN _)

theorem tr_len_list {a : Addr} {its : Array Value} (hl : Ent G σ (fun h => h.IsList a its)) (hz : its.size ≤ 16777216) : Tr G σ (call (.builtin "len") [.ref a]) (IsI its.size) := fun own s Q E c k =>
  call_len_list (hl own _ c) (by omega) (k _ s.heap _ ⟨_, rfl⟩ c)
theorem tr_len_dict {a : Addr} {kvs : List (Str × Value)} (hl : Ent G σ (fun h => h.DictOf (SK G) a kvs)) (hlo : (a == sysModules) = false) (hz : kvs.length ≤ 16777216) : Tr G σ (call (.builtin "len") [.ref a]) (IsI kvs.length) := fun own s Q E c k =>
  call_len_dict (knd := SK G) hlo (hl own _ c) (by omega) (k _ s.heap _ ⟨_, rfl⟩ c)
theorem tr_len_str {x : Str} {v : Value} (hv : IsS x v) (hz : x.length ≤ 16777216) : Tr G σ (call (.builtin "len") [v]) (IsI x.length) := by
  obtain ⟨t, rfl⟩ := hv
  exact fun own s Q E c k => SBL.len (by omega) (k _ s.heap _ ⟨_, rfl⟩ c)
theorem tr_chr {i : Int} {v : Value} (hv : IsI i v) (h0 : 0 ≤ i) (h1 : i ≤ 1114111) : Tr G σ (call (.builtin "chr") [v]) (IsS ⟨#[i.toNat]⟩) := by
  obtain ⟨t, rfl⟩ := hv
  exact fun own s Q E c k => chr_of_range h0 h1 (k _ s.heap _ ⟨_, rfl⟩ c)

/-- f(x) of a built-in function upon what changes nothing -/
theorem tr_fn1 (O : Ok G d) {x : Str} {np pos : Pos} {id : String} {e : Expr} {P : Value → Prop} {R : Value → Prop} (hn : nsIn G.K mainGlobals x = some none) (hb : bootBuiltins x = some (.builtin id)) (hg : G.env.kindOf x = some .globalImplicit) (he : Tr G σ (eval e G.env) P) (hc : ∀ v, P v → Tr G σ (call (.builtin id) [v]) R)
    (hs : starEach [e] G.env = [(false, eval e G.env)] := by rfl) (hx : x ≠ "__name__" := by decide) (hd : (x == ("__debug__" : Str)) = false := by decide) : Tr G σ (eval (.Call (.Name x np) [e] [] pos) G.env) R :=
  Tm.r (tm_callB (tr_blt O hn hb hx hg hd) (tr_arg1 he hs).m (fun vs σ' p => by obtain ⟨rfl, v, rfl, pv⟩ := p; exact (hc v pv).m) (by rw [hs]; rfl) rfl)

theorem tr_nameP (O : Ok G d) {x : Str} {pos : Pos} {v : Value} {P : Value → Prop} (hv : σ.m x = some v) (hp : P v) (hx : G.env.kindOf x = some .local := by rfl) (hd : (x == ("__debug__" : Str)) = false := by decide) : Tr G σ (eval (.Name x pos) G.env) P :=
  Tr.mono (tr_name O hv hx hd) fun u e => by subst e; exact hp
theorem tr_nameI (O : Ok G d) {x : Str} {pos : Pos} {a : Int} {t : Tok} (hv : σ.m x = some (.int a t)) (hx : G.env.kindOf x = some .local := by rfl) (hd : (x == ("__debug__" : Str)) = false := by decide) : Tr G σ (eval (.Name x pos) G.env) (IsI a) := tr_nameP O hv ⟨t, rfl⟩ hx hd
theorem tr_nameS (O : Ok G d) {x : Str} {pos : Pos} {a : Str} {t : Tok} (hv : σ.m x = some (.str a t)) (hx : G.env.kindOf x = some .local := by rfl) (hd : (x == ("__debug__" : Str)) = false := by decide) : Tr G σ (eval (.Name x pos) G.env) (IsS a) := tr_nameP O hv ⟨t, rfl⟩ hx hd
theorem tr_nameCP (O : Ok G d) {x : Str} {pos : Pos} {v : Value} {a : Addr} {P : Value → Prop} (ha : G.env.cells.lookup x = some a) (hv : σ.c x = some v) (hp : P v) (hx : G.env.kindOf x = some .cell := by rfl) (hd : (x == ("__debug__" : Str)) = false := by decide) : Tr G σ (eval (.Name x pos) G.env) P :=
  Tr.mono (tr_nameC O ha hv hx hd) fun u e => by subst e; exact hp

/-- what is wanted behind a statement -/
def Cont (G : Gx) (rest : List Stmt) (R : Flow → Sg → Prop) (f : Flow) (σ' : Sg) : Prop := match f with
  | .next => Tm G σ' (execs rest G.env) R
  | .brk => R .brk σ'
  | .cont => R .cont σ'
  | .ret v => R (.ret v) σ'
theorem seq {st : Stmt} {rest : List Stmt} {R : Flow → Sg → Prop} (h : Tm G σ (exec st G.env) (Cont G rest R)) : Tm G σ (execs (st :: rest) G.env) R :=
  tm_cons h (fun σ' p => p) fun f σ' hf p => by
    cases f with
    | next => exact absurd rfl (hf ())
    | brk => exact p
    | cont => exact p
    | ret v => exact p
theorem seq_assign (O : Ok G d) {x : Str} {p pos : Pos} {e : Expr} {rest : List Stmt} {P : Value → Sg → Prop} {R : Flow → Sg → Prop} (he : Tm G σ (eval e G.env) P) (hr : ∀ v σ', P v σ' → Tm G { σ' with m := put σ'.m x v } (execs rest G.env) R)
    (hx : G.env.kindOf x = some .local := by rfl) (hw : swapsWith e (some (.Name x p)) pos.line G.env = pure false := by rfl) : Tm G σ (execs (.Assign [.Name x p] e pos :: rest) G.env) R := seq (tm_assign O he hr hx hw)
theorem seq_assignC (O : Ok G d) {x : Str} {p pos : Pos} {e : Expr} {a : Addr} {rest : List Stmt} {P : Value → Sg → Prop} {R : Flow → Sg → Prop} (ha : G.env.cells.lookup x = some a) (a0 : G.h₀.get? a = none) (he : Tm G σ (eval e G.env) P) (hr : ∀ v σ', P v σ' → Tm G { σ' with c := put σ'.c x v } (execs rest G.env) R)
    (hx : G.env.kindOf x = some .cell := by rfl) (hw : swapsWith e (some (.Name x p)) pos.line G.env = pure false := by rfl) : Tm G σ (execs (.Assign [.Name x p] e pos :: rest) G.env) R := seq (tm_assignC O ha a0 he hr hx hw)
theorem seq_ret {e : Expr} {pos : Pos} {rest : List Stmt} {R : Flow → Sg → Prop} (he : Tm G σ (eval e G.env) (fun v σ' => R (.ret v) σ')) : Tm G σ (execs (.Return (some e) pos :: rest) G.env) R := seq (tm_ret he fun v σ' p => p)
theorem seq_if {t : Expr} {a b rest : List Stmt} {pos : Pos} {x : Bool} {R : Flow → Sg → Prop} (ht : Tr G σ (PySem.isTrue t G.env (eval t G.env)) (fun y => y = x)) (hy : x = true → Tm G σ (execs a G.env) (Cont G rest R)) (hn : x = false → Tm G σ (execs b G.env) (Cont G rest R)) : Tm G σ (execs (.If t a b pos :: rest) G.env) R :=
  seq (tm_if ht (by cases x; exact hn rfl; exact hy rfl))
theorem seq_ifRet {t e : Expr} {rest : List Stmt} {pos p' : Pos} {x : Bool} {R : Flow → Sg → Prop} (ht : Tr G σ (PySem.isTrue t G.env (eval t G.env)) (fun y => y = x)) (hy : x = true → Tm G σ (eval e G.env) (fun v σ' => R (.ret v) σ')) (hn : x = false → Tm G σ (execs rest G.env) R) : Tm G σ (execs (.If t [.Return (some e) p'] [] pos :: rest) G.env) R :=
  seq_if ht (fun h => seq_ret (hy h)) fun h => tm_nil (hn h)
theorem seq_nil {R : Flow → Sg → Prop} (h : R .next σ) : Tm G σ (execs [] G.env) R := tm_nil h

/-- an item of what is just made -/
theorem tr_itemA {ve ie : Expr} {pos : Pos} {k : Int} {R : Value → Prop} (hv : Tm G σ (eval ve G.env) (fun v σ' => ∃ nw l n' vs, v = .ref l ∧ σ' = { σ with n := nw ++ σ.n } ∧ (l, listOf (List.toArray vs) n') ∈ nw ∧ ∃ x, vs[k.toNat]? = some x ∧ R x)) (hi : ∀ nw, Tr G { σ with n := nw ++ σ.n } (eval ie G.env) (IsI k)) (h0 : 0 ≤ k) (hk : k < 2 ^ 63)
    (hs : ∀ l t, subscripted ie false (.ref l) (.int k t) = operate [.ref l, .int k t] (getItem (.ref l) (.int k t)) := by intro _ _; with_unfolding_all rfl) : Tr G σ (eval (.Subscript ve ie pos) G.env) R :=
  Tm.tr (tm_sub_ hv (Pb := fun a b σ' => ∃ nw l n' vs, a = .ref l ∧ σ' = { σ with n := nw ++ σ.n } ∧ (l, listOf (List.toArray vs) n') ∈ nw ∧ (∃ x, vs[k.toNat]? = some x ∧ R x) ∧ IsI k b)
    (fun a σ' ⟨nw, l, n', vs, e, e', hm, x⟩ => by subst e; subst e'; exact Tm.mono (hi nw).m fun b σ'' p => ⟨nw, l, n', vs, rfl, p.1, hm, x, p.2⟩)
    fun a b σ' ⟨nw, l, n', vs, e, e', hm, ⟨x, hx, r⟩, hb⟩ => by
      subst e; subst e'
      exact Tm.mono (tr_item (ent_list (List.mem_append_left _ hm)) rfl hb h0 hk (by simpa using hx) (hs l)).m fun v σ'' p => ⟨nw, p.1, by rw [p.2]; exact r⟩)
theorem tr_display {elts : List Expr} {ie : Expr} {lp pos : Pos} {k : Int} {P : List Value → Prop} {R : Value → Prop} (ha : Tr G σ (spliced (backTo lp (starEach elts G.env))) P) (hp : ∀ vs, P vs → vs.length ≤ 100 ∧ ∃ x, vs[k.toNat]? = some x ∧ R x) (hi : ∀ nw, Tr G { σ with n := nw ++ σ.n } (eval ie G.env) (IsI k)) (h0 : 0 ≤ k) (hk : k < 2 ^ 63) (hl : elts.length ≤ 100)
    (hs : ∀ l t, subscripted ie false (.ref l) (.int k t) = operate [.ref l, .int k t] (getItem (.ref l) (.int k t)) := by intro _ _; with_unfolding_all rfl) : Tr G σ (eval (.Subscript (.List elts lp) ie pos) G.env) R :=
  tr_itemA (tm_list ha.m (fun vs σ' l p _ => by obtain ⟨e, p⟩ := p; subst e; exact ⟨[(l, listOf (List.toArray vs) 0)], l, 0, vs, rfl, rfl, .head _, (hp vs p).2⟩) hl fun vs σ' p => (hp vs p.2).1) hi h0 hk hs

theorem tr_arg3 {e f g : Expr} {pos : Pos} {P R S : Value → Prop} (he : Tr G σ (eval e G.env) P) (hf : Tr G σ (eval f G.env) R) (hg : Tr G σ (eval g G.env) S) (hs : starEach [e, f, g] G.env = [(false, eval e G.env), (false, eval f G.env), (false, eval g G.env)] := by rfl) (hs1 : starEach [f, g] G.env = [(false, eval f G.env), (false, eval g G.env)] := by rfl) (hs2 : starEach [g] G.env = [(false, eval g G.env)] := by rfl) :
    Tr G σ (spliced (backTo pos (starEach [e, f, g] G.env))) (fun vs => ∃ v u w, vs = [v, u, w] ∧ P v ∧ R u ∧ S w) :=
  tr_arg (R := fun vs => ∃ v u w, vs = [v, u, w] ∧ P v ∧ R u ∧ S w) he (fun v pv => Tr.mono (tr_arg2 hf hg hs1 hs2) fun vs ⟨u, w, e, pu, pw⟩ => by subst e; exact ⟨v, u, w, rfl, pv, pu, pw⟩) (by rw [hs, hs1])
theorem tr_arg4 {e f g h : Expr} {pos : Pos} {P R S T : Value → Prop} (he : Tr G σ (eval e G.env) P) (hf : Tr G σ (eval f G.env) R) (hg : Tr G σ (eval g G.env) S) (hh : Tr G σ (eval h G.env) T) (hs : starEach [e, f, g, h] G.env = [(false, eval e G.env), (false, eval f G.env), (false, eval g G.env), (false, eval h G.env)] := by rfl) (hs1 : starEach [f, g, h] G.env = [(false, eval f G.env), (false, eval g G.env), (false, eval h G.env)] := by rfl) (hs2 : starEach [g, h] G.env = [(false, eval g G.env), (false, eval h G.env)] := by rfl) (hs3 : starEach [h] G.env = [(false, eval h G.env)] := by rfl) :
    Tr G σ (spliced (backTo pos (starEach [e, f, g, h] G.env))) (fun vs => ∃ v u w x, vs = [v, u, w, x] ∧ P v ∧ R u ∧ S w ∧ T x) :=
  tr_arg (R := fun vs => ∃ v u w x, vs = [v, u, w, x] ∧ P v ∧ R u ∧ S w ∧ T x) he (fun v pv => Tr.mono (tr_arg3 hf hg hh hs1 hs2 hs3) fun vs ⟨u, w, x, e, pu, pw, px⟩ => by subst e; exact ⟨v, u, w, x, rfl, pv, pu, pw, px⟩) (by rw [hs, hs1])
end
end Mine
open PySem PySem.W PySem.Calls PyProof.Rows
set_option Elab.async false
set_option maxRecDepth 100000
set_option maxHeartbeats 4000000
set_option linter.unusedVariables false
namespace Mine

theorem strs_of_items {kvs : List (Str × Value)} : ∀ {vs : List Value}, vs.length = kvs.length → (∀ (j : Nat) (v : Value), vs[j]? = some v → ∃ k x, kvs[j]? = some (k, x) ∧ Value.isStrOf k v = true) → StrsAre vs (kvs.map (·.1)) := by
  induction kvs with
  | nil => intro vs h _; cases vs with
    | nil => exact .nil
    | cons v r => simp at h
  | cons p r ih =>
    intro vs h hv
    cases vs with
    | nil => simp at h
    | cons v vs =>
      obtain ⟨k, x, e, hs⟩ := hv 0 v rfl
      simp only [List.getElem?_cons_zero, Option.some.injEq] at e
      obtain ⟨t, rfl⟩ := Value.isStrOf_shape hs
      subst e
      exact .cons k t (ih (by simpa using h) fun j u hu => by simpa using hv (j + 1) u (by simpa using hu))

section
variable {G : Gx} {σ : Sg} {d : Nat}

theorem sortedHeap_old {h : Heap} {a b : Addr} {vs : List Value} {out : Array Value} {o : Obj} (hb : b ≠ a) (e : h.get? b = some o) : (sortedHeap h a vs out).get? b = some o := by
  have hlt := Heap.lt_size e
  unfold sortedHeap
  rw [Heap.get?_update_other _ _ (Ne.symm hb)]
  exact Heap.get?_push_of_some _ (Heap.get?_push_of_some _ ((Heap.get?_update_other _ _ (Ne.symm hb)).trans e))

/-- sorted(d) or sorted(d.keys()) over texts -/
theorem tm_sortedSrc (O : Ok G d) {T : String} {r a : Addr} {kvs : List (Str × Value)} {OK : Heap → Prop} (K : KdlSrc G.prog G.w T r a kvs.length (fun i v => ∃ k x, kvs[i]? = some (k, x) ∧ (SK G).is k v = true) OK) (hok : Ent G σ OK) (hz : kvs.length < 64) :
    Tm G σ (call (.builtin "sorted") [.ref r]) (fun v σ' => ∃ l n' vs ss, v = .ref l ∧ σ' = { σ with n := (l, listOf (List.toArray vs) n') :: σ.n } ∧ StrsAre vs ss ∧ ss.Perm (kvs.map (·.1)) ∧ sortedS ss = true ∧ ∀ p ∈ σ.n, p.1 ≠ l) := fun own s Q E c k => by
  refine Calls.call_function_entry kind_sorted plain_sorted entry_sorted (args_sorted1 _) ?_
  unfold Builtin.«sorted»
  refine wpAny_bind (m := checkCount "sorted" 1 1 _) (wpAny_pure ?_)
  refine wpAny_bind (kdu_collect (A := G.A.in1) K O.hh (hok own _ c) (by rw [sizeLine_eq]; omega) fun h' tk acc hk hacc => ?_)
  have hl : acc.toList.length = kvs.length := by rw [Array.length_toList]; exact hacc.1
  have hS : StrsAre acc.toList (kvs.map (·.1)) := strs_of_items hl fun j v e => hacc.2 j v (by rw [← Array.getElem?_toList]; exact e)
  refine wpAny_bind (wpAny_newList ?_ (by rw [hl, sizeLine_eq]; omega))
  have hoL : (h'.push (seqObj "list" acc.toList.toArray 0)).get? h'.objs.size = some (seqObj "list" acc.toList.toArray 0) := Heap.get?_push_size _ rfl
  refine wpAny_bind (wpAny_holding (wpAny_call_entry slot_list_sort ⟨_, hoL, rfl⟩ entry_list_sort (list_sort_treeK strKind_oneLt hoL hS.keysOf (fun v₁ v₂ rest e => keyKind_strs (by rw [← e]; exact hS)) (by omega) fun st' a1 a2 => ⟨_, rfl, ?_⟩) (args_list_sort _)))
  obtain ⟨ss, h1, h2, h3⟩ := sorted_out_str hS a1 a2
  refine wpAny_pure ⟨_, rfl, ?_⟩
  obtain ⟨e, he⟩ := sortedHeap_at (h := h'.push (seqObj "list" acc.toList.toArray 0)) (a := h'.objs.size) (vs := acc.toList) (out := (arrOf st').map (·.2)) hoL
  have nn : s.heap.get? h'.objs.size = none := by
    cases q : s.heap.get? h'.objs.size with
    | none => rfl
    | some o => exact absurd (Heap.lt_size (hk _ _ q)) (Nat.lt_irrefl _)
  refine k (.ref h'.objs.size) _ _ tk ⟨h'.objs.size, e, ((arrOf st').map (·.2)).toList, ss, rfl, rfl, h1, h2, h3, fun p hp q => by have := c.get hp; rw [q, nn] at this; cases this⟩ ?_
  refine c.fresh (nw := [(h'.objs.size, listOf ((arrOf st').map (·.2)).toList.toArray e)]) (fun b o q => sortedHeap_old (fun e => by rw [e, nn] at q; cases q) (Heap.get?_push_of_some _ (hk _ _ q))) fun p hp => ?_
  obtain rfl := List.mem_singleton.mp hp
  refine ⟨?_, nn⟩
  have eo : listOf ((arrOf st').map (·.2)).toList.toArray e = seqObj "list" ((arrOf st').map (·.2)) e := by rw [Array.toArray_toList]
  show _ = some (listOf _ e)
  rw [eo]; exact he

theorem tm_keysView {a : Addr} {kvs : List (Str × Value)} (hd : Ent G σ (fun h => h.DictOf (SK G) a kvs)) (hlo : (a == sysModules) = false) :
    Tm G σ (call (.builtin "dict.keys") [.ref a]) (fun v σ' => ∃ r, v = .ref r ∧ σ' = { σ with n := (r, { cls := .type "dict_keys", data := .fields #[.ref a] }) :: σ.n } ∧ ∀ p ∈ σ.n, p.1 ≠ r) := fun own s Q E c k =>
  call_meetsIn PySem.F.slot_dict_keys (hd own _ c).typeIs PySem.F.entry_dict_keys (PySem.F.args_dict_keys_1 _) (kdl_meets_keys (SK G) a hlo) ⟨⟨kvs, hd own _ c⟩, k _ _ _ _ ⟨_, rfl, rfl, fun q hq e => by have := c.get hq; rw [e, get_size] at this; cases this⟩ (c.pushN _)⟩

theorem ent_dictAt {a : Addr} {o : Obj} {kvs : List (Str × Value)} (hl : Fx G σ [(a, o)]) (ho : o.IsDictOf (SK G) kvs) : ∃ ep, Ent G σ (fun h => h.DictAt (SK G) a kvs ep) := by
  obtain ⟨es, ep, h⟩ : ∃ es ep, o.data = .dict es ep := by
    obtain ⟨es, ep, _, h, _⟩ := ho
    exact ⟨es, ep, h⟩
  refine ⟨ep, fun own hp c => ?_⟩
  have g := hl.get c _ (.head _)
  obtain ⟨es', ep', h1, h2, h3⟩ := ho
  rw [h] at h2; cases h2
  exact ⟨o, es, g, h1, h, h3⟩

/-- sorted(d.keys()) -/
theorem tm_sortedKeys (O : Ok G d) {a : Addr} {o : Obj} {kvs : List (Str × Value)} {r : Addr} (hl : Fx G σ [(a, o)]) (ho : o.IsDictOf (SK G) kvs) (hv : (r, { cls := .type "dict_keys", data := .fields #[.ref a] }) ∈ σ.n) (hz : kvs.length < 64) :
    Tm G σ (call (.builtin "sorted") [.ref r]) (fun v σ' => ∃ l n' vs ss, v = .ref l ∧ σ' = { σ with n := (l, listOf (List.toArray vs) n') :: σ.n } ∧ StrsAre vs ss ∧ ss.Perm (kvs.map (·.1)) ∧ sortedS ss = true ∧ ∀ p ∈ σ.n, p.1 ≠ l) := by
  obtain ⟨ep, he⟩ := ent_dictAt hl ho
  exact tm_sortedSrc O (kdl_keys (knd := SK G) (r := r) (d := a) (kvs := kvs) (ep := ep)) (fun own h c => ⟨⟨_, c.get hv, rfl, rfl⟩, he own h c⟩) hz
/-- sorted(d) -/
theorem tm_sortedDict (O : Ok G d) {a : Addr} {o : Obj} {kvs : List (Str × Value)} (hl : Fx G σ [(a, o)]) (ho : o.IsDictOf (SK G) kvs) (hlo : (a == sysModules) = false) (hz : kvs.length < 64) :
    Tm G σ (call (.builtin "sorted") [.ref a]) (fun v σ' => ∃ l n' vs ss, v = .ref l ∧ σ' = { σ with n := (l, listOf (List.toArray vs) n') :: σ.n } ∧ StrsAre vs ss ∧ ss.Perm (kvs.map (·.1)) ∧ sortedS ss = true ∧ ∀ p ∈ σ.n, p.1 ≠ l) := by
  obtain ⟨ep, he⟩ := ent_dictAt hl ho
  exact tm_sortedSrc O (kdl_dict (knd := SK G) (d := a) (kvs := kvs) (ep := ep) hlo) (fun own h c => he own h c) hz
/-- list(d) -/
theorem tm_listDict (O : Ok G d) {a : Addr} {o : Obj} {kvs : List (Str × Value)} (hl : Fx G σ [(a, o)]) (ho : o.IsDictOf (SK G) kvs) (hlo : (a == sysModules) = false) (hz : kvs.length ≤ 1000000) :
    Tm G σ (call (.type "list") [.ref a]) (fun v σ' => ∃ l n' vs, v = .ref l ∧ σ' = { σ with n := (l, listOf (List.toArray vs) n') :: σ.n } ∧ StrsAre vs (kvs.map (·.1)) ∧ ∀ p ∈ σ.n, p.1 ≠ l) := fun own s Q E c k => by
  obtain ⟨ep, he⟩ := ent_dictAt hl ho
  refine kdl_call (kdl_dict (knd := SK G) (d := a) (kvs := kvs) (ep := ep) hlo) O.hh (he own _ c) (by rw [sizeLine_eq]; omega) fun h' tk acc c' hk hD hacc => ?_
  have hl : acc.toList.length = kvs.length := by rw [Array.length_toList]; exact hacc.1
  have hS : StrsAre acc.toList (kvs.map (·.1)) := strs_of_items hl fun j v e => hacc.2 j v (by rw [← Array.getElem?_toList]; exact e)
  refine k (.ref s.heap.objs.size) _ h' tk ⟨_, c', acc.toList, rfl, rfl, hS, fun p hp q => by have := c.get hp; rw [q, get_size] at this; cases this⟩ ?_
  refine c.fresh (nw := [(s.heap.objs.size, listOf acc.toList.toArray c')]) hk fun p hp => ?_
  obtain rfl := List.mem_singleton.mp hp
  exact ⟨by rw [Array.toArray_toList]; exact hD, get_size _⟩
end
end Mine
open PySem PySem.W PySem.Calls PyProof.Rows
set_option Elab.async false
set_option maxRecDepth 100000
set_option maxHeartbeats 4000000
set_option linter.unusedVariables false
namespace Mine

/-- a tree that may raise -/
def Tq {α : Type} (G : Gx) (σ : Sg) (X : Led → Addr → Heap → Prop) (t : Sem α) (P : α → Sg → Prop) : Prop :=
  ∀ (own : Led) (s : Shared) (Q : α → Shared → Prop) (E : Value → Shared → Prop), Cx G own σ s.heap →
    (∀ v σ' h' tk', P v σ' → Cx G own σ' h' → Q v { s with heap := h', toks := tk' }) →
    (∀ e h' tk', X own e h' → E (.ref e) { s with heap := h', toks := tk' }) → wpAny (model G.prog G.w) G.A t Q E s
/-- raised here and now -/
def Xn (G : Gx) (N : Prop) (own : Led) (e : Addr) (h' : Heap) : Prop := N ∧ ∃ σ h, Cx G own σ h ∧ Heap.NewExc h h' e "KeyError"
abbrev framesOf (l : List Env) : List Addr := l.filterMap (·.frame)
/-- come out of a call -/
def Xc (G : Gx) (σ : Sg) (N : Prop) (own : Led) (e : Addr) (h' : Heap) : Prop := N ∧ ∃ g B a0 base outer, Cx G own σ g ∧ Below G.A base outer g ∧ (G.K.In base ∧ ∃ p loose mg mb, TopRead p loose mg mb base) ∧
  (∀ b o, g.get? b = some o → b ∉ framesOf outer → B.get? b = some o) ∧ Heap.FlyingW B outer e (.type "KeyError") a0 h' ∧ g.UpToSlots h'

section
variable {α β : Type} {G : Gx} {σ : Sg} {d : Nat} {X : Led → Addr → Heap → Prop}
theorem Tm.q {t : Sem α} {P : α → Sg → Prop} (h : Tm G σ t P) : Tq G σ X t P := fun own s Q E c k _ => h own s Q E c k
theorem Tq.mono {t : Sem α} {P R : α → Sg → Prop} (h : Tq G σ X t P) (k : ∀ v σ', P v σ' → R v σ') : Tq G σ X t R := fun own s Q E c q x => h own s Q E c (fun v σ' h' tk' p c' => q v σ' h' tk' (k v σ' p) c') x

theorem leave_at {M : Model} {A : Around} {E : Value → Shared → Prop} {s' : Shared} {base g h : Heap} {outer : List Env} {env : Env} {L e : Addr} {m : Str → Option Value} {cls : String} {Q : Unit → Shared → Prop} (K : Below A base outer g) (hf : env.frame = some L) (hk : env.scope.kind = .function)
    (hx : Heap.NewExc h s'.heap e cls) (F : Fr g L h m)
    (hQ : ∀ B a0 h', (∀ b o, g.get? b = some o → b ∉ framesOf outer → B.get? b = some o) → Heap.FlyingW B outer e (.type cls) a0 h' → g.UpToSlots h' → Q () { s' with heap := h' }) : wpAny M (A.deeper env) (leaving env (.ref e)) Q E s' := by
  have fg : g.FunFrames (hideAll g (framesOf outer)) outer := funFrames_hide K.frames fun env he a ha => List.mem_filterMap.mpr ⟨env, he, ha⟩
  have fL : (hideAll g (framesOf outer)).get? L = none := by
    cases q : (hideAll g (framesOf outer)).get? L with
    | none => rfl
    | some o => exact absurd (Heap.lt_size (of_hideAll _ q)) (Nat.not_lt.mpr F.above)
  have fh : h.FunFrames (hideAll g (framesOf outer)) (env :: outer) := Heap.FunFrames.cons (by rw [hk]; decide) hf F.ns fL (fg.of_keeps fun b o q _ => ⟨o, F.keep b o q, rfl⟩)
  obtain ⟨ob, tp, he, hcls, hd⟩ := hx.there
  have hen : (hideAll g (framesOf outer)).get? e = none := by
    cases q : (hideAll g (framesOf outer)).get? e with
    | none => rfl
    | some o => have := F.keep _ _ (of_hideAll _ q); rw [hx.new] at this; cases this
  refine wpAny_leaving_firstW (a0 := tp) (Around.frames_deeper K.stack) (fh.of_keeps fun b o q _ => ⟨o, hx.keeps b o q, rfl⟩) hf he (fun b o q => hx.keeps b o (F.keep b o (of_hideAll _ q))) hen hd rfl rfl fun h' hL => ?_
  obtain ⟨k1, ⟨_, _, k2⟩, k3, k4⟩ := hL
  refine hQ _ tp h' (fun b o q n => hideAll_get _ q n) ⟨k1, hen, k2, by rw [← hcls]; exact k3⟩ (((Heap.UpToSlots.of_keeps F.keep).trans (Heap.UpToSlots.of_keeps hx.keeps)).trans k4)

/-- a call of a plain def that may raise -/
theorem tq_fn {N : Prop} {f : Addr} {fd : FuncData} {oc : Value} {od : Option Addr} {osl : Array (Option Value)} {body : List Stmt} {args : List Value} {binds : List (Str × Value)} {R : Value → Led → Prop}
    (O : Ok G (d + 1)) (hK : G.K.lookup f = some ⟨oc, od, .func fd, osl⟩) (hbody : fd.body = .stmts body) (hcode : codeIn G.K fd.code fd.qualname = true)
    (hk : fd.scope.kind = .function) (hg : fd.globals = mainGlobals) (hb : fd.builtins = builtinsNs) (hc : fd.closure = []) (hco : fd.scope.isCoroutine = false) (hgen : fd.scope.isGenerator = false)
    (hcell : ∀ x ∈ fd.scope.names, x.2 ≠ .cell) (hbind : ∀ s : Shared, G.K.In s.heap → BindsTo s fd ⟨args, []⟩ binds) (hloc : ∀ x ∈ binds, fd.scope.names.lookup x.1 = some .local)
    (hw : ∀ own h L, Cx G own σ h → Ok (Cal G h fd L f) d → Tq (Cal G h fd L f) ⟨fun x => binds.reverse.lookup x, fun _ => none, []⟩ (Xn (Cal G h fd L f) N) (execs body (Cal G h fd L f).env) (fun fl σ' => R (retOf fl) σ'.n)) :
    Tq G σ (Xc G σ N) (call (.ref f) args []) (fun v σ' => ∃ nw, σ' = { σ with n := nw ++ σ.n } ∧ R v nw ∧ ∀ p ∈ nw, ∀ q ∈ σ.n, p.1 ≠ q.1) := fun own s Q E c k kx => by
  obtain ⟨p, lo, mg, mb, T⟩ := O.T
  have XX := O.X.keeps c.F.keep
  refine wpAny_call (codeAny_call_def (by have := O.depth; omega) (XX _ _ hK) rfl (T.nolimit.keeps c.F.keep) (codeRec_of XX hcode) hbody (hbind s XX) hcell hloc (fun h₁ hns hk₁ => ?_) hco hgen hk)
  have F₁ : Fr s.heap s.heap.objs.size h₁ (fun x => binds.reverse.lookup x) := ⟨hns, hk₁, Nat.le_refl _⟩
  have c₁ : Cx (Cal G s.heap fd s.heap.objs.size f) [] ⟨fun x => binds.reverse.lookup x, fun _ => none, []⟩ h₁ :=
    ⟨F₁, News.nil, (fun x a e => by
      have : (callEnv fd s.heap.objs.size f).cells = [] := hc
      change (callEnv fd s.heap.objs.size f).cells.lookup x = some a at e
      rw [this] at e; cases e), (fun _ h => nomatch h), fun _ h => nomatch h⟩
  refine hw own s.heap s.heap.objs.size c (O.cal c hk hg hb hc) [] _ _ _ c₁ (fun fl σ' h' tk' pr c' => ?_) fun e h' tk' hx => ?_
  · have := k (retOf fl) { σ with n := σ'.n ++ σ.n } h' tk' ⟨σ'.n, rfl, pr, fun p hp q hq e => by have := (c'.N p (List.mem_append_right _ hp)).2.2; rw [e] at this; have h2 := c.get hq; change s.heap.get? q.1 = none at this; rw [h2] at this; cases this⟩
      (c.fresh c'.F.keep fun q hq => ⟨c'.get hq, (c'.N q (List.mem_append_right _ hq)).2.2⟩)
    cases fl <;> exact this
  · obtain ⟨pN, σ', h, c', hn⟩ := hx
    obtain ⟨base, outer, hbase, B⟩ := O.B
    have K := B _ _ c.F
    refine leave_at (s' := { s with heap := h', toks := tk' }) K (env := callEnv fd s.heap.objs.size f) rfl hk hn c'.F fun B' a0 h'' hB hfl hup => ?_
    exact kx e h'' tk' ⟨pN, s.heap, B', a0, base, outer, c, K, hbase, hB, hfl, hup⟩

theorem tq_ret {e : Expr} {pos : Pos} {P : Value → Sg → Prop} {R : Flow → Sg → Prop} (he : Tq G σ X (eval e G.env) P) (hr : ∀ v σ', P v σ' → R (.ret v) σ') : Tq G σ X (exec (.Return (some e) pos) G.env) R := fun own s Q E c k x =>
  wpAny_Return_some (he own s _ E c (fun v σ₁ h₁ t₁ pv c₁ => k (.ret v) σ₁ h₁ t₁ (hr v σ₁ pv) c₁) x)
def ContQ (G : Gx) (X : Led → Addr → Heap → Prop) (rest : List Stmt) (R : Flow → Sg → Prop) (f : Flow) (σ' : Sg) : Prop := match f with
  | .next => Tq G σ' X (execs rest G.env) R
  | .brk => R .brk σ'
  | .cont => R .cont σ'
  | .ret v => R (.ret v) σ'
theorem tq_seq {st : Stmt} {rest : List Stmt} {R : Flow → Sg → Prop} (h : Tq G σ X (exec st G.env) (ContQ G X rest R)) : Tq G σ X (execs (st :: rest) G.env) R := fun own s Q E c k x =>
  wpAny_execs_cons (h own s _ E c (fun f σ₁ h₁ t₁ p c₁ => by
    cases f with
    | next => exact p own _ Q E c₁ (fun v σ₂ h₂ t₂ p₂ c₂ => k v σ₂ h₂ t₂ p₂ c₂) fun e h' tk' => x e h' tk'
    | brk => exact k _ σ₁ h₁ t₁ p c₁
    | cont => exact k _ σ₁ h₁ t₁ p c₁
    | ret v => exact k _ σ₁ h₁ t₁ p c₁) x)
theorem tq_nil {R : Flow → Sg → Prop} (h : R .next σ) : Tq G σ X (execs [] G.env) R := (tm_nil h).q
theorem tq_if {t : Expr} {a b : List Stmt} {pos : Pos} {y : Bool} {R : Flow → Sg → Prop} (ht : Tr G σ (PySem.isTrue t G.env (eval t G.env)) (fun z => z = y)) (h1 : y = true → Tq G σ X (execs a G.env) R) (h0 : y = false → Tq G σ X (execs b G.env) R) : Tq G σ X (exec (.If t a b pos) G.env) R := fun own s Q E c k x =>
  wpAny_If (ht own s _ E c fun v h₁ t₁ pv c₁ => by subst pv; cases v; exact h0 rfl own _ Q E c₁ (fun v σ₂ h₂ t₂ pv c₂ => k v σ₂ h₂ t₂ pv c₂) fun e h' tk' => x e h' tk'; exact h1 rfl own _ Q E c₁ (fun v σ₂ h₂ t₂ pv c₂ => k v σ₂ h₂ t₂ pv c₂) fun e h' tk' => x e h' tk')
theorem tq_ifRet {t e : Expr} {rest : List Stmt} {pos p' : Pos} {y : Bool} {R : Flow → Sg → Prop} (ht : Tr G σ (PySem.isTrue t G.env (eval t G.env)) (fun z => z = y)) (h1 : y = true → Tq G σ X (eval e G.env) (fun v σ' => R (.ret v) σ')) (h0 : y = false → Tq G σ X (execs rest G.env) R) : Tq G σ X (execs (.If t [.Return (some e) p'] [] pos :: rest) G.env) R :=
  tq_seq (tq_if ht (fun h => tq_seq (tq_ret (h1 h) fun v σ' p => p)) fun h => tq_nil (h0 h))
theorem tq_assign (O : Ok G d) {x : Str} {p pos : Pos} {e : Expr} {P : Value → Sg → Prop} {R : Flow → Sg → Prop} (he : Tq G σ X (eval e G.env) P) (hr : ∀ v σ', P v σ' → R .next { σ' with m := put σ'.m x v })
    (hx : G.env.kindOf x = some .local := by rfl) (hw : swapsWith e (some (.Name x p)) pos.line G.env = pure false := by rfl) : Tq G σ X (exec (.Assign [.Name x p] e pos) G.env) R := fun own s Q E c k kx =>
  wpAny_Assign_Name (he own s _ E c (fun v σ₁ h₁ t₁ pv c₁ => wpAny_storeName_local hx c₁.F.ns (fun h' hn hs => k .next _ h' _ (hr v σ₁ pv) (c₁.store hn hs O.cL)) (by rw [O.kind]; rfl)) kx) hw
theorem tq_sub {v i : Expr} {pos : Pos} {Pa : Value → Prop} {Pb : Value → Value → Sg → Prop} {R : Value → Sg → Prop} (hl : Tr G σ (eval v G.env) Pa) (hr : ∀ a, Pa a → Tq G σ X (eval i G.env) (Pb a)) (ho : ∀ a b σ', Pb a b σ' → Tq G σ' X (subscriptTail v i a b) R) : Tq G σ X (eval (.Subscript v i pos) G.env) R := fun own s Q E c k x =>
  Subscript_ (hl own s _ E c fun a h₁ t₁ pa c₁ => hr a pa own _ _ E c₁ (fun b σ₂ h₂ t₂ pb c₂ => ho a b σ₂ pb own _ Q E c₂ (fun v σ₃ h₃ t₃ pv c₃ => k v σ₃ h₃ t₃ pv c₃) fun e h' tk' => x e h' tk') fun e h' tk' => x e h' tk')
theorem tq_list1 {e : Expr} {pos : Pos} {P : Value → Sg → Prop} {R : Value → Sg → Prop} (he : Tq G σ X (eval e G.env) P) (hr : ∀ v σ' l, P v σ' → (∀ p ∈ σ'.n, p.1 ≠ l) → R (.ref l) { σ' with n := (l, listOf #[v] 0) :: σ'.n }) (hs : starEach [e] G.env = (false, eval e G.env) :: starEach [] G.env := by rfl) :
    Tq G σ X (eval (.List [e] pos) G.env) R := fun own s Q E c k x =>
  List_ (spliced_more (he own s _ E c (fun v σ₁ h₁ t₁ p c₁ => spliced_none (wpAny_newObj_type (k _ _ _ _ (hr v σ₁ h₁.objs.size p fun q hq e => by have := c₁.get hq; rw [e, get_size] at this; cases this) (c₁.pushN _)) (by show [v].toArray.size ≤ sizeLine; rw [List.size_toArray, sizeLine_eq]; simp))) x) hs)
theorem tq_methI (O : Ok G d) {pl : Sem Bool} {o : Expr} {name : Str} {apos pos : Pos} {e : Expr} {rest : List Expr} {x C dx f : Addr} {es : List DictEntry} {n : Nat} {P : List Value → Prop} {R : Value → Sg → Prop} (ho : Tr G σ (eval o G.env) (IsV (.ref x))) (hi : Ent G σ (fun h => InstIn h x C dx es n))
    (hg : plainGet G.K C name = true) (hf : findIn G.K (.ref C) name = some (some (.ref f))) (ht : isFn G.K (.ref f) = true) (hl : getL name es = some none) (hk : keepIn G.K (.ref f) = true)
    (ha : Tr G σ (spliced (backTo pos (starEach (e :: rest) G.env))) P) (hc : ∀ vs, P vs → Tq G σ X (call (.ref f) (.ref x :: vs)) R)
    (hq : eval (.Call (.Attribute o name apos) (e :: rest) [] pos) G.env = (do
          let ov ← eval o G.env
          standAt apos.atName
          let (f, first) ← holding [ov] (getMethod ov name pl)
          callWith pos f first (backTo pos (starEach (e :: rest) G.env)) []) := by rfl)
    (he : starEach (e :: rest) G.env = (false, eval e G.env) :: starEach rest G.env := by rfl) (hp : (backTo pos (starEach rest G.env)).any (·.1) = false := by rfl) :
    Tq G σ X (eval (.Call (.Attribute o name apos) (e :: rest) [] pos) G.env) R := fun own s Q E c k kx =>
  MethodCall_ (pl := pl) (ho own s _ E c fun v h₁ t₁ pv c₁ => by
    subst pv
    refine method_inst (L := G.env.locals) (m := σ.m) (s := { s with heap := h₁, toks := t₁ }) c₁.F O.X (hi own _ c₁).at hg hf ht hl ?_
    exact callWith_K (first := [.ref x]) O.X hk (ha own _ _ E c₁ fun vs h₂ t₂ pa c₂ => ⟨O.X.keeps c₂.F.keep, hc vs pa own _ Q E c₂ (fun v σ₃ h₃ t₃ pv c₃ => k v σ₃ h₃ t₃ pv c₃) fun e h' tk' => kx e h' tk'⟩) he hp) hq
/-- raise KeyError(x) -/
theorem tq_raise {N : Prop} (hN : N) (O : Ok G d) {np cpos pos : Pos} {e : Expr} {P : Value → Prop} {R : Flow → Sg → Prop} (hn : nsIn G.K mainGlobals "KeyError" = some none) (hg : G.env.kindOf "KeyError" = some .globalImplicit) (he : Tr G σ (eval e G.env) P)
    (hs : starEach [e] G.env = [(false, eval e G.env)] := by rfl) : Tq G σ (Xn G N) (exec (.Raise (some (.Call (.Name "KeyError" np) [e] [] cpos)) none pos) G.env) R := fun own s Q E c k kx =>
  Raise_new O.hh (wpAny_Call_NameR ((tr_blt O (v := .type "KeyError") hn (ExcClass.boot excClass_KeyError) (by decide) hg) own s _ E c fun v h₁ t₁ pv c₁ => by
    subst pv
    refine Pv.callWith_type1 (tr_arg1 he hs own _ _ E c₁ fun vs h₂ t₂ ⟨v, ev, pv⟩ c₂ => ?_) (by rw [hs]; rfl) rfl
    subst ev
    exact call_exc_raise (s := { s with heap := h₂, toks := t₂ }) excClass_KeyError (fun h' x hx => kx x h' t₂ ⟨hN, σ, h₂, c₂, hx⟩) (by rw [sizeLine_eq]; simp)))

/-- a clause takes what came out of a call -/
theorem caught {N : Prop} {own : Led} {s : Shared} {e : Addr} {outer₀ : List Env} {np hp : Pos} {b₀ : Stmt} {suite : List Stmt} {Q : Flow → Shared → Prop} {E : Value → Shared → Prop} (O : Ok G d) (hfr : G.A.frames = some (G.env :: outer₀)) (hf : G.env.frame = some G.env.locals) (x : Xc G σ N own e s.heap)
    (ex : nsIn G.K mainGlobals "KeyError" = some none) (hx : G.env.kindOf "KeyError" = some .globalImplicit)
    (k : N → ∀ g h₆ E', Cx G own σ g → g.UpToSlots h₆ → (∀ b o, g.get? b = some o → b ∉ framesOf (G.env :: outer₀) → h₆.get? b = some o) → wpAny (model G.prog G.w) (G.A.mark (some (.ref e))) (execs (b₀ :: suite) G.env) Q E' { s with heap := h₆ }) :
    wpAny (model G.prog G.w) G.A (noteFrame (.ref e) G.env) (fun _ s₂ => wpAny (model G.prog G.w) G.A (setFlight (.ref e) none) (fun _ s₃ => wpAny (model G.prog G.w) G.A (handleBy (.ref e) G.env [.ExceptHandler (some (.Name "KeyError" np)) none (b₀ :: suite) hp]) Q E s₃) E s₂) E s := by
  obtain ⟨pN, g, B, a0, base, outer, c, K, ⟨XB, p, lo, mg, mb, TB⟩, hB, hfl, hup⟩ := x
  have eo : outer = G.env :: outer₀ := by have := K.stack; rw [hfr] at this; exact (Option.some.inj this).symm
  subst eo
  have bB : ∀ b o, base.get? b = some o → B.get? b = some o := fun b o q => hB b o (K.stays b o q) fun hm => by rw [(K.frames.mem hm).1] at q; cases q
  refine wpAny_looks_onW hfr hf hfl fun h₄ hheld₄ hsm₄ => ?_
  refine wpAny_landsW hheld₄ fun h₅ hheld hsm₅ => ?_
  obtain ⟨ob, hob, hobc⟩ := hheld.there
  have k5 : ∀ b o, base.get? b = some o → h₅.get? b = some o := fun b o q => hheld.1 b o (bB b o q)
  refine wpAny_handleBy_builtin (X := "KeyError") (T := "KeyError") (b := true) kr_isExc_KeyError kr_notTuple_KeyError (by rw [isSubtype_type]; kernel_rfl) ?_
  refine Calls.Name_function_global O.kind hx (Calls.loadGlobal_builtin (by rw [O.glob]; exact TB.g.keeps k5) (mg_none_of XB TB.g ex) (by rw [O.blt]; exact TB.b.keeps k5) ((TB.builtins "KeyError" (by decide)).trans (ExcClass.boot excClass_KeyError)) ?_) (by decide)
  refine ⟨rfl, ⟨ob, hob, hobc⟩, ?_⟩
  rw [if_pos rfl]
  refine lands_againW hheld fun h₆ hfl₆ hsm₆ => ?_
  exact k pN g h₆ _ c (((hup.trans hsm₄).trans hsm₅).trans hsm₆) fun b o q n => hfl₆.1 b o (hB b o q n)

theorem Cx.back {own : Led} {g h' : Heap} (O : Ok G d) (c : Cx G own σ g) (up : g.UpToSlots h') (kp : ∀ b o, g.get? b = some o → b ≠ G.env.locals → h'.get? b = some o) : Cx G own σ h' := by
  refine ⟨⟨up.ns c.F.ns, fun b o q => kp b o (c.F.keep b o q) (Nat.ne_of_lt (Nat.lt_of_lt_of_le (Heap.lt_size q) c.F.above)), c.F.above⟩, fun p hp => ⟨kp _ _ (c.N p hp).1 (c.N p hp).2.1, (c.N p hp).2⟩, fun x a ha => ?_, c.offO, c.offC⟩
  obtain ⟨o, ho, r⟩ := c.C x a ha
  exact ⟨o, kp _ _ ho (O.cL x a ha), r⟩

/-- try: body; except KeyError: break -/
theorem tm_tryBrk {N : Prop} (O : Ok G d) {body : List Stmt} {np hp bp pos : Pos} {R : Flow → Sg → Prop} (hfr : G.A.frames = some [G.env]) (hf : G.env.frame = some G.env.locals) (ex : nsIn G.K mainGlobals "KeyError" = some none) (hx : G.env.kindOf "KeyError" = some .globalImplicit)
    (hb : Tq G σ (Xc G σ N) (execs body G.env) R) (hr : N → R .brk σ) : Tm G σ (exec (.Try body [.ExceptHandler (some (.Name "KeyError" np)) none [.Break bp] hp] [] [] pos) G.env) R := fun own s Q E c k => by
  refine wpAny_Try_except (hb own s _ _ c (fun f σ' h' tk' p c' => ?_) fun e h' tk' x => ?_)
  · cases f with
    | next => exact wpAny_execs_nil (k .next σ' h' tk' p c')
    | brk => exact k .brk σ' h' tk' p c'
    | cont => exact k .cont σ' h' tk' p c'
    | ret v => exact k (.ret v) σ' h' tk' p c'
  · refine caught (s := { s with heap := h', toks := tk' }) O hfr hf x ex hx fun pN g h₆ E' cg up kp => ?_
    refine wpAny_execs_cons (wpAny_Break ?_)
    exact k .brk σ h₆ tk' (hr pN) (cg.back O up fun b o q n => kp b o q fun hm => by
      simp only [framesOf, List.filterMap_cons, hf, List.filterMap_nil, List.mem_singleton] at hm
      exact n hm)

/-- the frame of a clause: it knows nothing of the old -/
def Cau (G : Gx) (e : Addr) : Gx := { G with h₀ := {}, A := G.A.mark (some (.ref e)) }

/-- a def whose body is one try statement, called from the first frame -/
theorem tm_fnTry {N : Prop} {f : Addr} {fd : FuncData} {oc : Value} {od : Option Addr} {osl : Array (Option Value)} {tb : List Stmt} {np hp tp : Pos} {b₀ : Stmt} {suite : List Stmt} {args : List Value} {binds : List (Str × Value)} {R : Value → Led → Prop}
    (O : Ok G (d + 1)) (hfr : G.A.frames = some [G.env]) (hf : G.env.frame = some G.env.locals) (hK : G.K.lookup f = some ⟨oc, od, .func fd, osl⟩) (hbody : fd.body = .stmts [.Try tb [.ExceptHandler (some (.Name "KeyError" np)) none (b₀ :: suite) hp] [] [] tp]) (hcode : codeIn G.K fd.code fd.qualname = true)
    (hk : fd.scope.kind = .function) (hg : fd.globals = mainGlobals) (hb : fd.builtins = builtinsNs) (hc : fd.closure = []) (hco : fd.scope.isCoroutine = false) (hgen : fd.scope.isGenerator = false)
    (hcell : ∀ x ∈ fd.scope.names, x.2 ≠ .cell) (hbind : ∀ s : Shared, G.K.In s.heap → BindsTo s fd ⟨args, []⟩ binds) (hloc : ∀ x ∈ binds, fd.scope.names.lookup x.1 = some .local)
    (ex : nsIn G.K mainGlobals "KeyError" = some none) (hx : ∀ L, (callEnv fd L f).kindOf "KeyError" = some .globalImplicit)
    (hw : ∀ own h L, Cx G own σ h → Ok (Cal G h fd L f) d → Tq (Cal G h fd L f) ⟨fun x => binds.reverse.lookup x, fun _ => none, []⟩ (Xc (Cal G h fd L f) ⟨fun x => binds.reverse.lookup x, fun _ => none, []⟩ N) (execs tb (Cal G h fd L f).env) (fun fl σ' => R (retOf fl) σ'.n))
    (hh : N → ∀ h L e, Tm (Cau (Cal G h fd L f) e) ⟨fun x => binds.reverse.lookup x, fun _ => none, []⟩ (execs (b₀ :: suite) (Cal G h fd L f).env) (fun fl σ' => R (retOf fl) σ'.n)) :
    Tm G σ (call (.ref f) args []) (fun v σ' => ∃ nw, σ' = { σ with n := nw ++ σ.n } ∧ R v nw ∧ ∀ p ∈ nw, ∀ q ∈ σ.n, p.1 ≠ q.1) := fun own s Q E c k => by
  obtain ⟨p, lo, mg, mb, T⟩ := O.T
  have XX := O.X.keeps c.F.keep
  refine wpAny_call (codeAny_call_def (by have := O.depth; omega) (XX _ _ hK) rfl (T.nolimit.keeps c.F.keep) (codeRec_of XX hcode) hbody (hbind s XX) hcell hloc (fun h₁ hns hk₁ => ?_) hco hgen hk)
  have F₁ : Fr s.heap s.heap.objs.size h₁ (fun x => binds.reverse.lookup x) := ⟨hns, hk₁, Nat.le_refl _⟩
  have c₁ : Cx (Cal G s.heap fd s.heap.objs.size f) [] ⟨fun x => binds.reverse.lookup x, fun _ => none, []⟩ h₁ :=
    ⟨F₁, News.nil, (fun x a e => by
      have : (callEnv fd s.heap.objs.size f).cells = [] := hc
      change (callEnv fd s.heap.objs.size f).cells.lookup x = some a at e
      rw [this] at e; cases e), (fun _ h => nomatch h), fun _ h => nomatch h⟩
  have O₁ := O.cal c hk hg hb hc (L := s.heap.objs.size) (f := f)
  have fin : ∀ fl σ' h' tk', R (retOf fl) σ'.n → Cx (Cal G s.heap fd s.heap.objs.size f) [] σ' h' → Q (retOf fl) { s with heap := h', toks := tk' } := fun fl σ' h' tk' pr c' =>
    k (retOf fl) { σ with n := σ'.n ++ σ.n } h' tk' ⟨σ'.n, rfl, pr, fun p hp q hq e => by have := (c'.N p (List.mem_append_right _ hp)).2.2; rw [e] at this; have h2 := c.get hq; change s.heap.get? q.1 = none at this; rw [h2] at this; cases this⟩
      (c.fresh c'.F.keep fun q hq => ⟨c'.get hq, (c'.N q (List.mem_append_right _ hq)).2.2⟩)
  refine wpAny_execs_cons (wpAny_Try_except (hw own s.heap s.heap.objs.size c O₁ [] _ _ _ c₁ (fun fl σ' h' tk' pr c' => ?_) fun e h' tk' hx' => ?_))
  · have := fin fl σ' h' tk' pr c'
    cases fl with
    | next => exact wpAny_execs_nil (wpAny_execs_nil this)
    | brk => exact this
    | cont => exact this
    | ret v => exact this
  · have hfr₁ : (Cal G s.heap fd s.heap.objs.size f).A.frames = some ((Cal G s.heap fd s.heap.objs.size f).env :: [G.env]) := Around.frames_deeper hfr
    refine caught (s := { s with heap := h', toks := tk' }) (outer₀ := [G.env]) O₁ hfr₁ rfl hx' ex (hx _) fun pN g h₆ E' cg up kp => ?_
    -- all that lived at the call
    have al : ∀ b o, s.heap.get? b = some o → b ≠ G.env.locals → h₆.get? b = some o := fun b o q n => kp b o (cg.F.keep b o q) fun hm => by
      simp only [framesOf, List.filterMap_cons, hf, List.filterMap_nil] at hm
      rcases List.mem_cons.mp hm with e' | hm
      · have := Heap.lt_size q; rw [e'] at this; exact absurd this (Nat.lt_irrefl _)
      · exact n (List.mem_singleton.mp hm)
    have upS : s.heap.UpToSlots h₆ := (Heap.UpToSlots.of_keeps cg.F.keep).trans up
    obtain ⟨oL, _, _, hoL, hdL, _⟩ := c.F.ns
    obtain ⟨slL, hL6⟩ := upS _ _ hoL fun vs q => by rw [hdL] at q; cases q
    have al6 : ∀ b o, s.heap.get? b = some o → ∃ o', h₆.get? b = some o' := fun b o q => by
      by_cases e' : b = G.env.locals
      · subst e'; exact ⟨_, hL6⟩
      · exact ⟨o, al b o q e'⟩
    let its := (List.range s.heap.objs.size).filter fun b => (s.heap.get? b).isSome
    have mi : ∀ b o, s.heap.get? b = some o → b ∈ its := fun b o q => List.mem_filter.mpr ⟨List.mem_range.mpr (Heap.lt_size q), by rw [q]; rfl⟩
    have im : ∀ b ∈ its, b < s.heap.objs.size := fun b hb => List.mem_range.mp (List.mem_filter.mp hb).1
    have c₃ : Cx (Cau (Cal G s.heap fd s.heap.objs.size f) e) (ownAt h₆ its) ⟨fun x => binds.reverse.lookup x, fun _ => none, []⟩ h₆ := by
      have gn : ∀ b, (({} : Heap)).get? b = none := fun b => rfl
      refine ⟨⟨up.ns cg.F.ns, fun b o q => (by rw [show (Cau (Cal G s.heap fd s.heap.objs.size f) e).h₀ = {} from rfl, gn] at q; cases q), Nat.zero_le _⟩, fun p hp => ?_, fun x a q => ?_, (fun p hp q hq => nomatch hq), fun p hp x a q => ?_⟩
      · have hp' := mem_ownAt (by simpa using hp)
        exact ⟨hp'.2, Nat.ne_of_lt (im _ hp'.1), gn _⟩
      · have : (callEnv fd s.heap.objs.size f).cells = [] := hc
        change (callEnv fd s.heap.objs.size f).cells.lookup x = some a at q
        rw [this] at q; cases q
      · have : (callEnv fd s.heap.objs.size f).cells = [] := hc
        change (callEnv fd s.heap.objs.size f).cells.lookup x = some a at q
        rw [this] at q; cases q
    refine hh pN s.heap s.heap.objs.size e (ownAt h₆ its) { s with heap := h₆, toks := tk' } _ _ c₃ fun fl σ' h₇ tk₇ pr c₇ => ?_
    have kp7 : ∀ b o o', s.heap.get? b = some o → h₆.get? b = some o' → h₇.get? b = some o' := fun b o o' q q' => (c₇.N (b, o') (List.mem_append_left _ (ownAt_mem (mi b o q) q'))).1
    have ap7 : ∀ p ∈ σ'.n, ∀ o, s.heap.get? p.1 = some o → False := fun p hp o q => by
      obtain ⟨o', q'⟩ := al6 _ _ q
      exact c₇.offO (p.1, o') (ownAt_mem (mi _ o q) q') p hp rfl
    have cb : Cx G own σ h₇ := c.back O (fun b o q n => by
      obtain ⟨sl, q'⟩ := upS b o q n
      exact ⟨sl, kp7 b o _ q q'⟩) fun b o q n => kp7 b o o q (al b o q n)
    have cf : Cx G own { σ with n := σ'.n ++ σ.n } h₇ := cb.more (fun p hp => ⟨c₇.get hp, fun e' => ap7 p hp oL (by rw [e']; exact hoL), by
      cases q : G.h₀.get? p.1 with
      | none => rfl
      | some o => exact (ap7 p hp o (c.F.keep _ _ q)).elim⟩) (fun p hp q hq e' => ap7 q hq p.2 (by rw [← e']; exact (c.N p (List.mem_append_left _ hp)).1)) fun p hp x a ha e' => by
      obtain ⟨o, ho, _⟩ := c.C x a ha
      exact ap7 p hp o (by rw [e']; exact ho)
    have := k (retOf fl) _ h₇ tk₇ ⟨σ'.n, rfl, pr, fun p hp q hq e' => ap7 p hp q.2 (by rw [e']; exact c.get hq)⟩ cf
    cases fl with
    | next => exact wpAny_execs_nil this
    | brk => exact this
    | cont => exact this
    | ret v => exact this
end
end Mine
open PySem PySem.W PySem.Calls PyProof.Rows
set_option Elab.async false
set_option maxRecDepth 100000
set_option maxHeartbeats 4000000
set_option linter.unusedVariables false
namespace Mine
section
variable {G : Gx} {σ : Sg} {d : Nat} {X : Led → Addr → Heap → Prop}

theorem tm_while {t : Expr} {body : List Stmt} {pos : Pos} {R : Flow → Sg → Prop} (Inv : Nat → Sg → Prop) (n₀ : Nat) (h0 : Inv n₀ σ)
    (turn : ∀ n σ₁, Inv n σ₁ → ∃ b, Tr G σ₁ (PySem.isTrue t G.env (eval t G.env)) (fun x => x = b) ∧ (b = true → Tm G σ₁ (execs body G.env) (fun f σ₂ => match f with
      | .next => ∃ m, m < n ∧ Inv m σ₂
      | .cont => ∃ m, m < n ∧ Inv m σ₂
      | .brk => R .next σ₂
      | .ret v => R (.ret v) σ₂)) ∧ (b = false → R .next σ₁)) : Tm G σ (exec (.While t body [] pos) G.env) R := fun own s Q E c k => by
  refine wpAny_While (codeAny_whileLoop (fun n s' => ∃ σ' h' tk', s' = { s with heap := h', toks := tk' } ∧ Cx G own σ' h' ∧ Inv n σ') ?_ n₀ ⟨σ, s.heap, s.toks, rfl, c, h0⟩)
  rintro n s' ⟨σ', h', tk', rfl, c', inv⟩
  obtain ⟨b, ht, h1, h2⟩ := turn n σ' inv
  refine ht own _ _ _ c' fun v h₁ t₁ e c₁ => ?_
  subst e
  cases v with
  | false => exact wpAny_execs_nil (k .next σ' h₁ t₁ (h2 rfl) c₁)
  | true =>
    refine h1 rfl own _ _ _ c₁ fun f σ₂ h₂ t₂ p c₂ => ?_
    cases f with
    | next => obtain ⟨m, hm, i⟩ := p; exact ⟨m, hm, σ₂, h₂, t₂, rfl, c₂, i⟩
    | cont => obtain ⟨m, hm, i⟩ := p; exact ⟨m, hm, σ₂, h₂, t₂, rfl, c₂, i⟩
    | brk => exact k .next σ₂ h₂ t₂ p c₂
    | ret v => exact k (.ret v) σ₂ h₂ t₂ p c₂

/-- x, y = a tuple -/
theorem tm_assign2 (O : Ok G d) {x y : Str} {p q tp pos : Pos} {n : Nat} {e : Expr} {T : Addr} {a b : Value} {R : Flow → Sg → Prop} (he : Tr G σ (eval e G.env) (IsV (.ref T))) (hT : Ent G σ (fun h => h.IsTuple T #[a, b])) (hr : R .next { σ with m := put (put σ.m x a) y b })
    (hx : G.env.kindOf x = some .local := by rfl) (hy : G.env.kindOf y = some .local := by rfl)
    (hs : swapsWithSole [.Tuple [.Name x p, .Name y q] n tp] e pos.line G.env = pure false := by rfl) (hw : swappedStores [.Tuple [.Name x p, .Name y q] n tp] e G.env = pure none := by rfl) :
    Tm G σ (exec (.Assign [.Tuple [.Name x p, .Name y q] n tp] e pos) G.env) R := fun own s Q E c k =>
  Assign_Tuple (he own s _ E c fun v h₁ t₁ ev c₁ => by
    subst ev
    exact to_tuple2 O (s := { s with heap := h₁, toks := t₁ }) c₁ (hT own _ c₁) hx hy (k := fun h' tk' c' => k .next _ h' tk' hr c')) hs hw

theorem tr_isNone {v u : Value} (hu : u = .none) (hp : plainIs v .none = true) : Tr G σ (compareOp .Is v u) (IsB (v == .none)) := by
  subst hu; exact fun _ s _ _ c k => wpAny_is_plain hp (k _ s.heap s.toks rfl c)

/-- t.startswith(x) -/
theorem tr_starts {pl : Sem Bool} {o e : Expr} {apos pos : Pos} {x y : Str} (ho : Tr G σ (eval o G.env) (IsS x)) (he : Tr G σ (eval e G.env) (IsS y))
    (hq : eval (.Call (.Attribute o "startswith" apos) [e] [] pos) G.env = (do
          let ov ← eval o G.env
          standAt apos.atName
          let (f, first) ← holding [ov] (getMethod ov "startswith" pl)
          callWith pos f first (backTo pos (starEach [e] G.env)) []) := by rfl)
    (hs : starEach [e] G.env = [(false, eval e G.env)] := by rfl) : Tr G σ (eval (.Call (.Attribute o "startswith" apos) [e] [] pos) G.env) (IsB (decide (lw y <+: lw x))) :=
  Tm.r (tm_methB (P₂ := fun v vs σ' => σ' = σ ∧ (∃ t, v = .str x t) ∧ ∃ u, vs = [u] ∧ IsS y u) F.plainAttrs_str F.slot_str_startswith F.type_str_startswith ho.m
    (fun v σ' own s pv c => by obtain ⟨rfl, t, rfl⟩ := pv; exact ⟨typeIs_str _ _ _, fun a e => nomatch e⟩)
    (fun v σ' pv => by obtain ⟨rfl, t, rfl⟩ := pv; exact (tr_arg1 he hs).m.mono fun vs σ' p => ⟨p.1, ⟨t, rfl⟩, p.2⟩)
    (fun v vs σ' p => by
      obtain ⟨rfl, ⟨t, rfl⟩, u, rfl, ⟨t', rfl⟩⟩ := p
      exact fun own s Q E c k => SC.startswith (k _ _ s.heap s.toks ⟨rfl, by rw [starts_iff]⟩ c)) hq (by rw [hs]; rfl) rfl)

/-- v in x, x[i], len(x) of an instance -/
theorem tr_inK (O : Ok G d) {x C dx f : Addr} {es : List DictEntry} {n : Nat} {v u : Value} {b : Bool} (hi : Ent G σ (fun h => InstIn h x C dx es n)) (hs : findIn G.K (.ref C) "__contains__" = some (some (.ref f))) (hf : isFn G.K (.ref f) = true)
    (hu : u = .ref x) (hc : Tr G σ (call (.ref f) [.ref x, v]) (IsB b)) : Tr G σ (compareOp .In v u) (IsB b) := by
  subst hu
  exact fun own s Q E c k => in_K (L := G.env.locals) (m := σ.m) c.F O.X (hi own _ c).at hs hf (hc own s _ E c fun r h₁ t₁ e c₁ => by subst e; exact wpAny_truthy_bool (k _ h₁ t₁ rfl c₁))
theorem Xc.un {N : Prop} {A : Around} {own : Led} {e : Addr} {h : Heap} (hf : A.frames = G.A.frames) (x : Xc (G.at A) σ N own e h) : Xc G σ N own e h := by
  obtain ⟨pN, g, B, a0, base, outer, c, K, r⟩ := x
  exact ⟨pN, g, B, a0, base, outer, c.un, ⟨hf.symm.trans K.stack, K.stays, K.frames⟩, r⟩
theorem tq_subK {N : Prop} (O : Ok G d) {ve ie : Expr} {x C dx f : Addr} {es : List DictEntry} {n : Nat} {v i : Value} {R : Value → Sg → Prop} (hi : Ent G σ (fun h => InstIn h x C dx es n)) (hs : findIn G.K (.ref C) "__getitem__" = some (some (.ref f))) (hf : fnIn G.K f = true) (hfn : isFn G.K (.ref f) = true)
    (hv : v = .ref x) (hc : Tq (G.at G.A.in1) σ (Xc (G.at G.A.in1) σ N) (call (.ref f) [.ref x, i]) R) (hsl : subscripted ie true (.ref x) i = runValue (.builtin "lifetime.subscript" ⟨[.ref x, i], []⟩) := by with_unfolding_all rfl) : Tq G σ (Xc G σ N) (subscriptTail ve ie v i) R := by
  subst hv
  exact fun own s Q E c k kx => sub_K (L := G.env.locals) (m := σ.m) c.F O.X (hi own _ c).at hs hf hfn (hc own s Q E (c.at _) (fun v σ' h' tk' p c' => k v σ' h' tk' p c'.un) fun e h' tk' x => kx e h' tk' (Xc.un (by rfl) x)) hsl
theorem tm_subK (O : Ok G d) {ve ie : Expr} {x C dx f : Addr} {es : List DictEntry} {n : Nat} {v i : Value} {R : Value → Sg → Prop} (hi : Ent G σ (fun h => InstIn h x C dx es n)) (hs : findIn G.K (.ref C) "__getitem__" = some (some (.ref f))) (hf : fnIn G.K f = true) (hfn : isFn G.K (.ref f) = true)
    (hv : v = .ref x) (hc : Tm (G.at G.A.in1) σ (call (.ref f) [.ref x, i]) R) (hsl : subscripted ie true (.ref x) i = runValue (.builtin "lifetime.subscript" ⟨[.ref x, i], []⟩) := by with_unfolding_all rfl) : Tm G σ (subscriptTail ve ie v i) R := by
  subst hv
  exact fun own s Q E c k => sub_K (L := G.env.locals) (m := σ.m) c.F O.X (hi own _ c).at hs hf hfn (hc own s Q E (c.at _) (fun v σ' h' tk' p c' => k v σ' h' tk' p c'.un)) hsl
theorem tr_lenK (O : Ok G d) {x C dx f : Addr} {es : List DictEntry} {n : Nat} {m : Nat} (hi : Ent G σ (fun h => InstIn h x C dx es n)) (hs : findIn G.K (.ref C) "__len__" = some (some (.ref f))) (hf : isFn G.K (.ref f) = true)
    (hc : Tr (G.at G.A.in1) σ (call (.ref f) [.ref x]) (IsI m)) (hm : (m : Int) < 2 ^ 63) : Tr G σ (call (.builtin "len") [.ref x]) (IsI m) := fun own s Q E c k =>
  len_K (L := G.env.locals) (m := σ.m) c.F O.X (hi own _ c).at hs hf (hc own s _ E (c.at _) fun r h₁ t₁ ⟨t, e⟩ c₁ => by subst e; exact ⟨⟨by omega, hm⟩, k _ h₁ _ ⟨_, rfl⟩ c₁.un⟩)

/-- what a call made, and no one wants -/
theorem Tq.tr {α : Type} {t : Sem α} {P : α → Prop} (h : Tq G σ X t (fun v σ' => ∃ nw, σ' = { σ with n := nw ++ σ.n } ∧ P v)) : Tq G σ X t (fun v σ' => σ' = σ ∧ P v) := fun own s Q E c k x =>
  h own s Q E c (fun v σ' h' tk' ⟨nw, e, p⟩ c' => by subst e; exact k v σ h' tk' ⟨rfl, p⟩ c'.drop) x
theorem tr_callK (O : Ok G d) {x : Str} {np pos : Pos} {f : Addr} {e : Expr} {rest : List Expr} {P : List Value → Prop} {R : Value → Prop} (hf : Tr G σ (eval (.Name x np) G.env) (IsV (.ref f))) (hk : keepIn G.K (.ref f) = true)
    (ha : Tr G σ (spliced (backTo pos (starEach (e :: rest) G.env))) P) (hc : ∀ vs, P vs → Tr G σ (call (.ref f) vs) R)
    (he : starEach (e :: rest) G.env = (false, eval e G.env) :: starEach rest G.env := by rfl) (hp : (backTo pos (starEach rest G.env)).any (·.1) = false := by rfl) : Tr G σ (eval (.Call (.Name x np) (e :: rest) [] pos) G.env) R :=
  Tm.r (tm_callK O hf hk ha.m (fun vs σ' p => by obtain ⟨rfl, p⟩ := p; exact (hc vs p).m) he hp)
theorem tr_methI {pl : Sem Bool} (O : Ok G d) {o : Expr} {name : Str} {apos pos : Pos} {e : Expr} {rest : List Expr} {x C dx f : Addr} {es : List DictEntry} {n : Nat} {P : List Value → Prop} {R : Value → Prop} (ho : Tr G σ (eval o G.env) (IsV (.ref x))) (hi : Ent G σ (fun h => InstIn h x C dx es n))
    (hg : plainGet G.K C name = true) (hf : findIn G.K (.ref C) name = some (some (.ref f))) (ht : isFn G.K (.ref f) = true) (hl : getL name es = some none) (hk : keepIn G.K (.ref f) = true)
    (ha : Tr G σ (spliced (backTo pos (starEach (e :: rest) G.env))) P) (hc : ∀ vs, P vs → Tr G σ (call (.ref f) (.ref x :: vs)) R)
    (hq : eval (.Call (.Attribute o name apos) (e :: rest) [] pos) G.env = (do
          let ov ← eval o G.env
          standAt apos.atName
          let (f, first) ← holding [ov] (getMethod ov name pl)
          callWith pos f first (backTo pos (starEach (e :: rest) G.env)) []) := by rfl)
    (he : starEach (e :: rest) G.env = (false, eval e G.env) :: starEach rest G.env := by rfl) (hp : (backTo pos (starEach rest G.env)).any (·.1) = false := by rfl) :
    Tr G σ (eval (.Call (.Attribute o name apos) (e :: rest) [] pos) G.env) R :=
  Tm.r (tm_methI O ho hi hg hf ht hl hk ha.m (fun vs σ' p => by obtain ⟨rfl, p⟩ := p; exact (hc vs p).m) hq he hp)
end
end Mine
open PySem PySem.W PySem.Calls PyProof.Rows
set_option Elab.async false
set_option maxRecDepth 100000
set_option maxHeartbeats 4000000
set_option linter.unusedVariables false
namespace Mine
section
variable {G : Gx} {σ : Sg} {d : Nat} {X : Led → Addr → Heap → Prop}

/-- xs[:k] -/
theorem tm_cutList {ve e : Expr} {p pos : Pos} {l : Addr} {vs : List Value} {k : Nat} (hv : Tr G σ (eval ve G.env) (IsV (.ref l))) (hl : Ent G σ (fun h => h.IsList l vs.toArray)) (he : Tr G σ (eval e G.env) (IsI k)) (hz : vs.length ≤ 1000000)
    (ht : ∀ o r, letTemporaryGo ve o r = pure () := by intro _ _; rfl) :
    Tm G σ (eval (.Subscript ve (.Slice none (some e) none p) pos) G.env) (fun v σ' => ∃ l', v = .ref l' ∧ σ' = { σ with n := (l', listOf (vs.take k).toArray 0) :: σ.n } ∧ ∀ p ∈ σ.n, p.1 ≠ l') := fun own s Q E c q => by
  refine wpAny_Subscript_list_slice (hv own s _ E c fun v h₁ t₁ ev c₁ => evalPart_none_step (evalPart_some_step (he own _ _ E c₁ fun u h₂ t₂ ⟨t, eu⟩ c₂ => ?_))) ht
  subst ev; subst eu
  refine ⟨l, vs.toArray, none, some (k : Int), rfl, hl own _ c₂, by rw [sizeLine_eq]; simp; omega, .none, .int _ t, ?_⟩
  have e1 : slicePick vs.toArray none (some (k : Int)) none = (vs.take k).toArray := slicePick_upto' vs.toArray k
  rw [e1]
  have c₃ := (c₂.push { cls := .type "slice", data := .fields #[.none, .int k t, .none] }).pushN (listOf (vs.take k).toArray 0)
  rw [Heap.size_push] at c₃
  refine q _ _ _ _ ⟨_, rfl, rfl, fun p hp e => ?_⟩ c₃
  have := c₂.get hp
  rw [e, none_above (Nat.le_succ _)] at this
  cases this

/-- xs + ys -/
theorem tm_addList {l b : Addr} {vs us : List Value} {n n' : Nat} {u v : Value} (h1 : Ent G σ (fun h => h.get? l = some (listOf vs.toArray n))) (h2 : Ent G σ (fun h => h.get? b = some (listOf us.toArray n'))) (hu : u = .ref l) (hv : v = .ref b) (hz : vs.length + us.length ≤ 1000000) :
    Tm G σ (binaryOp .Add u v) (fun r σ' => ∃ l', r = .ref l' ∧ σ' = { σ with n := (l', listOf (vs ++ us).toArray 0) :: σ.n } ∧ ∀ p ∈ σ.n, p.1 ≠ l') := fun own s Q E c q => by
  subst hu; subst hv
  have e1 : vs.toArray ++ us.toArray = (vs ++ us).toArray := by simp
  refine PySem.P.add_list (h1 own _ c) (h2 own _ c) ?_ (by rw [sizeLine_eq]; simp; omega)
  rw [e1]
  exact q _ _ _ _ ⟨_, rfl, rfl, fun p hp e => by have := c.get hp; rw [e, get_size] at this; cases this⟩ (c.pushN (listOf (vs ++ us).toArray 0))

theorem tr_eqInts {a b : Addr} {vs us : List Value} {ns ms : List Int} {u v : Value} (hl : Ent G σ (fun h => h.IsList a vs.toArray)) (hi : IntsAre vs ns) (hl' : Ent G σ (fun h => h.IsList b us.toArray)) (hi' : IntsAre us ms) (hu : G.A.units + 64 < cLine) (e1 : u = .ref a) (e2 : v = .ref b) : Tr G σ (compareOp .Eq u v) (IsB (decide (ns = ms))) := by
  subst e1; subst e2
  exact fun own s Q E c k => eq_intsK (hl own _ c) hi (hl' own _ c) hi' hu (k _ s.heap s.toks rfl c)
theorem tr_neInts {a b : Addr} {vs us : List Value} {ns ms : List Int} {u v : Value} (hl : Ent G σ (fun h => h.IsList a vs.toArray)) (hi : IntsAre vs ns) (hl' : Ent G σ (fun h => h.IsList b us.toArray)) (hi' : IntsAre us ms) (hu : G.A.units + 64 < cLine) (e1 : u = .ref a) (e2 : v = .ref b) : Tr G σ (compareOp .NotEq u v) (IsB (!decide (ns = ms))) := by
  subst e1; subst e2
  exact fun own s Q E c k => ne_intsK (hl own _ c) hi (hl' own _ c) hi' hu (k _ s.heap s.toks rfl c)
theorem tr_sumInts (O : Ok G d) {l : Addr} {vs : List Value} {ns : List Int} (hl : Ent G σ (fun h => h.IsList l vs.toArray)) (hi : IntsAre vs ns) : Tr G σ (call (.builtin "sum") [.ref l]) (fun v => ∃ z, IsI z v) := fun own s Q E c k => by
  obtain ⟨xs, hx⟩ := hi.allInts.items
  have hl' : s.heap.IsList l (intItems xs) := hx ▸ hl own _ c
  exact sum_intListG O.hh hl' fun h' tk t' hk => k _ h' _ ⟨_, t', rfl⟩ (c.keep hk)
theorem tr_truthyList {l : Addr} {its : Array Value} {v : Value} (hl : Ent G σ (fun h => h.IsList l its)) (hz : its.size ≤ 1000000) (e : v = .ref l) : Tr G σ (truthy v) (fun x => x = !its.isEmpty) := by
  subst e
  exact fun own s Q E c k => wpAny_truthy_list (hl own _ c) (by omega) (k _ s.heap _ rfl c)

/-- d.get(k, e) -/
theorem tm_dictGet2 {pl : Sem Bool} {o e f : Expr} {apos pos : Pos} {D : Addr} {kvs : List (Str × Value)} {x : Str} {P : Value → Sg → Prop} {R : Value → Sg → Prop} (ho : Tr G σ (eval o G.env) (IsV (.ref D))) (he : Tr G σ (eval e G.env) (IsS x)) (hf : Tm G σ (eval f G.env) P)
    (hd : ∀ v σ', P v σ' → Ent G σ' (fun h => h.DictOf (SK G) D kvs)) (hd₀ : Ent G σ (fun h => h.DictOf (SK G) D kvs)) (hlo : (D == sysModules) = false) (hr : ∀ v σ', P v σ' → R ((valueAt kvs x).getD v) σ')
    (hq : eval (.Call (.Attribute o "get" apos) [e, f] [] pos) G.env = (do
          let ov ← eval o G.env
          standAt apos.atName
          let (f', first) ← holding [ov] (getMethod ov "get" pl)
          callWith pos f' first (backTo pos (starEach [e, f] G.env)) []) := by rfl)
    (hs : starEach [e, f] G.env = (false, eval e G.env) :: starEach [f] G.env := by rfl) (hs1 : starEach [f] G.env = (false, eval f G.env) :: starEach [] G.env := by rfl) :
    Tm G σ (eval (.Call (.Attribute o "get" apos) [e, f] [] pos) G.env) R :=
  tm_methB (P₂ := fun v vs σ' => v = .ref D ∧ ∃ t u, vs = [.str x t, u] ∧ P u σ') F.plainAttrs_dict F.slot_dict_get F.type_dict_get ho.m
    (fun v σ' own s p c => by obtain ⟨rfl, rfl⟩ := p; exact ⟨(hd₀ own _ c).typeIs, (hd₀ own _ c).mapOf.noDict⟩)
    (fun v σ' p => by
      obtain ⟨rfl, rfl⟩ := p
      refine tm_arg he.m (fun v σ' p => ?_) hs
      obtain ⟨rfl, t, rfl⟩ := p
      refine tm_arg hf (fun u σ' pu => ?_) hs1
      exact Tm.mono tr_args0.m fun vs σ'' q => by obtain ⟨rfl, rfl⟩ := q; exact ⟨rfl, t, u, rfl, pu⟩)
    (fun v vs σ' p => by
      obtain ⟨rfl, t, u, rfl, pu⟩ := p
      exact fun own s Q E c k => by
        have hD := hd u σ' pu own _ c
        exact call_meetsIn PySem.F.slot_dict_get hD.typeIs PySem.F.entry_dict_get (PySem.F.args_dict_get_3 _ _ _) (meets_dict_get_default (SK G) D (k := x) (strKind_is _ _ x t) hlo u) ⟨_, hD.mapOf, k _ _ s.heap _ (hr u σ' pu) c⟩) hq hs (by rw [hs1]; rfl)

theorem strs_values {vs : List Value} {ss : List Str} (h : StrsAre vs ss) : ∃ l : List (Str × Tok), vs = strValues l ∧ l.map (·.1) = ss := by
  induction h with
  | nil => exact ⟨[], rfl, rfl⟩
  | cons k t _ ih => obtain ⟨l, e1, e2⟩ := ih; exact ⟨(k, t) :: l, by rw [e1]; rfl, by rw [List.map_cons, e2]⟩
theorem joinOk_small {ss : List Str} (h : (ss.map (·.length)).sum ≤ 1000000) : JoinOk "" ss = true := by
  unfold JoinOk
  rw [StrLaws.joinTotal]
  have e0 : (Str.length ("" : Str)) = 0 := by decide
  rw [e0, Nat.mul_zero, Nat.add_zero, Bool.not_eq_true']
  exact decide_eq_false (by rw [sizeLine_eq]; omega)
theorem lw_join : ∀ ss : List Str, lw (Str.join "" ss) = (ss.map lw).flatten
  | [] => rfl
  | [x] => by simp [Str.join]
  | x :: y :: r => by
    have := lw_join (y :: r)
    show lw (x ++ "" ++ Str.join "" (y :: r)) = _
    rw [lw_append, lw_append, this, show lw ("" : Str) = [] from by decide]
    simp
theorem lw_tjoin (ss : List Str) : lw (Txt.join "" ss) = (ss.map lw).flatten := by
  unfold Txt.join
  rw [StrLaws.glued_eq_join]
  exact lw_join ss
/-- ''.join(xs) -/
theorem tr_join {pl : Sem Bool} {o e : Expr} {apos pos : Pos} {l : Addr} {vs : List Value} {ss : List Str} (ho : Tr G σ (eval o G.env) (IsS "")) (he : Tr G σ (eval e G.env) (IsV (.ref l))) (hl : Ent G σ (fun h => h.IsList l vs.toArray)) (hs' : StrsAre vs ss) (hz : (ss.map (·.length)).sum ≤ 1000000)
    (hq : eval (.Call (.Attribute o "join" apos) [e] [] pos) G.env = (do
          let ov ← eval o G.env
          standAt apos.atName
          let (f, first) ← holding [ov] (getMethod ov "join" pl)
          callWith pos f first (backTo pos (starEach [e] G.env)) []) := by rfl)
    (hs : starEach [e] G.env = [(false, eval e G.env)] := by rfl) : Tr G σ (eval (.Call (.Attribute o "join" apos) [e] [] pos) G.env) (IsS (Txt.join "" ss)) :=
  Tm.r (tm_methB (P₂ := fun v vs' σ' => σ' = σ ∧ (∃ t, v = .str "" t) ∧ vs' = [.ref l]) F.plainAttrs_str F.slot_str_join F.type_str_join ho.m
    (fun v σ' own s pv c => by obtain ⟨rfl, t, rfl⟩ := pv; exact ⟨typeIs_str _ _ _, fun a e => nomatch e⟩)
    (fun v σ' pv => by obtain ⟨rfl, t, rfl⟩ := pv; exact (tr_arg1 he hs).m.mono fun vs σ' p => by obtain ⟨rfl, u, rfl, rfl⟩ := p; exact ⟨rfl, ⟨t, rfl⟩, rfl⟩)
    (fun v vs' σ' p => by
      obtain ⟨rfl, ⟨t, rfl⟩, rfl⟩ := p
      obtain ⟨lt, e1, e2⟩ := strs_values hs'
      exact fun own s Q E c k => SC.join (l := lt) (by rw [← e1]; exact hl own _ c) e2 (joinOk_small hz) fun t' k' => k _ _ s.heap _ ⟨rfl, t', rfl⟩ c) hq (by rw [hs]; rfl) rfl)

theorem tm_list1 {e : Expr} {pos : Pos} {P : Value → Prop} (he : Tr G σ (eval e G.env) P) (hs : starEach [e] G.env = [(false, eval e G.env)] := by rfl) :
    Tm G σ (eval (.List [e] pos) G.env) (fun v σ' => ∃ l x, v = .ref l ∧ P x ∧ σ' = { σ with n := (l, listOf [x].toArray 0) :: σ.n } ∧ ∀ p ∈ σ.n, p.1 ≠ l) :=
  tm_list (tr_arg1 he hs).m (fun vs σ' l p ap => by obtain ⟨rfl, x, rfl, px⟩ := p; exact ⟨l, x, rfl, px, rfl, ap⟩) (by simp) fun vs σ' p => by obtain ⟨rfl, x, rfl, px⟩ := p; simp
theorem tm_list0 {pos : Pos} : Tm G σ (eval (.List [] pos) G.env) (fun v σ' => ∃ l, v = .ref l ∧ σ' = { σ with n := (l, listOf ([] : List Value).toArray 0) :: σ.n } ∧ ∀ p ∈ σ.n, p.1 ≠ l) :=
  tm_list tr_args0.m (fun vs σ' l p ap => by obtain ⟨rfl, rfl⟩ := p; exact ⟨l, rfl, rfl, ap⟩) (by simp) fun vs σ' p => by obtain ⟨rfl, rfl⟩ := p; simp
theorem tm_dictNew (O : Ok G d) {pos : Pos} : Tm G σ (eval (.Dict [] [] pos) G.env) (fun v σ' => ∃ a o, v = .ref a ∧ σ' = { σ with n := (a, o) :: σ.n } ∧ o.IsDictOf (SK G) [] ∧ (a == sysModules) = false ∧ ∀ p ∈ σ.n, p.1 ≠ a) :=
  tm_dict0 O fun a o h1 h2 ap => ⟨a, o, rfl, rfl, h1, h2, ap⟩
end
end Mine
open PySem PySem.W PySem.Calls PyProof.Rows
set_option Elab.async false
set_option maxRecDepth 100000
set_option maxHeartbeats 4000000
set_option linter.unusedVariables false
namespace Mine
section
variable {G : Gx} {σ : Sg} {d : Nat}
theorem tr_testNot {e : Expr} {pos : Pos} {whole : Sem Value} {b : Bool} (h : Tr G σ (PySem.isTrue e G.env (eval e G.env)) (fun x => x = b)) : Tr G σ (PySem.isTrue (.UnaryOp .Not e pos) G.env whole) (fun x => x = !b) := fun own s Q E c k =>
  wpAny_isTrue_Not (h own s _ E c fun v h₁ t₁ e c₁ => by subst e; exact k _ h₁ t₁ rfl c₁)
theorem tr_testCmpN {l r : Expr} {op : CmpOp} {pos : Pos} {whole : Sem Value} {Pa : Value → Led → Prop} {Pb : Value → Value → Led → Prop} {b : Bool} (hl : Tm G σ (eval l G.env) (fun v σ' => ∃ nw, σ' = { σ with n := nw ++ σ.n } ∧ Pa v nw))
    (hr : ∀ a nw, Pa a nw → Tm G { σ with n := nw ++ σ.n } (eval r G.env) (fun v σ' => ∃ nw2, σ' = { σ with n := nw2 ++ σ.n } ∧ Pb a v nw2))
    (ho : ∀ x y nw, Pb x y nw → Tr G { σ with n := nw ++ σ.n } (compareOp op x y) (IsB b)) (hm : behindInMarks op r = false := by rfl) : Tr G σ (PySem.isTrue (.Compare l [op] [r] pos) G.env whole) (fun x => x = b) := fun own s Q E c k =>
  wpAny_isTrue_Compare1 (hl own s _ E c fun a σ₁ h₁ t₁ ⟨nw, e, pa⟩ c₁ => by
    subst e
    exact hr a nw pa own _ _ E c₁ fun y σ₂ h₂ t₂ ⟨nw2, e2, pb⟩ c₂ => by
      subst e2
      exact ho a y nw2 pb own _ _ E c₂ fun v h₃ t₃ pv c₃ => by subst pv; exact wpAny_truthy_bool (k _ h₃ t₃ rfl c₃.drop)) hm
theorem lookup_all {cl : List (Str × Addr)} {f : Str → Option Addr} (h : ∀ p ∈ cl, f p.1 = some p.2) : ∀ x a, cl.lookup x = some a → f x = some a := by
  intro x a e
  induction cl with
  | nil => cases e
  | cons p r ih =>
    rw [List.lookup_cons] at e
    split at e
    · rename_i hb
      cases e
      rw [eq_of_beq hb]
      exact h p (.head _)
    · exact ih (fun q hq => h q (.tail _ hq)) e
def szs (pr : Nat → Bool) (j : Nat) : List Int := ((List.range j).filter fun i => pr (i + 1)).map fun i => ((i + 1 : Nat) : Int)
theorem szs_succ (pr : Nat → Bool) (j : Nat) : szs pr (j + 1) = szs pr j ++ if pr (j + 1) = true then [((j + 1 : Nat) : Int)] else [] := by
  unfold szs
  rw [List.range_succ, List.filter_append, List.map_append]
  congr 1
  by_cases h : pr (j + 1) = true
  · rw [if_pos h, List.filter_cons_of_pos (p := fun i => pr (i + 1)) h]; rfl
  · rw [if_neg h, List.filter_cons_of_neg (p := fun i => pr (i + 1)) h]; rfl
theorem szs_congr {pr pr' : Nat → Bool} {j : Nat} (h : ∀ s, 1 ≤ s → s ≤ j → pr s = pr' s) : szs pr j = szs pr' j := by
  induction j with
  | zero => rfl
  | succ j ih => rw [szs_succ, szs_succ, ih (fun s a b => h s a (by omega)), h (j + 1) (by omega) (Nat.le_refl _)]
theorem szs_len (pr : Nat → Bool) (j : Nat) : (szs pr j).length ≤ j := by
  unfold szs
  rw [List.length_map]
  exact Nat.le_trans (List.length_filter_le _ _) (by simp)
theorem tr_lenGet {pl : Sem Bool} (O : Ok G d) {np pos apos p₁ lp : Pos} {o e : Expr} {D : Addr} {kvs : List (Str × Value)} {x : Str} {m : Nat} (hn : nsIn G.K mainGlobals "len" = some none) (hg : G.env.kindOf "len" = some .globalImplicit) (ho : Tr G σ (eval o G.env) (IsV (.ref D))) (he : Tr G σ (eval e G.env) (IsS x)) (hd : Ent G σ (fun h => h.DictOf (SK G) D kvs)) (hd' : ∀ nw, Ent G { σ with n := nw ++ σ.n } (fun h => h.DictOf (SK G) D kvs)) (hlo : (D == sysModules) = false) (hm : m ≤ 1000000)
    (h0 : valueAt kvs x = none → m = 0) (h1 : ∀ v, valueAt kvs x = some v → ∃ l us, v = .ref l ∧ us.length = m ∧ ∀ nw, Ent G { σ with n := nw ++ σ.n } (fun h => h.IsList l (List.toArray us)))
    (hq : eval (.Call (.Attribute o "get" apos) [e, .List [] lp] [] p₁) G.env = (do
          let ov ← eval o G.env
          standAt apos.atName
          let (f', first) ← holding [ov] (getMethod ov "get" pl)
          callWith p₁ f' first (backTo p₁ (starEach [e, .List [] lp] G.env)) []) := by rfl)
    (hs : starEach [e, .List [] lp] G.env = (false, eval e G.env) :: starEach [.List [] lp] G.env := by rfl) (hs1 : starEach [.List [] lp] G.env = (false, eval (.List [] lp) G.env) :: starEach [] G.env := by rfl)
    (hs2 : starEach [.Call (.Attribute o "get" apos) [e, .List [] lp] [] p₁] G.env = (false, eval (.Call (.Attribute o "get" apos) [e, .List [] lp] [] p₁) G.env) :: starEach [] G.env := by rfl) :
    Tr G σ (eval (.Call (.Name "len" np) [.Call (.Attribute o "get" apos) [e, .List [] lp] [] p₁] [] pos) G.env) (IsI m) := by
  refine Tm.tr (tm_callB (P := fun vs σ' => ∃ nw l us, vs = [.ref l] ∧ σ' = { σ with n := nw ++ σ.n } ∧ Ent G σ' (fun h => h.IsList l (List.toArray us)) ∧ us.length = m) (tr_blt O (v := .builtin "len") hn (by decide +kernel) (by decide) hg)
    (tm_arg (P := fun v σ' => ∃ nw l us, v = .ref l ∧ σ' = { σ with n := nw ++ σ.n } ∧ Ent G σ' (fun h => h.IsList l (List.toArray us)) ∧ us.length = m)
      (tm_dictGet2 (P := fun v σ' => ∃ l, v = .ref l ∧ σ' = { σ with n := [(l, listOf ([] : List Value).toArray 0)] ++ σ.n }) ho he (Tm.mono tm_list0 fun v σ' ⟨l, h1, h2, _⟩ => ⟨l, h1, h2⟩) (fun v σ' p => ?_) hd hlo (fun v σ' p => ?_) hq hs hs1) (fun v σ' p => ?_) hs2) (fun vs σ' p => ?_) hs2 rfl)
  · obtain ⟨l, rfl, rfl⟩ := p
    exact hd' _
  · obtain ⟨l, rfl, rfl⟩ := p
    cases hv : valueAt kvs x with
    | none => exact ⟨_, l, [], rfl, rfl, ent_list (.head _), (h0 hv).symm⟩
    | some u =>
      obtain ⟨l', us, rfl, hl, hE⟩ := h1 u hv
      exact ⟨_, l', us, rfl, rfl, hE _, hl⟩
  · obtain ⟨nw, l, us, rfl, rfl, hE, hl⟩ := p
    exact Tm.mono (Tr.m tr_args0) fun vs σ'' q => by obtain ⟨rfl, rfl⟩ := q; exact ⟨nw, l, us, rfl, rfl, hE, hl⟩
  · obtain ⟨nw, l, us, rfl, rfl, hE, hl⟩ := p
    refine Tm.mono (Tr.m (tr_len_list hE (by simp; omega))) fun v σ'' q => ?_
    obtain ⟨rfl, q⟩ := q
    refine ⟨nw, rfl, ?_⟩
    rw [← hl]; simpa using q
end
end Mine
open PySem PySem.W PySem.Calls PyProof.Rows
set_option Elab.async false
set_option maxRecDepth 100000
set_option maxHeartbeats 4000000
set_option linter.unusedVariables false
namespace Mine
section
variable {G : Gx} {σ : Sg} {d : Nat}
theorem tr_cmpN {l r : Expr} {op : CmpOp} {pos : Pos} {Pa : Value → Led → Prop} {Pb : Value → Value → Led → Prop} {R : Value → Prop} (hl : Tm G σ (eval l G.env) (fun v σ' => ∃ nw, σ' = { σ with n := nw ++ σ.n } ∧ Pa v nw))
    (hr : ∀ a nw, Pa a nw → Tm G { σ with n := nw ++ σ.n } (eval r G.env) (fun v σ' => ∃ nw2, σ' = { σ with n := nw2 ++ σ.n } ∧ Pb a v nw2))
    (ho : ∀ x y nw, Pb x y nw → Tr G { σ with n := nw ++ σ.n } (compareOp op x y) R) (hm : behindInMarks op r = false := by rfl) : Tr G σ (eval (.Compare l [op] [r] pos) G.env) R := fun own s Q E c k =>
  wpAny_Compare1 (hl own s _ E c fun a σ₁ h₁ t₁ ⟨nw, e, pa⟩ c₁ => by
    subst e
    exact hr a nw pa own _ _ E c₁ fun y σ₂ h₂ t₂ ⟨nw2, e2, pb⟩ c₂ => by
      subst e2
      exact ho a y nw2 pb own _ _ E c₂ fun v h₃ t₃ pv c₃ => k v h₃ t₃ pv c₃.drop) hm
/-- sum(xs[:k]) -/
theorem tr_sumCut (O : Ok G d) {np pos p q : Pos} {ve e : Expr} {l : Addr} {vs : List Value} {ns : List Int} {k : Nat} (hn : nsIn G.K mainGlobals "sum" = some none) (hg : G.env.kindOf "sum" = some .globalImplicit) (hv : Tr G σ (eval ve G.env) (IsV (.ref l))) (hl : Ent G σ (fun h => h.IsList l vs.toArray)) (hi : IntsAre vs ns) (he : Tr G σ (eval e G.env) (IsI k)) (hz : vs.length ≤ 1000000)
    (ht : ∀ o r, letTemporaryGo ve o r = pure () := by intro _ _; rfl)
    (hs : starEach [.Subscript ve (.Slice none (some e) none p) q] G.env = (false, eval (.Subscript ve (.Slice none (some e) none p) q) G.env) :: starEach [] G.env := by rfl) :
    Tr G σ (eval (.Call (.Name "sum" np) [.Subscript ve (.Slice none (some e) none p) q] [] pos) G.env) (fun v => ∃ z, IsI z v) := by
  refine Tm.tr (tm_callB (P := fun vs' σ' => ∃ l', vs' = [.ref l'] ∧ σ' = { σ with n := [(l', listOf (vs.take k).toArray 0)] ++ σ.n }) (tr_blt O (v := .builtin "sum") hn (by decide +kernel) (by decide) hg)
    (tm_arg (tm_cutList hv hl he hz ht) (fun v σ' p => ?_) hs) (fun vs' σ' p => ?_) hs rfl)
  · obtain ⟨l', rfl, rfl, _⟩ := p
    exact Tm.mono (Tr.m tr_args0) fun vs σ'' q => by obtain ⟨rfl, rfl⟩ := q; exact ⟨l', rfl, rfl⟩
  · obtain ⟨l', rfl, rfl⟩ := p
    exact Tm.mono (Tr.m (tr_sumInts O (ent_list (.head _)) (hi.take k))) fun v σ'' q => ⟨_, q.1, q.2⟩
end
end Mine
open PySem PySem.W PySem.Calls PyProof.Rows
set_option Elab.async false
set_option maxRecDepth 100000
set_option maxHeartbeats 4000000
set_option linter.unusedVariables false
namespace Mine
section
variable {G : Gx} {σ : Sg} {d : Nat}
/-- for x in a text -/
theorem src_str (O : Ok G d) {x : Str} {p : Pos} {iter : Expr} {y : Str} (he : Tr G σ (eval iter G.env) (IsS y)) (hx : G.env.kindOf x = some .local) :
    Src G σ (.Name x p) iter y.cps.size (toN x (SignAt y)) (fun σ₁ fix => σ₁ = σ ∧ fix = []) := fun own s Q E c k =>
  he own s _ E c fun v h₁ t₁ ⟨t, e⟩ c₁ => by
    subst e
    have hs : ∀ i v σ, SignAt y i v → Fx G σ [] → Tm G σ (assign (.Name x p) G.env v) (fun _ σ' => toN x (SignAt y) i σ σ' ∧ σ'.n = σ.n) := fun i v σ pv fx => has_toN O hx i v σ pv fx
    cases ha : y.cps.all (· < 128)
    · exact wpAny_pyIter_wide ha (k (.ref h₁.objs.size) [h₁.objs.size] _ _ _ σ [] ⟨rfl, rfl⟩
        (Drv.walks (Walks.strWide O.hh _ y t) (fun b hb => .inl (List.mem_singleton.mp hb)) (fun i h st => ⟨_, st.choose_spec.1⟩) (fun _ _ _ _ _ _ _ _ _ _ _ _ q => wpAny_pure q) hs)
        ⟨_, Heap.get?_push_size _ rfl, rfl, rfl⟩ (c₁.push _) (Off.fresh c₁ (get_size _)))
    · exact wpAny_pyIter_ascii ha (k (.ref h₁.objs.size) [h₁.objs.size] _ _ _ σ [] ⟨rfl, rfl⟩
        (Drv.walks (Walks.strAscii O.hh _ y t) (fun b hb => .inl (List.mem_singleton.mp hb)) (fun i h st => ⟨_, st.choose_spec.1⟩) (fun _ _ _ _ _ _ _ _ _ _ _ _ q => wpAny_pure q) hs)
        ⟨_, Heap.get?_push_size _ rfl, rfl, rfl⟩ (c₁.push _) (Off.fresh c₁ (get_size _)))
end
end Mine
open PySem PySem.W PySem.Calls PyProof.Rows
set_option Elab.async false
set_option maxRecDepth 100000
set_option maxHeartbeats 4000000
set_option linter.unusedVariables false
namespace Mine
section
variable {G : Gx} {σ : Sg} {d : Nat}
theorem ent_lst {a : Addr} {o : Obj} {its : Array Value} (hm : (a, o) ∈ σ.n) (ho : Obj.lst o its) : Ent G σ (fun h => h.IsList a its) := fun own h c => ⟨o, c.get hm, ho.1, ho.2⟩
/-- xs[k] = v -/
theorem tm_listSet {l : Addr} {o : Obj} {its : Array Value} {k : Int} {u w v : Value} (hm : (l, o) ∈ σ.n) (ho : Obj.lst o its) (hu : u = .ref l) (hw : IsI k w) (h0 : 0 ≤ k) (hk : k < its.size) (hz : its.size ≤ 1000000) :
    Tm G σ (setItem u w v) (fun _ σ' => ∃ o', Obj.lst o' (its.setIfInBounds k.toNat v) ∧ σ' = { σ with n := updL l o' σ.n }) := by
  obtain ⟨t, rfl⟩ := hw; subst hu
  refine fun own s Q E c q => wpAny_setItem_list (ent_lst hm ho own _ c) h0 (by omega) hk fun h' hl' hs => ?_
  obtain ⟨o', g, hc, hd⟩ := hl'
  exact q () _ h' _ ⟨o', ⟨hc, hd⟩, rfl⟩ (c.upd hm hs g)
theorem tr_dNotIn {a : Addr} {kvs : List (Str × Value)} {x : Str} {v i : Value} (hd : Ent G σ (fun h => h.DictOf (SK G) a kvs)) (hlo : (a == sysModules) = false) (hv : v = .ref a) (hi : IsS x i) : Tr G σ (compareOp .NotIn i v) (IsB (!(valueAt kvs x).isSome)) := by
  obtain ⟨t, rfl⟩ := hi; subst hv
  exact fun own s Q E c q => wpAny_notIn_of (knd := SK G) (k := x) (isStr_str x t) hlo (hd own _ c).mapOf (q _ s.heap _ rfl c)
/-- [[], {}] -/
theorem tm_node (O : Ok G d) {p q r : Pos} (hs : starEach [.List [] p, .Dict [] [] q] G.env = (false, eval (.List [] p) G.env) :: starEach [.Dict [] [] q] G.env := by rfl) (hs1 : starEach [.Dict [] [] q] G.env = (false, eval (.Dict [] [] q) G.env) :: starEach [] G.env := by rfl) :
    Tm G σ (eval (.List [.List [] p, .Dict [] [] q] r) G.env) (fun v σ' => ∃ a t k o, v = .ref a ∧ σ' = { σ with n := (a, listOf [Value.ref t, .ref k].toArray 0) :: (k, o) :: (t, listOf ([] : List Value).toArray 0) :: σ.n } ∧ o.IsDictOf (SK G) [] ∧ (k == sysModules) = false ∧
      (∀ p ∈ σ.n, p.1 ≠ t) ∧ (∀ p ∈ σ.n, p.1 ≠ k) ∧ (∀ p ∈ σ.n, p.1 ≠ a) ∧ t ≠ k ∧ t ≠ a ∧ k ≠ a) :=
  tm_list (P := fun vs σ' => ∃ t k o, vs = [.ref t, .ref k] ∧ σ' = { σ with n := (k, o) :: (t, listOf ([] : List Value).toArray 0) :: σ.n } ∧ o.IsDictOf (SK G) [] ∧ (k == sysModules) = false ∧ (∀ p ∈ σ.n, p.1 ≠ t) ∧ (∀ p ∈ σ.n, p.1 ≠ k) ∧ t ≠ k)
    (tm_arg (tm_list0) (fun v σ' p => by
      obtain ⟨t, rfl, rfl, h1⟩ := p
      exact tm_arg (tm_dictNew O) (fun v σ' p => by
        obtain ⟨k, o, rfl, rfl, h2, h3, h4⟩ := p
        exact Tm.mono (Tr.m tr_args0) fun vs σ'' q => by
          obtain ⟨rfl, rfl⟩ := q
          exact ⟨t, k, o, rfl, rfl, h2, h3, h1, fun p hp => h4 p (.tail _ hp), h4 (t, _) (.head _)⟩) hs1) hs)
    (fun vs σ' l p ap => by
      obtain ⟨t, k, o, rfl, rfl, h2, h3, h5, h6, h7⟩ := p
      exact ⟨l, t, k, o, rfl, rfl, h2, h3, h5, h6, fun p hp => ap p (.tail _ (.tail _ hp)), h7, ap (t, _) (.tail _ (.head _)), ap (k, _) (.head _)⟩) (by simp) fun vs σ' p => by obtain ⟨t, k, o, rfl, _⟩ := p; simp
end
end Mine
open PySem PySem.W PySem.Calls PyProof.Rows PySem.SeqAt
set_option Elab.async false
set_option maxRecDepth 100000
set_option maxHeartbeats 4000000
set_option linter.unusedVariables false
namespace Mine
theorem dict0_any {prog prog' : Program} {w w' : World} {h : Heap} {k : Addr} (hd : h.DictOf (PySem.strKind prog w) k []) : h.DictOf (PySem.strKind prog' w') k [] := by
  obtain ⟨o, es, ep, ho, he, hda, hk, hp, hn⟩ := hd
  have : es = #[] := by
    have := hp.length
    simp at this
    exact this
  subst this
  exact ⟨o, #[], ep, ho, he, hda, fun e he => by simp at he, .nil, by simp⟩
theorem eqAt_dict0 {prog : Program} {w : World} {A : Around} {s : Shared} {k k' : Addr} {kv : List (Str × Value)} (hd : s.heap.DictOf (PySem.strKind prog w) k kv) (hd' : s.heap.DictOf (PySem.strKind prog w) k' []) (s1 : (k == sysModules) = false) (s2 : (k' == sysModules) = false) (n2 : k ≠ k') (hu : A.units < cLine) :
    EqAt A s (.ref k) (.ref k') kv.isEmpty := EqAt.of_refs n2 fun prog' w' E Q h => by
  cases kv with
  | nil => exact keq_eq (knd := PySem.strKind prog' w') s1 s2 (dict0_any hd) (dict0_any hd') hu (fun _ => .nil) h
  | cons q r =>
    have t1 := hd.typeIs
    have t2 := hd'.typeIs
    obtain ⟨oa, es, ep, hoa, _, hda, _, hpa, _⟩ := hd
    obtain ⟨ob, es', ep', hob, _, hdb, _, hpb, _⟩ := hd'
    have hla : r.length + 1 = es.size := by rw [← List.length_cons, ← hpa.length]; exact Array.length_toList
    have hlb : 0 = es'.size := by rw [← List.length_nil (α := Str × Value), ← hpb.length]; exact Array.length_toList
    refine wpAny_richCompare_same_room (op := .Eq) t1 t2 PySem.F.slot_dict_eq (wpAny_call_entry PySem.F.slot_dict_eq t1 PySem.F.entry_dict_eq ?_ (PySem.F.args_dict_eq_2 _ _)) hu
    show wpAny _ _ (Builtin.Dict.dictSlotArgs "__eq__" ⟨[.ref k, .ref k'], []⟩ >>= _) _ _ s
    refine wpAny_bind ?_
    unfold Builtin.Dict.dictSlotArgs
    refine wpAny_bind (wpAny_notOrdered_dict t1 ?_)
    show wpAny _ _ (pure (Value.ref k, Value.ref k')) _ _ s
    refine wpAny_pure ?_
    refine wpAny_bind (wpAny_isInstance (T := "dict") t2 PySem.F.sub_dict_dict ?_)
    simp only [Bool.not_true, Bool.false_eq_true, if_false]
    refine wpAny_bind (wpAny_pure (wpAny_bind (wpAny_pure ?_)))
    refine wpAny_bind ?_
    unfold Builtin.Dict.samePairs Builtin.Dict.showsAll
    rw [if_neg (show ¬ (k == sysModules) = true by rw [s1]; exact Bool.false_ne_true), if_neg (show ¬ (k' == sysModules) = true by rw [s2]; exact Bool.false_ne_true)]
    refine wpAny_bind (wpAny_pure (wpAny_bind (wpAny_pure ?_)))
    refine wpAny_bind (wpAny_dictEntries hoa hda ?_)
    dsimp only
    refine wpAny_bind (wpAny_dictEntries hob hdb ?_)
    rw [if_pos (by simp; omega)]
    refine wpAny_bind (wpAny_rule (wpAny_pure (wpAny_pure ⟨_, rfl, (fun x => nomatch x), ?_⟩)))
    exact h
section
variable {G : Gx} {σ : Sg} {d : Nat}
/-- a node against [[], {}] -/
theorem tr_neNode {l b t t' k k' : Addr} {vs : List Value} {ns : List Int} {kv : List (Str × Value)} {u v : Value} (hl : Ent G σ (fun h => h.IsList l #[.ref t, .ref k])) (hb : Ent G σ (fun h => h.IsList b #[.ref t', .ref k'])) (ht : Ent G σ (fun h => h.IsList t vs.toArray)) (hi : IntsAre vs ns) (ht' : Ent G σ (fun h => h.IsList t' ([] : List Value).toArray))
    (hd : Ent G σ (fun h => h.DictOf (SK G) k kv)) (hd' : Ent G σ (fun h => h.DictOf (SK G) k' [])) (s1 : (k == sysModules) = false) (s2 : (k' == sysModules) = false) (n2 : k ≠ k') (hu : G.A.in1.units + 64 < cLine) (hu0 : G.A.units < cLine) (hu1 : G.A.in1.in1.units + 64 < cLine) (eu : u = .ref l) (ev : v = .ref b) :
    Tr G σ (compareOp .NotEq u v) (IsB (!(decide (ns = []) && kv.isEmpty))) := by
  subst eu; subst ev
  exact fun own s Q E c q => by
    have key := RcNeAt.lists (A := G.A) (s := s) (e := fun j => if j = 0 then decide (ns = []) else kv.isEmpty) (hl own _ c) (hb own _ c) rfl hu0 (fun j h1 h2 => ?_)
    · refine key G.prog G.w E Q ?_
      have e1 : (List.range (#[Value.ref t, Value.ref k] : Array Value).size).all (fun j => if j = 0 then decide (ns = []) else kv.isEmpty) = (decide (ns = []) && kv.isEmpty) := by
        show (List.range 2).all _ = _
        simp [List.range_succ]
      rw [e1]
      exact q _ s.heap s.toks rfl c
    · match j, h1 with
      | 0, _ => exact keq_ints (A := G.A) (ht own _ c) hi (ht' own _ c) .nil hu
      | 1, _ => exact eqAt_dict0 (hd own _ c) (hd' own _ c) s1 s2 n2 (by omega)
end
end Mine
open PySem PySem.W PySem.Calls PyProof.Rows
set_option Elab.async false
set_option maxRecDepth 100000
set_option maxHeartbeats 4000000
set_option linter.unusedVariables false
namespace Mine
noncomputable abbrev KK (w : World) : Frag := hd1.heap_39 w.params
theorem kk_blt (w : World) : nsIn (KK w) mainGlobals "chr" = some none := by rfl
theorem kk_sign (w : World) : nsIn (KK w) mainGlobals "_law_sign" = some (some (.ref 92)) := by rfl

def chrPt (n : Int) : Int := if (n.fdiv 4).fmod 1112064 < 55296 then (n.fdiv 4).fmod 1112064 else (n.fdiv 4).fmod 1112064 + 2048
def sign (n : Int) : Str := if n.fmod 4 < 3 then ([(Str.ofString "a"), Str.ofString "b", Str.ofString ""].getD (n.fmod 4).toNat (Str.ofString "")) else ⟨#[(chrPt n).toNat]⟩


theorem fmod4 (n : Int) : 0 ≤ n.fmod 4 ∧ n.fmod 4 < 4 := by
  rw [Int.fmod_eq_emod_of_nonneg _ (by decide)]; omega
section
variable {G : Gx} {σ : Sg} {d : Nat}
theorem sign_fn (hK : G.K = KK G.w) (O : Ok G (d + 1)) (n : Int) (t : Tok) : Tr G σ (call (.ref 92) [.int n t] []) (IsS (sign n)) := by
  refine' Tm.tr (Tm.mono (tm_fn (R := fun v _ => IsS (sign n) v) (body := ?body) (binds := [("n", .int n t)]) O (hK := ?hK) ?hb ?hc ?h1 ?h2 ?h3 ?h4 ?h5 ?h6 ?h7 ?h8 ?h9 ?hw) fun v σ' h => ?_)
  case hK => rw [hK]; rfl
  case hb => rfl
  case hc => rw [hK]; rfl
  case h1 => rfl
  case h2 => rfl
  case h3 => rfl
  case h4 => rfl
  case h5 => rfl
  case h6 => rfl
  case h7 => decide
  case h8 => exact fun s X => BindsTo.of_eq rfl
  case h9 => exact locs rfl
  case hw =>
    intro own h L c O'
    have m4 := fmod4 n
    have kb : nsIn G.K mainGlobals "chr" = some none := by rw [hK]; rfl
    refine seq_ifRet (x := decide (n.fmod 4 < 3)) (tr_testCmp (tr_mod (tr_nameI O' rfl) tr_int (by decide)) tr_int fun _ _ a b => tr_lt_int a b) (fun h3 => ?_) (fun h3 => ?_)
    · have h3' : n.fmod 4 < 3 := by simpa using h3
      refine Tm.mono (tr_display (k := n.fmod 4) (R := IsS (sign n)) (tr_arg3 tr_str tr_str tr_str) (fun vs p => ?_) (fun nw => tr_mod (tr_nameI O' rfl) tr_int (by decide)) m4.1 (by omega) (by decide)).m fun v σ' p => p.2
      obtain ⟨v, u, w, e, ⟨t1, h1⟩, ⟨t2, h2⟩, ⟨t3, h3⟩⟩ := p
      subst e; subst h1; subst h2; subst h3
      refine ⟨by simp, ?_⟩
      have hc : n.fmod 4 = 0 ∨ n.fmod 4 = 1 ∨ n.fmod 4 = 2 := by omega
      rcases hc with h | h | h <;> exact ⟨_, by rw [h]; rfl, _, by unfold sign; rw [h]; rfl⟩
    · have h3' : ¬ n.fmod 4 < 3 := by simpa using h3
      refine seq_assign O' (tr_mod (tr_div (tr_nameI O' rfl) tr_int (by decide) (PyProof.noPylong_small (by decide))) tr_int (by decide)).m fun v σ' pv => ?_
      obtain ⟨e, t, ev⟩ := pv
      subst e; subst ev
      have hq : 0 ≤ (n.fdiv 4).fmod 1112064 ∧ (n.fdiv 4).fmod 1112064 < 1112064 := by
        rw [Int.fmod_eq_emod_of_nonneg _ (by decide)]; omega
      refine seq_ret (Tm.mono (tr_fn1 O' kb (id := "chr") (by decide +kernel) rfl (P := IsI (chrPt n)) (R := IsS (sign n)) ?_ ?_).m fun v σ' p => p.2)
      · refine tr_ifexp (x := decide ((n.fdiv 4).fmod 1112064 < 55296)) (tr_testCmp (tr_nameI O' rfl) tr_int fun _ _ a b => tr_lt_int a b) ?_
        by_cases hlt : (n.fdiv 4).fmod 1112064 < 55296
        · rw [if_pos (by simpa using hlt)]
          exact tr_nameP O' rfl ⟨t, by unfold chrPt; rw [if_pos hlt]⟩
        · rw [if_neg (by simpa using hlt)]
          exact Tr.mono (tr_add (tr_nameI O' rfl) tr_int) fun v ⟨t', e⟩ => ⟨t', by unfold chrPt; rw [if_neg hlt]; exact e⟩
      · intro v hv
        refine Tr.mono (tr_chr hv ?_ ?_) fun v ⟨t', e⟩ => ⟨t', by unfold sign; rw [if_neg h3']; exact e⟩
        · unfold chrPt; split <;> omega
        · unfold chrPt; split <;> omega
  obtain ⟨nw, e, p, _⟩ := h
  exact ⟨nw, e, p⟩
end
end Mine
open PySem PySem.W PySem.Calls PyProof.Rows
set_option Elab.async false
set_option maxRecDepth 100000
set_option maxHeartbeats 4000000
set_option linter.unusedVariables false
namespace Mine

theorem SK_at (G : Gx) (A : Around) : SK (G.at A) = SK G := rfl
abbrev tupObj (vs : List Value) : Obj := { cls := .type "tuple", data := .seq vs.toArray }

/-- the words between -/
def LB (ss : List Str) (p : Str) (lo hi r : Nat) : Prop := lo ≤ r ∧ r ≤ hi ∧ (∀ i s, lo ≤ i → i < r → ss[i]? = some s → lw s < lw p) ∧ ∀ i s, r ≤ i → i < hi → ss[i]? = some s → ¬ lw s < lw p

theorem sorted_le : ∀ {ss : List Str}, sortedS ss = true → ∀ (i j : Nat) (a b : Str), i ≤ j → ss[i]? = some a → ss[j]? = some b → ¬ lw b < lw a := by
  have rising : ∀ (ss : List Str) (p : Str), risingS p ss = true → ∀ (j : Nat) (b : Str), ss[j]? = some b → ¬ lw b < lw p := by
    intro ss
    induction ss with
    | nil => intro p _ j b h; simp at h
    | cons x r ih =>
      intro p h j b hj
      simp only [risingS, Bool.and_eq_true, Bool.not_eq_true'] at h
      rw [ltCps_eq, decide_eq_false_iff_not] at h
      cases j with
      | zero => simp at hj; subst hj; exact h.1
      | succ j => 
        have := ih x h.2 j b (by simpa using hj)
        exact List.not_lt.mpr (List.le_trans (List.not_lt.mp h.1) (List.not_lt.mp this))
  intro ss
  induction ss with
  | nil => intro _ i j a b _ h; simp at h
  | cons x r ih =>
    intro h i j a b hij ha hb
    cases i with
    | zero =>
      simp at ha; subst ha
      cases j with
      | zero => simp at hb; subst hb; exact List.lt_irrefl _
      | succ j => exact rising r x h j b (by simpa using hb)
    | succ i =>
      cases j with
      | zero => omega
      | succ j =>
        refine ih ?_ i j a b (by omega) (by simpa using ha) (by simpa using hb)
        cases r with
        | nil => rfl
        | cons y r => simp only [sortedS, risingS, Bool.and_eq_true] at h ⊢; exact h.2

section
variable {G : Gx} {σ : Sg} {d : Nat}

/-- the walk of bisect_left behind its first statement -/
theorem strs_get {vs : List Value} {ss : List Str} (h : StrsAre vs ss) : ∀ (i : Nat) s, ss[i]? = some s → ∃ t, vs[i]? = some (.str s t) := by
  induction h with
  | nil => intro i s e; simp at e
  | cons k t _ ih =>
    intro i s e
    cases i with
    | zero => simp at e; subst e; exact ⟨t, rfl⟩
    | succ i => simpa using ih i s (by simpa using e)
theorem strs_len {vs : List Value} {ss : List Str} (h : StrsAre vs ss) : vs.length = ss.length := by
  induction h with
  | nil => rfl
  | cons k t _ ih => simp [ih]

noncomputable def fdOf (K : Frag) (f : Addr) : FuncData := match K.lookup f with | some ⟨_, _, .func fd, _⟩ => fd | _ => default

theorem bs4 {s : Shared} {w : World} {a b c d : Value} (X : (KK w).In s.heap) : BindsTo s (fdOf (KK w) 22) ⟨[a, b, c, d], []⟩ [("rows", a), ("key", b), ("low", c), ("high", d)] := by
  refine binds_K (K := KK w) X (by rfl) (by rfl) (by rfl) (by rfl) (by rfl)

theorem bisect_gen (hK : G.K = KK G.w) (O : Ok G (d + 1)) {l : Addr} {vs : List Value} {ss : List Str} {p : Str} {tp : Tok} {lo hi : Nat} {args : List Value} {a b : Value} (hl : Ent G σ (fun h => h.IsList l vs.toArray)) (hs : StrsAre vs ss) (hz : ss.length < 1000) (hlo : lo ≤ hi) (hhi : hi ≤ ss.length)
    (hbd : ∀ s : Shared, G.K.In s.heap → BindsTo s (fdOf (KK G.w) 22) ⟨args, []⟩ [("rows", .ref l), ("key", .str p tp), ("low", a), ("high", b)]) (ha : IsI lo a) (hb : IsI hi b ∨ b = .none ∧ hi = ss.length) (hso : sortedS ss = true) : Tr G σ (call (.ref 22) args []) (fun v => ∃ r, LB ss p lo hi r ∧ IsI r v) := by
  refine' Tm.tr (Tm.mono (tm_fn (R := fun v _ => ∃ r, LB ss p lo hi r ∧ IsI r v) (body := ?body) (binds := [("rows", .ref l), ("key", .str p tp), ("low", a), ("high", b)]) O (hK := ?hK) ?hb ?hc ?h1 ?h2 ?h3 ?h4 ?h5 ?h6 ?h7 ?h8 ?h9 ?hw) fun v σ' h => ?_)
  case hK => rw [hK]; rfl
  case hb => rfl
  case hc => rw [hK]; rfl
  case h1 => rfl
  case h2 => rfl
  case h3 => rfl
  case h4 => rfl
  case h5 => rfl
  case h6 => rfl
  case h7 => decide
  case h8 => exact hbd
  case h9 => exact locs rfl
  case hw =>
    intro own h L c O'
    have kb : nsIn G.K mainGlobals "len" = some none := by rw [hK]; rfl
    have hl₀ : h.IsList l vs.toArray := hl own h c
    have hv := strs_len hs
    obtain ⟨ta, rfl⟩ := ha
    refine tm_next (P₁ := fun σ' => (∃ t, σ'.m "low" = some (.int lo t)) ∧ (∃ t, σ'.m "high" = some (.int hi t)) ∧ σ'.m "rows" = some (.ref l) ∧ σ'.m "key" = some (.str p tp)) (tm_if (x := b == .none) (tr_testCmp (tr_name O' rfl) tr_none fun _ _ e1 e2 => ?_) ?_) fun σ' ⟨h1, h2, h3, h4⟩ => ?_
    · subst e1
      refine tr_isNone e2 ?_
      rcases hb with ⟨t, rfl⟩ | ⟨rfl, _⟩ <;> rfl
    · rcases hb with ⟨t, rfl⟩ | ⟨rfl, rfl⟩
      · rw [show (Value.int (hi : Int) t == Value.none) = false from rfl, if_neg (by decide)]
        exact tm_nil ⟨rfl, ⟨ta, rfl⟩, ⟨t, rfl⟩, rfl, rfl⟩
      · rw [if_pos (by decide)]
        refine seq_assign O' (tr_fn1 O' kb (id := "len") (by decide +kernel) rfl (tr_name O' rfl) (R := IsI vs.toArray.size) fun v e => by subst e; exact tr_len_list (ent_list₀ hl₀) (by simp; omega)).m fun v σ₂ pv => ?_
        obtain ⟨e', t3, ev⟩ := pv
        subst e'; subst ev
        exact tm_nil ⟨rfl, ⟨ta, rfl⟩, ⟨t3, by simp [put, hv]⟩, rfl, rfl⟩
    refine seq (tm_while (fun n σ₁ => ∃ a b t u, σ₁.m "low" = some (.int (a : Nat) t) ∧ σ₁.m "high" = some (.int (b : Nat) u) ∧ σ₁.m "rows" = some (.ref l) ∧ σ₁.m "key" = some (.str p tp) ∧ n = b - a ∧ lo ≤ a ∧ a ≤ b ∧ b ≤ hi ∧ (∀ i s, lo ≤ i → i < a → ss[i]? = some s → lw s < lw p) ∧ ∀ i s, b ≤ i → i < hi → ss[i]? = some s → ¬ lw s < lw p) (hi - lo) ?_ ?_)
    · obtain ⟨t, h1⟩ := h1
      obtain ⟨u, h2⟩ := h2
      exact ⟨lo, hi, t, u, h1, h2, h3, h4, rfl, Nat.le_refl _, hlo, Nat.le_refl _, fun i s a b => absurd a (by omega), fun i s a b => absurd a (by omega)⟩
    · rintro n σ₁ ⟨a, b, t, u, ma, mb, mr, mk, rfl, q1, q2, q3, q4, q5⟩
      refine ⟨decide ((a : Int) < b), tr_testCmp (tr_nameI O' ma) (tr_nameI O' mb) fun _ _ e1 e2 => tr_lt_int e1 e2, fun hlt => ?_, fun hge => ?_⟩
      · have hab : a < b := by simpa using hlt
        refine seq_assign O' (tr_div (tr_add (tr_nameI O' ma) (tr_nameI O' mb)) tr_int (by decide) (PyProof.noPylong_small (by decide))).m fun v σ₂ pv => ?_
        obtain ⟨e, t2, ev⟩ := pv
        subst e; subst ev
        have em : ((a : Int) + (b : Int)).fdiv 2 = (((a + b) / 2 : Nat) : Int) := by rw [Int.fdiv_eq_ediv_of_nonneg _ (by decide)]; omega
        rw [em]
        generalize hc : (a + b) / 2 = c'
        have hmid : a ≤ c' ∧ c' < b := by omega
        obtain ⟨sm, hsm⟩ : ∃ s, ss[c']? = some s := ⟨_, List.getElem?_eq_getElem (by omega)⟩
        obtain ⟨tm, htm⟩ := strs_get hs c' sm hsm
        refine seq_if (x := decide (sm.cps.toList < p.cps.toList)) (tr_testCmp (Pa := IsS sm) (tr_sub_ (tr_name O' mr) (tr_nameI O' rfl) fun x y e1 e2 => Tr.mono (tr_item (x := .str sm tm) (ent_list₀ hl₀) e1 e2 (by omega) (by omega) (by simpa using htm)) fun v e => ⟨tm, e⟩) (tr_nameP O' mk ⟨tp, rfl⟩) fun _ _ e1 e2 => tr_lt_str e1 e2) (fun e => ?_) (fun e => ?_)
        · refine seq_assign O' (tr_add (tr_nameI O' rfl) tr_int).m fun v σ₂ pv => ?_
          obtain ⟨e', t3, ev⟩ := pv
          subst e'; subst ev
          refine tm_nil (tm_nil ?_)
          have hs' : lw sm < lw p := by simpa using e
          refine ⟨b - (c' + 1), by omega, c' + 1, b, t3, u, by simp [put], mb, mr, mk, rfl, by omega, by omega, q3, fun i s h1 h2 h3 => ?_, q5⟩
          have := sorted_le hso i c' s sm (by omega) h3 hsm
          exact List.lt_of_le_of_lt (List.not_lt.mp this) hs'
        · refine seq_assign O' (tr_nameI O' rfl).m fun v σ₂ pv => ?_
          obtain ⟨e', t3, ev⟩ := pv
          subst e'; subst ev
          refine tm_nil (tm_nil ?_)
          have hs' : ¬ lw sm < lw p := by simpa using e
          refine ⟨c' - a, by omega, a, c', t, t3, ma, rfl, mr, mk, rfl, q1, by omega, by omega, q4, fun i s h1 h2 h3 => ?_⟩
          have := sorted_le hso c' i sm s h1 hsm h3
          exact List.not_lt.mpr (List.le_trans (List.not_lt.mp hs') (List.not_lt.mp this))
      · have hab : ¬ a < b := by simpa using hge
        refine seq_ret (Tm.mono (tr_nameI O' ma).m fun v σ₂ pv => ⟨a, ⟨q1, by omega, q4, fun i s h1 => q5 i s (by omega)⟩, pv.2⟩)
  obtain ⟨nw, e, p, _⟩ := h
  exact ⟨nw, e, p⟩

/-- a trie in the heap -/
def TrieH {prog : Program} {w : World} (knd : KeyKind prog w Str) (h : Heap) (x D : Addr) (kvs : List (Str × Value)) : Prop := ∃ dx es n l vs ss t u v tk, InstIn h x 74 dx es n ∧ getL "_data" es = some (some (.ref D)) ∧ getL "_keys" es = some (some (.ref l)) ∧ getL "_cachestr" es = some (some (.str "" tk)) ∧ getL "_cachepoints" es = some (some (.ref t)) ∧
  getL "has_keys_with_prefix" es = some none ∧ getL "longest_prefix" es = some none ∧ h.IsList l (List.toArray vs) ∧ StrsAre vs ss ∧ sortedS ss = true ∧ ss.Perm (kvs.map (·.1)) ∧ h.IsTuple t #[.int 0 u, .int kvs.length v] ∧ h.DictOf knd D kvs ∧ (D == sysModules) = false
theorem TrieH.keep {prog : Program} {w : World} {knd : KeyKind prog w Str} {h h' : Heap} {x D : Addr} {kvs : List (Str × Value)} (T : TrieH knd h x D kvs) (k : ∀ b o, h.get? b = some o → h'.get? b = some o) : TrieH knd h' x D kvs := by
  obtain ⟨dx, es, n, l, vs, ss, t, u, v, tk, h1, h2, h3, h4, h5, h6, h7, h8, h9, h10, h11, h12, h13, h14⟩ := T
  obtain ⟨o, ho, r⟩ := h12
  exact ⟨dx, es, n, l, vs, ss, t, u, v, tk, h1.keep k, h2, h3, h4, h5, h6, h7, h8.at fun o e => k _ _ e, h9, h10, h11, ⟨o, k _ _ ho, r⟩, h13.at fun o e => k _ _ e, h14⟩
/-- what its making leaves -/
def TrieN (x D : Addr) (kvs : List (Str × Value)) (nw : Led) : Prop := ∃ dx es n l m vs ss t u v tk, (x, instObj 74 dx) ∈ nw ∧ (dx, dictOf es n) ∈ nw ∧ getL "_data" es = some (some (.ref D)) ∧ getL "_keys" es = some (some (.ref l)) ∧ getL "_cachestr" es = some (some (.str "" tk)) ∧ getL "_cachepoints" es = some (some (.ref t)) ∧
  getL "has_keys_with_prefix" es = some none ∧ getL "longest_prefix" es = some none ∧ (l, listOf (List.toArray vs) m) ∈ nw ∧ StrsAre vs ss ∧ sortedS ss = true ∧ ss.Perm (kvs.map (·.1)) ∧ (t, tupObj [.int 0 u, .int kvs.length v]) ∈ nw
theorem TrieN.ent {x D : Addr} {kvs : List (Str × Value)} {nw : Led} (T : TrieN x D kvs nw) (hn : ∀ p ∈ nw, p ∈ σ.n) (hd : Ent G σ (fun h => h.DictOf (SK G) D kvs)) (hlo : (D == sysModules) = false) : Ent G σ (fun h => TrieH (SK G) h x D kvs) := fun own h c => by
  obtain ⟨dx, es, n, l, m, vs, ss, t, u, v, tk, h1, h1', h2, h3, h4, h5, h6, h7, h8, h9, h10, h11, h12⟩ := T
  exact ⟨dx, es, n, l, vs, ss, t, u, v, tk, ⟨c.get (hn _ h1), c.get (hn _ h1')⟩, h2, h3, h4, h5, h6, h7, ⟨_, c.get (hn _ h8), rfl, m, rfl⟩, h9, h10, h11, ⟨_, c.get (hn _ h12), rfl, 0, rfl⟩, hd own h c, hlo⟩

theorem tm_selfAttr (O : Ok G d) {e : Expr} {name y : Str} {np p pos : Pos} {x : Addr} {P : Value → Sg → Prop} {R : Flow → Sg → Prop} (he : Tm G σ (eval e G.env) P) (hself : ∀ v σ', P v σ' → σ'.m y = some (.ref x)) (hs : ∀ v σ', P v σ' → Tm G σ' (setAttr (.ref x) name v) (fun _ σ₂ => R .next σ₂))
    (hx : G.env.kindOf y = some .local := by rfl) (hd : (y == ("__debug__" : Str)) = false := by decide) (hw : swapsWith e (some (.Attribute (.Name y np) name p)) pos.line G.env = pure false := by rfl) :
    Tm G σ (exec (.Assign [.Attribute (.Name y np) name p] e pos) G.env) R :=
  tm_assignAttr (P₂ := fun v u σ' => P v σ' ∧ u = .ref x) he (fun v σ' pv => Tm.mono (Tr.m (tr_name O (hself v σ' pv) hx hd)) fun u σ'' q => by obtain ⟨rfl, rfl⟩ := q; exact ⟨pv, rfl⟩) (fun v u σ' q => by obtain ⟨pv, rfl⟩ := q; exact hs v σ' pv) hw

theorem tm_keysCall {pl : Sem Bool} {o : Expr} {apos pos : Pos} {D : Addr} {kvs : List (Str × Value)} (ho : Tr G σ (eval o G.env) (IsV (.ref D))) (hd : Ent G σ (fun h => h.DictOf (SK G) D kvs)) (hlo : (D == sysModules) = false)
    (hq : eval (.Call (.Attribute o "keys" apos) [] [] pos) G.env = (do
          let ov ← eval o G.env
          standAt apos.atName
          let (f, first) ← holding [ov] (getMethod ov "keys" pl)
          callWith pos f first (backTo pos (starEach [] G.env)) []) := by rfl) :
    Tm G σ (eval (.Call (.Attribute o "keys" apos) [] [] pos) G.env) (fun v σ' => ∃ r, v = .ref r ∧ σ' = { σ with n := (r, { cls := .type "dict_keys", data := .fields #[.ref D] }) :: σ.n } ∧ ∀ p ∈ σ.n, p.1 ≠ r) :=
  tm_methB0 F.plainAttrs_dict F.slot_dict_keys F.type_dict_keys ho.m (fun v σ' own s p c => by obtain ⟨rfl, rfl⟩ := p; exact ⟨(hd own _ c).typeIs, (hd own _ c).mapOf.noDict⟩) (fun v σ' p => by obtain ⟨rfl, rfl⟩ := p; exact tm_keysView hd hlo) hq
theorem tm_sortedKeysCall (O : Ok G d) {pl : Sem Bool} {np pos p₁ apos : Pos} {o : Expr} {D : Addr} {oD : Obj} {kvs : List (Str × Value)} (hs : nsIn G.K mainGlobals "sorted" = some none) (hg : G.env.kindOf "sorted" = some .globalImplicit) (ho : Tr G σ (eval o G.env) (IsV (.ref D))) (hl : Fx G σ [(D, oD)]) (hd : oD.IsDictOf (SK G) kvs) (hlo : (D == sysModules) = false) (hz : kvs.length < 64)
    (hq : eval (.Call (.Attribute o "keys" apos) [] [] p₁) G.env = (do
          let ov ← eval o G.env
          standAt apos.atName
          let (f, first) ← holding [ov] (getMethod ov "keys" pl)
          callWith p₁ f first (backTo p₁ (starEach [] G.env)) []) := by rfl)
    (hss : starEach [(.Call (.Attribute o "keys" apos) [] [] p₁)] G.env = [(false, eval (.Call (.Attribute o "keys" apos) [] [] p₁) G.env)] := by rfl) :
    Tm G σ (eval (.Call (.Name "sorted" np) [.Call (.Attribute o "keys" apos) [] [] p₁] [] pos) G.env) (fun v σ' => ∃ l r m vs ss, v = .ref l ∧ σ' = { σ with n := (l, listOf (List.toArray vs) m) :: (r, { cls := .type "dict_keys", data := .fields #[.ref D] }) :: σ.n } ∧ StrsAre vs ss ∧ ss.Perm (kvs.map (·.1)) ∧ sortedS ss = true ∧ (∀ p ∈ σ.n, p.1 ≠ l) ∧ ∀ p ∈ σ.n, p.1 ≠ r) :=
  tm_callB (tr_blt O (v := .builtin "sorted") hs (by decide +kernel) (by decide) hg) (P := fun vs σ' => ∃ r, vs = [.ref r] ∧ σ' = { σ with n := (r, { cls := .type "dict_keys", data := .fields #[.ref D] }) :: σ.n } ∧ ∀ p ∈ σ.n, p.1 ≠ r)
    (tm_arg (tm_keysCall ho (fun own h c => Heap.dictOf_iff.mpr ⟨oD, hl.get c _ (.head _), hd⟩) hlo hq) (fun v σ' ⟨r, e, e', hr⟩ => Tm.mono tr_args0.m fun vs σ'' ⟨q1, q2⟩ => by subst e; subst q1; subst q2; exact ⟨r, rfl, e', hr⟩) hss)
    (fun vs σ' ⟨r, e, e', hr⟩ => by
      subst e; subst e'
      exact Tm.mono (tm_sortedKeys O (r := r) (fun p hp => (hl p hp).imp (fun q => List.mem_cons_of_mem _ q) id) hd (.head _) hz) fun v σ' ⟨l, m, vs, ss, e1, e2, e3, e4, e5, e6⟩ => ⟨l, r, m, vs, ss, e1, e2, e3, e4, e5, fun p hp => e6 p (.tail _ hp), hr⟩) hss rfl

theorem tm_pair {e f : Expr} {m : Nat} {pos : Pos} {P R : Value → Prop} (he : Tr G σ (eval e G.env) P) (hf : Tr G σ (eval f G.env) R) (hs : starEach [e, f] G.env = [(false, eval e G.env), (false, eval f G.env)] := by rfl) (hs' : starEach [f] G.env = [(false, eval f G.env)] := by rfl) :
    Tm G σ (eval (.Tuple [e, f] m pos) G.env) (fun v σ' => ∃ t a b, v = .ref t ∧ σ' = { σ with n := (t, tupObj [a, b]) :: σ.n } ∧ P a ∧ R b ∧ ∀ p ∈ σ.n, p.1 ≠ t) :=
  tm_tuple (tr_arg2 he hf hs hs').m (fun vs σ' l p ap => by obtain ⟨rfl, a, b, rfl, pa, pb⟩ := p; exact ⟨l, a, b, rfl, rfl, pa, pb, ap⟩) fun vs σ' p => by obtain ⟨rfl, a, b, rfl, _⟩ := p; simp

theorem trie_make (hK : G.K = KK G.w) (O : Ok G (d + 3)) {D : Addr} {kvs : List (Str × Value)} (hd : Ent G σ (fun h => h.DictOf (SK G) D kvs)) (hlo : (D == sysModules) = false) (hz : kvs.length < 64) :
    Tm G σ (call (.ref 74) [.ref D] []) (fun v σ' => ∃ x nw, v = .ref x ∧ σ' = { σ with n := nw ++ σ.n } ∧ TrieN x D kvs nw ∧ ∀ p ∈ nw, ∀ q ∈ σ.n, p.1 ≠ q.1) := by
  refine' tm_make (R := fun x nw => TrieN x D kvs nw) (body := ?body) (fI := 36) (binds := fun x => [("self", .ref x), ("data", .ref D)]) O ?ha ?hb (by rw [hK]; rfl) (hK := ?hK) ?hbo ?hc ?h1 ?h2 ?h3 ?h4 ?h5 ?h6 ?h7 ?h8 ?h9 ?hw
  case ha => rw [hK]; rfl
  case hb => rw [hK]; rfl
  case hK => rw [hK]; rfl
  case hbo => rfl
  case hc => rw [hK]; rfl
  case h1 => rfl
  case h2 => rfl
  case h3 => rfl
  case h4 => rfl
  case h5 => rfl
  case h6 => rfl
  case h7 => decide
  case h8 => exact fun x s X => BindsTo.of_eq rfl
  case h9 => exact fun x => locs rfl
  case hw =>
    intro own h L A x dx c hne O'
    have ks : nsIn G.K mainGlobals "sorted" = some none := by rw [hK]; rfl
    have kl : nsIn G.K mainGlobals "len" = some none := by rw [hK]; rfl
    have f1 : findIn G.K (.ref 74) "__setattr__" = some (some (.builtin "object.__setattr__")) := by rw [hK]; rfl
    have f2 : plainOver G.K 74 = true := by rw [hK]; rfl
    have f31 : takerIn G.K 74 "_data" = some none := by rw [hK]; rfl
    have f32 : takerIn G.K 74 "_keys" = some none := by rw [hK]; rfl
    have f33 : takerIn G.K 74 "_cachestr" = some none := by rw [hK]; rfl
    have f34 : takerIn G.K 74 "_cachepoints" = some none := by rw [hK]; rfl
    have f4 : hasDictIn G.K 74 = true := by rw [hK]; rfl
    have hd₀ : h.DictOf (SK G) D kvs := hd own h c
    obtain ⟨oD, gD, iD⟩ := Heap.dictOf_iff.mp hd₀
    -- self._data = data
    refine seq (tm_selfAttr O' (x := x) (P := fun v σ' => σ' = _ ∧ v = .ref D) (Tr.m (tr_name O' rfl)) (fun v σ' p => by rw [p.1]; rfl) fun v σ' p => ?_)
    obtain ⟨rfl, rfl⟩ := p
    refine Tm.mono (tm_setAttr O' (name := "_data") (C := 74) (dx := dx) (es := []) (n := 0) (pre := [(x, instObj 74 dx)]) (post := []) (fun z => rfl) f1 f2 f31 f4 rfl rfl (fun p hp => by obtain rfl := List.mem_singleton.mp hp; exact hne) (fun p hp => nomatch hp) (.head _) (by simp)) fun _ σ₂ p => ?_
    obtain ⟨h1, t1, rfl⟩ := p
    -- self._keys = sorted(data.keys())
    refine seq (tm_selfAttr O' (x := x) (tm_sortedKeysCall O' ks rfl (tr_name O' rfl) (Fx.old gD) iD hlo hz) (fun v σ' p => by obtain ⟨l, r, m, vs, ss, e1, rfl, _⟩ := p; rfl) fun v σ' p => ?_)
    obtain ⟨l, r, m, vs, ss, rfl, rfl, hss, hpm, hso, hal, har⟩ := p
    have lx : l ≠ dx := fun e => hal _ (.tail _ (.head _)) e.symm
    have rx : r ≠ dx := fun e => har _ (.tail _ (.head _)) e.symm
    refine Tm.mono (tm_setAttr O' (name := "_keys") (C := 74) (dx := dx) (pre := [(l, listOf (List.toArray vs) m), (r, { cls := .type "dict_keys", data := .fields #[.ref D] }), (x, instObj 74 dx)]) (post := []) (fun z => rfl) f1 f2 f32 f4 rfl rfl (fun p hp => by simp only [List.mem_cons, List.mem_nil_iff, or_false] at hp; rcases hp with rfl | rfl | rfl; exact lx; exact rx; exact hne) (fun p hp => nomatch hp) (.tail _ (.tail _ (.head _))) (by exact Nat.le_trans (putL_length _ _ _ _ _) (by simp))) fun _ σ₂ p => ?_
    obtain ⟨h2, t2, rfl⟩ := p
    -- self._cachestr = ''
    refine seq (tm_selfAttr O' (x := x) (Tr.m tr_str) (fun v σ' p => by rw [p.1]; rfl) fun v σ' p => ?_)
    obtain ⟨rfl, tk, rfl⟩ := p
    refine Tm.mono (tm_setAttr O' (name := "_cachestr") (C := 74) (dx := dx) (pre := [(l, listOf (List.toArray vs) m), (r, { cls := .type "dict_keys", data := .fields #[.ref D] }), (x, instObj 74 dx)]) (post := []) (fun z => rfl) f1 f2 f33 f4 rfl rfl (fun p hp => by simp only [List.mem_cons, List.mem_nil_iff, or_false] at hp; rcases hp with rfl | rfl | rfl; exact lx; exact rx; exact hne) (fun p hp => nomatch hp) (.tail _ (.tail _ (.head _))) (by exact Nat.le_trans (putL_length _ _ _ _ _) (by simp [putL]))) fun _ σ₂ p => ?_
    obtain ⟨h3, t3, rfl⟩ := p
    -- self._cachepoints = (0, len(data))
    refine seq (tm_selfAttr O' (x := x) (tm_pair tr_int (tr_fn1 O' kl (id := "len") (by decide +kernel) rfl (tr_name O' rfl) (R := IsI kvs.length) fun v e => by subst e; exact tr_len_dict (ent_dict₀ hd₀) hlo (by omega))) (fun v σ' p => by obtain ⟨t, a, b, _, rfl, _⟩ := p; rfl) fun v σ' p => ?_)
    obtain ⟨t, a', b', rfl, rfl, ⟨a, rfl⟩, ⟨b, rfl⟩, ap⟩ := p
    have tx : t ≠ dx := fun e => ap (dx, _) (.tail _ (.tail _ (.tail _ (.head _)))) e.symm
    refine Tm.mono (tm_setAttr O' (name := "_cachepoints") (C := 74) (dx := dx) (pre := [(t, tupObj [.int 0 a, .int kvs.length b]), (l, listOf (List.toArray vs) m), (r, { cls := .type "dict_keys", data := .fields #[.ref D] }), (x, instObj 74 dx)]) (post := []) (fun z => rfl) f1 f2 f34 f4 rfl rfl (fun p hp => by simp only [List.mem_cons, List.mem_nil_iff, or_false] at hp; rcases hp with rfl | rfl | rfl | rfl; exact tx; exact lx; exact rx; exact hne) (fun p hp => nomatch hp) (.tail _ (.tail _ (.tail _ (.head _)))) (by show (3 : Nat) ≤ 900; decide)) fun _ σ₂ p => ?_
    obtain ⟨h4, t4, rfl⟩ := p
    refine tm_nil ⟨rfl, ?_⟩
    exact ⟨dx, _, _, l, m, vs, ss, t, a, b, tk, .tail _ (.tail _ (.tail _ (.head _))), .tail _ (.tail _ (.tail _ (.tail _ (.head _)))), rfl, rfl, rfl, rfl, rfl, rfl, .tail _ (.head _), hss, hso, hpm, .head _⟩

theorem tr_ta (hK : G.K = KK G.w) (O : Ok G d) {y name : Str} {np pos : Pos} {x dx : Addr} {es : List DictEntry} {n : Nat} {v : Value} (hx : σ.m y = some (.ref x)) (hi : Ent G σ (fun h => InstIn h x 74 dx es n)) (hl : getL name es = some (some v)) (hv : handedIn v = true)
    (hn : plainGet (KK G.w) 74 name = true ∧ findIn (KK G.w) (.ref 74) name = some none := by exact ⟨rfl, rfl⟩) (hk : G.env.kindOf y = some .local := by rfl) (hd : (y == ("__debug__" : Str)) = false := by decide) : Tr G σ (eval (.Attribute (.Name y np) name pos) G.env) (IsV v) :=
  tr_attr O (tr_name O hx hk hd) hi (by rw [hK]; exact hn.1) (by rw [hK]; rfl) (by rw [hK]; exact hn.2) (by rw [hK]; rfl) hl hv

theorem contains_fn (hK : G.K = KK G.w) (O : Ok G (d + 1)) {x D : Addr} {kvs : List (Str × Value)} {p : Str} {tp : Tok} (hT : Ent G σ (fun h => TrieH (SK G) h x D kvs)) : Tr G σ (call (.ref 43) [.ref x, .str p tp] []) (IsB (valueAt kvs p).isSome) := by
  refine' Tm.tr (Tm.mono (tm_fn (R := fun v _ => IsB (valueAt kvs p).isSome v) (body := ?body) (binds := [("self", .ref x), ("key", .str p tp)]) O (hK := ?hK) ?hb ?hc ?h1 ?h2 ?h3 ?h4 ?h5 ?h6 ?h7 ?h8 ?h9 ?hw) fun v σ' h => ?_)
  case hK => rw [hK]; rfl
  case hb => rfl
  case hc => rw [hK]; rfl
  case h1 => rfl
  case h2 => rfl
  case h3 => rfl
  case h4 => rfl
  case h5 => rfl
  case h6 => rfl
  case h7 => decide
  case h8 => exact fun s X => BindsTo.of_eq rfl
  case h9 => exact locs rfl
  case hw =>
    intro own h L c O'
    obtain ⟨dx, es, n, l, vs, ss, t, u, v, tk, i1, i2, i3, i4, i5, i6, i7, i8, i9, i10, i11, i12, i13, i14⟩ := hT own h c
    exact seq_ret (Tm.mono (Tr.m (tr_cmp (tr_nameP O' rfl ⟨tp, rfl⟩) (tr_ta (by exact hK) O' rfl (ent_old i1 fun _ _ k z => z.keep k) i2 rfl) fun a b ha hb => tr_dIn (ent_dict₀ i13) i14 hb ha)) fun v σ' p => p.2)
  obtain ⟨nw, e, p, _⟩ := h
  exact ⟨nw, e, p⟩

theorem len_fn (hK : G.K = KK G.w) (O : Ok G (d + 1)) {x D : Addr} {kvs : List (Str × Value)} (hT : Ent G σ (fun h => TrieH (SK G) h x D kvs)) (hz : kvs.length < 64) : Tr G σ (call (.ref 50) [.ref x] []) (IsI kvs.length) := by
  refine' Tm.tr (Tm.mono (tm_fn (R := fun v _ => IsI kvs.length v) (body := ?body) (binds := [("self", .ref x)]) O (hK := ?hK) ?hb ?hc ?h1 ?h2 ?h3 ?h4 ?h5 ?h6 ?h7 ?h8 ?h9 ?hw) fun v σ' h => ?_)
  case hK => rw [hK]; rfl
  case hb => rfl
  case hc => rw [hK]; rfl
  case h1 => rfl
  case h2 => rfl
  case h3 => rfl
  case h4 => rfl
  case h5 => rfl
  case h6 => rfl
  case h7 => decide
  case h8 => exact fun s X => BindsTo.of_eq rfl
  case h9 => exact locs rfl
  case hw =>
    intro own h L c O'
    have kl : nsIn G.K mainGlobals "len" = some none := by rw [hK]; rfl
    obtain ⟨dx, es, n, l, vs, ss, t, u, v, tk, i1, i2, i3, i4, i5, i6, i7, i8, i9, i10, i11, i12, i13, i14⟩ := hT own h c
    exact seq_ret (Tm.mono (Tr.m (tr_fn1 O' kl (id := "len") (by decide +kernel) rfl (tr_ta (by exact hK) O' rfl (ent_old i1 fun _ _ k z => z.keep k) i2 rfl) (R := IsI kvs.length) fun v e => by subst e; exact tr_len_dict (ent_dict₀ i13) i14 (by omega))) fun v σ' p => p.2)
  obtain ⟨nw, e, p, _⟩ := h
  exact ⟨nw, e, p⟩

theorem getitem_fn (hK : G.K = KK G.w) (O : Ok G (d + 1)) {x D : Addr} {kvs : List (Str × Value)} {p : Str} {tp : Tok} {y : Value} (hT : Ent G σ (fun h => TrieH (SK G) h x D kvs)) (hy : valueAt kvs p = some y) : Tr G σ (call (.ref 57) [.ref x, .str p tp] []) (IsV y) := by
  refine' Tm.tr (Tm.mono (tm_fn (R := fun v _ => IsV y v) (body := ?body) (binds := [("self", .ref x), ("key", .str p tp)]) O (hK := ?hK) ?hb ?hc ?h1 ?h2 ?h3 ?h4 ?h5 ?h6 ?h7 ?h8 ?h9 ?hw) fun v σ' h => ?_)
  case hK => rw [hK]; rfl
  case hb => rfl
  case hc => rw [hK]; rfl
  case h1 => rfl
  case h2 => rfl
  case h3 => rfl
  case h4 => rfl
  case h5 => rfl
  case h6 => rfl
  case h7 => decide
  case h8 => exact fun s X => BindsTo.of_eq rfl
  case h9 => exact locs rfl
  case hw =>
    intro own h L c O'
    obtain ⟨dx, es, n, l, vs, ss, t, u, v, tk, i1, i2, i3, i4, i5, i6, i7, i8, i9, i10, i11, i12, i13, i14⟩ := hT own h c
    exact seq_ret (Tm.mono (Tr.m (tr_sub_ (tr_ta (by exact hK) O' rfl (ent_old i1 fun _ _ k z => z.keep k) i2 rfl) (tr_nameP (P := IsS p) O' rfl ⟨tp, rfl⟩) fun a b ha hb => tr_dItem (ent_dict₀ i13) ha hb hy)) fun v σ' p => p.2)
  obtain ⟨nw, e, p, _⟩ := h
  exact ⟨nw, e, p⟩

theorem lb_any {kvs : List (Str × Value)} {ss : List Str} {p : Str} {r : Nat} (hp : ss.Perm (kvs.map (·.1))) (hs : sortedS ss = true) (h : LB ss p 0 ss.length r) :
    (r = ss.length → (kvs.any fun q => decide (lw p <+: lw q.1)) = false) ∧ ∀ s, ss[r]? = some s → (kvs.any fun q => decide (lw p <+: lw q.1)) = decide (lw p <+: lw s) := by
  obtain ⟨_, hr, h1, h2⟩ := h
  have key : ∀ q ∈ kvs, lw p <+: lw q.1 → ∃ j : Nat, ss[j]? = some q.1 ∧ r ≤ j := by
    intro q hq hpq
    have : q.1 ∈ ss := hp.mem_iff.mpr (List.mem_map.mpr ⟨q, hq, rfl⟩)
    obtain ⟨j, hj⟩ := List.mem_iff_getElem?.mp this
    refine ⟨j, hj, Nat.le_of_not_lt fun hlt => ?_⟩
    exact le_of_prefix hpq (h1 j q.1 (Nat.zero_le _) hlt hj)
  refine ⟨fun e => ?_, fun s hs' => ?_⟩
  · rw [List.any_eq_false]
    intro q hq hd
    obtain ⟨j, hj, hle⟩ := key q hq (by simpa using hd)
    have := (List.getElem?_eq_some_iff.mp hj).1
    omega
  · rw [Bool.eq_iff_iff, List.any_eq_true]
    simp only [decide_eq_true_eq]
    constructor
    · rintro ⟨q, hq, hpq⟩
      obtain ⟨j, hj, hle⟩ := key q hq hpq
      exact prefix_between (h2 r s (Nat.le_refl _) (List.getElem?_eq_some_iff.mp hs').1 hs') (sorted_le hs r j s q.1 hle hs' hj) hpq
    · intro hps
      have : s ∈ kvs.map (·.1) := hp.mem_iff.mp (List.mem_of_getElem? hs')
      obtain ⟨q, hq, rfl⟩ := List.mem_map.mp this
      exact ⟨q, hq, hps⟩

theorem valueAt_mem {kvs : List (Str × Value)} {p : Str} (h : (valueAt kvs p).isSome = true) : p ∈ kvs.map (·.1) := by
  unfold valueAt at h
  cases q : kvs.find? (fun e => e.1 = p) with
  | none => rw [q] at h; simp at h
  | some e => 
    have := List.find?_some q
    have h2 := List.mem_of_find?_eq_some q
    simp at this
    exact List.mem_map.mpr ⟨e, h2, this⟩

theorem hkwp_fn (hK : G.K = KK G.w) (O : Ok G (d + 2)) {x D : Addr} {kvs : List (Str × Value)} {p : Str} {tp : Tok} (hT : Ent G σ (fun h => TrieH (SK G) h x D kvs)) (hz : kvs.length < 64) : Tr G σ (call (.ref 64) [.ref x, .str p tp] []) (IsB (kvs.any fun q => decide (lw p <+: lw q.1))) := by
  refine' Tm.tr (Tm.mono (tm_fn (d := d + 1) (R := fun v _ => IsB (kvs.any fun q => decide (lw p <+: lw q.1)) v) (body := ?body) (binds := [("self", .ref x), ("prefix", .str p tp)]) O (hK := ?hK) ?hb ?hc ?h1 ?h2 ?h3 ?h4 ?h5 ?h6 ?h7 ?h8 ?h9 ?hw) fun v σ' h => ?_)
  case hK => rw [hK]; rfl
  case hb => rfl
  case hc => rw [hK]; rfl
  case h1 => rfl
  case h2 => rfl
  case h3 => rfl
  case h4 => rfl
  case h5 => rfl
  case h6 => rfl
  case h7 => decide
  case h8 => exact fun s X => BindsTo.of_eq rfl
  case h9 => exact locs rfl
  case hw =>
    intro own h L c O'
    have kl : nsIn G.K mainGlobals "len" = some none := by rw [hK]; rfl
    have kb : nsIn G.K mainGlobals "bisect_left" = some (some (.ref 22)) := by rw [hK]; rfl
    have kk : keepIn G.K (.ref 22) = true := by rw [hK]; rfl
    obtain ⟨dx, es, n, l, vs, ss, t, u, v, tk, i1, i2, i3, i4, i5, i6, i7, i8, i9, i10, i11, i12, i13, i14⟩ := hT own h c
    have hlen : ss.length = kvs.length := by rw [i11.length_eq, List.length_map]
    have hvl := strs_len i9
    refine seq_ifRet (x := (valueAt kvs p).isSome) (tr_testCmp (tr_nameP O' rfl ⟨tp, rfl⟩) (tr_ta (by exact hK) O' rfl (ent_old i1 fun _ _ k z => z.keep k) i2 rfl) fun a b ha hb => tr_dIn (ent_dict₀ i13) i14 hb ha) (fun h1 => ?_) (fun h1 => ?_)
    · refine Tm.mono (Tr.m tr_bool) fun v σ' pv => ?_
      obtain ⟨q, hq, e⟩ := List.mem_map.mp (valueAt_mem h1)
      show v = _
      rw [pv.2]
      congr 1
      symm
      exact List.any_eq_true.mpr ⟨q, hq, by rw [e]; simp⟩
    · refine tm_next (P₁ := fun σ' => (∃ r t, LB ss p 0 ss.length r ∧ σ'.m "i" = some (.int (r : Nat) t)) ∧ σ'.m "self" = some (.ref x) ∧ σ'.m "prefix" = some (.str p tp)) (tm_if (x := decide (lw ("" : Str) <+: lw p)) (tr_test (P := IsB (decide (lw ("" : Str) <+: lw p))) (tr_starts (x := p) (y := "") (tr_nameP O' rfl ⟨tp, rfl⟩) (Tr.mono (tr_ta (by exact hK) O' rfl (ent_old i1 fun _ _ k z => z.keep k) i4 rfl) fun v e => ⟨tk, e⟩)) fun v hv => tr_truthyB hv) ?_) fun σ' ⟨⟨r, ti, lb, m1⟩, m2, m3⟩ => ?_
      · rw [if_pos (decide_eq_true (by rw [show lw ("" : Str) = [] from by decide]; exact List.nil_prefix))]
        refine seq (tm_assign2 O' (tr_ta (by exact hK) O' rfl (ent_old i1 fun _ _ k z => z.keep k) i5 rfl) (ent_old i12 fun _ _ k z => z.at fun o e => k _ _ e) ?_)
        refine seq_assign O' (Tr.m (tr_callK O' (tr_glob O' kb) kk (tr_arg4 (tr_ta (by exact hK) O' rfl (ent_old i1 fun _ _ k z => z.keep k) i3 rfl) (tr_nameP (P := IsS p) O' rfl ⟨tp, rfl⟩) (tr_nameI (a := 0) (t := u) O' rfl) (tr_nameI (a := kvs.length) (t := v) O' rfl)) (R := fun v => ∃ r, LB ss p 0 ss.length r ∧ IsI r v) fun vs' pv => ?_)) fun v' σ' pv => ?_
        · obtain ⟨a1, a2, a3, a4, rfl, rfl, ⟨t2, rfl⟩, ⟨t3, rfl⟩, ⟨t4, rfl⟩⟩ := pv
          exact bisect_gen (lo := 0) (hi := ss.length) (a := .int 0 t3) (b := .int kvs.length t4) (by exact hK) O' (ent_list₀ i8) i9 (by omega) (Nat.zero_le _) (Nat.le_refl _) (fun s X => by have X' : G.K.In s.heap := X; rw [hK] at X'; exact bs4 X') ⟨t3, rfl⟩ (.inl ⟨t4, by rw [hlen]⟩) i10
        · obtain ⟨rfl, r, lb, t5, rfl⟩ := pv
          exact tm_nil ⟨rfl, ⟨r, t5, lb, rfl⟩, rfl, rfl⟩
      · refine seq_ifRet (x := ((r : Int) == (vs.toArray.size : Int))) (tr_testCmp (tr_nameI O' m1) (tr_fn1 O' kl (id := "len") (by decide +kernel) rfl (tr_ta (by exact hK) O' m2 (ent_old i1 fun _ _ k z => z.keep k) i3 rfl) (R := IsI vs.toArray.size) fun v e => by subst e; exact tr_len_list (ent_list₀ i8) (by simp; omega)) fun a b ha hb => tr_eq_int ha hb) (fun h2 => ?_) (fun h2 => ?_)
        · refine Tm.mono (Tr.m tr_bool) fun v σ' pv => ?_
          show v = _
          rw [pv.2, (lb_any i11 i10 lb).1 (by simp at h2; omega)]
        · have hr : r < ss.length := by
            have := lb.2.1
            simp at h2
            omega
          obtain ⟨s, hs⟩ : ∃ s, ss[r]? = some s := ⟨_, List.getElem?_eq_getElem hr⟩
          obtain ⟨tv, hv⟩ := strs_get i9 r s hs
          refine seq_ret (Tm.mono (Tr.m (tr_starts (x := s) (y := p) (Tr.mono (tr_sub_ (tr_ta (by exact hK) O' m2 (ent_old i1 fun _ _ k z => z.keep k) i3 rfl) (tr_nameI O' m1) fun a b ha hb => tr_item (x := .str s tv) (ent_list₀ i8) ha hb (by omega) (by omega) (by simpa using hv)) fun v e => ⟨tv, e⟩) (tr_nameP O' m3 ⟨tp, rfl⟩))) fun v σ' pv => ?_)
          show v = _
          rw [pv.2, (lb_any i11 i10 lb).2 s hs]
  obtain ⟨nw, e, p, _⟩ := h
  exact ⟨nw, e, p⟩

def tk (p : Str) (k : Nat) : Str := ⟨((lw p).take k).toArray⟩
theorem lw_tk (p : Str) (k : Nat) : lw (tk p k) = (lw p).take k := by simp [tk, lw]
theorem tk_all {p : Str} {k : Nat} (h : p.length ≤ k) : tk p k = p := str_ext (by rw [lw_tk, List.take_of_length_le (by rw [lw_length]; exact h)])

theorem longest_fn (hK : G.K = KK G.w) (O : Ok G (d + 2)) {x D : Addr} {kvs : List (Str × Value)} {p : Str} {tp : Tok} (hT : Ent G σ (fun h => TrieH (SK G) h x D kvs)) (hz : p.length ≤ 1000) :
    Tq G σ (Xc G σ (∀ k, k ≤ p.length → valueAt kvs (tk p k) = none)) (call (.ref 71) [.ref x, .str p tp] []) (fun v σ' => σ' = σ ∧ ∃ k, k ≤ p.length ∧ (valueAt kvs (tk p k)).isSome = true ∧ (∀ j, k < j → j ≤ p.length → valueAt kvs (tk p j) = none) ∧ IsS (tk p k) v) := by
  refine' Tq.tr (Tq.mono (tq_fn (d := d + 1) (R := fun v _ => ∃ k, k ≤ p.length ∧ (valueAt kvs (tk p k)).isSome = true ∧ (∀ j, k < j → j ≤ p.length → valueAt kvs (tk p j) = none) ∧ IsS (tk p k) v) (body := ?body) (binds := [("self", .ref x), ("prefix", .str p tp)]) O (hK := ?hK) ?hb ?hc ?h1 ?h2 ?h3 ?h4 ?h5 ?h6 ?h7 ?h8 ?h9 ?hw) fun v σ' h => ?_)
  case hK => rw [hK]; rfl
  case hb => rfl
  case hc => rw [hK]; rfl
  case h1 => rfl
  case h2 => rfl
  case h3 => rfl
  case h4 => rfl
  case h5 => rfl
  case h6 => rfl
  case h7 => decide
  case h8 => exact fun s X => BindsTo.of_eq rfl
  case h9 => exact locs rfl
  case hw =>
    intro own h L c O'
    have kl : nsIn G.K mainGlobals "len" = some none := by rw [hK]; rfl
    have kr : nsIn G.K mainGlobals "range" = some none := by rw [hK]; rfl
    have ke : nsIn G.K mainGlobals "KeyError" = some none := by rw [hK]; rfl
    have f1 : findIn G.K (.ref 74) "__contains__" = some (some (.ref 43)) := by rw [hK]; rfl
    have f2 : isFn G.K (.ref 43) = true := by rw [hK]; rfl
    have T := hT own h c
    obtain ⟨dx, es, n, l, vs, ss, t, u, v, tk', i1, _⟩ := hT own h c
    have z : p.length ≤ sizeLine := by rw [sizeLine_eq]; omega
    refine tq_ifRet (y := (valueAt kvs p).isSome) (tr_testCmp (Pa := IsS p) (tr_nameP O' rfl ⟨tp, rfl⟩) (tr_name O' rfl) fun a b ha hb => ?_) (fun h1 => ?_) (fun h1 => ?_)
    · obtain ⟨t', rfl⟩ := ha
      exact tr_inK O' (ent_old i1 fun _ _ k z => z.keep k) f1 f2 hb (contains_fn (by exact hK) O' (ent_old T fun _ _ k z => z.keep k))
    · refine Tm.q (Tm.mono (Tr.m (tr_nameP (P := IsS p) O' rfl ⟨tp, rfl⟩)) fun v σ' pv => ⟨p.length, Nat.le_refl _, ?_, fun j a b => absurd a (by omega), ?_⟩)
      · rw [tk_all (Nat.le_refl _)]; exact h1
      · rw [tk_all (Nat.le_refl _)]; exact pv.2
    · have e1 : valueAt kvs p = none := by simpa using h1
      refine tq_seq (Tm.q (tm_for (src_range O' (range2_made O' kr rfl tr_int (tr_add (tr_fn1 O' kl (id := "len") (by decide +kernel) rfl (tr_nameP (P := IsS p) O' rfl ⟨tp, rfl⟩) (R := IsI p.length) fun v hv => tr_len_str hv (by omega)) tr_int) rfl rfl) (by omega) (by omega) (by omega) (by omega) rfl)
        (fun fix i σ' => fix = [] ∧ σ'.m "self" = some (.ref x) ∧ σ'.m "prefix" = some (.str p tp) ∧ ∀ j, p.length - i ≤ j → j ≤ p.length → valueAt kvs (tk p j) = none) ?_ ?_ ?_ ?_))
      · rintro σ₁ fix ⟨rfl, rfl⟩
        refine ⟨rfl, rfl, rfl, fun j h1 h2 => ?_⟩
        rw [tk_all (by omega)]; exact e1
      · rintro fix i σ' ⟨rfl, _⟩; exact Fx.nil
      · rintro fix i σ₁ σ₂ hi ⟨rfl, m1, m2, hn⟩ ⟨v, ⟨ti, rfl⟩, rfl⟩ _
        have hi' : i < p.length := by omega
        have es : Txt.slice p none (some (-(1 + (i : Int)))) = tk p (p.length - 1 - i) := str_ext (by
          have := slice_neg (x := p) (k := 1 + i) (by omega) (by omega)
          rw [lw_tk, show p.length - 1 - i = p.length - (1 + i) from by omega, ← this]
          congr 3)
        refine seq_ifRet (x := (valueAt kvs (tk p (p.length - 1 - i))).isSome) (tr_testCmp (Pa := IsS (tk p (p.length - 1 - i))) (Tr.mono (tr_cutTo (x := p) (tr_nameP O' m2 ⟨tp, rfl⟩) (tr_neg (tr_nameI O' rfl)) z) fun v hv => by rw [← es]; exact hv) (tr_name O' m1) fun a b ha hb => ?_) (fun h1 => ?_) (fun h1 => ?_)
        · obtain ⟨t', rfl⟩ := ha
          exact tr_inK O' (ent_old i1 fun _ _ k z => z.keep k) f1 f2 hb (contains_fn (by exact hK) O' (ent_old T fun _ _ k z => z.keep k))
        · refine Tm.mono (Tr.m (tr_cutTo (x := p) (tr_nameP O' m2 ⟨tp, rfl⟩) (tr_neg (tr_nameI O' rfl)) z)) fun v σ' pv => ?_
          exact ⟨p.length - 1 - i, by omega, h1, fun j a b => hn j (by omega) b, by rw [← es]; exact pv.2⟩
        · refine tm_nil ⟨rfl, m1, m2, fun j a b => ?_⟩
          by_cases hj : j = p.length - 1 - i
          · subst hj; simpa using h1
          · exact hn j (by omega) b
      · rintro fix σ₁ ⟨rfl, m1, m2, hn⟩
        refine tq_seq (tq_raise (fun k hk => hn k (by omega) hk) O' ke rfl (tr_nameP (P := IsS p) O' m2 ⟨tp, rfl⟩))
  obtain ⟨nw, e, p, _⟩ := h
  exact ⟨nw, e, p⟩
end
end Mine
open PySem PySem.W PySem.Calls PyProof.Rows
set_option Elab.async false
set_option maxRecDepth 100000
set_option maxHeartbeats 4000000
set_option linter.unusedVariables false
namespace Mine
theorem valueAt_stored (kvs : List (Str × Value)) (k b : Str) (v : Value) : valueAt (stored kvs k v) b = if b = k then some v else valueAt kvs b := by
  unfold stored valueAt
  split
  · rename_i h
    induction kvs with
    | nil => simp at h
    | cons q r ih =>
      by_cases e : q.1 = k
      · by_cases e2 : b = k
        · subst e2; simp [e]
        · have h1 : ¬ k = b := fun z => e2 z.symm
          have h2 : ¬ q.1 = b := by rw [e]; exact h1
          simp only [List.map_cons, e, if_true, List.find?_cons, h1, h2, e2, if_false, decide_false, cond_false]
          by_cases hr : r.any (fun kv => decide (kv.1 = k)) = true
          · have := ih hr
            simp only [e2, if_false] at this
            exact this
          · have : r.map (fun kv => if kv.1 = k then (kv.1, v) else kv) = r := by
              conv => rhs; rw [← List.map_id r]
              refine List.map_congr_left fun q hq => ?_
              rw [if_neg]; rfl
              intro z; exact hr (List.any_eq_true.mpr ⟨q, hq, by simp [z]⟩)
            rw [this]
      · have hr : r.any (fun kv => decide (kv.1 = k)) = true := by simpa [e] using h
        have := ih hr
        simp only [List.map_cons, e, if_false, List.find?_cons]
        by_cases e3 : q.1 = b
        · have : ¬ b = k := fun z => e (e3.trans z)
          simp [e3, this]
        · simp only [e3, decide_false, cond_false]; exact this
  · rename_i h
    rw [List.find?_append]
    by_cases e2 : b = k
    · subst e2
      have : kvs.find? (fun kv => decide (kv.1 = b)) = none := by
        rw [List.find?_eq_none]
        intro q hq z
        exact h (List.any_eq_true.mpr ⟨q, hq, z⟩)
      simp [this]
    · have h1 : ¬ k = b := fun z => e2 z.symm
      simp [h1, e2]

theorem mem_stored {kvs : List (Str × Value)} {k : Str} {v : Value} {q : Str × Value} (h : q ∈ stored kvs k v) : q = (k, v) ∨ q ∈ kvs ∧ q.1 ≠ k := by
  unfold stored at h
  split at h
  · obtain ⟨p, hp, rfl⟩ := List.mem_map.mp h
    by_cases e : p.1 = k
    · simp [e]
    · simp [e, hp]
  · rename_i hn
    rcases List.mem_append.mp h with h | h
    · refine .inr ⟨h, fun e => hn ?_⟩
      exact List.any_eq_true.mpr ⟨q, h, by simp [e]⟩
    · exact .inl (List.mem_singleton.mp h)
theorem ints_get {vs : List Value} {ns : List Int} (h : IntsAre vs ns) : ∀ (i : Nat) v, vs[i]? = some v → ∃ n t, v = .int n t ∧ ns[i]? = some n := by
  induction h with
  | nil => intro i v e; simp at e
  | cons n t _ ih =>
    intro i v e
    cases i with
    | zero => simp at e; subst e; exact ⟨n, t, rfl, rfl⟩
    | succ i => simpa using ih i v (by simpa using e)
theorem StrsAre.snoc {vs : List Value} {ss : List Str} (h : StrsAre vs ss) (x : Str) (t : Tok) : StrsAre (vs ++ [.str x t]) (ss ++ [x]) := by
  induction h with
  | nil => exact .cons x t .nil
  | cons y u _ ih => exact .cons y u ih
theorem strs_item {vs : List Value} {ss : List Str} (h : StrsAre vs ss) : ∀ (i : Nat) v, vs[i]? = some v → ∃ s t, v = .str s t ∧ ss[i]? = some s := by
  induction h with
  | nil => intro i v e; simp at e
  | cons k t _ ih =>
    intro i v e
    cases i with
    | zero => simp at e; subst e; exact ⟨k, t, rfl, rfl⟩
    | succ i => simpa using ih i v (by simpa using e)

theorem stored_new {kvs : List (Str × Value)} {k : Str} {v : Value} (h : k ∉ kvs.map (·.1)) : stored kvs k v = kvs ++ [(k, v)] := by
  unfold stored
  rw [if_neg]
  rw [List.any_eq_true]
  rintro ⟨q, hq, e⟩
  exact h (List.mem_map.mpr ⟨q, hq, by simpa using e⟩)

theorem valueAt_get {kvs : List (Str × Value)} (hn : (kvs.map (·.1)).Nodup) {i : Nat} {k : Str} {v : Value} (hx : kvs[i]? = some (k, v)) : valueAt kvs k = some v := valueAt_of_get hn hx

theorem valueAt_pair {kvs : List (Str × Value)} {b : Str} {y : Value} (h : valueAt kvs b = some y) : (b, y) ∈ kvs := by
  unfold valueAt at h
  obtain ⟨e, he, rfl⟩ := Option.map_eq_some_iff.mp h
  have h1 := List.find?_some he
  have h2 := List.mem_of_find?_eq_some he
  simp at h1
  rw [← h1]; exact h2
end Mine
open PySem PySem.W PySem.Calls PyProof.Rows
set_option Elab.async false
set_option maxRecDepth 100000
set_option maxHeartbeats 4000000
set_option linter.unusedVariables false
namespace Mine

def ch (c : Nat) : Str := ⟨#[c]⟩
theorem ch_inj {c d : Nat} (h : ch c = ch d) : c = d := by
  have := congrArg lw h
  simpa [ch, lw] using this

structure TF where
  S : List Nat → Bool
  na : List Nat → Addr
  ta : List Nat → Addr
  da : List Nat → Addr
  tm : List Nat → List Value
  N : Nat

structure TreeF {prog : Program} {w : World} (knd : KeyKind prog w Str) (n : Led) (t : TF) : Prop where
  node : ∀ p, t.S p = true → ∃ o, (t.na p, o) ∈ n ∧ Obj.lst o #[.ref (t.ta p), .ref (t.da p)]
  term : ∀ p, t.S p = true → ∃ o, (t.ta p, o) ∈ n ∧ Obj.lst o (t.tm p).toArray
  kids : ∀ p, t.S p = true → ∃ o kv, (t.da p, o) ∈ n ∧ o.IsDictOf knd kv ∧ (∀ c, t.S (p ++ [c]) = true → valueAt kv (ch c) = some (.ref (t.na (p ++ [c])))) ∧ (∀ c, t.S (p ++ [c]) = false → valueAt kv (ch c) = none) ∧ (∀ q ∈ kv, ∃ c, q.1 = ch c) ∧ kv.length ≤ t.N
  sys : ∀ p, t.S p = true → (t.da p == sysModules) = false
  root : t.S [] = true
  up : ∀ p c, t.S (p ++ [c]) = true → t.S p = true
  naI : ∀ p q, t.S p = true → t.S q = true → t.na p = t.na q → p = q
  taI : ∀ p q, t.S p = true → t.S q = true → t.ta p = t.ta q → p = q
  daI : ∀ p q, t.S p = true → t.S q = true → t.da p = t.da q → p = q
  nt : ∀ p q, t.S p = true → t.S q = true → t.na p ≠ t.ta q
  nd : ∀ p q, t.S p = true → t.S q = true → t.na p ≠ t.da q
  td : ∀ p q, t.S p = true → t.S q = true → t.ta p ≠ t.da q

section
variable {prog : Program} {w : World} {knd : KeyKind prog w Str} {n : Led} {t : TF}
theorem TreeF.mono {n' : Led} (T : TreeF knd n t) (h : ∀ p ∈ n, p ∈ n') : TreeF knd n' t :=
  ⟨fun p hp => let ⟨o, a, b⟩ := T.node p hp; ⟨o, h _ a, b⟩, fun p hp => let ⟨o, a, b⟩ := T.term p hp; ⟨o, h _ a, b⟩, fun p hp => let ⟨o, kv, a, b⟩ := T.kids p hp; ⟨o, kv, h _ a, b⟩, T.sys, T.root, T.up, T.naI, T.taI, T.daI, T.nt, T.nd, T.td⟩

def TF.grow (t : TF) (p : List Nat) (a k d : Addr) : TF where
  S := fun q => t.S q || q == p
  na := fun q => if q = p then a else t.na q
  ta := fun q => if q = p then k else t.ta q
  da := fun q => if q = p then d else t.da q
  tm := fun q => if q = p then [] else t.tm q
  N := t.N + 1

/-- a new node under p -/
theorem TreeF.add {p : List Nat} {c : Nat} {a k d : Addr} {oa ok od o' : Obj} {kv : List (Str × Value)} (T : TreeF knd n t) (hp : t.S p = true) (hc : t.S (p ++ [c]) = false) (h1 : Obj.lst oa #[.ref k, .ref d]) (h2 : Obj.lst ok #[]) (h3 : od.IsDictOf knd []) (hs : (d == sysModules) = false)
    (fa : ∀ q ∈ n, q.1 ≠ a) (fk : ∀ q ∈ n, q.1 ≠ k) (fd : ∀ q ∈ n, q.1 ≠ d) (kd : k ≠ d) (ka : k ≠ a) (da : d ≠ a)
    (hold : ∃ o, (t.da p, o) ∈ n ∧ o.IsDictOf knd kv) (hkv : (∀ c, t.S (p ++ [c]) = true → valueAt kv (ch c) = some (.ref (t.na (p ++ [c])))) ∧ (∀ c, t.S (p ++ [c]) = false → valueAt kv (ch c) = none) ∧ (∀ q ∈ kv, ∃ c, q.1 = ch c) ∧ kv.length ≤ t.N) (h' : o'.IsDictOf knd (stored kv (ch c) (.ref a))) :
    TreeF knd (updL (t.da p) o' ((a, oa) :: (d, od) :: (k, ok) :: n)) (t.grow (p ++ [c]) a k d) := by
  have offd : ∀ q o, (q, o) ∈ n → q ≠ t.da p → (q, o) ∈ updL (t.da p) o' ((a, oa) :: (d, od) :: (k, ok) :: n) := fun q o h hne => updL_ne (.tail _ (.tail _ (.tail _ h))) hne
  obtain ⟨oo, hoo, _⟩ := hold
  have na' : a ≠ t.da p := fun e => fa _ hoo e.symm
  have nk' : k ≠ t.da p := fun e => fk _ hoo e.symm
  have nd' : d ≠ t.da p := fun e => fd _ hoo e.symm
  have Sg : ∀ q, (t.grow (p ++ [c]) a k d).S q = true → (q = p ++ [c]) ∨ (t.S q = true ∧ q ≠ p ++ [c]) := fun q h => by
    by_cases e : q = p ++ [c]
    · exact .inl e
    · right
      refine ⟨?_, e⟩
      simpa [TF.grow, e] using h
  have nS : ∀ q, t.S q = true → q ≠ p ++ [c] := fun q h e => by rw [e, hc] at h; cases h
  have nt' : ∀ q, t.S q = true → (a ≠ t.na q ∧ a ≠ t.ta q ∧ a ≠ t.da q) ∧ (k ≠ t.na q ∧ k ≠ t.ta q ∧ k ≠ t.da q) ∧ (d ≠ t.na q ∧ d ≠ t.ta q ∧ d ≠ t.da q) := fun q h => by
    obtain ⟨_, x1, _⟩ := T.node q h
    obtain ⟨_, x2, _⟩ := T.term q h
    obtain ⟨_, _, x3, _⟩ := T.kids q h
    exact ⟨⟨fun e => fa _ x1 e.symm, fun e => fa _ x2 e.symm, fun e => fa _ x3 e.symm⟩, ⟨fun e => fk _ x1 e.symm, fun e => fk _ x2 e.symm, fun e => fk _ x3 e.symm⟩, ⟨fun e => fd _ x1 e.symm, fun e => fd _ x2 e.symm, fun e => fd _ x3 e.symm⟩⟩
  have naN : (t.grow (p ++ [c]) a k d).na (p ++ [c]) = a := if_pos rfl
  have taN : (t.grow (p ++ [c]) a k d).ta (p ++ [c]) = k := if_pos rfl
  have daN : (t.grow (p ++ [c]) a k d).da (p ++ [c]) = d := if_pos rfl
  have naO : ∀ q, q ≠ p ++ [c] → (t.grow (p ++ [c]) a k d).na q = t.na q := fun q h => if_neg h
  have taO : ∀ q, q ≠ p ++ [c] → (t.grow (p ++ [c]) a k d).ta q = t.ta q := fun q h => if_neg h
  have daO : ∀ q, q ≠ p ++ [c] → (t.grow (p ++ [c]) a k d).da q = t.da q := fun q h => if_neg h
  have tmO : ∀ q, q ≠ p ++ [c] → (t.grow (p ++ [c]) a k d).tm q = t.tm q := fun q h => if_neg h
  have tmN : (t.grow (p ++ [c]) a k d).tm (p ++ [c]) = [] := if_pos rfl
  have SO : ∀ q, q ≠ p ++ [c] → (t.grow (p ++ [c]) a k d).S q = t.S q := fun q h => by simp [TF.grow, h]
  have SN : (t.grow (p ++ [c]) a k d).S (p ++ [c]) = true := by simp [TF.grow]
  refine ⟨fun q hq => ?_, fun q hq => ?_, fun q hq => ?_, fun q hq => ?_, ?_, fun q c' hq => ?_, fun q r hq hr => ?_, fun q r hq hr => ?_, fun q r hq hr => ?_, fun q r hq hr => ?_, fun q r hq hr => ?_, fun q r hq hr => ?_⟩
  · rcases Sg q hq with rfl | ⟨hS, hne⟩
    · rw [naN, taN, daN]; exact ⟨oa, updL_ne (.head _) na', h1⟩
    · rw [naO q hne, taO q hne, daO q hne]
      obtain ⟨o, ho, hl⟩ := T.node q hS
      exact ⟨o, offd _ _ ho (T.nd q p hS hp), hl⟩
  · rcases Sg q hq with rfl | ⟨hS, hne⟩
    · rw [taN, tmN]; exact ⟨ok, updL_ne (.tail _ (.tail _ (.head _))) nk', h2⟩
    · rw [taO q hne, tmO q hne]
      obtain ⟨o, ho, hl⟩ := T.term q hS
      exact ⟨o, offd _ _ ho (T.td q p hS hp), hl⟩
  · rcases Sg q hq with rfl | ⟨hS, hne⟩
    · rw [daN]
      refine ⟨od, [], updL_ne (.tail _ (.head _)) nd', h3, fun c' h => ?_, fun c' _ => rfl, (fun q h => nomatch h), Nat.zero_le _⟩
      have hne : p ++ [c] ++ [c'] ≠ p ++ [c] := fun e => by have := congrArg List.length e; simp at this
      rw [SO _ hne] at h
      have := T.up _ _ h
      rw [hc] at this; cases this
    · rw [daO q hne]
      by_cases e : q = p
      · subst e
        refine ⟨o', _, updL_self (.tail _ (.tail _ (.tail _ hoo))), h', fun c' h => ?_, fun c' h => ?_, fun r hr => ?_, ?_⟩
        · rw [valueAt_stored]
          by_cases e : c' = c
          · subst e; rw [if_pos rfl, naN]
          · have hne' : q ++ [c'] ≠ q ++ [c] := fun z => e (by simpa using z)
            rw [if_neg fun z => e (ch_inj z), naO _ hne']
            rw [SO _ hne'] at h
            exact hkv.1 c' h
        · have e : c' ≠ c := fun z => by subst z; rw [SN] at h; cases h
          have hne' : q ++ [c'] ≠ q ++ [c] := fun z => e (by simpa using z)
          rw [SO _ hne'] at h
          rw [valueAt_stored, if_neg fun z => e (ch_inj z)]
          exact hkv.2.1 c' h
        · rcases mem_stored hr with rfl | ⟨hr, _⟩
          · exact ⟨c, rfl⟩
          · exact hkv.2.2.1 r hr
        · have := stored_length_le kv (ch c) (.ref a)
          have := hkv.2.2.2
          show _ ≤ t.N + 1
          omega
      · obtain ⟨o, kv', g1, g2, g3, g4, g5, g6⟩ := T.kids q hS
        have hne' : ∀ c', q ++ [c'] ≠ p ++ [c] := fun c' z => e (List.append_inj_left' z rfl)
        refine ⟨o, kv', offd _ _ g1 (fun z => e (T.daI q p hS hp z)), g2, fun c' h => ?_, fun c' h => ?_, g5, Nat.le_succ_of_le g6⟩
        · rw [SO _ (hne' c')] at h
          rw [naO _ (hne' c')]
          exact g3 c' h
        · rw [SO _ (hne' c')] at h
          exact g4 c' h
  · rcases Sg q hq with rfl | ⟨hS, hne⟩
    · rw [daN]; exact hs
    · rw [daO q hne]; exact T.sys q hS
  · rw [SO _ (by simp)]; exact T.root
  · by_cases e : q ++ [c'] = p ++ [c]
    · have : q = p := List.append_inj_left' e rfl
      subst this
      rw [SO _ (nS _ hp)]; exact hp
    · rw [SO _ e] at hq
      have := T.up _ _ hq
      rw [SO _ (nS _ this)]; exact this
  · intro e
    rcases Sg q hq with rfl | ⟨hS, hne⟩ <;> rcases Sg r hr with rfl | ⟨hS', hne'⟩
    · rfl
    · rw [naN, naO r hne'] at e; exact absurd e (nt' r hS').1.1
    · rw [naN, naO q hne] at e; exact absurd e.symm (nt' q hS).1.1
    · rw [naO q hne, naO r hne'] at e; exact T.naI q r hS hS' e
  · intro e
    rcases Sg q hq with rfl | ⟨hS, hne⟩ <;> rcases Sg r hr with rfl | ⟨hS', hne'⟩
    · rfl
    · rw [taN, taO r hne'] at e; exact absurd e (nt' r hS').2.1.2.1
    · rw [taN, taO q hne] at e; exact absurd e.symm (nt' q hS).2.1.2.1
    · rw [taO q hne, taO r hne'] at e; exact T.taI q r hS hS' e
  · intro e
    rcases Sg q hq with rfl | ⟨hS, hne⟩ <;> rcases Sg r hr with rfl | ⟨hS', hne'⟩
    · rfl
    · rw [daN, daO r hne'] at e; exact absurd e (nt' r hS').2.2.2.2
    · rw [daN, daO q hne] at e; exact absurd e.symm (nt' q hS).2.2.2.2
    · rw [daO q hne, daO r hne'] at e; exact T.daI q r hS hS' e
  · rcases Sg q hq with rfl | ⟨hS, hne⟩ <;> rcases Sg r hr with rfl | ⟨hS', hne'⟩
    · rw [naN, taN]; exact ka.symm
    · rw [naN, taO r hne']; exact (nt' r hS').1.2.1
    · rw [taN, naO q hne]; exact (nt' q hS).2.1.1.symm
    · rw [naO q hne, taO r hne']; exact T.nt q r hS hS'
  · rcases Sg q hq with rfl | ⟨hS, hne⟩ <;> rcases Sg r hr with rfl | ⟨hS', hne'⟩
    · rw [naN, daN]; exact da.symm
    · rw [naN, daO r hne']; exact (nt' r hS').1.2.2
    · rw [daN, naO q hne]; exact (nt' q hS).2.2.1.symm
    · rw [naO q hne, daO r hne']; exact T.nd q r hS hS'
  · rcases Sg q hq with rfl | ⟨hS, hne⟩ <;> rcases Sg r hr with rfl | ⟨hS', hne'⟩
    · rw [taN, daN]; exact kd
    · rw [taN, daO r hne']; exact (nt' r hS').2.1.2.2
    · rw [daN, taO q hne]; exact (nt' q hS).2.2.2.1.symm
    · rw [taO q hne, daO r hne']; exact T.td q r hS hS'

def TF.put (t : TF) (p : List Nat) (k : Addr) (vs : List Value) : TF where
  S := t.S
  na := t.na
  ta := fun q => if q = p then k else t.ta q
  da := t.da
  tm := fun q => if q = p then vs else t.tm q
  N := t.N

/-- a node's first item stored -/
theorem TreeF.put {p : List Nat} {k : Addr} {ok o' : Obj} {vs : List Value} (T : TreeF knd n t) (hp : t.S p = true) (h2 : Obj.lst ok vs.toArray) (fk : ∀ q ∈ n, q.1 ≠ k) (h1 : Obj.lst o' #[.ref k, .ref (t.da p)]) :
    TreeF knd (updL (t.na p) o' ((k, ok) :: n)) (t.put p k vs) := by
  have off : ∀ q o, (q, o) ∈ n → q ≠ t.na p → (q, o) ∈ updL (t.na p) o' ((k, ok) :: n) := fun q o h hne => updL_ne (.tail _ h) hne
  obtain ⟨op, hop, _⟩ := T.node p hp
  have kn : ∀ q, t.S q = true → k ≠ t.na q ∧ k ≠ t.ta q ∧ k ≠ t.da q := fun q h => by
    obtain ⟨_, x1, _⟩ := T.node q h
    obtain ⟨_, x2, _⟩ := T.term q h
    obtain ⟨_, _, x3, _⟩ := T.kids q h
    exact ⟨fun e => fk _ x1 e.symm, fun e => fk _ x2 e.symm, fun e => fk _ x3 e.symm⟩
  have taN : (t.put p k vs).ta p = k := if_pos rfl
  have taO : ∀ q, q ≠ p → (t.put p k vs).ta q = t.ta q := fun q h => if_neg h
  have tmN : (t.put p k vs).tm p = vs := if_pos rfl
  have tmO : ∀ q, q ≠ p → (t.put p k vs).tm q = t.tm q := fun q h => if_neg h
  refine ⟨fun q hq => ?_, fun q hq => ?_, fun q hq => ?_, T.sys, T.root, T.up, T.naI, fun q r hq hr e => ?_, T.daI, fun q r hq hr => ?_, T.nd, fun q r hq hr => ?_⟩
  · by_cases e : q = p
    · subst e
      rw [taN]
      exact ⟨o', updL_self (.tail _ hop), h1⟩
    · rw [taO q e]
      obtain ⟨o, ho, hl⟩ := T.node q hq
      exact ⟨o, off _ _ ho (fun z => e (T.naI q p hq hp z)), hl⟩
  · by_cases e : q = p
    · subst e
      rw [taN, tmN]
      exact ⟨ok, updL_ne (.head _) (kn q hp).1, h2⟩
    · rw [taO q e, tmO q e]
      obtain ⟨o, ho, hl⟩ := T.term q hq
      exact ⟨o, off _ _ ho (fun z => T.nt p q hp hq z.symm), hl⟩
  · obtain ⟨o, kv, g1, g2⟩ := T.kids q hq
    exact ⟨o, kv, off _ _ g1 (fun z => T.nd p q hp hq z.symm), g2⟩
  · by_cases e1 : q = p
    · by_cases e2 : r = p
      · rw [e1, e2]
      · rw [e1, taN, taO r e2] at e; exact absurd e (kn r hr).2.1
    · by_cases e2 : r = p
      · rw [e2, taN, taO q e1] at e; exact absurd e.symm (kn q hq).2.1
      · rw [taO q e1, taO r e2] at e; exact T.taI q r hq hr e
  · by_cases e2 : r = p
    · rw [e2, taN]; exact (kn q hq).1.symm
    · rw [taO r e2]; exact T.nt q r hq hr
  · by_cases e1 : q = p
    · rw [e1, taN]; exact (kn r hr).2.2
    · rw [taO q e1]; exact T.td q r hq hr

/-- the tree of no words -/
theorem TreeF.empty {a k d : Addr} {oa ok od : Obj} (h1 : Obj.lst oa #[.ref k, .ref d]) (h2 : Obj.lst ok #[]) (h3 : od.IsDictOf knd []) (hs : (d == sysModules) = false) (kd : k ≠ d) (ka : k ≠ a) (da : d ≠ a) (ma : (a, oa) ∈ n) (mk : (k, ok) ∈ n) (md : (d, od) ∈ n) :
    TreeF knd n ⟨fun q => q == [], fun _ => a, fun _ => k, fun _ => d, fun _ => [], 0⟩ := by
  have nil : ∀ q : List Nat, (q == []) = true → q = [] := fun q h => by simpa using h
  refine ⟨fun q hq => ⟨oa, ma, h1⟩, fun q hq => ⟨ok, mk, h2⟩, fun q hq => ⟨od, [], md, h3, fun c h => ?_, fun c _ => rfl, (fun q h => nomatch h), Nat.le_refl _⟩, fun _ _ => hs, rfl, fun q c h => ?_, fun q r hq hr _ => ?_, fun q r hq hr _ => ?_, fun q r hq hr _ => ?_, fun q r _ _ => ka.symm, fun q r _ _ => da.symm, fun q r _ _ => kd⟩
  · simp at h
  · simp at h
  · rw [nil q hq, nil r hr]
  · rw [nil q hq, nil r hr]
  · rw [nil q hq, nil r hr]
end
end Mine
open PySem PySem.W PySem.Calls PyProof.Rows
set_option Elab.async false
set_option maxRecDepth 100000
set_option maxHeartbeats 4000000
set_option linter.unusedVariables false
namespace Mine

def sOf (kvs : List (Str × Value)) (p : List Nat) : Bool := p == [] || kvs.any fun q => decide (p <+: lw q.1)
def tmOf (kvs : List (Str × Value)) (p : List Nat) : List Value := (valueAt kvs ⟨p.toArray⟩).toList
def TreeIs (t : TF) (kvs : List (Str × Value)) : Prop := (∀ p, t.S p = sOf kvs p) ∧ ∀ p, t.S p = true → t.tm p = tmOf kvs p

theorem take_snoc {l : List Nat} {j c : Nat} (h : l[j]? = some c) : l.take (j + 1) = l.take j ++ [c] := by rw [List.take_add_one, h]; rfl
theorem prefix_snoc {q p : List Nat} {c : Nat} : q <+: p ++ [c] ↔ q <+: p ∨ q = p ++ [c] := by
  rw [List.prefix_concat_iff]; exact or_comm
section
variable {G : Gx} {σ : Sg} {d : Nat}
theorem tree_fn (hK : G.K = KK G.w) (O : Ok G (d + 2)) {D : Addr} {kvs : List (Str × Value)} (hd : Ent G σ (fun h => h.DictOf (SK G) D kvs)) (hlo : (D == sysModules) = false) (hn : (kvs.map (·.1)).Nodup) (hz : kvs.length ≤ 20) (hw : ∀ q ∈ kvs, q.1.length ≤ 5) :
    Tm G σ (call (.ref 99) [.ref D] []) (fun v σ' => ∃ nw t, v = .ref (t.na []) ∧ σ' = { σ with n := nw ++ σ.n } ∧ TreeF (SK G) nw t ∧ TreeIs t kvs ∧ t.N ≤ 100 ∧ ∀ p ∈ nw, ∀ q ∈ σ.n, p.1 ≠ q.1) := by
  refine' Tm.mono (tm_fn (d := d + 1) (R := fun v nw => ∃ t, v = .ref (t.na []) ∧ TreeF (SK G) nw t ∧ TreeIs t kvs ∧ t.N ≤ 100) (body := ?body) (binds := [("data", .ref D)]) O (hK := ?hK) ?hb ?hc ?h1 ?h2 ?h3 ?h4 ?h5 ?h6 ?h7 ?h8 ?h9 ?hw) fun v σ' h => ?_
  case hK => rw [hK]; rfl
  case hb => rfl
  case hc => rw [hK]; rfl
  case h1 => rfl
  case h2 => rfl
  case h3 => rfl
  case h4 => rfl
  case h5 => rfl
  case h6 => rfl
  case h7 => decide
  case h8 => exact fun s X => BindsTo.of_eq rfl
  case h9 => exact locs rfl
  case hw =>
    intro own h L c O'
    have hd₀ : h.DictOf (SK G) D kvs := hd own h c
    obtain ⟨oD, gD, iD⟩ := Heap.dictOf_iff.mp hd₀
    refine seq_assign O' (tm_node O') fun v σ₁ p => ?_
    obtain ⟨a, t, k, o, rfl, rfl, ho, hs, _, _, _, tk, ta, ka⟩ := p
    refine seq (tm_for (src_dict O' (tr_name O' rfl) (Fx.old gD) iD hlo (has_toN O' rfl (P := fun i v => ∃ k y, kvs[i]? = some (k, y) ∧ Value.isStrOf k v = true)))
      (fun fix i σ' => fix = [(D, oD)] ∧ σ'.m "data" = some (.ref D) ∧ ∃ t, TreeF (SK G) σ'.n t ∧ TreeIs t (kvs.take i) ∧ t.N ≤ 5 * i ∧ σ'.m "tree" = some (.ref (t.na []))) ?_ ?_ ?_ ?_)
    · rintro σ₁ fix ⟨rfl, rfl⟩
      refine ⟨rfl, rfl, _, TreeF.empty (lst_of (n := 0)) (lst_of (n := 0)) ho hs tk ta ka (.head _) (.tail _ (.tail _ (.head _))) (.tail _ (.head _)), ⟨fun p => ?_, fun p hp => ?_⟩, Nat.le_refl _, rfl⟩
      · simp [sOf]
      · simp [tmOf, valueAt]
    · rintro fix i σ' ⟨rfl, _⟩; exact Fx.old gD
    · rintro fix i σ₁ σ₂ hi ⟨rfl, m1, t, T, TI, hN, m2⟩ ⟨v, ⟨k, y, hk, hv⟩, rfl⟩ _
      obtain ⟨tv, rfl⟩ := Value.isStrOf_shape hv
      have hkm := List.mem_of_getElem? hk
      have lk : k.length ≤ 5 := hw _ hkm
      refine seq_assign O' (Tr.m (tr_name O' m2)) fun v σ₃ p => ?_
      obtain ⟨rfl, rfl⟩ := p
      refine seq (tm_for (src_str O' (tr_nameP (P := IsS k) O' rfl ⟨tv, rfl⟩) rfl)
        (fun fix j σ' => fix = [] ∧ σ'.m "data" = some (.ref D) ∧ σ'.m "word" = some (.str k tv) ∧ ∃ t, TreeF (SK G) σ'.n t ∧ (∀ p, t.S p = (sOf (kvs.take i) p || decide (p <+: (lw k).take j))) ∧ (∀ p, t.S p = true → t.tm p = tmOf (kvs.take i) p) ∧ t.N ≤ 5 * i + j ∧ σ'.m "tree" = some (.ref (t.na [])) ∧ σ'.m "node" = some (.ref (t.na ((lw k).take j)))) ?_ ?_ ?_ ?_)
      · rintro σ₁ fix ⟨rfl, rfl⟩
        refine ⟨rfl, m1, rfl, t, T, fun p => ?_, TI.2, hN, m2, by rw [List.take_zero]; rfl⟩
        rw [TI.1 p, List.take_zero]
        unfold sOf
        by_cases e : p = [] <;> simp [e]
      · rintro fix j σ' ⟨rfl, _⟩; exact Fx.nil
      · rintro fix j σ₄ σ₅ hj ⟨rfl, n1, n2, t, T, hS, hT, hN, n3, n4⟩ ⟨v, ⟨cc, u, hcc, rfl⟩, rfl⟩ _
        have hcl : (lw k)[j]? = some cc := by simpa using hcc
        have htk := take_snoc hcl
        generalize hp : (lw k).take j = p at *
        have Sp : t.S p = true := by rw [hS]; simp
        obtain ⟨on, hon, lon⟩ := T.node p Sp
        obtain ⟨od, kv, hod, iod, kv1, kv2, kv3, kv4⟩ := T.kids p Sp
        have sp : ∀ q, (sOf (kvs.take i) q || decide (q <+: p ++ [cc])) = ((sOf (kvs.take i) q || decide (q <+: p)) || q == p ++ [cc]) := fun q => by
          rw [Bool.or_assoc]
          congr 1
          rw [Bool.eq_iff_iff]
          simp [prefix_snoc]
        have n4' : σ₄.m "node" = some (.ref (t.na p)) := n4
        refine tm_next (P₁ := fun σ' => σ'.m "data" = some (.ref D) ∧ σ'.m "word" = some (.str k tv) ∧ σ'.m "sign" = some (.str ⟨#[cc]⟩ u) ∧ ∃ t', TreeF (SK G) σ'.n t' ∧ t'.S p = true ∧ (∀ q, t'.S q = (sOf (kvs.take i) q || decide (q <+: p ++ [cc]))) ∧ (∀ q, t'.S q = true → t'.tm q = tmOf (kvs.take i) q) ∧ t'.N ≤ 5 * i + j + 1 ∧ σ'.m "tree" = some (.ref (t'.na [])) ∧ σ'.m "node" = some (.ref (t'.na p)))
          (tm_if (x := !(valueAt kv (ch cc)).isSome) (tr_testCmp (Pa := IsS (ch cc)) (Pb := IsV (.ref (t.da p))) (tr_nameP O' rfl ⟨u, rfl⟩) (tr_sub_ (tr_name O' n4') (tr_int (i := 1)) fun a b ha hb => tr_item (x := .ref (t.da p)) (ent_lst hon lon) ha hb (by decide) (by decide) rfl) fun a b ha hb => tr_dNotIn (ent_dict hod iod) (T.sys p Sp) hb ha) ?_) fun σ' ⟨x1, x2, x3, t', T', S1, S2, S3, S4, x4, x5⟩ => ?_
        · by_cases hc : t.S (p ++ [cc]) = true
          · rw [kv1 cc hc, if_neg (by simp)]
            refine tm_nil ⟨rfl, n1, n2, rfl, t, T, Sp, fun q => ?_, hT, by omega, n3, n4'⟩
            rw [sp, ← hS]
            by_cases e : q = p ++ [cc]
            · subst e; rw [hc]; simp
            · simp [e]
          · have hc' : t.S (p ++ [cc]) = false := by simpa using hc
            rw [kv2 cc hc', if_pos (by simp)]
            let Pn : Value → Sg → Prop := fun v σ' => ∃ a tt dd o, v = .ref a ∧ σ' = Sg.mk (put σ₄.m "sign" (.str ⟨#[cc]⟩ u)) σ₄.c ((a, listOf [Value.ref tt, .ref dd].toArray 0) :: (dd, o) :: (tt, listOf ([] : List Value).toArray 0) :: σ₄.n) ∧ o.IsDictOf (SK G) [] ∧ (dd == sysModules) = false ∧
              (∀ p ∈ σ₄.n, p.1 ≠ tt) ∧ (∀ p ∈ σ₄.n, p.1 ≠ dd) ∧ (∀ p ∈ σ₄.n, p.1 ≠ a) ∧ tt ≠ dd ∧ tt ≠ a ∧ dd ≠ a
            refine seq (tm_assignSub (P := Pn) (P₂ := fun v w σ' => Pn v σ' ∧ w = .ref (t.da p)) (P₃ := fun v w y σ' => Pn v σ' ∧ w = .ref (t.da p) ∧ IsS (ch cc) y) (tm_node O') (fun v σ' pp => ?_) (fun v w σ' pp => ?_) fun v w y σ' pp => ?_)
            · have pp' := pp
              obtain ⟨a, tt, dd, o, rfl, rfl, _⟩ := pp
              refine Tm.mono (Tr.m (tr_sub_ (tr_name O' n4') (tr_int (i := 1)) fun a b ha hb => tr_item (x := .ref (t.da p)) (ent_lst (.tail _ (.tail _ (.tail _ hon))) lon) ha hb (by decide) (by decide) rfl)) fun w σ'' q => ?_
              obtain ⟨rfl, q⟩ := q
              exact ⟨pp', q⟩
            · obtain ⟨pp', pw⟩ := pp
              have pp := pp'
              obtain ⟨a, tt, dd, o, rfl, rfl, _⟩ := pp
              refine Tm.mono (Tr.m (tr_nameP (P := IsS (ch cc)) O' rfl ⟨u, rfl⟩)) fun y σ'' q => ?_
              obtain ⟨rfl, q⟩ := q
              exact ⟨pp', pw, q⟩
            · obtain ⟨⟨a, tt, dd, o, rfl, rfl, z1, z2, z3, z4, z5, z6, z7, z8⟩, pw, py⟩ := pp
              refine Tm.mono (tm_dictSet (.tail _ (.tail _ (.tail _ hod))) iod pw py (by have h5 : j < 5 := Nat.lt_of_lt_of_le hj lk; rw [sizeLine_eq]; omega)) fun _ σ₇ q => ?_
              obtain ⟨o', ho', rfl⟩ := q
              have TT := T.add (c := cc) Sp hc' (lst_of (n := 0)) (lst_of (n := 0)) z1 z2 z5 z3 z4 z6 z7 z8 ⟨od, hod, iod⟩ ⟨kv1, kv2, kv3, kv4⟩ ho'
              have pne : p ≠ p ++ [cc] := fun e => by have := congrArg List.length e; simp at this
              refine tm_nil ⟨rfl, n1, n2, rfl, _, TT, ?_, fun q => ?_, fun q hq => ?_, ?_, ?_, ?_⟩
              · simp [TF.grow, Sp]
              · rw [sp, ← hS]; rfl
              · by_cases e : q = p ++ [cc]
                · subst e
                  show (if p ++ [cc] = p ++ [cc] then [] else t.tm (p ++ [cc])) = _
                  rw [if_pos rfl]
                  have hs' : sOf (kvs.take i) (p ++ [cc]) = false := by
                    have := hS (p ++ [cc])
                    rw [hc'] at this
                    cases h' : sOf (kvs.take i) (p ++ [cc]) with
                    | false => rfl
                    | true => rw [h'] at this; simp at this
                  unfold tmOf
                  cases hv : valueAt (kvs.take i) ⟨(p ++ [cc]).toArray⟩ with
                  | none => rfl
                  | some y' =>
                    have := valueAt_pair hv
                    have h2 : sOf (kvs.take i) (p ++ [cc]) = true := by
                      unfold sOf
                      rw [Bool.or_eq_true]
                      right
                      exact List.any_eq_true.mpr ⟨_, this, by simp [lw]⟩
                    rw [hs'] at h2; cases h2
                · show (if q = p ++ [cc] then [] else t.tm q) = _
                  rw [if_neg e]
                  refine hT q ?_
                  simpa [TF.grow, e] using hq
              · show t.N + 1 ≤ _; omega
              · show _ = some (Value.ref (if ([] : List Nat) = p ++ [cc] then a else t.na []))
                rw [if_neg (by simp)]; exact n3
              · show _ = some (Value.ref (if p = p ++ [cc] then a else t.na p))
                rw [if_neg pne]; exact n4'
        · have S5 : t'.S (p ++ [cc]) = true := by rw [S2]; simp
          obtain ⟨on', hon', lon'⟩ := T'.node p S1
          obtain ⟨od', kv', hod', iod', kv1', _⟩ := T'.kids p S1
          refine seq_assign O' (Tr.m (tr_sub_ (Pb := IsS (ch cc)) (tr_sub_ (Pa := IsV (.ref (t'.na p))) (tr_name O' x5) (tr_int (i := 1)) fun a b ha hb => tr_item (x := .ref (t'.da p)) (ent_lst hon' lon') ha hb (by decide) (by decide) rfl) (tr_nameP O' x3 ⟨u, rfl⟩) fun a b ha hb => tr_dItem (ent_dict hod' iod') ha hb (kv1' cc S5))) fun v σ₆ pp => ?_
          obtain ⟨rfl, rfl⟩ := pp
          exact tm_nil ⟨rfl, x1, x2, t', T', by rw [htk]; exact S2, S3, by omega, x4, by rw [htk]; rfl⟩
      · rintro fix σ₄ ⟨rfl, n1, n2, t, T, hS, hT, hN, n3, n4⟩
        have hlw : (lw k).take k.cps.size = lw k := by
          rw [show k.cps.size = (lw k).length from by simp, List.take_length]
        rw [hlw] at hS n4
        have Sp : t.S (lw k) = true := by rw [hS]; simp
        obtain ⟨on, hon, lon⟩ := T.node _ Sp
        have ht : kvs.take (i + 1) = kvs.take i ++ [(k, y)] := by rw [List.take_add_one, hk]; rfl
        refine seq (tm_assignSub (P := fun v σ' => ∃ l, v = .ref l ∧ σ' = Sg.mk σ₄.m σ₄.c ((l, listOf [y].toArray 0) :: σ₄.n) ∧ ∀ p ∈ σ₄.n, p.1 ≠ l) (P₂ := fun v w σ' => (∃ l, v = .ref l ∧ σ' = Sg.mk σ₄.m σ₄.c ((l, listOf [y].toArray 0) :: σ₄.n) ∧ ∀ p ∈ σ₄.n, p.1 ≠ l) ∧ w = .ref (t.na (lw k))) (P₃ := fun v w z σ' => (∃ l, v = .ref l ∧ σ' = Sg.mk σ₄.m σ₄.c ((l, listOf [y].toArray 0) :: σ₄.n) ∧ ∀ p ∈ σ₄.n, p.1 ≠ l) ∧ w = .ref (t.na (lw k)) ∧ IsI 0 z)
          (Tm.mono (tm_list1 (P := IsV y) (tr_sub_ (tr_name O' n1) (tr_nameP (P := IsS k) O' n2 ⟨tv, rfl⟩) fun a b ha hb => tr_dItem (ent_dict₀ hd₀) ha hb (valueAt_get hn hk))) fun v σ' ⟨l, z, h1, h2, h3, h4⟩ => ⟨l, h1, by rw [h3, h2], h4⟩) (fun v σ' pp => ?_) (fun v w σ' pp => ?_) fun v w z σ' pp => ?_)
        · obtain ⟨l, rfl, rfl, hap⟩ := pp
          exact Tm.mono (Tr.m (tr_name O' n4)) fun w σ'' q => by obtain ⟨rfl, q⟩ := q; exact ⟨⟨l, rfl, rfl, hap⟩, q⟩
        · obtain ⟨⟨l, rfl, rfl, hap⟩, pw⟩ := pp
          exact Tm.mono (Tr.m tr_int) fun z σ'' q => by obtain ⟨rfl, q⟩ := q; exact ⟨⟨l, rfl, rfl, hap⟩, pw, q⟩
        · obtain ⟨⟨l, rfl, rfl, hap⟩, pw, pz⟩ := pp
          refine Tm.mono (tm_listSet (.tail _ hon) lon pw pz (by decide) (by simp) (by simp)) fun _ σ₇ q => ?_
          obtain ⟨o', lo', rfl⟩ := q
          have TT := T.put (vs := [y]) Sp (lst_of (n := 0)) hap lo'
          refine tm_nil ⟨rfl, n1, _, TT, ⟨fun q => ?_, fun q hq => ?_⟩, ?_, n3⟩
          · show t.S q = _
            rw [hS, ht]
            unfold sOf
            rw [List.any_append, ← Bool.or_assoc]
            simp
          · show (if q = lw k then [y] else t.tm q) = _
            unfold tmOf
            by_cases e : q = lw k
            · subst e
              rw [if_pos rfl]
              have hnt : ((kvs.take (i + 1)).map (·.1)).Nodup := by rw [List.map_take]; exact List.Nodup.sublist (List.take_sublist _ _) hn
              have hg : (kvs.take (i + 1))[i]? = some (k, y) := by rw [List.getElem?_take, if_pos (Nat.lt_succ_self _)]; exact hk
              have ek : (⟨(lw k).toArray⟩ : Str) = k := str_ext (by simp [lw])
              rw [ek, valueAt_get hnt hg]; rfl
            · rw [if_neg e, hT q hq]
              unfold tmOf
              congr 1
              rw [ht]
              unfold valueAt
              rw [List.find?_append]
              have hne : ¬ k = (⟨q.toArray⟩ : Str) := fun z => e (by rw [z])
              simp [hne]
          · show t.N ≤ _
            have : k.cps.size ≤ 5 := lk
            omega
    · rintro fix σ₁ ⟨rfl, m1, t, T, TI, hN, m2⟩
      refine seq_ret (Tm.mono (Tr.m (tr_name O' m2)) fun v σ' p => ?_)
      obtain ⟨rfl, rfl⟩ := p
      rw [List.take_length] at TI
      exact ⟨t, rfl, T, TI, by omega⟩
  obtain ⟨nw, e, ⟨t, h1, h2, h3, h4⟩, h5⟩ := h
  exact ⟨nw, t, h1, e, h2, h3, h4, h5⟩
end
end Mine
open PySem PySem.W PySem.Calls PyProof.Rows
set_option Elab.async false
set_option maxRecDepth 100000
set_option maxHeartbeats 4000000
set_option linter.unusedVariables false
namespace Mine
section
variable {G : Gx} {σ : Sg} {d : Nat}
/-- a missing word -/
theorem tq_dMiss {N : Prop} (hN : N) (O : Ok G d) {ve ie : Expr} {a : Addr} {kvs : List (Str × Value)} {x : Str} {v i : Value} {R : Value → Sg → Prop} (hd : Ent G σ (fun h => h.DictOf (SK G) a kvs)) (hlo : (a == sysModules) = false) (hv : v = .ref a) (hi : IsS x i) (hx : valueAt kvs x = none)
    (hs : ∀ t, subscripted ie false (.ref a) (.str x t) = operate [.ref a, .str x t] (getItem (.ref a) (.str x t)) := by intro _; with_unfolding_all rfl) : Tq G σ (Xn G N) (subscriptTail ve ie v i) R := by
  obtain ⟨t, rfl⟩ := hi; subst hv
  exact fun own s Q E c k kx => tail_any (hd own _ c).typeIs slot_dict_getitem.lookup (wpAny_getItem_missing_of (knd := SK G) (k := x) (isStr_str x t) hlo O.hh (hd own _ c).mapOf hx fun h' e hn => kx e h' _ ⟨hN, σ, s.heap, c, hn⟩) (hs t)
theorem getitem_miss (hK : G.K = KK G.w) (O : Ok G (d + 1)) {x D : Addr} {kvs : List (Str × Value)} {p : Str} {tp : Tok} (hT : Ent G σ (fun h => TrieH (SK G) h x D kvs)) (hy : valueAt kvs p = none) : Tq G σ (Xc G σ (valueAt kvs p = none)) (call (.ref 57) [.ref x, .str p tp] []) (fun v σ' => σ' = σ ∧ False) := by
  refine' Tq.tr (Tq.mono (tq_fn (R := fun v _ => False) (body := ?body) (binds := [("self", .ref x), ("key", .str p tp)]) O (hK := ?hK) ?hb ?hc ?h1 ?h2 ?h3 ?h4 ?h5 ?h6 ?h7 ?h8 ?h9 ?hw) fun v σ' h => ?_)
  case hK => rw [hK]; rfl
  case hb => rfl
  case hc => rw [hK]; rfl
  case h1 => rfl
  case h2 => rfl
  case h3 => rfl
  case h4 => rfl
  case h5 => rfl
  case h6 => rfl
  case h7 => decide
  case h8 => exact fun s X => BindsTo.of_eq rfl
  case h9 => exact locs rfl
  case hw =>
    intro own h L c O'
    obtain ⟨dx, es, n, l, vs, ss, t, u, v, tk, i1, i2, i3, i4, i5, i6, i7, i8, i9, i10, i11, i12, i13, i14⟩ := hT own h c
    exact tq_seq (tq_ret (tq_sub (tr_ta (by exact hK) O' rfl (ent_old i1 fun _ _ k z => z.keep k) i2 rfl) (fun a ha => Tm.q (Tm.mono (Tr.m (tr_nameP (P := IsS p) O' rfl ⟨tp, rfl⟩)) fun v σ' q => (⟨ha, q.1, q.2⟩ : a = .ref D ∧ σ' = _ ∧ IsS p v))) fun a b σ' q => by
      obtain ⟨rfl, rfl, q⟩ := q
      exact tq_dMiss hy O' (ent_dict₀ i13) i14 rfl q hy) fun v σ' q => q)
  obtain ⟨nw, e, p, _⟩ := h
  exact p.elim
end
end Mine
open PySem PySem.W PySem.Calls PyProof.Rows
set_option Elab.async false
set_option maxRecDepth 100000
set_option maxHeartbeats 4000000
set_option linter.unusedVariables false
namespace Mine
theorem sign_len (n : Int) : (sign n).length ≤ 1 := by
  unfold sign
  split
  · rename_i h
    have m4 := fmod4 n
    have hc : n.fmod 4 = 0 ∨ n.fmod 4 = 1 ∨ n.fmod 4 = 2 := by omega
    rcases hc with h | h | h <;> rw [h] <;> decide
  · exact Nat.le_refl 1

section
variable {G : Gx} {σ : Sg} {d : Nat}
def endsL : List Str := ["", "a", "b", "ab"]
theorem ends_fn (hK : G.K = KK G.w) (O : Ok G (d + 1)) : Tm G σ (call (.ref 85) [] []) (fun v σ' => ∃ nw l n' vs, v = .ref l ∧ σ' = { σ with n := nw ++ σ.n } ∧ (l, listOf (List.toArray vs) n') ∈ nw ∧ StrsAre vs endsL) := by
  refine' Tm.mono (tm_fn (R := fun v nw => ∃ l n' vs, v = .ref l ∧ (l, listOf (List.toArray vs) n') ∈ nw ∧ StrsAre vs endsL) (body := ?body) (binds := []) O (hK := ?hK) ?hb ?hc ?h1 ?h2 ?h3 ?h4 ?h5 ?h6 ?h7 ?h8 ?h9 ?hw) fun v σ' h => ?_
  case hK => rw [hK]; rfl
  case hb => rfl
  case hc => rw [hK]; rfl
  case h1 => rfl
  case h2 => rfl
  case h3 => rfl
  case h4 => rfl
  case h5 => rfl
  case h6 => rfl
  case h7 => decide
  case h8 => exact fun s X => BindsTo.of_eq rfl
  case h9 => exact locs rfl
  case hw =>
    intro own h L c O'
    refine seq_ret (tm_list (Tr.m (tr_arg4 tr_str tr_str tr_str tr_str)) (fun vs σ' l p _ => ?_) (by decide) fun vs σ' p => ?_)
    · obtain ⟨rfl, a, b, c', e, rfl, ⟨t1, rfl⟩, ⟨t2, rfl⟩, ⟨t3, rfl⟩, ⟨t4, rfl⟩⟩ := p
      exact ⟨l, 0, _, rfl, .head _, .cons _ _ (.cons _ _ (.cons _ _ (.cons _ _ .nil)))⟩
    · obtain ⟨rfl, a, b, c', e, rfl, _⟩ := p
      simp
  obtain ⟨nw, e, ⟨l, n', vs, h1, h2, h3⟩, _⟩ := h
  exact ⟨nw, l, n', vs, h1, e, h2, h3⟩

theorem tq_longest (hK : G.K = KK G.w) (O : Ok G (d + 2)) {pl : Sem Bool} {o e : Expr} {apos pos : Pos} {x D dx : Addr} {es : List DictEntry} {n : Nat} {kvs : List (Str × Value)} {p : Str} (ho : Tr G σ (eval o G.env) (IsV (.ref x))) (he : Tr G σ (eval e G.env) (IsS p)) (hi : Ent G σ (fun h => InstIn h x 74 dx es n)) (hl : getL "longest_prefix" es = some none) (hT : Ent G σ (fun h => TrieH (SK G) h x D kvs)) (hz : p.length ≤ 1000)
    (hq : eval (.Call (.Attribute o "longest_prefix" apos) [e] [] pos) G.env = (do
          let ov ← eval o G.env
          standAt apos.atName
          let (f, first) ← holding [ov] (getMethod ov "longest_prefix" pl)
          callWith pos f first (backTo pos (starEach [e] G.env)) []) := by rfl)
    (hs : starEach [e] G.env = [(false, eval e G.env)] := by rfl) :
    Tq G σ (Xc G σ (∀ k, k ≤ p.length → valueAt kvs (tk p k) = none)) (eval (.Call (.Attribute o "longest_prefix" apos) [e] [] pos) G.env) (fun v σ' => σ' = σ ∧ ∃ k, k ≤ p.length ∧ (valueAt kvs (tk p k)).isSome = true ∧ (∀ j, k < j → j ≤ p.length → valueAt kvs (tk p j) = none) ∧ IsS (tk p k) v) :=
  tq_methI O ho hi (by rw [hK]; rfl) (f := 71) (by rw [hK]; rfl) (by rw [hK]; rfl) hl (by rw [hK]; rfl) (tr_arg1 he hs) (fun vs ⟨v, e, ⟨t, hv⟩⟩ => by subst e; subst hv; exact longest_fn hK O hT hz) hq (by rw [hs]; rfl) rfl

end
end Mine
open PySem PySem.W PySem.Calls PyProof.Rows
set_option Elab.async false
set_option maxRecDepth 100000
set_option maxHeartbeats 4000000
set_option linter.unusedVariables false
namespace Mine

/-- the frame of a def that has cells -/
def CalC (G : Gx) (h : Heap) (fd : FuncData) (L f : Addr) : Gx := { G with A := G.A.deeper (callEnvC fd L f), env := callEnvC fd L f, h₀ := h }

section
variable {G : Gx} {σ : Sg} {d : Nat}

theorem Ok.calC {own : Led} {h : Heap} {fd : FuncData} {L f : Addr} (O : Ok G (d + 1)) (c : Cx G own σ h) (hk : fd.scope.kind = .function) (hg : fd.globals = mainGlobals) (hb : fd.builtins = builtinsNs)
    (ap : (callEnvC fd L f).cells.Pairwise fun x y => x.2 ≠ y.2) (ab : ∀ n c, (n, c) ∈ (callEnvC fd L f).cells → L < c) : Ok (CalC G h fd L f) d where
  X := O.X.keeps c.F.keep
  T := let ⟨p, lo, mg, mb, T⟩ := O.T; ⟨p, lo, mg, mb, T.keeps c.F.keep⟩
  B := by
    obtain ⟨base, outer, hb, B⟩ := O.B
    exact ⟨base, _, hb, fun h' m F => pushX (B h _ c.F) F rfl hk⟩
  kind := hk
  glob := hg
  blt := hb
  hh := O.hh
  depth := by show G.A.depth + 1 + d < _; have := O.depth; omega
  units := by show G.A.units + 3 + 10 * d < _; have := O.units; omega
  cpw := fun x y a e e' => name_of_addr ap (mem_of_lookup e) (mem_of_lookup e')
  cL := fun x a e => Nat.ne_of_gt (ab x a (mem_of_lookup e))

theorem tm_fnC {f : Addr} {fd : FuncData} {oc : Value} {od : Option Addr} {osl : Array (Option Value)} {body : List Stmt} {args : List Value} {binds : List (Str × Value)} {R : Value → Led → Prop}
    (O : Ok G (d + 1)) (hK : G.K.lookup f = some ⟨oc, od, .func fd, osl⟩) (hbody : fd.body = .stmts body) (hcode : codeIn G.K fd.code fd.qualname = true)
    (hk : fd.scope.kind = .function) (hg : fd.globals = mainGlobals) (hb : fd.builtins = builtinsNs) (hc : fd.closure = []) (hco : fd.scope.isCoroutine = false) (hgen : fd.scope.isGenerator = false)
    (hbind : bindArgs fd ⟨args, []⟩ = pure binds) (hloc : ∀ x ∈ binds, fd.scope.names.lookup x.1 = some .local)
    (hw : ∀ own h, Cx G own σ h → Ok (CalC G h fd h.objs.size f) d → Tm (CalC G h fd h.objs.size f) ⟨bindL (callEnvC fd h.objs.size f).kindOf binds fun _ => none, bindC (callEnvC fd h.objs.size f).kindOf binds fun _ => none, []⟩ (execs body (CalC G h fd h.objs.size f).env) (fun fl σ' => R (retOf fl) σ'.n)) :
    Tm G σ (call (.ref f) args []) (fun v σ' => ∃ nw, σ' = { σ with n := nw ++ σ.n } ∧ R v nw ∧ ∀ p ∈ nw, ∀ q ∈ σ.n, p.1 ≠ q.1) := fun own s Q E c k => by
  obtain ⟨p, lo, mg, mb, T⟩ := O.T
  have X := O.X.keeps c.F.keep
  refine wpAny_call (codeAny_call_cells (by have := O.depth; omega) (X _ _ hK) rfl (T.nolimit.keeps c.F.keep) (codeRec_of X hcode) hbody hbind hc (fun x hx => .inl (hloc x hx)) (fun s₁ x => ?_) hco hgen hk)
  obtain ⟨h₁, tk, rfl⟩ := x.toInCall.same
  have F₁ : Fr s.heap s.heap.objs.size h₁ (bindL (callEnvC fd s.heap.objs.size f).kindOf binds fun _ => none) := ⟨x.toInCall.ns, x.toInCall.keep, Nat.le_refl _⟩
  have c₁ : Cx (CalC G s.heap fd s.heap.objs.size f) [] ⟨bindL (callEnvC fd s.heap.objs.size f).kindOf binds fun _ => none, bindC (callEnvC fd s.heap.objs.size f).kindOf binds fun _ => none, []⟩ h₁ :=
    ⟨F₁, News.nil, x.cell, (fun _ h => nomatch h), fun _ h => nomatch h⟩
  refine hw own s.heap c (O.calC c hk hg hb x.apart x.above) [] _ _ _ c₁ fun fl σ' h' tk' pr c' => ?_
  have := k (retOf fl) { σ with n := σ'.n ++ σ.n } h' tk' ⟨σ'.n, rfl, pr, fun p hp q hq e => by have := (c'.N p (List.mem_append_right _ hp)).2.2; rw [e] at this; have h2 := c.get hq; change s.heap.get? q.1 = none at this; rw [h2] at this; cases this⟩
    (c.fresh c'.F.keep fun q hq => ⟨c'.get hq, (c'.N q (List.mem_append_right _ hq)).2.2⟩)
  cases fl <;> exact this

/-- a and b -/
theorem tm_and {a b : Expr} {pos : Pos} {x : Bool} {R : Value → Sg → Prop} (ha : Tr G σ (eval a G.env) (IsB x)) (hb : x = true → Tm G σ (eval b G.env) R) (hn : x = false → R (.bool false) σ) : Tm G σ (eval (.BoolOp .And [a, b] pos) G.env) R := fun own s Q E c k =>
  BoolOp_and (ha own s _ E c fun v h₁ t₁ e c₁ => by
    subst e
    refine wpAny_truthy_bool ?_
    cases x with
    | false => exact k _ σ h₁ t₁ (hn rfl) c₁
    | true => exact BoolOp_one (hb rfl own _ Q E c₁ fun v σ₂ h₂ t₂ p c₂ => k v σ₂ h₂ t₂ p c₂))
end
end Mine
open PySem PySem.W PySem.Calls PyProof.Rows
set_option Elab.async false
set_option maxRecDepth 100000
set_option maxHeartbeats 4000000
set_option linter.unusedVariables false
namespace Mine

inductive Due
  | b (x : Bool)
  | s (x : Option Str)
  | l (xs : List Int)

def iv : Value → Int
  | .int i _ => i
  | _ => 0
def AllI (kvs : List (Str × Value)) : Prop := ∀ q ∈ kvs, ∃ i t, q.2 = Value.int i t

def lpN (kvs : List (Str × Value)) (w : Str) : Nat → Option Str
  | 0 => if (valueAt kvs (tk w 0)).isSome = true then some (tk w 0) else none
  | n + 1 => if (valueAt kvs (tk w (n + 1))).isSome = true then some (tk w (n + 1)) else lpN kvs w n

def due (kvs : List (Str × Value)) (k : Int) (w : Str) : Due :=
  if k = 0 then .b (kvs.any fun q => decide (lw w <+: lw q.1))
  else if k = 1 then .s (lpN kvs w w.length)
  else if k = 2 then .b (valueAt kvs w).isSome
  else .l ((valueAt kvs w).toList.map iv)

theorem lp_none {kvs : List (Str × Value)} {w : Str} : ∀ {n : Nat}, (∀ j, j ≤ n → valueAt kvs (tk w j) = none) → lpN kvs w n = none
  | 0, h => by unfold lpN; rw [h 0 (Nat.le_refl _)]; rfl
  | n + 1, h => by unfold lpN; rw [h (n + 1) (Nat.le_refl _)]; exact lp_none fun j hj => h j (by omega)
theorem lp_at {kvs : List (Str × Value)} {w : Str} {k : Nat} : ∀ {n : Nat}, k ≤ n → (valueAt kvs (tk w k)).isSome = true → (∀ j, k < j → j ≤ n → valueAt kvs (tk w j) = none) → lpN kvs w n = some (tk w k)
  | 0, hk, hs, h => by obtain rfl : k = 0 := by omega
                       unfold lpN; rw [if_pos hs]
  | n + 1, hk, hs, h => by
    unfold lpN
    by_cases e : k = n + 1
    · subst e; rw [if_pos hs]
    · rw [h (n + 1) (by omega) (Nat.le_refl _), if_neg (by simp)]
      exact lp_at (by omega) hs fun j a b => h j a (by omega)
theorem lpN_congr {k1 k2 : List (Str × Value)} (h : ∀ x, valueAt k1 x = valueAt k2 x) (w : Str) : ∀ n, lpN k1 w n = lpN k2 w n
  | 0 => by unfold lpN; rw [h]
  | n + 1 => by unfold lpN; rw [h, lpN_congr h w n]

theorem valueAt_any {kvs : List (Str × Value)} {x : Str} : (valueAt kvs x).isSome = true ↔ ∃ q ∈ kvs, q.1 = x := by
  unfold valueAt
  rw [Option.isSome_map, List.find?_isSome]
  simp
theorem valueAt_nodup {kvs : List (Str × Value)} (hn : (kvs.map (·.1)).Nodup) {x : Str} {y : Value} : valueAt kvs x = some y ↔ (x, y) ∈ kvs := by
  refine ⟨valueAt_pair, fun h => ?_⟩
  obtain ⟨i, hi⟩ := List.mem_iff_getElem?.mp h
  exact valueAt_get hn hi
theorem valueAt_reverse {kvs : List (Str × Value)} (hn : (kvs.map (·.1)).Nodup) (x : Str) : valueAt kvs.reverse x = valueAt kvs x := by
  have hn' : (kvs.reverse.map (·.1)).Nodup := by rw [List.map_reverse]; exact (List.reverse_perm _).nodup_iff.mpr hn
  refine Option.ext fun y => ?_
  rw [valueAt_nodup hn', valueAt_nodup hn, List.mem_reverse]
theorem due_reverse {kvs : List (Str × Value)} (hn : (kvs.map (·.1)).Nodup) (k : Int) (w : Str) : due kvs.reverse k w = due kvs k w := by
  unfold due
  rw [List.any_reverse, valueAt_reverse hn, lpN_congr (valueAt_reverse hn)]

/-- the sizes told by a test -/
def szs0 (pr : Nat → Bool) (j : Nat) : List Int := ((List.range j).filter pr).map fun i => ((i : Nat) : Int)
theorem szs0_succ (pr : Nat → Bool) (j : Nat) : szs0 pr (j + 1) = szs0 pr j ++ if pr j = true then [((j : Nat) : Int)] else [] := by
  unfold szs0
  rw [List.range_succ, List.filter_append, List.map_append]
  congr 1
  by_cases h : pr j = true
  · rw [if_pos h, List.filter_cons_of_pos (p := pr) h]; rfl
  · rw [if_neg h, List.filter_cons_of_neg (p := pr) h]; rfl
theorem szs0_len (pr : Nat → Bool) (j : Nat) : (szs0 pr j).length ≤ j := by
  unfold szs0
  rw [List.length_map]
  exact Nat.le_trans (List.length_filter_le _ _) (by simp)
theorem szs0_cases (pr : Nat → Bool) : ∀ j, (szs0 pr j = [] ∧ ∀ s, s < j → pr s = false) ∨ ∃ pre m, szs0 pr j = pre ++ [((m : Nat) : Int)] ∧ m < j ∧ pr m = true ∧ ∀ s, m < s → s < j → pr s = false
  | 0 => .inl ⟨rfl, fun s h => absurd h (Nat.not_lt_zero _)⟩
  | j + 1 => by
    rw [szs0_succ]
    by_cases h : pr j = true
    · rw [if_pos h]
      exact .inr ⟨_, j, rfl, Nat.lt_succ_self _, h, fun s a b => by omega⟩
    · have h' : pr j = false := by simpa using h
      rw [if_neg h, List.append_nil]
      rcases szs0_cases pr j with ⟨e, f⟩ | ⟨pre, m, e, a, b, f⟩
      · refine .inl ⟨e, fun s hs => ?_⟩
        rcases Nat.lt_succ_iff_lt_or_eq.mp hs with h1 | rfl
        · exact f s h1
        · exact h'
      · refine .inr ⟨pre, m, e, by omega, b, fun s h1 h2 => ?_⟩
        rcases Nat.lt_succ_iff_lt_or_eq.mp h2 with h3 | rfl
        · exact f s h1 h3
        · exact h'

section
variable {prog : Program} {w₀ : World} {knd : KeyKind prog w₀ Str} {n : Led} {t : TF} {kvs : List (Str × Value)} {w : Str} {j : Nat}

theorem tmOf_ints (hI : AllI kvs) (p : List Nat) : IntsAre (tmOf kvs p) ((valueAt kvs ⟨p.toArray⟩).toList.map iv) := by
  unfold tmOf
  cases h : valueAt kvs ⟨p.toArray⟩ with
  | none => exact .nil
  | some y =>
    obtain ⟨i, t, e⟩ := hI _ (valueAt_pair h)
    simp only at e
    subst e
    exact .cons _ _ .nil
theorem sOf_mem {q : Str × Value} (hq : q ∈ kvs) {p : List Nat} (h : p <+: lw q.1) : sOf kvs p = true := by
  unfold sOf
  rw [Bool.or_eq_true]
  exact .inr (List.any_eq_true.mpr ⟨q, hq, by simpa using h⟩)
/-- behind the end of the path no key is -/
theorem path_end (TI : TreeIs t kvs) (hj : j < (lw w).length) (hS : t.S ((lw w).take (j + 1)) = false) {q : Str × Value} (hq : q ∈ kvs) {s : Nat} (hs : j < s) (h : (lw w).take s <+: lw q.1) : False := by
  have : (lw w).take (j + 1) <+: lw q.1 := List.IsPrefix.trans (List.take_prefix_take_left (by omega)) h
  rw [TI.1, sOf_mem hq this] at hS
  cases hS
theorem path_tm (TI : TreeIs t kvs) (hS : ∀ s, s ≤ j → t.S ((lw w).take s) = true) {s : Nat} (hs : s ≤ j) : t.tm ((lw w).take s) = (valueAt kvs (tk w s)).toList := TI.2 _ (hS s hs)
theorem path_none (TI : TreeIs t kvs) (hj : j < (lw w).length) (hS : t.S ((lw w).take (j + 1)) = false) {s : Nat} (hs : j < s) : valueAt kvs (tk w s) = none := by
  cases h : valueAt kvs (tk w s) with
  | none => rfl
  | some y => exact (path_end TI hj hS (valueAt_pair h) hs (by rw [lw_tk]; exact List.prefix_rfl)).elim
/-- of kind 0 -/
theorem told0 (T : TreeF knd n t) (TI : TreeIs t kvs) (hS : t.S (lw w) = true) {kv : List (Str × Value)} (k1 : ∀ c, t.S (lw w ++ [c]) = true → valueAt kv (ch c) = some (.ref (t.na (lw w ++ [c])))) (k2 : ∀ c, t.S (lw w ++ [c]) = false → valueAt kv (ch c) = none) (k3 : ∀ q ∈ kv, ∃ c, q.1 = ch c) :
    (!(decide ((valueAt kvs w).toList.map iv = []) && kv.isEmpty)) = kvs.any fun q => decide (lw w <+: lw q.1) := by
  have ew : (⟨(lw w).toArray⟩ : Str) = w := str_ext (by simp [lw])
  rw [Bool.eq_iff_iff]
  constructor
  · intro h
    rw [List.any_eq_true]
    simp only [Bool.not_eq_true', Bool.and_eq_false_iff, decide_eq_false_iff_not] at h
    rcases h with h | h
    · cases hv : valueAt kvs w with
      | none => rw [hv] at h; simp at h
      | some y => exact ⟨_, valueAt_pair hv, by simp⟩
    · cases kv with
      | nil => cases h
      | cons q r =>
        obtain ⟨c, hc⟩ := k3 q (.head _)
        have hs : (valueAt (q :: r) (ch c)).isSome = true := valueAt_any.mpr ⟨q, .head _, hc⟩
        have hS' : t.S (lw w ++ [c]) = true := by
          cases e : t.S (lw w ++ [c]) with
          | true => rfl
          | false => rw [k2 c e] at hs; cases hs
        rw [TI.1] at hS'
        unfold sOf at hS'
        rw [Bool.or_eq_true] at hS'
        rcases hS' with h | h
        · simp at h
        · obtain ⟨q', hq', h'⟩ := List.any_eq_true.mp h
          exact ⟨q', hq', by simpa using List.IsPrefix.trans (List.prefix_append _ _) (of_decide_eq_true h')⟩
  · intro h
    obtain ⟨q, hq, h'⟩ := List.any_eq_true.mp h
    obtain ⟨r, hr⟩ := of_decide_eq_true h'
    simp only [Bool.not_eq_true', Bool.and_eq_false_iff, decide_eq_false_iff_not]
    cases r with
    | nil =>
      left
      have e : q.1 = w := str_ext (by rw [← hr, List.append_nil])
      obtain ⟨y, hy⟩ := Option.isSome_iff_exists.mp (valueAt_any.mpr ⟨q, hq, e⟩)
      rw [hy]; simp
    | cons c r =>
      right
      have hS' : t.S (lw w ++ [c]) = true := by
        rw [TI.1]
        exact sOf_mem hq ⟨r, by rw [← hr]; simp⟩
      have := k1 c hS'
      cases kv with
      | nil => cases this
      | cons _ _ => rfl
end
end Mine
open PySem PySem.W PySem.Calls PyProof.Rows
set_option Elab.async false
set_option maxRecDepth 100000
set_option maxHeartbeats 4000000
set_option linter.unusedVariables false
namespace Mine

def Rep (n : Led) (v : Value) : Due → Prop
  | .b x => v = .bool x
  | .s (some x) => IsS x v
  | .s none => v = .none
  | .l xs => ∃ l o vs, v = .ref l ∧ (l, o) ∈ n ∧ Obj.lst o (List.toArray vs) ∧ IntsAre vs xs
theorem Rep.mono {n n' : Led} {v : Value} {D : Due} (h : ∀ p ∈ n, p ∈ n') (r : Rep n v D) : Rep n' v D := by
  cases D with
  | b x => exact r
  | s x => cases x <;> exact r
  | l xs => obtain ⟨l, o, vs, a, b, c⟩ := r; exact ⟨l, o, vs, a, h _ b, c⟩

def pathV (t : TF) (l : List Nat) (j : Nat) : List Value := (List.range (j + 1)).map fun s => Value.ref (t.na (l.take s))
theorem pathV_succ (t : TF) (l : List Nat) (j : Nat) : pathV t l (j + 1) = pathV t l j ++ [Value.ref (t.na (l.take (j + 1)))] := by
  unfold pathV
  rw [List.range_succ, List.map_append]; rfl
theorem pathV_len (t : TF) (l : List Nat) (j : Nat) : (pathV t l j).length = j + 1 := by simp [pathV]
theorem pathV_get (t : TF) (l : List Nat) {j s : Nat} (h : s ≤ j) : (pathV t l j)[s]? = some (.ref (t.na (l.take s))) := by
  unfold pathV
  rw [List.getElem?_map, List.getElem?_range (by omega)]; rfl

section
variable {G : Gx} {σ : Sg} {d : Nat}

/-- path[-1], path[size] -/
theorem tr_pathItem {ve ie : Expr} {pos : Pos} {t : TF} {l : List Nat} {j s : Nat} {P : Addr} {n' : Nat} {k : Int} (hv : Tr G σ (eval ve G.env) (IsV (.ref P))) (hP : Ent G σ (fun h => h.IsList P (pathV t l j).toArray)) (hi : Tr G σ (eval ie G.env) (IsI k)) (hj : j ≤ 1000) (hs : s ≤ j) (hk : k = s ∨ (k = -1 ∧ s = j))
    (hsl : ∀ a t, subscripted ie false (.ref a) (.int k t) = operate [.ref a, .int k t] (getItem (.ref a) (.int k t)) := by intro _ _; with_unfolding_all rfl) :
    Tr G σ (eval (.Subscript ve ie pos) G.env) (IsV (.ref (t.na (l.take s)))) := by
  refine tr_sub_ hv hi fun a b ha hb => ?_
  rcases hk with rfl | ⟨rfl, rfl⟩
  · exact tr_item hP ha hb (by omega) (by omega) (by rw [List.getElem?_toArray, Int.toNat_natCast]; exact pathV_get t l hs) (hsl _)
  · refine tr_itemN hP ha hb (by decide) (by simp [pathV_len]; omega) (by decide) ?_ (hsl _)
    rw [List.getElem?_toArray, List.size_toArray, pathV_len, show ((-1 : Int) + ((s + 1 : Nat) : Int)).toNat = s from by omega]
    exact pathV_get t l hs
end

theorem Tr.cx {α : Type} {G : Gx} {σ : Sg} {t : Sem α} {P : α → Prop} (f : ∀ own h, Cx G own σ h → Tr G σ t P) : Tr G σ t P := fun own s Q E c k => f own _ c own s Q E c k
theorem Tm.cx {α : Type} {G : Gx} {σ : Sg} {t : Sem α} {P : α → Sg → Prop} (f : ∀ own h, Cx G own σ h → Tm G σ t P) : Tm G σ t P := fun own s Q E c k => f own _ c own s Q E c k
def prT (kvs : List (Str × Value)) (w : Str) (s : Nat) : Bool := !decide ((valueAt kvs (tk w s)).toList.map iv = [])
theorem prT_some (kvs : List (Str × Value)) (w : Str) (s : Nat) : prT kvs w s = (valueAt kvs (tk w s)).isSome := by
  unfold prT
  cases valueAt kvs (tk w s) <;> simp

def PathEnd (G : Gx) (t : TF) (w : Str) (k : Int) (tk tw : Tok) (σ : Sg) (j : Nat) : Prop :=
  ∃ P n', j ≤ (lw w).length ∧ (∀ s, s ≤ j → t.S ((lw w).take s) = true) ∧ (j < (lw w).length → t.S ((lw w).take (j + 1)) = false) ∧ σ.c "path" = some (.ref P) ∧ (P, listOf (pathV t (lw w) j).toArray n') ∈ σ.n ∧ σ.m "kind" = some (.int k tk) ∧ σ.m "word" = some (.str w tw)

section
variable {G : Gx} {σ : Sg} {d : Nat}
theorem told_fn (hK : G.K = KK G.w) (O : Ok G (d + 8)) {n₀ : Led} {t : TF} {kvs : List (Str × Value)} {k : Int} {w : Str} {tk' tw : Tok} (T : TreeF (SK G) n₀ t) (TI : TreeIs t kvs) (hI : AllI kvs) (hF : Fx G σ n₀) (hk : k = 0 ∨ k = 1 ∨ k = 2 ∨ k = 3) (hz : w.length ≤ 1000) :
    Tm G σ (call (.ref 104) [.ref (t.na []), .int k tk', .str w tw] []) (fun v σ' => ∃ nw, σ' = { σ with n := nw ++ σ.n } ∧ Rep (nw ++ n₀) v (due kvs k w) ∧ ∀ p ∈ nw, ∀ q ∈ σ.n, p.1 ≠ q.1) := by
  refine' Tm.mono (tm_fnC (d := d + 7) (R := fun v nw => Rep (nw ++ n₀) v (due kvs k w)) (body := ?body) (binds := [("tree", .ref (t.na [])), ("kind", .int k tk'), ("word", .str w tw)]) O (hK := ?hK) ?hb ?hc ?h1 ?h2 ?h3 ?h4 ?h5 ?h6 ?h8 ?h9 ?hw) fun v σ' h => h
  case hK => rw [hK]; rfl
  case hb => rfl
  case hc => rw [hK]; rfl
  case h1 => rfl
  case h2 => rfl
  case h3 => rfl
  case h4 => rfl
  case h5 => rfl
  case h6 => rfl
  case h8 => rfl
  case h9 => exact locs rfl
  case hw =>
    intro own h c O'
    have kl : nsIn G.K mainGlobals "len" = some none := by rw [hK]; rfl
    have kr : nsIn G.K mainGlobals "range" = some none := by rw [hK]; rfl
    have a0 : h.get? (h.objs.size + 1) = none := none_above (Nat.le_succ _)
    have old : ∀ p ∈ n₀, h.get? p.1 = some p.2 := hF.get c
    have node : ∀ {h' : Heap}, (∀ b o, h.get? b = some o → h'.get? b = some o) → ∀ p, t.S p = true → h'.IsList (t.na p) #[.ref (t.ta p), .ref (t.da p)] := fun kp p hp => by
      obtain ⟨o, ho, lo⟩ := T.node p hp
      exact ⟨o, kp _ _ (old _ ho), lo.1, lo.2⟩
    have hlen : (lw w).length = w.length := lw_length w
    refine seq_assignC O' (x := "path") rfl a0 (tm_list1 (P := IsV (.ref (t.na []))) (tr_name O' rfl)) fun v σ₁ p => ?_
    obtain ⟨P, x, rfl, rfl, rfl, _⟩ := p
    refine tm_next (P₁ := fun σ' => ∃ j, PathEnd G t w k tk' tw σ' j) (tm_for (src_str O' (tr_nameP (P := IsS w) O' rfl ⟨tw, rfl⟩) rfl)
      (fun fix j σ' => fix = [] ∧ (∀ s, s ≤ j → t.S ((lw w).take s) = true) ∧ σ'.c "path" = some (.ref P) ∧ (∃ n', (P, listOf (pathV t (lw w) j).toArray n') ∈ σ'.n) ∧ σ'.m "kind" = some (.int k tk') ∧ σ'.m "word" = some (.str w tw)) ?_ ?_ ?_ ?_) fun σ₂ p => ?_
    · rintro σ₁ fix ⟨rfl, rfl⟩
      refine ⟨rfl, fun s hs => ?_, rfl, ⟨0, .head _⟩, rfl, rfl⟩
      obtain rfl : s = 0 := by omega
      exact T.root
    · rintro fix j σ' ⟨rfl, _⟩; exact Fx.nil
    · rintro fix j σ₁ σ₂ hj ⟨rfl, hS, mp, ⟨n', nP⟩, mk, mw⟩ ⟨v, ⟨cc, u, hcc, rfl⟩, rfl⟩ _
      have hj' : j < w.length := hj
      have hcl : (lw w)[j]? = some cc := by simpa using hcc
      have htk := take_snoc hcl
      have Sp := hS j (Nat.le_refl _)
      obtain ⟨od, kv, hod, iod, kv1, kv2, kv3, kv4⟩ := T.kids _ Sp
      have eD : ∀ {σ' : Sg}, Ent (CalC G h (fdOf (KK G.w) 104) h.objs.size 104) σ' (fun h => h.DictOf (SK G) (t.da ((lw w).take j)) kv) := ent_dict₀ (Heap.dictOf_iff.mpr ⟨od, old _ hod, iod⟩)
      have kid : ∀ {σ' : Sg} {pos q1 q2 q3 q4 q5 : Pos} {a1 a2 : Nat}, σ'.c "path" = some (.ref P) → (P, listOf (pathV t (lw w) j).toArray n') ∈ σ'.n → Tr (CalC G h (fdOf (KK G.w) 104) h.objs.size 104) σ' (eval (.Subscript (.Subscript (.Name "path" q1) (.UnaryOp .USub (.Constant (.int 1) a1 q2) q3) q4) (.Constant (.int 1) a2 q5) pos) (CalC G h (fdOf (KK G.w) 104) h.objs.size 104).env) (IsV (.ref (t.da ((lw w).take j)))) := fun m1 m2 =>
        tr_sub_ (tr_pathItem (n' := n') (s := j) (k := -1) (tr_nameC O' (a := h.objs.size + 1) rfl m1) (ent_list m2) tr_neg1 (by omega) (Nat.le_refl _) (.inr ⟨rfl, rfl⟩)) (tr_int (i := 1)) fun a b ha hb => tr_item (ent_list₀ (node (fun _ _ e => e) _ Sp)) ha hb (by decide) (by decide) rfl
      refine seq_if (x := !(valueAt kv (ch cc)).isSome) (tr_testCmp (Pa := IsS (ch cc)) (Pb := IsV (.ref (t.da ((lw w).take j)))) (tr_nameP O' rfl ⟨u, rfl⟩) (kid mp nP) fun a b ha hb => tr_dNotIn eD (T.sys _ Sp) hb ha) (fun hx => seq (tm_brk ?_)) fun hx => tm_nil ?_
      · have hc : t.S ((lw w).take (j + 1)) = false := by
          cases e : t.S ((lw w).take (j + 1)) with
          | false => rfl
          | true => rw [htk] at e; rw [kv1 cc e] at hx; cases hx
        exact ⟨rfl, j, P, n', Nat.le_of_lt hj, hS, fun _ => hc, mp, nP, mk, mw⟩
      · have hc : t.S ((lw w).take j ++ [cc]) = true := by
          cases e : t.S ((lw w).take j ++ [cc]) with
          | true => rfl
          | false => rw [kv2 cc e] at hx; cases hx
        refine seq (tm_appendStmt (v := .none) (P := IsV (.ref (t.na ((lw w).take j ++ [cc])))) (tr_nameC O' (a := h.objs.size + 1) rfl mp) nP (by simp [pathV_len]; rw [sizeLine_eq]; omega) (tr_sub_ (Pb := IsS (ch cc)) (kid mp nP) (tr_nameP O' rfl ⟨u, rfl⟩) fun a b ha hb => tr_dItem eD ha hb (kv1 cc hc)) fun v n2 e => ?_)
        subst e
        refine tm_nil ⟨rfl, fun s hs => ?_, mp, ⟨n2, ?_⟩, mk, mw⟩
        · by_cases e : s = j + 1
          · subst e; rw [htk]; exact hc
          · exact hS s (by omega)
        · rw [pathV_succ, htk]
          have := updL_self (o' := listOf ((pathV t (lw w) j).toArray.push (Value.ref (t.na ((lw w).take j ++ [cc])))) n2) nP
          simpa using this
    · rintro fix σ₁ ⟨rfl, hS, mp, ⟨n', nP⟩, mk, mw⟩
      exact ⟨rfl, _, P, n', Nat.le_refl _, hS, fun h => absurd h (Nat.lt_irrefl _), mp, nP, mk, mw⟩
    · obtain ⟨j, P, n', hj, hS, hE, mp, nP, mk, mw⟩ := p
      clear a0
      have hun : (CalC G h (fdOf (KK G.w) 104) h.objs.size 104).A.units + 64 < cLine := by have := O'.units; show G.A.units + 3 + 64 < _; change G.A.units + 3 + 10 * (d + 7) < _ at this; omega
      have hun2 : (CalC G h (fdOf (KK G.w) 104) h.objs.size 104).A.in1.in1.units + 64 < cLine := by have := O'.units; show G.A.units + 3 + 1 + 1 + 64 < _; change G.A.units + 3 + 10 * (d + 7) < _ at this; omega
      have hun1 : (CalC G h (fdOf (KK G.w) 104) h.objs.size 104).A.in1.units + 64 < cLine := by have := O'.units; show G.A.units + 3 + 1 + 64 < _; change G.A.units + 3 + 10 * (d + 7) < _ at this; omega
      have term : ∀ {h' : Heap}, (∀ b o, h.get? b = some o → h'.get? b = some o) → ∀ s, s ≤ j → h'.IsList (t.ta ((lw w).take s)) (List.toArray (tmOf kvs ((lw w).take s))) := fun kp s hs => by
        obtain ⟨o, ho, lo⟩ := T.term _ (hS s hs)
        rw [TI.2 _ (hS s hs)] at lo
        exact ⟨o, kp _ _ (old _ ho), lo.1, lo.2⟩
      have hJ : (((j + 1 : Nat) : Int) - 0).toNat = j + 1 := by omega
      have lenP : ∀ {σ' : Sg} {e : Expr}, (P, listOf (pathV t (lw w) j).toArray n') ∈ σ'.n → ∀ v, v = .ref P → Tr (CalC G h (fdOf (KK G.w) 104) h.objs.size 104) σ' (call (.builtin "len") [v]) (IsI ((j + 1 : Nat) : Int)) := fun m v e => by
        subst e
        have := tr_len_list (G := CalC G h (fdOf (KK G.w) 104) h.objs.size 104) (ent_list m) (by simp [pathV_len]; omega)
        simpa [pathV_len] using this
      -- ends = [..]
      refine tm_next (tm_assignComp O' (csrc_range O' (range1_made O' kr rfl (tr_fn1 O' kl (id := "len") (by decide +kernel) rfl (tr_nameC O' (a := h.objs.size + 1) rfl mp) (lenP (e := .Name "path" default) nP)) rfl) (by omega) (by omega) (by omega) (by omega))
        (fun C => rfl) rfl (lookup_all fun p hp => ?_) (by decide) rfl (by decide) (fun _ => rfl) (fun i ys led => IntsAre ys (szs0 (prT kvs w) i)) .nil (fun i ys m₁ σ₅ own h₁ C hi hys inv hcells c₁ O'' pm => ?_) (by rw [hJ]; omega) rfl rfl) fun σ₃ p => ?_
      · obtain rfl := List.mem_singleton.mp hp; rfl
      · obtain ⟨v, ⟨ts, rfl⟩, rfl⟩ := pm
        rw [hJ] at hi
        have cp := (hcells "path" _ rfl).trans mp
        have kp : ∀ b o, h.get? b = some o → h₁.get? b = some o := c₁.F.keep
        refine ct_one (b := prT kvs w i) (tr_testCmpN (Pa := fun v nw => nw = [] ∧ v = .ref (t.ta ((lw w).take i))) (Pb := fun a v nw2 => a = .ref (t.ta ((lw w).take i)) ∧ ∃ l, v = .ref l ∧ (l, listOf ([] : List Value).toArray 0) ∈ nw2)
          (Tm.mono (Tr.m (tr_sub_ (Pb := IsI 0) (tr_pathItem (t := t) (l := lw w) (j := j) (s := i) (k := 0 + (i : Int)) (n' := n') (tr_nameC O'' rfl cp) (ent_list₀ ⟨_, c₁.get nP, rfl, n', rfl⟩) (tr_nameI O'' rfl) (by omega) (by omega) (.inl (by omega))) tr_int fun a b ha hb => tr_item (ent_list₀ (node kp _ (hS i (by omega)))) ha hb (by decide) (by decide) rfl)) fun v σ' p => ⟨[], p.1, rfl, p.2⟩) (fun a nw p => ?_) fun a b nw p => ?_) (fun hy => ?_) (fun hn => ?_)
        · obtain ⟨rfl, rfl⟩ := p
          exact Tm.mono tm_list0 fun v σ' ⟨l, h1, h2, _⟩ => ⟨[(l, listOf ([] : List Value).toArray 0)], h2, rfl, l, h1, .head _⟩
        · obtain ⟨rfl, l, rfl, hl⟩ := p
          exact tr_neInts (ent_list₀ (term kp i (by omega))) (tmOf_ints hI _) (ent_list (List.mem_append_left _ hl)) .nil hun rfl rfl
        · refine Tm.mono (Tr.m (tr_nameI O'' rfl)) fun y σ'' p => ?_
          obtain ⟨rfl, ty, rfl⟩ := p
          show IntsAre _ (szs0 _ (i + 1))
          rw [szs0_succ, if_pos hy, Int.zero_add]
          exact inv.append (.cons _ _ .nil)
        · show IntsAre _ (szs0 _ (i + 1))
          rw [szs0_succ, if_neg (by rw [hn]; decide), List.append_nil]
          exact inv
      obtain ⟨D, ys, n2', led, hys, hl, rfl, _⟩ := p
      rw [hJ] at hys hl
      have nP' : (P, listOf (pathV t (lw w) j).toArray n') ∈ (D, listOf ys.toArray n2') :: (led ++ σ₂.n) := .tail _ (List.mem_append_right _ nP)
      -- whole
      refine seq_assign O' (P := fun v σ' => σ' = Sg.mk (put σ₂.m "ends" (.ref D)) σ₂.c ((D, listOf ys.toArray n2') :: (led ++ σ₂.n)) ∧ v = .bool (decide (j = w.length))) (Tm.mono (Tr.m (tr_cmp (Pa := IsI ((j + 1 : Nat) : Int)) (Pb := IsI ((w.length : Int) + 1)) (tr_fn1 O' kl (id := "len") (by decide +kernel) rfl (tr_nameC O' (a := h.objs.size + 1) rfl mp) (lenP (e := .Name "path" default) nP')) (tr_add (tr_fn1 O' kl (id := "len") (by decide +kernel) rfl (tr_nameP (P := IsS w) O' mw ⟨tw, rfl⟩) (R := IsI w.length) fun v hv => tr_len_str hv (by omega)) tr_int) fun a b ha hb => tr_eq_int ha hb)) fun v σ' p => ⟨p.1, ?_⟩) fun v σ' p => ?_
      · obtain ⟨rfl, p⟩ := p
        rw [p]
        congr 1
        rw [Bool.eq_iff_iff, beq_iff_eq, decide_eq_true_eq]
        omega
      obtain ⟨rfl, rfl⟩ := p
      generalize hwh : decide (j = w.length) = whole
      have hun0 : (CalC G h (fdOf (KK G.w) 104) h.objs.size 104).A.units < cLine := by omega
      have Sj := hS j (Nat.le_refl _)
      have wt : whole = true → j = w.length := fun e => by rw [← hwh] at e; exact of_decide_eq_true e
      have wf : whole = false → j < (lw w).length := fun e => by rw [← hwh] at e; have := of_decide_eq_false e; omega
      have ej : j = w.length → (lw w).take j = lw w := fun e => List.take_of_length_le (by omega)
      have tmn : whole = false → valueAt kvs w = none := fun e => by
        have := path_none TI (wf e) (hE (wf e)) (s := w.length) (by have := wf e; omega)
        rwa [tk_all (Nat.le_refl _)] at this
      refine seq_ifRet (x := k == 0) (tr_testCmp (tr_nameI O' mk) tr_int fun a b ha hb => tr_eq_int ha hb) (fun hx => ?_) fun hx0 => ?_
      · obtain rfl : k = 0 := by simpa using hx
        have e0 : due kvs 0 w = .b (kvs.any fun q => decide (lw w <+: lw q.1)) := by unfold due; rw [if_pos rfl]
        rw [e0]
        refine tm_and (x := whole) (tr_name O' rfl) (fun hw => ?_) (fun hw => ?_)
        · have hj' := wt hw
          obtain ⟨od, kv, hod, iod, kv1, kv2, kv3, _⟩ := T.kids _ Sj
          refine Tm.mono (Tr.m (tr_cmpN (R := IsB (!(decide ((valueAt kvs w).toList.map iv = []) && kv.isEmpty))) (Pa := fun v nw => nw = [] ∧ v = .ref (t.na ((lw w).take j))) (Pb := fun a v nw2 => a = .ref (t.na ((lw w).take j)) ∧ ∃ b t' k' o, v = .ref b ∧ (b, listOf [Value.ref t', .ref k'].toArray 0) ∈ nw2 ∧ (k', o) ∈ nw2 ∧ (t', listOf ([] : List Value).toArray 0) ∈ nw2 ∧ o.IsDictOf (SK G) [] ∧ (k' == sysModules) = false)
            (Tm.mono (Tr.m (tr_pathItem (t := t) (l := lw w) (j := j) (s := j) (k := -1) (n' := n') (tr_nameC O' (a := h.objs.size + 1) rfl mp) (ent_list nP') tr_neg1 (by omega) (Nat.le_refl _) (.inr ⟨rfl, rfl⟩))) fun v σ' p => ⟨[], p.1, rfl, p.2⟩) (fun a nw p => ?_) fun a b nw p => ?_)) fun v σ' p => ?_
          · obtain ⟨rfl, rfl⟩ := p
            refine Tm.mono (tm_node O') fun v σ' p => ?_
            obtain ⟨a, t', k', o, rfl, rfl, p1, p2, _⟩ := p
            exact ⟨[(a, listOf [Value.ref t', .ref k'].toArray 0), (k', o), (t', listOf ([] : List Value).toArray 0)], rfl, rfl, a, t', k', o, rfl, .head _, .tail _ (.head _), .tail _ (.tail _ (.head _)), p1, p2⟩
          · obtain ⟨rfl, b', t', k', o, rfl, p1, p2, p3, p4, p5⟩ := p
            refine Tr.cx fun own2 h2 c2 => ?_
            have n2 : t.da ((lw w).take j) ≠ k' := (c2.ne₀ (List.mem_append_left _ p2) (old _ hod)).symm
            have key := tr_neNode (σ := Sg.mk (put (put σ₂.m "ends" (.ref D)) "whole" (.bool whole)) σ₂.c (nw ++ ((D, listOf ys.toArray n2') :: (led ++ σ₂.n)))) (G := CalC G h (fdOf (KK G.w) 104) h.objs.size 104) (ent_list₀ (node (fun _ _ e => e) _ Sj)) (ent_list (List.mem_append_left _ p1)) (ent_list₀ (term (fun _ _ e => e) j (Nat.le_refl _))) (tmOf_ints hI _) (ent_list (List.mem_append_left _ p3)) (ent_dict₀ (Heap.dictOf_iff.mpr ⟨od, old _ hod, iod⟩)) (ent_dict (List.mem_append_left _ p2) p4) (T.sys _ Sj) p5 n2 hun1 hun0 hun2 rfl rfl
            have ew : (⟨((lw w).take j).toArray⟩ : Str) = w := str_ext (by rw [ej hj'])
            rw [ew] at key
            exact key
          · obtain ⟨rfl, p⟩ := p
            show v = _
            rw [p]
            congr 1
            rw [ej hj'] at Sj kv1 kv2
            exact told0 T TI Sj kv1 kv2 kv3
        · show Value.bool false = .bool _
          congr 1
          symm
          rw [List.any_eq_false]
          intro q hq h'
          exact path_end TI (wf hw) (hE (wf hw)) hq (s := w.length) (by have := wf hw; omega) (by rw [List.take_of_length_le (by omega)]; exact of_decide_eq_true h')
      have k0 : k ≠ 0 := by simpa using hx0
      refine seq_ifRet (x := k == 1) (tr_testCmp (tr_nameI O' mk) tr_int fun a b ha hb => tr_eq_int ha hb) (fun hx => ?_) fun hx1 => ?_
      · obtain rfl : k = 1 := by simpa using hx
        have e0 : due kvs 1 w = .s (lpN kvs w w.length) := by unfold due; rw [if_neg (by decide), if_pos rfl]
        rw [e0]
        have hyl := hys.length
        refine tm_ifexp (x := !ys.toArray.isEmpty) (tr_test (tr_name O' rfl) fun v hv => tr_truthyList (ent_list (.head _)) (by simp; omega) hv) ?_
        rcases szs0_cases (prT kvs w) (j + 1) with ⟨e, f⟩ | ⟨pre, m, e, hm, hpm, f⟩
        · rw [e] at hyl
          obtain rfl : ys = [] := List.length_eq_zero_iff.mp hyl
          rw [if_neg (by decide)]
          refine Tm.mono (Tr.m tr_none) fun v σ' p => ?_
          rw [lp_none fun s hs => ?_]
          · exact p.2
          · by_cases h1 : s ≤ j
            · have := f s (by omega)
              rw [prT_some] at this
              simpa using this
            · exact path_none TI (by omega) (hE (by omega)) (by omega)
        · rw [e] at hyl hys
          have hne : ys ≠ [] := fun e => by rw [e] at hyl; simp at hyl
          rw [if_pos (by cases ys with | nil => exact absurd rfl hne | cons a r => rfl)]
          have hyl' : ys.length = pre.length + 1 := by simpa using hyl
          obtain ⟨v, hv⟩ : ∃ v, ys[pre.length]? = some v := ⟨_, List.getElem?_eq_getElem (by omega)⟩
          obtain ⟨mm, tm, rfl, hmm⟩ := ints_get hys _ _ hv
          have : mm = (m : Int) := by
            rw [List.getElem?_append_right (Nat.le_refl _), Nat.sub_self] at hmm
            exact (Option.some.inj hmm).symm
          subst this
          refine Tm.mono (Tr.m (tr_cutTo (x := w) (tr_nameP O' mw ⟨tw, rfl⟩) (Tr.mono (tr_sub_ (tr_name O' rfl) (tr_neg1 (i := 1)) fun a b ha hb => tr_itemN (its := ys.toArray) (x := .int (m : Int) tm) (ent_list (.head _)) ha hb (by decide) (by simp; omega) (by decide) (by rw [List.getElem?_toArray, List.size_toArray, hyl', show ((-1 : Int) + ((pre.length + 1 : Nat) : Int)).toNat = pre.length from by omega]; exact hv)) fun v e => ⟨tm, e⟩) (by rw [sizeLine_eq]; omega))) fun v σ' p => ?_
          have es : Txt.slice w none (some (m : Int)) = tk w m := str_ext (by rw [slice_to (by omega), lw_tk, Int.toNat_natCast])
          rw [lp_at (k := m) (by omega) (by rw [← prT_some]; exact hpm) fun s h1 h2 => ?_]
          · show IsS (tk w m) v
            rw [← es]; exact p.2
          · by_cases h3 : s ≤ j
            · have := f s h1 (by omega)
              rw [prT_some] at this
              simpa using this
            · exact path_none TI (by omega) (hE (by omega)) (by omega)
      have k1 : k ≠ 1 := by simpa using hx1
      refine seq_ifRet (x := k == 2) (tr_testCmp (tr_nameI O' mk) tr_int fun a b ha hb => tr_eq_int ha hb) (fun hx => ?_) fun hx2 => ?_
      · obtain rfl : k = 2 := by simpa using hx
        have e0 : due kvs 2 w = .b (valueAt kvs w).isSome := by unfold due; rw [if_neg (by decide), if_neg (by decide), if_pos rfl]
        rw [e0]
        refine tm_and (x := whole) (tr_name O' rfl) (fun hw => ?_) (fun hw => ?_)
        · have hj' := wt hw
          refine Tm.mono (Tr.m (tr_cmpN (R := IsB (prT kvs w j)) (Pa := fun v nw => nw = [] ∧ v = .ref (t.ta ((lw w).take j))) (Pb := fun a v nw2 => a = .ref (t.ta ((lw w).take j)) ∧ ∃ l, v = .ref l ∧ (l, listOf ([] : List Value).toArray 0) ∈ nw2)
            (Tm.mono (Tr.m (tr_sub_ (Pb := IsI 0) (tr_pathItem (t := t) (l := lw w) (j := j) (s := j) (k := -1) (n' := n') (tr_nameC O' (a := h.objs.size + 1) rfl mp) (ent_list nP') tr_neg1 (by omega) (Nat.le_refl _) (.inr ⟨rfl, rfl⟩)) tr_int fun a b ha hb => tr_item (ent_list₀ (node (fun _ _ e => e) _ Sj)) ha hb (by decide) (by decide) rfl)) fun v σ' p => ⟨[], p.1, rfl, p.2⟩) (fun a nw p => ?_) fun a b nw p => ?_)) fun v σ' p => ?_
          · obtain ⟨rfl, rfl⟩ := p
            exact Tm.mono tm_list0 fun v σ' ⟨l, h1, h2, _⟩ => ⟨[(l, listOf ([] : List Value).toArray 0)], h2, rfl, l, h1, .head _⟩
          · obtain ⟨rfl, l, rfl, hl⟩ := p
            exact tr_neInts (ent_list₀ (term (fun _ _ e => e) j (Nat.le_refl _))) (tmOf_ints hI _) (ent_list (List.mem_append_left _ hl)) .nil hun rfl rfl
          · obtain ⟨rfl, p⟩ := p
            show v = _
            rw [p, prT_some, tk_all (by omega)]
        · show Value.bool false = .bool _
          rw [tmn hw]; rfl
      have k2 : k ≠ 2 := by simpa using hx2
      have e0 : due kvs k w = .l ((valueAt kvs w).toList.map iv) := by unfold due; rw [if_neg k0, if_neg k1, if_neg k2]
      rw [e0]
      refine seq_ret (tm_ifexp (x := whole) (tr_test (tr_name O' rfl) fun v hv => tr_truthyB hv) ?_)
      cases hw : whole with
      | true =>
        rw [if_pos rfl]
        have hj' := wt hw
        refine Tm.mono (Tr.m (tr_sub_ (Pb := IsI 0) (tr_pathItem (t := t) (l := lw w) (j := j) (s := j) (k := -1) (n' := n') (tr_nameC O' (a := h.objs.size + 1) rfl mp) (ent_list nP') tr_neg1 (by omega) (Nat.le_refl _) (.inr ⟨rfl, rfl⟩)) tr_int fun a b ha hb => tr_item (x := .ref (t.ta ((lw w).take j))) (ent_list₀ (node (fun _ _ e => e) _ Sj)) ha hb (by decide) (by decide) rfl)) fun v σ' p => ?_
        obtain ⟨o, ho, lo⟩ := T.term _ Sj
        rw [TI.2 _ Sj] at lo
        have ti := tmOf_ints hI ((lw w).take j)
        have ew : (⟨((lw w).take j).toArray⟩ : Str) = w := str_ext (by rw [ej hj'])
        rw [ew] at ti
        exact ⟨_, o, _, p.2, List.mem_append_right _ ho, lo, ti⟩
      | false =>
        rw [if_neg (by decide)]
        refine Tm.mono tm_list0 fun v σ' p => ?_
        obtain ⟨l, rfl, rfl, _⟩ := p
        refine ⟨l, _, [], rfl, List.mem_append_left _ (.head _), lst_of (n := 0), ?_⟩
        rw [tmn hw]; exact .nil
end
end Mine
open PySem PySem.W PySem.Calls PyProof.Rows
set_option Elab.async false
set_option maxRecDepth 100000
set_option maxHeartbeats 4000000
set_option linter.unusedVariables false
namespace Mine
section
variable {α : Type} {G : Gx} {σ : Sg} {d : Nat}
theorem Tq.xmono {X X' : Led → Addr → Heap → Prop} {t : Sem α} {P : α → Sg → Prop} (h : Tq G σ X t P) (k : ∀ own e h', X own e h' → X' own e h') : Tq G σ X' t P := fun own s Q E c q x => h own s Q E c q fun e h' tk' y => x e h' tk' (k _ _ _ y)
theorem Xc.imp {N N' : Prop} {own : Led} {e : Addr} {h : Heap} (hN : N → N') (x : Xc G σ N own e h) : Xc G σ N' own e h := ⟨hN x.1, x.2⟩
theorem tr_nameX (hk : G.env.scope.kind = .function) {x : Str} {pos : Pos} {v : Value} {P : Value → Prop} (hv : σ.m x = some v) (hp : P v) (hx : G.env.kindOf x = some .local := by rfl) (hd : (x == ("__debug__" : Str)) = false := by decide) :
    Tr G σ (eval (.Name x pos) G.env) P := fun _ s _ _ c k => wpAny_Name (wpAny_loadName_local hk hx c.F.ns hv (k v s.heap s.toks hp c)) hd

def AnsN (kvs : List (Str × Value)) (k : Int) (w : Str) : Prop := (k = 1 ∧ ∀ j, j ≤ w.length → valueAt kvs (tk w j) = none) ∨ (k = 3 ∧ valueAt kvs w = none)

theorem answer_fn (hK : G.K = KK G.w) (O : Ok G (d + 4)) (hfr : G.A.frames = some [G.env]) (hf : G.env.frame = some G.env.locals) {x D : Addr} {kvs : List (Str × Value)} {k : Int} {w : Str} {tk' tw : Tok} (hT : Ent G σ (fun h => TrieH (SK G) h x D kvs)) (hI : AllI kvs) (hk : k = 0 ∨ k = 1 ∨ k = 2 ∨ k = 3) (hz : w.length ≤ 1000) (hl : kvs.length < 64) :
    Tm G σ (call (.ref 111) [.ref x, .int k tk', .str w tw] []) (fun v σ' => ∃ nw, σ' = { σ with n := nw ++ σ.n } ∧ Rep nw v (due kvs k w) ∧ ∀ p ∈ nw, ∀ q ∈ σ.n, p.1 ≠ q.1) := by
  refine' Tm.mono (tm_fnTry (d := d + 3) (N := AnsN kvs k w) (R := fun v nw => Rep nw v (due kvs k w)) (tb := ?tb) (binds := [("trie", .ref x), ("kind", .int k tk'), ("word", .str w tw)]) O hfr hf (hK := ?hK) ?hb ?hc ?h1 ?h2 ?h3 ?h4 ?h5 ?h6 ?h7 ?h8 ?h9 ?hE ?hx ?hw ?hh) fun v σ' h => h
  case hK => rw [hK]; rfl
  case hb => rfl
  case hc => rw [hK]; rfl
  case h1 => rfl
  case h2 => rfl
  case h3 => rfl
  case h4 => rfl
  case h5 => rfl
  case h6 => rfl
  case h7 => decide
  case h8 => exact fun s X => BindsTo.of_eq rfl
  case h9 => exact locs rfl
  case hE => rw [hK]; rfl
  case hx => exact fun L => rfl
  case hw =>
    intro own h L c O'
    have T := hT own h c
    obtain ⟨dx, es, n, l, vs, ss, t, u, v, tk2, i1, i2, i3, i4, i5, i6, i7, i8⟩ := hT own h c
    have f1 : findIn G.K (.ref 74) "__getitem__" = some (some (.ref 57)) := by rw [hK]; rfl
    have f2 : fnIn G.K 57 = true := by rw [hK]; rfl
    have f3 : isFn G.K (.ref 57) = true := by rw [hK]; rfl
    have f4 : findIn G.K (.ref 74) "__contains__" = some (some (.ref 43)) := by rw [hK]; rfl
    have f5 : isFn G.K (.ref 43) = true := by rw [hK]; rfl
    have g1 : plainGet G.K 74 "has_keys_with_prefix" = true := by rw [hK]; rfl
    have g2 : findIn G.K (.ref 74) "has_keys_with_prefix" = some (some (.ref 64)) := by rw [hK]; rfl
    have g3 : isFn G.K (.ref 64) = true := by rw [hK]; rfl
    have g4 : keepIn G.K (.ref 64) = true := by rw [hK]; rfl
    refine tq_ifRet (y := k == 0) (tr_testCmp (tr_nameI O' rfl) tr_int fun a b ha hb => tr_eq_int ha hb) (fun hx => ?_) fun hx0 => ?_
    · obtain rfl : k = 0 := by simpa using hx
      have e0 : due kvs 0 w = .b (kvs.any fun q => decide (lw w <+: lw q.1)) := by unfold due; rw [if_pos rfl]
      rw [e0]
      refine Tm.q (Tm.mono (Tr.m (tr_methI O' (x := x) (C := 74) (f := 64) (R := IsB (kvs.any fun q => decide (lw w <+: lw q.1))) (tr_name O' rfl) (ent_old i1 fun _ _ k z => z.keep k) g1 g2 g3 i6 g4 (tr_arg1 (tr_nameP (P := IsS w) O' rfl ⟨tw, rfl⟩)) fun vs p => ?_)) fun v σ' p => p.2)
      obtain ⟨v, rfl, tt, rfl⟩ := p
      exact hkwp_fn (by exact hK) O' (ent_old T fun _ _ k z => z.keep k) hl
    have k0 : k ≠ 0 := by simpa using hx0
    refine tq_ifRet (y := k == 1) (tr_testCmp (tr_nameI O' rfl) tr_int fun a b ha hb => tr_eq_int ha hb) (fun hx => ?_) fun hx1 => ?_
    · obtain rfl : k = 1 := by simpa using hx
      have e0 : due kvs 1 w = .s (lpN kvs w w.length) := by unfold due; rw [if_neg (by decide), if_pos rfl]
      rw [e0]
      refine Tq.mono (Tq.xmono (tq_longest (by exact hK) O' (tr_name O' rfl) (tr_nameP (P := IsS w) O' rfl ⟨tw, rfl⟩) (ent_old i1 fun _ _ k z => z.keep k) i7 (ent_old T fun _ _ k z => z.keep k) hz) fun own e h' y => y.imp fun z => .inl ⟨rfl, z⟩) fun v σ' p => ?_
      obtain ⟨_, m, hm, hs, hj, hv⟩ := p
      rw [lp_at hm hs hj]
      exact hv
    have k1 : k ≠ 1 := by simpa using hx1
    refine tq_ifRet (y := k == 2) (tr_testCmp (tr_nameI O' rfl) tr_int fun a b ha hb => tr_eq_int ha hb) (fun hx => ?_) fun hx2 => ?_
    · obtain rfl : k = 2 := by simpa using hx
      have e0 : due kvs 2 w = .b (valueAt kvs w).isSome := by unfold due; rw [if_neg (by decide), if_neg (by decide), if_pos rfl]
      rw [e0]
      refine Tm.q (Tm.mono (Tr.m (tr_cmp (R := IsB (valueAt kvs w).isSome) (Pa := IsS w) (tr_nameP O' rfl ⟨tw, rfl⟩) (tr_name O' rfl) fun a b ha hb => ?_)) fun v σ' p => p.2)
      obtain ⟨t', rfl⟩ := ha
      exact tr_inK O' (ent_old i1 fun _ _ k z => z.keep k) f4 f5 hb (contains_fn (by exact hK) O' (ent_old T fun _ _ k z => z.keep k))
    have k2 : k ≠ 2 := by simpa using hx2
    have k3 : k = 3 := by omega
    subst k3
    have e0 : due kvs 3 w = .l ((valueAt kvs w).toList.map iv) := by unfold due; rw [if_neg k0, if_neg k1, if_neg k2]
    rw [e0]
    refine tq_seq (tq_ret (tq_list1 (tq_sub (Pa := IsV (.ref x)) (Pb := fun a b σ' => a = .ref x ∧ σ' = _ ∧ IsS w b) (R := fun v σ' => valueAt kvs w = some v) (tr_name O' rfl) (fun a ha => Tm.q (Tm.mono (Tr.m (tr_nameP (P := IsS w) O' rfl ⟨tw, rfl⟩)) fun v σ' q => ⟨ha, q⟩)) fun a b σ' q => ?_) fun v σ' l q ap => ?_) fun v σ' q => q)
    · obtain ⟨rfl, rfl, tb, rfl⟩ := q
      cases hv : valueAt kvs w with
      | some y => exact Tm.q (tm_subK O' (ent_old i1 fun _ _ k z => z.keep k) f1 f2 f3 rfl (Tm.mono (Tr.m (getitem_fn (by exact hK) O'.in1 (ent_old T fun _ _ k z => z.keep k) hv)) fun v σ' q => by rw [q.2]))
      | none => exact Tq.xmono (Tq.mono (tq_subK O' (ent_old i1 fun _ _ k z => z.keep k) f1 f2 f3 rfl (getitem_miss (by exact hK) O'.in1 (ent_old T fun _ _ k z => z.keep k) hv)) fun v σ' q => q.2.elim) fun own e h' y => y.imp fun z => .inr ⟨rfl, z⟩
    · obtain ⟨i, t', e⟩ := hI _ (valueAt_pair q)
      simp only at e
      subst e
      refine ⟨l, _, [.int i t'], rfl, .head _, lst_of (n := 0), ?_⟩
      rw [q]
      exact .cons _ _ .nil
  case hh =>
    intro hN h L e
    refine seq_ret (tm_ifexp (x := k == 3) (tr_testCmp (tr_nameX rfl (P := IsI k) rfl ⟨tk', rfl⟩) tr_int fun a b ha hb => tr_eq_int ha hb) ?_)
    rcases hN with ⟨rfl, hN⟩ | ⟨rfl, hN⟩
    · rw [if_neg (by decide)]
      refine Tm.mono (Tr.m tr_none) fun v σ' p => ?_
      have e0 : due kvs 1 w = .s (lpN kvs w w.length) := by unfold due; rw [if_neg (by decide), if_pos rfl]
      rw [e0, lp_none hN]
      exact p.2
    · rw [if_pos (by decide)]
      refine Tm.mono tm_list0 fun v σ' p => ?_
      obtain ⟨l, rfl, rfl, _⟩ := p
      have e0 : due kvs 3 w = .l ((valueAt kvs w).toList.map iv) := by unfold due; rw [if_neg (by decide), if_neg (by decide), if_neg (by decide)]
      rw [e0, hN]
      exact ⟨l, _, [], rfl, .head _, lst_of (n := 0), .nil⟩
end
end Mine
open PySem PySem.W PySem.Calls PyProof.Rows
set_option Elab.async false
set_option maxRecDepth 100000
set_option maxHeartbeats 4000000
set_option linter.unusedVariables false
namespace Mine
section
variable {G : Gx} {σ : Sg} {d : Nat}

/-- for x in a list that is made here -/
theorem src_listE (O : Ok G d) {target iter : Expr} {n : Nat} {PV : Nat → Value → Prop} {Pm : Nat → Sg → Sg → Prop} {Pre : Sg → Led → Prop} (he : Tm G σ (eval iter G.env) (fun v σ₁ => ∃ l o its, v = .ref l ∧ its.size = n ∧ (∀ (i : Nat) x, its[i]? = some x → PV i x) ∧ Pre σ₁ [(l, o)] ∧ Fx G σ₁ [(l, o)] ∧ Obj.lst o its))
    (hgo : ∀ (I l : Addr) i j (s : Shared) v (Q : Unit → Shared → Prop) (E : Value → Shared → Prop), s.heap.IsListIter I l i → PV j v → Q () s → wpAny (model G.prog G.w) G.A (letOwnedTupleGo target (.ref I) v) Q E s)
    (has : ∀ l o i v σ₁ σ, Pre σ₁ [(l, o)] → PV i v → Fx G σ [(l, o)] → Tm G σ (assign target G.env v) (fun _ σ' => Pm i σ σ' ∧ σ'.n = σ.n)) : Src G σ target iter n Pm Pre := fun own s Q E c k =>
  he own s _ E c fun v σ₁ h₁ t₁ ⟨l, o, its, e, en, hp, pre, fx, ho⟩ c₁ => by
    subst e; subst en
    have gl := fx.get c₁ _ (.head _)
    have il : h₁.IsList l its := ⟨o, gl, ho.1, ho.2⟩
    refine wpAny_pyIter_list il ?_
    exact k (.ref h₁.objs.size) [h₁.objs.size] _ _ _ σ₁ _ pre (drv_list O (Nat.ne_of_lt (Heap.lt_size gl)) (fun i s v Q E hi hx q => hgo _ _ i (i - 1) s v Q E hi (hp _ _ hx) q) (fun i v σ hx => has l o i v σ₁ σ pre (hp _ _ hx)))
      ⟨⟨_, Heap.get?_push_size _ rfl, rfl, rfl⟩, il.push _⟩ (c₁.push _) (Off.fresh c₁ (get_size _))

theorem go_tupIter {prog : Program} {w : World} {A : Around} {elts : List Expr} {x1 : Nat} {pos : Pos} {I l T : Addr} {i : Nat} {s : Shared} {Q : Unit → Shared → Prop} {E : Value → Shared → Prop} (hit : s.heap.IsTupleIter I l i) (hQ : Q () s) :
    wpAny (model prog w) A (letOwnedTupleGo (.Tuple elts x1 pos) (.ref I) (.ref T)) Q E s := letGo_tupleiter hit hQ

def Obj.tup (o : Obj) (its : Array Value) : Prop := o.cls = .type "tuple" ∧ ∃ n, o.data = .seq its n
theorem drv_tup (O : Ok G d) {target : Expr} {I l : Addr} {o : Obj} {its : Array Value} {Pm : Nat → Sg → Sg → Prop} (hne : l ≠ I)
    (hgo : ∀ i (s : Shared) v (Q : Unit → Shared → Prop) (E : Value → Shared → Prop), s.heap.IsTupleIter I l i → its[i - 1]? = some v → Q () s → wpAny (model G.prog G.w) G.A (letOwnedTupleGo target (.ref I) v) Q E s)
    (has : ∀ i v σ, its[i]? = some v → Fx G σ [(l, o)] → Tm G σ (assign target G.env v) (fun _ σ' => Pm i σ σ' ∧ σ'.n = σ.n)) :
    Drv G target (.ref I) [I] [(l, o)] its.size Pm (fun i h => h.IsTupleIter I l i ∧ h.IsTuple l its) :=
  Drv.walks (Walks.tuple (prog := G.prog) (w := G.w) O.hh I l hne its) (fun b hb => by simpa using hb) (fun i h st => ⟨_, st.1.choose_spec.1⟩) (fun i own σ s v Q E st pv c of fx q => hgo (i + 1) s v Q E st.1 pv q) has
theorem src_tupE (O : Ok G d) {target iter : Expr} {n : Nat} {PV : Nat → Value → Prop} {Pm : Nat → Sg → Sg → Prop} {Pre : Sg → Led → Prop} (he : Tm G σ (eval iter G.env) (fun v σ₁ => ∃ l its, v = .ref l ∧ its.size = n ∧ (∀ (i : Nat) x, its[i]? = some x → PV i x) ∧ Pre σ₁ [(l, { cls := .type "tuple", data := .seq its })] ∧ (l, { cls := .type "tuple", data := .seq its }) ∈ σ₁.n))
    (hgo : ∀ (I l : Addr) i j (s : Shared) v (Q : Unit → Shared → Prop) (E : Value → Shared → Prop), s.heap.IsTupleIter I l i → PV j v → Q () s → wpAny (model G.prog G.w) G.A (letOwnedTupleGo target (.ref I) v) Q E s)
    (has : ∀ l o i v σ₁ σ, Pre σ₁ [(l, o)] → PV i v → Fx G σ [(l, o)] → Tm G σ (assign target G.env v) (fun _ σ' => Pm i σ σ' ∧ σ'.n = σ.n)) : Src G σ target iter n Pm Pre := fun own s Q E c k =>
  he own s _ E c fun v σ₁ h₁ t₁ ⟨l, its, e, en, hp, pre, hm⟩ c₁ => by
    subst e; subst en
    have gl := c₁.get hm
    have il : h₁.IsTuple l its := ⟨_, gl, rfl, 0, rfl⟩
    refine wpAny_pyIter_tuple il ?_
    exact k (.ref h₁.objs.size) [h₁.objs.size] _ _ _ σ₁ _ pre (drv_tup O (Nat.ne_of_lt (Heap.lt_size gl)) (fun i s v Q E hi hx q => hgo _ _ i (i - 1) s v Q E hi (hp _ _ hx) q) (fun i v σ hx => has l _ i v σ₁ σ pre (hp _ _ hx)))
      ⟨⟨_, Heap.get?_push_size _ rfl, rfl, rfl⟩, il.push _⟩ (c₁.push _) (Off.fresh c₁ (get_size _))

/-- xs[::-1] -/
theorem tm_rev {ve e : Expr} {p pos : Pos} {R : List Value → Sg → Prop} (hv : Tm G σ (eval ve G.env) (fun v σ₁ => ∃ l vs, v = .ref l ∧ (Ent G σ₁ fun h => h.IsList l (List.toArray vs)) ∧ vs.length ≤ 1000000 ∧ R vs σ₁)) (he : ∀ σ₁, Tr G σ₁ (eval e G.env) (IsI (-1)))
    (hs : ∀ l a, subscripted (.Slice none none (some e) p) false (.ref l) (.ref a) = operate [.ref l, .ref a] (getItem (.ref l) (.ref a)) := by intro _ _; with_unfolding_all rfl) :
    Tm G σ (eval (.Subscript ve (.Slice none none (some e) p) pos) G.env) (fun v σ' => ∃ l' vs σ₁, v = .ref l' ∧ R vs σ₁ ∧ σ' = { σ₁ with n := (l', listOf vs.reverse.toArray 0) :: σ₁.n } ∧ ∀ p ∈ σ₁.n, p.1 ≠ l') := fun own s Q E c k =>
  Subscript_ (hv own s _ E c fun v σ₁ h₁ t₁ ⟨l, vs, ev, hl, hz, r⟩ c₁ => by
    subst ev
    refine wpAny_Slice (evalPart_none_step (evalPart_none_step (evalPart_some_step (he σ₁ own _ _ E c₁ fun u h₂ t₂ ⟨t, eu⟩ c₂ => ?_))))
    subst eu
    have il := hl own _ c₂
    refine tail_any (s := { s with heap := h₂.push _, toks := t₂ }) (Heap.IsList.typeIs (s := { s with heap := h₂.push _, toks := t₂ }) (il.push _)) slot_list_getitem.lookup (wpAny_getItem_list_slice (s := { s with heap := h₂.push _, toks := t₂ }) (il.push _) (Heap.IsSliceOf.new ..) .none .none (.int (-1) t) (by decide) ?_ (by rw [sizeLine_eq]; simp; omega)) (hs _ _)
    have e1 : slicePick vs.toArray none none (some (-1)) = vs.reverse.toArray := by rw [krv_pick]
    rw [e1]
    have c₃ := (c₂.push { cls := .type "slice", data := .fields #[.none, .none, .int (-1) t] }).pushN (listOf vs.reverse.toArray 0)
    refine k _ _ _ _ ⟨_, vs, σ₁, rfl, r, rfl, fun p hp e => ?_⟩ c₃
    have := c₂.get hp
    rw [e, Heap.size_push, none_above (Nat.le_succ _)] at this
    cases this)

/-- a or b, as a test -/
theorem tr_testOr {a b : Expr} {pos : Pos} {whole : Sem Value} {x : Bool} (ha : Tr G σ (PySem.isTrue a G.env (eval a G.env)) (fun y => y = false)) (hb : Tr G σ (PySem.isTrue b G.env (eval b G.env)) (fun y => y = x)) : Tr G σ (PySem.isTrue (.BoolOp .Or [a, b] pos) G.env whole) (fun y => y = x) := fun own s Q E c k =>
  isTrue_or (ha own s _ E c fun v h₁ t₁ e c₁ => by
    subst e
    exact isTrue_or (hb own _ _ E c₁ fun v h₂ t₂ e c₂ => by
      subst e
      cases v with
      | true => exact k _ h₂ t₂ rfl c₂
      | false => exact isTrue_or_nil (k _ h₂ t₂ rfl c₂)))

theorem tr_neBool {x y : Bool} {u v : Value} (hu : G.A.units + 64 < cLine) (h1 : u = .bool x) (h2 : v = .bool y) : Tr G σ (compareOp .NotEq u v) (IsB (x != y)) := by
  subst h1; subst h2
  exact fun own s Q E c k => SeqAt.compareNe_shaped (Reads.bool x) (Reads.bool y) rfl rfl hu (by
    have e : (!PyData.eqv (.bool x) (.bool y)) = (x != y) := by cases x <;> cases y <;> rfl
    rw [e]; exact k _ s.heap s.toks rfl c)
theorem tr_neNone {u v : Value} (hu : G.A.units + 64 < cLine) (h1 : u = .none) (h2 : v = .none) : Tr G σ (compareOp .NotEq u v) (IsB false) := by
  subst h1; subst h2
  exact fun own s Q E c k => SeqAt.compareNe_shaped Reads.none Reads.none rfl rfl hu (k _ s.heap s.toks rfl c)
theorem tr_neStr {x y : Str} {u v : Value} (h1 : IsS x u) (h2 : IsS y v) : Tr G σ (compareOp .NotEq u v) (IsB (!(x == y))) := by
  obtain ⟨_, rfl⟩ := h1; obtain ⟨_, rfl⟩ := h2
  exact fun _ s _ _ c k => PyProof.Rows.ne_str (k _ s.heap s.toks rfl c)
end
end Mine
open PySem PySem.W PySem.Calls PyProof.Rows
set_option Elab.async false
set_option maxRecDepth 100000
set_option maxHeartbeats 4000000
set_option linter.unusedVariables false
namespace Mine
theorem datAll_of {n : Led} : ∀ {as : List Addr} {ds : List Dat}, as.length = ds.length → (∀ (j : Nat) a d, as[j]? = some a → ds[j]? = some d → DatIn n (.ref a) d) → DatAll n (as.map Value.ref) ds
  | [], [], _, _ => .nil
  | [], _ :: _, h, _ => by simp at h
  | _ :: _, [], h, _ => by simp at h
  | a :: as, d :: ds, h, f => .cons (f 0 a d rfl rfl) (datAll_of (by simpa using h) fun j a d h1 h2 => f (j + 1) a d (by simpa using h1) (by simpa using h2))

def datOf (kvs : List (Str × Value)) : List Dat := kvs.map fun q => Dat.tuple [.str q.1, .int (iv q.2)]
section
variable {G : Gx} {σ : Sg} {d : Nat}

theorem tm_itemsView {pl : Sem Bool} {o : Expr} {apos pos : Pos} {D : Addr} {kvs : List (Str × Value)} (ho : Tr G σ (eval o G.env) (IsV (.ref D))) (hd : Ent G σ (fun h => h.DictOf (SK G) D kvs)) (hlo : (D == sysModules) = false)
    (hq : eval (.Call (.Attribute o "items" apos) [] [] pos) G.env = (do
          let ov ← eval o G.env
          standAt apos.atName
          let (f, first) ← holding [ov] (getMethod ov "items" pl)
          callWith pos f first (backTo pos (starEach [] G.env)) []) := by rfl) :
    Tm G σ (eval (.Call (.Attribute o "items" apos) [] [] pos) G.env) (fun v σ' => ∃ r, v = .ref r ∧ σ' = { σ with n := (r, { cls := .type "dict_items", data := .fields #[.ref D] }) :: σ.n } ∧ ∀ p ∈ σ.n, p.1 ≠ r) :=
  tm_methB0 F.plainAttrs_dict F.slot_dict_items F.type_dict_items ho.m (fun v σ' own s p c => by obtain ⟨rfl, rfl⟩ := p; exact ⟨(hd own _ c).typeIs, (hd own _ c).mapOf.noDict⟩) (fun v σ' p => by
    obtain ⟨rfl, rfl⟩ := p
    exact fun own s Q E c k => call_meetsIn PySem.F.slot_dict_items (hd own _ c).typeIs PySem.F.entry_dict_items (PySem.F.args_dict_items_1 _) (meets_dict_items (SK G) D hlo) ⟨⟨kvs, hd own _ c⟩, k _ _ _ _ ⟨_, rfl, rfl, fun q hq e => by have := c.get hq; rw [e, get_size] at this; cases this⟩ (c.pushN _)⟩) hq

theorem tm_listItems (O : Ok G d) {r D : Addr} {oD : Obj} {kvs : List (Str × Value)} (hl : Fx G σ [(D, oD)]) (hd : oD.IsDictOf (SK G) kvs) (hv : (r, { cls := .type "dict_items", data := .fields #[.ref D] }) ∈ σ.n) (hI : AllI kvs) (hz : kvs.length ≤ 1000) :
    Tm G σ (call (.type "list") [.ref r]) (fun v σ' => ∃ l n' vs nw, v = .ref l ∧ σ' = { σ with n := (l, listOf (List.toArray vs) n') :: (nw ++ σ.n) } ∧ DatAll nw vs (datOf kvs) ∧ vs.length = kvs.length) := fun own s Q E c k => by
  obtain ⟨ep, he⟩ := ent_dictAt hl hd
  refine kdx_call (knd := SK G) (kvs := kvs) (ep := ep) O.hh ⟨_, c.get hv, rfl, rfl⟩ (he own _ c) (by rw [sizeLine_eq]; omega) fun h' tk acc c' as hk hS hl' hG hacc => ?_
  have hn : ∀ a ∈ as, s.heap.get? a = none := fun a ha => none_above (Nat.le_of_lt (hG.above a ha))
  refine k (.ref s.heap.objs.size) _ h' tk ⟨_, c', acc.toList, ownAt h' as, rfl, rfl, ?_, by rw [hacc, List.length_map, hl']⟩ (c.fresh (nw := (s.heap.objs.size, listOf acc.toList.toArray c') :: ownAt h' as) hk fun p hp => ?_)
  · rw [hacc]
    refine datAll_of (by rw [hl']; simp [datOf]) fun j a dd h1 h2 => ?_
    obtain ⟨key, kk, x, e1, e2, e3⟩ := hG.pairs j a h1
    obtain ⟨t, rfl⟩ := Value.isStrOf_shape (show Value.isStrOf kk key = true from e2)
    obtain ⟨i, t', ex⟩ := hI _ (List.mem_of_getElem? e1)
    simp only at ex
    subst ex
    have : dd = Dat.tuple [.str kk, .int i] := by
      unfold datOf at h2
      rw [List.getElem?_map, e1] at h2
      exact (Option.some.inj h2).symm
    subst this
    exact .tuple (vs := [.str kk t, .int i t']) (ownAt_mem (List.mem_of_getElem? h1) e3) (.cons (.str _ _) (.cons (.int _ _) .nil))
  · rcases List.mem_cons.mp hp with rfl | hp
    · exact ⟨by rw [Array.toArray_toList]; exact hS, get_size _⟩
    · have := mem_ownAt hp
      exact ⟨this.2, hn _ this.1⟩

/-- list(d.items()) -/
theorem tm_items (O : Ok G d) {pl : Sem Bool} {np pos p₁ apos : Pos} {o : Expr} {D : Addr} {oD : Obj} {kvs : List (Str × Value)} (hn : nsIn G.K mainGlobals "list" = some none) (hg : G.env.kindOf "list" = some .globalImplicit) (ho : Tr G σ (eval o G.env) (IsV (.ref D))) (hl : Fx G σ [(D, oD)]) (hd : oD.IsDictOf (SK G) kvs) (hlo : (D == sysModules) = false) (hI : AllI kvs) (hz : kvs.length ≤ 1000)
    (hq : eval (.Call (.Attribute o "items" apos) [] [] p₁) G.env = (do
          let ov ← eval o G.env
          standAt apos.atName
          let (f, first) ← holding [ov] (getMethod ov "items" pl)
          callWith p₁ f first (backTo p₁ (starEach [] G.env)) []) := by rfl)
    (hss : starEach [(.Call (.Attribute o "items" apos) [] [] p₁)] G.env = [(false, eval (.Call (.Attribute o "items" apos) [] [] p₁) G.env)] := by rfl) :
    Tm G σ (eval (.Call (.Name "list" np) [.Call (.Attribute o "items" apos) [] [] p₁] [] pos) G.env) (fun v σ' => ∃ l n' vs nw, v = .ref l ∧ σ' = { σ with n := nw ++ σ.n } ∧ (l, listOf (List.toArray vs) n') ∈ nw ∧ DatAll nw vs (datOf kvs) ∧ vs.length = kvs.length) :=
  tm_callT (tr_blt O (v := .type "list") hn (by decide +kernel) (by decide) hg) (P := fun vs σ' => ∃ r, vs = [.ref r] ∧ σ' = { σ with n := (r, { cls := .type "dict_items", data := .fields #[.ref D] }) :: σ.n } ∧ ∀ p ∈ σ.n, p.1 ≠ r)
    (tm_arg (tm_itemsView ho (fun own h c => Heap.dictOf_iff.mpr ⟨oD, hl.get c _ (.head _), hd⟩) hlo hq) (fun v σ' ⟨r, e, e', hr⟩ => Tm.mono tr_args0.m fun vs σ'' ⟨q1, q2⟩ => by subst e; subst q1; subst q2; exact ⟨r, rfl, e', hr⟩) hss)
    (fun vs σ' ⟨r, e, e', hr⟩ => by
      subst e; subst e'
      refine Tm.mono (tm_listItems O (r := r) (fun p hp => (hl p hp).imp (fun q => List.mem_cons_of_mem _ q) id) hd (.head _) hI hz) fun v σ' p => ?_
      obtain ⟨l, n', vs, nw, rfl, rfl, e3, e4⟩ := p
      exact ⟨l, n', vs, (l, listOf (List.toArray vs) n') :: (nw ++ [(r, { cls := .type "dict_items", data := .fields #[.ref D] })]), rfl, by simp, .head _, e3.mono fun p hp => .tail _ (List.mem_append_left _ hp), e4⟩) hss rfl

/-- lists of data that are alike are not unlike -/
theorem tr_neDat {a b : Addr} {xs ys : List Value} {n₁ n₂ : Nat} {ds : List Dat} {u v : Value} (ha : (a, listOf xs.toArray n₁) ∈ σ.n) (hb : (b, listOf ys.toArray n₂) ∈ σ.n) (Da : DatAll σ.n xs ds) (Db : DatAll σ.n ys ds) (hk : ∀ e ∈ ds, kqdOk 8 e = true) (hu : G.A.units + 64 < cLine) (e1 : u = .ref a) (e2 : v = .ref b) : Tr G σ (compareOp .NotEq u v) (IsB false) := by
  subst e1; subst e2
  exact fun own s Q E c k => by
    have := kqd_ne (prog := G.prog) (w := G.w) (A := G.A) (E := E) (Q := Q) c.N (List.mem_append_right _ ha) rfl rfl Da (fun p hp => List.mem_append_right _ hp) (List.mem_append_right _ hb) rfl rfl Db (fun p hp => List.mem_append_right _ hp) hk hk hu
    refine this ?_
    have e : ∀ i : Decidable (ds = ds), (!@decide (ds = ds) i) = false := fun i => by simp
    rw [e]
    exact k _ s.heap s.toks rfl c

def isBd : Due → Bool
  | .b _ => true
  | _ => false
/-- isinstance(x, bool) -/
theorem tr_isBool {n : Led} {v : Value} {D : Due} (r : Rep n v D) (hn : Fx G σ n) : Tr G σ (call (.builtin "isinstance") [v, .type "bool"]) (IsB (isBd D)) := by
  cases D with
  | b x => obtain rfl : v = .bool x := r; exact fun own s Q E c k => IsiPair.bool_bool (k _ s.heap s.toks rfl c)
  | s x =>
    cases x with
    | none => obtain rfl : v = .none := r; exact fun own s Q E c k => IsiPair.NoneType_bool (k _ s.heap _ rfl c)
    | some x => obtain ⟨t, rfl⟩ := r; exact fun own s Q E c k => IsiPair.str_bool (k _ s.heap _ rfl c)
  | l xs =>
    obtain ⟨l, o, vs, rfl, hm, lo, _⟩ := r
    exact fun own s Q E c k => IsiPair.list_bool (hn.get c _ hm) lo.1 (k _ s.heap _ rfl c)
theorem tr_neDue {n n' : Led} {u v : Value} {D : Due} (r : Rep n u D) (r' : Rep n' v D) (hn : Fx G σ n) (hn' : Fx G σ n') (hu : G.A.units + 64 < cLine) : Tr G σ (compareOp .NotEq u v) (IsB false) := by
  cases D with
  | b x => exact Tr.mono (tr_neBool hu r r') fun v e => by rw [e]; simp
  | s x =>
    cases x with
    | none => exact tr_neNone hu r r'
    | some x => exact Tr.mono (tr_neStr r r') fun v e => by rw [e]; simp
  | l xs =>
    obtain ⟨l, o, vs, rfl, hm, lo, hi⟩ := r
    obtain ⟨l', o', vs', rfl, hm', lo', hi'⟩ := r'
    exact Tr.mono (tr_neInts (fun own h c => ⟨o, hn.get c _ hm, lo.1, lo.2⟩) hi (fun own h c => ⟨o', hn'.get c _ hm', lo'.1, lo'.2⟩) hi' hu rfl rfl) fun v e => by rw [e]; simp
end
end Mine
open PySem PySem.W PySem.Calls PyProof.Rows
set_option Elab.async false
set_option maxRecDepth 100000
set_option maxHeartbeats 4000000
set_option linter.unusedVariables false
namespace Mine

/-- a comprehension's cells: two of its own -/
def cs2 (x₁ x₂ : Str) (C : Addr) (cl : List (Str × Addr)) : List (Str × Addr) := (x₂, C + 2) :: (x₁, C + 1) :: cl
def c2 (x₁ x₂ : Str) (c : Str → Option Value) : Str → Option Value := fun z => if z = x₁ ∨ z = x₂ then none else c z
theorem cs2_split {x₁ x₂ : Str} {C : Addr} {cl : List (Str × Addr)} {z : Str} {a : Addr} (h : (cs2 x₁ x₂ C cl).lookup z = some a) : (z = x₂ ∧ a = C + 2) ∨ (z = x₁ ∧ z ≠ x₂ ∧ a = C + 1) ∨ (z ≠ x₁ ∧ z ≠ x₂ ∧ cl.lookup z = some a) := by
  unfold cs2 at h
  rw [List.lookup_cons] at h
  cases h2 : z == x₂ with
  | true => rw [h2] at h; exact .inl ⟨eq_of_beq h2, (Option.some.inj h).symm⟩
  | false =>
    rw [h2] at h
    rw [List.lookup_cons] at h
    have n2 : z ≠ x₂ := by simpa using h2
    cases h1 : z == x₁ with
    | true => rw [h1] at h; exact .inr (.inl ⟨eq_of_beq h1, n2, (Option.some.inj h).symm⟩)
    | false => rw [h1] at h; exact .inr (.inr ⟨by simpa using h1, n2, h⟩)
theorem cs2_of {x₁ x₂ : Str} {C : Addr} {cl : List (Str × Addr)} {z : Str} {a : Addr} (hx1 : cl.lookup x₁ = none) (hx2 : cl.lookup x₂ = none) (h : cl.lookup z = some a) : (cs2 x₁ x₂ C cl).lookup z = some a := by
  have n1 : (z == x₁) = false := by
    cases e : z == x₁ with
    | false => rfl
    | true => rw [eq_of_beq e, hx1] at h; cases h
  have n2 : (z == x₂) = false := by
    cases e : z == x₂ with
    | false => rfl
    | true => rw [eq_of_beq e, hx2] at h; cases h
  unfold cs2
  rw [List.lookup_cons, n2, List.lookup_cons, n1]
  exact h

theorem compEnv2_made {M : Model} {A : Around} {E : Value → Shared → Prop} {s : Shared} {x₁ x₂ : Str} {scope : Scope} {globals : Addr} {cl : List (Str × Addr)} {qual : Str} {outer : Env} {Q : Env → Shared → Prop}
    (hfrom : ∀ b, cellsFrom b scope.names cl = cs2 x₁ x₂ (b - 1) cl ∨ b = 0) (hpush : ∀ h, pushCells h scope.names = (h.push { cls := .type "cell", data := .cell none }).push { cls := .type "cell", data := .cell none })
    (hQ : ∀ h', h'.Ns s.heap.objs.size (fun _ => none) → (∀ b o, s.heap.get? b = some o → h'.get? b = some o) → h'.IsCell (s.heap.objs.size + 1) none → h'.IsCell (s.heap.objs.size + 2) none →
      Q (newEnv scope s.heap.objs.size globals (cs2 x₁ x₂ s.heap.objs.size cl) qual none .none (some outer) builtinsNs) { s with heap := h' }) :
    wpAny M A (newFunctionEnv scope globals cl [] qual none .none (some outer)) Q E s := by
  simp only [newFunctionEnv, Option.isSome_some, if_true]
  refine wpAny_bind (wpAny_alloc ?_)
  refine wpAny_bind (wpAny_layCells _ (fun name kind cells => by cases hkc : kind == NameKind.cell <;> simp [hkc]) _ _ _ _ ?_)
  rw [show ({ s with heap := s.heap.push { cls := .type "dict", data := .dict #[] } } : Shared).heap.objs.size = s.heap.objs.size + 1 from Heap.size_push ..]
  have e := (hfrom (s.heap.objs.size + 1)).resolve_right (Nat.succ_ne_zero _)
  rw [e, Nat.add_sub_cancel]
  refine wpAny_bind ?_
  rw [List.forIn_nil]
  refine wpAny_pure (wpAny_pure ?_)
  refine hQ _ ((Heap.Ns.new s.heap (.type "dict")).keeps (pushCells_keeps _ _)) (fun b o e => pushCells_keeps _ _ b o (Heap.get?_push_of_some _ e)) ?_ ?_
  · show (pushCells _ scope.names).IsCell _ _
    rw [hpush]
    refine ⟨_, Heap.get?_push_of_some _ (?_ : _ = some { cls := .type "cell", data := .cell none }), rfl⟩
    have := Heap.get?_push_size (s.heap.push { cls := .type "dict", data := .dict #[] }) (o := { cls := .type "cell", data := .cell none }) rfl
    rwa [Heap.size_push] at this
  · show (pushCells _ scope.names).IsCell _ _
    rw [hpush]
    refine ⟨{ cls := .type "cell", data := .cell none }, ?_, rfl⟩
    have := Heap.get?_push_size ((s.heap.push { cls := .type "dict", data := .dict #[] }).push { cls := .type "cell", data := .cell none }) (o := { cls := .type "cell", data := .cell none }) rfl
    rwa [Heap.size_push, Heap.size_push] at this

def CSrc2 (G : Gx) (σ : Sg) (target iter : Expr) (n : Nat) (Pm : Nat → Sg → Sg → Prop) (T : Env → Heap → Prop) : Prop :=
  ∀ own (s : Shared) (Q : Value → Shared → Prop) (E : Value → Shared → Prop), Cx G own σ s.heap →
    (∀ it its St h₁ h₂ tk fix, Cx G own σ h₁ → (∀ b o, h₁.get? b = some o → h₂.get? b = some o) → (∀ b ∈ its, h₁.get? b = none ∧ b < h₂.objs.size) → h₁.objs.size ≤ h₂.objs.size → (∀ p ∈ fix, h₁.get? p.1 = some p.2) →
      (∀ env' d, T env' h₁ → Ok (CG G h₁ env') d → Drv (CG G h₁ env') target it its fix n Pm St) → St 0 h₂ → Q it { s with heap := h₂, toks := tk }) →
    wpAny (model G.prog G.w) G.A (eval iter G.env) (fun xv s₁ => wpAny (model G.prog G.w) G.A (pyIter xv) Q E s₁) E s

section
variable {G : Gx} {σ : Sg} {d : Nat}

theorem Ok.comp2 {own : Led} {h₁ : Heap} {scope : Scope} {cl : List (Str × Addr)} {C : Addr} {x₁ x₂ : Str} (O : Ok G d) (c : Cx G own σ h₁) (hk : scope.kind = .function) (hcl : ∀ x a, cl.lookup x = some a → G.env.cells.lookup x = some a) (hC : h₁.get? C = none) (hle : h₁.objs.size ≤ C) (h12 : x₁ ≠ x₂) : Ok (CG G h₁ (compEnvC scope (cs2 x₁ x₂ C cl) C G.env)) d where
  X := O.X.keeps c.F.keep
  T := let ⟨p, lo, mg, mb, T⟩ := O.T; ⟨p, lo, mg, mb, T.keeps c.F.keep⟩
  B := by
    obtain ⟨base, outer, hb, B⟩ := O.B
    refine ⟨base, outer, hb, fun h m F => ?_⟩
    have b := B h₁ _ c.F
    exact ⟨b.stack, fun x o e => F.keep _ _ (b.stays x o e), b.frames.of_keeps fun x o e _ => ⟨o, F.keep _ _ e, rfl⟩⟩
  kind := hk
  glob := O.glob
  blt := O.blt
  hh := O.hh
  depth := O.depth
  units := O.units
  cpw := fun x y a hx hy => by
    have low : ∀ z b, cl.lookup z = some b → b < C := fun z b hz => by
      obtain ⟨o, ho, _⟩ := c.C z b (hcl z b hz)
      exact Nat.lt_of_lt_of_le (Heap.lt_size ho) hle
    have hx' := cs2_split (show (cs2 x₁ x₂ C cl).lookup x = some a from hx)
    have hy' := cs2_split (show (cs2 x₁ x₂ C cl).lookup y = some a from hy)
    rcases hx' with ⟨e1, e2⟩ | ⟨e1, _, e2⟩ | ⟨_, _, e2⟩ <;> rcases hy' with ⟨f1, f2⟩ | ⟨f1, _, f2⟩ | ⟨_, _, f2⟩
    · rw [e1, f1]
    · have e2 : @Eq Nat a (C + 2) := e2; have f2 : @Eq Nat a (C + 1) := f2; omega
    · have e2 : @Eq Nat a (C + 2) := e2; have : @LT.lt Nat _ a C := low y a f2; omega
    · have e2 : @Eq Nat a (C + 1) := e2; have f2 : @Eq Nat a (C + 2) := f2; omega
    · rw [e1, f1]
    · have e2 : @Eq Nat a (C + 1) := e2; have : @LT.lt Nat _ a C := low y a f2; omega
    · have f2 : @Eq Nat a (C + 2) := f2; have : @LT.lt Nat _ a C := low x a e2; omega
    · have f2 : @Eq Nat a (C + 1) := f2; have : @LT.lt Nat _ a C := low x a e2; omega
    · exact O.cpw x y a (hcl x a e2) (hcl y a f2)
  cL := fun x a hx e => by
    change a = C at e
    rcases cs2_split (show (cs2 x₁ x₂ C cl).lookup x = some a from hx) with ⟨e1, e2⟩ | ⟨e1, _, e2⟩ | ⟨_, _, e2⟩
    · have e2 : @Eq Nat a (C + 2) := e2; have e : @Eq Nat a C := e; omega
    · have e2 : @Eq Nat a (C + 1) := e2; have e : @Eq Nat a C := e; omega
    · obtain ⟨o, ho, _⟩ := c.C x a (hcl x a e2)
      rw [e, hC] at ho; cases ho

theorem comp_core2 (O : Ok G d) {elt target iter : Expr} {ifs : List Expr} {scope : Scope} {cl : List (Str × Addr)} {pos pos' : Pos} {n : Nat} {Pm : Nat → Sg → Sg → Prop} {T : Env → Heap → Prop} {x₁ x₂ : Str} {use : Option (Value → Sem Unit)} {own : Led} {s : Shared} {Q : Value → Shared → Prop} {E : Value → Shared → Prop} (c₀ : Cx G own σ s.heap)
    (hsrc : CSrc2 G σ target iter n Pm T) (hT : ∀ (C : Addr) (h₁ : Heap), h₁.get? (C + 1) = none → h₁.get? (C + 2) = none → T (compEnvC scope (cs2 x₁ x₂ C cl) C G.env) h₁) (hclos : closureFor scope G.env = pure cl) (hcl : ∀ x a, cl.lookup x = some a → G.env.cells.lookup x = some a) (hfrom : ∀ b, cellsFrom b scope.names cl = cs2 x₁ x₂ (b - 1) cl ∨ b = 0) (hpush : ∀ h, pushCells h scope.names = (h.push { cls := .type "cell", data := .cell none }).push { cls := .type "cell", data := .cell none }) (h12 : x₁ ≠ x₂) (hx1 : cl.lookup x₁ = none) (hx2 : cl.lookup x₂ = none) (hkind : scope.kind = .function)
    (hnames : ∀ x ∈ scope.names, x.2 = .local → scope.names.lookup x.1 = some .local) (hs : ∀ x, foldedSetIterable iter G.env x = pure x)
    (Inv : Nat → List Value → Led → Prop) (h0 : Inv 0 [] [])
    (turn : ∀ i ys m₁ σ₁ h₁ C, i < n → ys.length ≤ i → Inv i ys σ₁.n → (∀ x a, cl.lookup x = some a → σ₁.c x = σ.c x) → Cx G own σ h₁ → h₁.get? (C + 1) = none → h₁.get? (C + 2) = none → Ok (CG G h₁ (compEnvC scope (cs2 x₁ x₂ C cl) C G.env)) d → Pm i m₁ σ₁ → CTurn (CG G h₁ (compEnvC scope (cs2 x₁ x₂ C cl) C G.env)) elt ifs σ₁ (fun y l => Inv (i + 1) (ys ++ [y]) l) (fun l => Inv (i + 1) ys l))
    (hz : n ≤ 1000000)
    (k : ∀ D C ys n' led h₁ h₂ tk m, Inv n ys led → ys.length ≤ n → Cx G own σ h₁ → (∀ b o, h₁.get? b = some o → h₂.get? b = some o) → (∀ p ∈ (D, listOf ys.toArray n') :: led, h₂.get? p.1 = some p.2 ∧ h₁.get? p.1 = none ∧ p.1 ≠ C) → h₁.get? C = none → h₂.Ns C m → compPost (model G.prog G.w) G.A E use Q (.ref D) C (.ok .next) { s with heap := h₂, toks := tk }) :
    wpAny (model G.prog G.w) G.A (comprehension (.ListComp elt [⟨target, iter, ifs, 0⟩] scope pos) scope G.env pos' (newList []) false (eval iter G.env) use) Q E s := by
  refine wpAny_comprehension_free rfl hs hclos hkind hnames (hsrc own s _ E c₀ fun it its St h₁ h₂ tk fix c₁ kp hits hle hfix mk st => ?_)
  refine wpAny_newObj_type (compEnv2_made (Q := _) hfrom hpush fun h₃ hns hext gc1 gc2 => ?_)
  dsimp only at hns hext gc1 gc2 ⊢
  generalize hH : h₂.push { cls := .type "list", dict := none, data := .seq ([] : List Value).toArray } = H at hns hext gc1 gc2 ⊢
  have hC : H.objs.size = h₂.objs.size + 1 := by rw [← hH, Heap.size_push]
  have le₂ : h₁.objs.size ≤ H.objs.size := by rw [hC]; exact Nat.le_succ_of_le hle
  have nC : h₁.get? H.objs.size = none := none_above le₂
  have nD : h₁.get? h₂.objs.size = none := none_above hle
  have DC : h₂.objs.size ≠ H.objs.size := by rw [hC]; exact Nat.ne_of_lt (Nat.lt_succ_self _)
  have nC1 : h₁.get? (H.objs.size + 1) = none := none_above (Nat.le_trans le₂ (Nat.le_add_right _ 1))
  have nC2 : h₁.get? (H.objs.size + 2) = none := none_above (Nat.le_trans le₂ (Nat.le_add_right _ 2))
  have up : ∀ b o, h₂.get? b = some o → h₃.get? b = some o := fun b o e => hext b o (hH ▸ Heap.get?_push_of_some _ e)
  have gD : h₃.get? h₂.objs.size = some (listOf #[] 0) := hext _ _ (hH ▸ Heap.get?_push_size _ rfl)
  have hcl2 := fun z a => cs2_split (x₁ := x₁) (x₂ := x₂) (C := H.objs.size) (cl := cl) (z := z) (a := a)
  have O' : Ok (CG G h₁ (compEnvC scope (cs2 x₁ x₂ H.objs.size cl) H.objs.size G.env)) d := O.comp2 c₁ hkind hcl nC le₂ h12
  have D' := mk _ d (hT H.objs.size h₁ nC1 nC2) O'
  have F₃ : Fr h₁ H.objs.size h₃ (fun _ => none) := ⟨hns, fun b o e => up _ _ (kp _ _ e), le₂⟩
  have c₃ : Cx (CG G h₁ (compEnvC scope (cs2 x₁ x₂ H.objs.size cl) H.objs.size G.env)) [(h₂.objs.size, listOf #[] 0)] ⟨fun _ => none, c2 x₁ x₂ σ.c, []⟩ h₃ := by
    refine ⟨F₃, fun p hp => ?_, fun x a ha => ?_, (fun _ _ _ h => nomatch h), fun p hp x a ha => ?_⟩
    · obtain rfl := List.mem_singleton.mp hp
      exact ⟨gD, DC, nD⟩
    · rcases hcl2 x a ha with ⟨rfl, rfl⟩ | ⟨rfl, hn, rfl⟩ | ⟨n1, n2, ha'⟩
      · show h₃.IsCell _ (c2 x₁ x σ.c x); rw [show c2 x₁ x σ.c x = none from if_pos (.inr rfl)]; exact gc2
      · show h₃.IsCell _ (c2 x x₂ σ.c x); rw [show c2 x x₂ σ.c x = none from if_pos (.inl rfl)]; exact gc1
      · show h₃.IsCell _ (c2 x₁ x₂ σ.c x); rw [show c2 x₁ x₂ σ.c x = σ.c x from if_neg fun e => e.elim n1 n2]; exact ((c₁.C x a (hcl x a ha')).keeps kp).keeps up
    · obtain rfl := List.mem_singleton.mp hp
      intro e
      change h₂.objs.size = a at e
      rcases hcl2 x a ha with ⟨rfl, rfl⟩ | ⟨rfl, hn, rfl⟩ | ⟨n1, n2, ha'⟩
      · omega
      · omega
      · obtain ⟨o, ho, _⟩ := c₁.C x a (hcl x a ha')
        rw [← e, nD] at ho; cases ho
  have of₃ : Off (CG G h₁ (compEnvC scope (cs2 x₁ x₂ H.objs.size cl) H.objs.size G.env)) [(h₂.objs.size, listOf #[] 0)] ⟨fun _ => none, c2 x₁ x₂ σ.c, []⟩ its := by
    refine ⟨fun p hp hb => ?_, fun x a ha hb => ?_, fun hb => ?_, fun b hb => (hits b hb).1⟩
    · obtain rfl := List.mem_singleton.mp hp
      exact Nat.lt_irrefl _ (hits _ hb).2
    · rcases hcl2 x a ha with ⟨rfl, rfl⟩ | ⟨rfl, hn, rfl⟩ | ⟨n1, n2, ha'⟩
      · have := (hits _ hb).2; change H.objs.size + 2 < h₂.objs.size at this; omega
      · have := (hits _ hb).2; change H.objs.size + 1 < h₂.objs.size at this; omega
      · obtain ⟨o, ho, _⟩ := c₁.C x a (hcl x a ha')
        rw [(hits _ hb).1] at ho; cases ho
    · have := (hits _ hb).2
      change H.objs.size < h₂.objs.size at this
      omega
  have st₃ : St 0 h₃ := D'.frame _ _ _ st fun b _ o e => up _ _ e
  have fx : Fx (CG G h₁ (compEnvC scope (cs2 x₁ x₂ H.objs.size cl) H.objs.size G.env)) ⟨fun _ => none, c2 x₁ x₂ σ.c, []⟩ fix := fun p hp => .inr (hfix p hp)
  have loop : ∀ s₃ : Shared, s₃ = { s with heap := h₃, toks := tk } → codeAny (model G.prog G.w) G.A (.compLoop (.ListComp elt [⟨target, iter, ifs, 0⟩] scope pos) 0 it (.ref h₂.objs.size) (compEnvC scope (cs2 x₁ x₂ H.objs.size cl) H.objs.size G.env)) (compPost (model G.prog G.w) G.A E use Q (.ref h₂.objs.size) H.objs.size) s₃ := by
    rintro s₃ rfl
    refine comp_loop (fun m s' => ∃ h' tk' σ' ys n' i, s' = { s with heap := h', toks := tk' } ∧ St i h' ∧ Cx (CG G h₁ (compEnvC scope (cs2 x₁ x₂ H.objs.size cl) H.objs.size G.env)) [(h₂.objs.size, listOf (List.toArray ys) n')] σ' h' ∧ Off (CG G h₁ (compEnvC scope (cs2 x₁ x₂ H.objs.size cl) H.objs.size G.env)) [(h₂.objs.size, listOf (List.toArray ys) n')] σ' its ∧
      Inv i ys σ'.n ∧ ys.length ≤ i ∧ i ≤ n ∧ m = n + 1 - i) ?_ (n + 1)
      ⟨h₃, _, _, [], 0, 0, rfl, st₃, c₃, of₃, h0, Nat.le_refl _, Nat.zero_le _, rfl⟩
    rintro m s' ⟨h', tk', σ', ys, n', i, rfl, st', c', of', inv, hl, hi, rfl⟩
    have fx' : Fx (CG G h₁ (compEnvC scope (cs2 x₁ x₂ H.objs.size cl) H.objs.size G.env)) σ' fix := fun p hp => .inr (hfix p hp)
    by_cases hlt : i < n
    · refine wpAny_mono (D'.step i _ σ' { s with heap := h', toks := tk' } (fun _ s₃ => wpAny (model G.prog G.w) G.A (Tests ifs (compEnvC scope (cs2 x₁ x₂ H.objs.size cl) H.objs.size G.env)) (fun ok s₃ =>
            if ok = true then wpAny (model G.prog G.w) G.A (eval elt (compEnvC scope (cs2 x₁ x₂ H.objs.size cl) H.objs.size G.env)) (fun x s₄ =>
              wpAny (model G.prog G.w) G.A (call (.builtin "list.append") [.ref h₂.objs.size, x]) (fun _ s₅ => ∃ m, m < n + 1 - i ∧ ∃ h' tk' σ' ys n' i, s₅ = { s with heap := h', toks := tk' } ∧ St i h' ∧ Cx (CG G h₁ (compEnvC scope (cs2 x₁ x₂ H.objs.size cl) H.objs.size G.env)) [(h₂.objs.size, listOf (List.toArray ys) n')] σ' h' ∧ Off (CG G h₁ (compEnvC scope (cs2 x₁ x₂ H.objs.size cl) H.objs.size G.env)) [(h₂.objs.size, listOf (List.toArray ys) n')] σ' its ∧
      Inv i ys σ'.n ∧ ys.length ≤ i ∧ i ≤ n ∧ m = n + 1 - i) (notedBy (model G.prog G.w) G.A (compEnvC scope (cs2 x₁ x₂ H.objs.size cl) H.objs.size G.env) fun e s' => compPost (model G.prog G.w) G.A E use Q (.ref h₂.objs.size) H.objs.size (.error e) s') s₄) (notedBy (model G.prog G.w) G.A (compEnvC scope (cs2 x₁ x₂ H.objs.size cl) H.objs.size G.env) fun e s' => compPost (model G.prog G.w) G.A E use Q (.ref h₂.objs.size) H.objs.size (.error e) s') s₃
            else ∃ m, m < n + 1 - i ∧ ∃ h' tk' σ' ys n' i, s₃ = { s with heap := h', toks := tk' } ∧ St i h' ∧ Cx (CG G h₁ (compEnvC scope (cs2 x₁ x₂ H.objs.size cl) H.objs.size G.env)) [(h₂.objs.size, listOf (List.toArray ys) n')] σ' h' ∧ Off (CG G h₁ (compEnvC scope (cs2 x₁ x₂ H.objs.size cl) H.objs.size G.env)) [(h₂.objs.size, listOf (List.toArray ys) n')] σ' its ∧
      Inv i ys σ'.n ∧ ys.length ≤ i ∧ i ≤ n ∧ m = n + 1 - i) (notedBy (model G.prog G.w) G.A (compEnvC scope (cs2 x₁ x₂ H.objs.size cl) H.objs.size G.env) fun e s' => compPost (model G.prog G.w) G.A E use Q (.ref h₂.objs.size) H.objs.size (.error e) s') s₃) _ hlt st' c' of' fx' fun σ₂ hb tkb pm en stb cb ofb => ?_) (fun r s₁ hr => ?_) fun _ _ e => e
      · have hc : ∀ x a, cl.lookup x = some a → σ₂.c x = σ.c x := fun x a ha => by
          obtain ⟨o, ho, e⟩ := cb.C x a (cs2_of (C := H.objs.size) hx1 hx2 ha)
          obtain ⟨o', ho', e'⟩ := (c₁.C x a (hcl x a ha)).keeps cb.F.keep
          rw [ho] at ho'; cases ho'
          rw [e] at e'; exact Data.cell.inj e'
        have frame' : ∀ {σ₄ : Sg} {own' : Led} {h₄ : Heap}, Cx (CG G h₁ (compEnvC scope (cs2 x₁ x₂ H.objs.size cl) H.objs.size G.env)) (ownAt hb its ++ own') σ₄ h₄ → St (i + 1) h₄ := fun {σ₄ own' h₄} c₄ => D'.frame _ _ _ stb fun b hb' o e => by
          rcases hb' with hb' | hb'
          · exact (c₄.N (b, o) (List.mem_append_left _ (List.mem_append_left _ (ownAt_mem hb' e)))).1
          · obtain ⟨p, hp, rfl⟩ := List.mem_map.mp hb'
            have e₁ := cb.F.keep _ _ (hfix p hp)
            rw [e₁] at e; cases e
            exact c₄.F.keep _ _ (hfix p hp)
        have off' : ∀ {σ₄ : Sg} {h₄ : Heap}, Cx (CG G h₁ (compEnvC scope (cs2 x₁ x₂ H.objs.size cl) H.objs.size G.env)) (ownAt hb its ++ [(h₂.objs.size, listOf (List.toArray ys) n')]) σ₄ h₄ → Off (CG G h₁ (compEnvC scope (cs2 x₁ x₂ H.objs.size cl) H.objs.size G.env)) [(h₂.objs.size, listOf (List.toArray ys) n')] σ₄ its := fun {σ₄ h₄} c₄ =>
          Off.of_take c₄ (fun b hb' => by obtain ⟨o, e⟩ := D'.live _ _ stb b hb'; exact ⟨o, ownAt_mem hb' e⟩) fun p hp => ofb.n p (List.mem_append_left _ hp)
        refine turn i ys σ' σ₂ h₁ H.objs.size hlt hl (by rw [en]; exact inv) hc c₁ nC1 nC2 O' pm (ownAt hb its ++ [(h₂.objs.size, listOf (List.toArray ys) n')]) _ _ _ (cb.take ofb) fun ok σ₄ h₄ tk₄ p₄ c₄ => ?_
        cases ok with
        | false => exact ⟨n + 1 - (i + 1), by omega, h₄, tk₄, σ₄, ys, n', i + 1, rfl, frame' c₄, c₄.give, off' c₄, p₄, Nat.le_succ_of_le hl, hlt, rfl⟩
        | true =>
          refine p₄ (ownAt hb its ++ [(h₂.objs.size, listOf (List.toArray ys) n')]) _ _ _ c₄ fun y σ₅ h₅ tk₅ p₅ c₅ => ?_
          have gD₅ : h₅.get? h₂.objs.size = some (listOf (List.toArray ys) n') := (c₅.give.N (h₂.objs.size, listOf (List.toArray ys) n') (.head _)).1
          refine wpAny_list_append_plain (s := { s with heap := h₅, toks := tk₅ }) ⟨n', gD₅⟩ (fun h₆ ⟨n₆, e₆⟩ hs₆ => ?_) (by rw [List.size_toArray, sizeLine_eq]; omega)
          have e₆' : h₆.get? h₂.objs.size = some (listOf (List.toArray (ys ++ [y])) n₆) := by rw [e₆]; simp
          have o₅ := off' c₅
          have Dn : h₂.objs.size ∉ its := o₅.n (h₂.objs.size, listOf (List.toArray ys) n') (.head _)
          refine ⟨n + 1 - (i + 1), by omega, h₆, tk₅, σ₅, ys ++ [y], n₆, i + 1, rfl, D'.frame _ _ _ (frame' c₅) fun b hb' o e => ?_, c₅.give.updOwn hs₆ e₆' (fun _ h => nomatch h), ⟨fun p hp hb' => ?_, o₅.c, o₅.L, o₅.h⟩, p₅, by simp; omega, hlt, rfl⟩
          · refine (hs₆.2 b fun q => ?_).trans e
            rcases hb' with hb' | hb'
            · exact Dn (q ▸ hb')
            · obtain ⟨p, hp, e'⟩ := List.mem_map.mp hb'
              have := hfix p hp
              rw [e', q, nD] at this; cases this
          · rcases List.mem_cons.mp hp with rfl | hp
            · exact Dn hb'
            · exact o₅.n p (.tail _ hp) hb'
      · cases r with
        | none => exact hr.elim
        | some v => exact hr
    · have hin : i = n := by omega
      subst hin
      refine wpAny_mono (D'.done _ σ' { s with heap := h', toks := tk' } (fun s₁ => compPost (model G.prog G.w) G.A E use Q (.ref h₂.objs.size) H.objs.size (.ok .next) s₁) _ st' c' of' fun h'' tk'' c'' => ?_) (fun r s₁ hr => ?_) fun _ _ e => e
      · refine k h₂.objs.size H.objs.size ys n' σ'.n h₁ h'' tk'' σ'.m inv hl c₁ c''.F.keep (fun p hp => ?_) nC c''.F.ns
        have := c''.N p (by simpa using hp)
        exact ⟨this.1, this.2.2, this.2.1⟩
      · cases r with
        | none => exact hr
        | some v => exact hr.elim
  exact codeAny_compStart_list (loop _ rfl) (D'.self 0 { s with heap := h₃, toks := tk } _ _ st₃ (loop _ rfl))

/-- [elt for target in iter if ..] -/
theorem tm_comp2 (O : Ok G d) {elt target iter : Expr} {ifs : List Expr} {scope : Scope} {cl : List (Str × Addr)} {pos : Pos} {n : Nat} {Pm : Nat → Sg → Sg → Prop} {T : Env → Heap → Prop} {x₁ x₂ : Str}
    (hsrc : CSrc2 G σ target iter n Pm T) (hT : ∀ (C : Addr) (h₁ : Heap), h₁.get? (C + 1) = none → h₁.get? (C + 2) = none → T (compEnvC scope (cs2 x₁ x₂ C cl) C G.env) h₁) (hclos : closureFor scope G.env = pure cl) (hcl : ∀ x a, cl.lookup x = some a → G.env.cells.lookup x = some a) (hfrom : ∀ b, cellsFrom b scope.names cl = cs2 x₁ x₂ (b - 1) cl ∨ b = 0) (hpush : ∀ h, pushCells h scope.names = (h.push { cls := .type "cell", data := .cell none }).push { cls := .type "cell", data := .cell none }) (h12 : x₁ ≠ x₂) (hx1 : cl.lookup x₁ = none) (hx2 : cl.lookup x₂ = none) (hkind : scope.kind = .function)
    (hnames : ∀ x ∈ scope.names, x.2 = .local → scope.names.lookup x.1 = some .local) (hs : ∀ x, foldedSetIterable iter G.env x = pure x)
    (Inv : Nat → List Value → Led → Prop) (h0 : Inv 0 [] [])
    (turn : ∀ i ys m₁ σ₁ own h₁ C, i < n → ys.length ≤ i → Inv i ys σ₁.n → (∀ x a, cl.lookup x = some a → σ₁.c x = σ.c x) → Cx G own σ h₁ → h₁.get? (C + 1) = none → h₁.get? (C + 2) = none → Ok (CG G h₁ (compEnvC scope (cs2 x₁ x₂ C cl) C G.env)) d → Pm i m₁ σ₁ → CTurn (CG G h₁ (compEnvC scope (cs2 x₁ x₂ C cl) C G.env)) elt ifs σ₁ (fun y l => Inv (i + 1) (ys ++ [y]) l) (fun l => Inv (i + 1) ys l))
    (hz : n ≤ 1000000) :
    Tm G σ (eval (.ListComp elt [⟨target, iter, ifs, 0⟩] scope pos) G.env) (fun v σ' => ∃ D ys n' led, v = .ref D ∧ Inv n ys led ∧ ys.length ≤ n ∧ σ' = { σ with n := (D, listOf ys.toArray n') :: (led ++ σ.n) } ∧ ∀ p ∈ (D, listOf ys.toArray n') :: led, ∀ q ∈ σ.n, p.1 ≠ q.1) := fun own s Q E c k => by
  rw [eval_ListComp]
  refine comp_core2 O (use := none) c hsrc hT hclos hcl hfrom hpush h12 hx1 hx2 hkind hnames hs Inv h0 (fun i ys m₁ σ₁ h₁ C a b e f g n1 n2 o p => turn i ys m₁ σ₁ own h₁ C a b e f g n1 n2 o p) hz fun D C ys n' led h₁ h₂ tk m inv hl c₁ kp hn hC ns => ⟨m, ns, fun h₃ hs₃ => ?_⟩
  exact k (.ref D) _ h₃ tk ⟨D, ys, n', led, rfl, inv, hl, rfl, fun p hp q hq e => by have := (hn p hp).2.1; rw [e, c₁.get hq] at this; cases this⟩ (c₁.compEnd (nw := (D, listOf ys.toArray n') :: led) kp hC hs₃ hn)


/-- y = [elt for target in iter if ..] -/
theorem tm_assignComp2 (O : Ok G d) {y : Str} {py spos : Pos} {elt target iter : Expr} {ifs : List Expr} {scope : Scope} {cl : List (Str × Addr)} {pos : Pos} {n : Nat} {Pm : Nat → Sg → Sg → Prop} {T : Env → Heap → Prop} {x₁ x₂ : Str}
    (hsrc : CSrc2 G σ target iter n Pm T) (hT : ∀ (C : Addr) (h₁ : Heap), h₁.get? (C + 1) = none → h₁.get? (C + 2) = none → T (compEnvC scope (cs2 x₁ x₂ C cl) C G.env) h₁) (hclos : closureFor scope G.env = pure cl) (hcl : ∀ x a, cl.lookup x = some a → G.env.cells.lookup x = some a) (hfrom : ∀ b, cellsFrom b scope.names cl = cs2 x₁ x₂ (b - 1) cl ∨ b = 0) (hpush : ∀ h, pushCells h scope.names = (h.push { cls := .type "cell", data := .cell none }).push { cls := .type "cell", data := .cell none }) (h12 : x₁ ≠ x₂) (hx1 : cl.lookup x₁ = none) (hx2 : cl.lookup x₂ = none) (hkind : scope.kind = .function)
    (hnames : ∀ x ∈ scope.names, x.2 = .local → scope.names.lookup x.1 = some .local) (hs : ∀ x, foldedSetIterable iter G.env x = pure x)
    (Inv : Nat → List Value → Led → Prop) (h0 : Inv 0 [] [])
    (turn : ∀ i ys m₁ σ₁ own h₁ C, i < n → ys.length ≤ i → Inv i ys σ₁.n → (∀ x a, cl.lookup x = some a → σ₁.c x = σ.c x) → Cx G own σ h₁ → h₁.get? (C + 1) = none → h₁.get? (C + 2) = none → Ok (CG G h₁ (compEnvC scope (cs2 x₁ x₂ C cl) C G.env)) d → Pm i m₁ σ₁ → CTurn (CG G h₁ (compEnvC scope (cs2 x₁ x₂ C cl) C G.env)) elt ifs σ₁ (fun y l => Inv (i + 1) (ys ++ [y]) l) (fun l => Inv (i + 1) ys l))
    (hz : n ≤ 1000000) (hy : G.env.kindOf y = some .local) (hsw : swapsWith (.ListComp elt [⟨target, iter, ifs, 0⟩] scope pos) (some (.Name y py)) spos.line G.env = pure true) :
    Tm G σ (exec (.Assign [.Name y py] (.ListComp elt [⟨target, iter, ifs, 0⟩] scope pos) spos) G.env) (fun f σ' => f = .next ∧ ∃ D ys n' led, Inv n ys led ∧ ys.length ≤ n ∧ σ' = { σ with m := put σ.m y (.ref D), n := (D, listOf ys.toArray n') :: (led ++ σ.n) } ∧ ∀ p ∈ (D, listOf ys.toArray n') :: led, ∀ q ∈ σ.n, p.1 ≠ q.1) := fun own s Q E c k => by
  rw [exec_Assign_Name_used _ _ _ _ hsw]
  refine wpAny_bind (wpAny_standAt (wpAny_bind ?_))
  show wpAny _ _ (do let _ ← comprehension (.ListComp elt [⟨target, iter, ifs, 0⟩] scope pos) scope G.env _ (newList []) false (eval iter G.env) (some (assign (.Name y py) G.env))) _ _ s
  refine wpAny_bind (comp_core2 O (use := some (assign (.Name y py) G.env)) c hsrc hT hclos hcl hfrom hpush h12 hx1 hx2 hkind hnames hs Inv h0 (fun i ys m₁ σ₁ h₁ C a b e f g n1 n2 o p => turn i ys m₁ σ₁ own h₁ C a b e f g n1 n2 o p) hz fun D C ys n' led h₁ h₂ tk m inv hl c₁ kp hn hC ns => ?_)
  have c₂ : Cx G own { σ with n := ((D, listOf ys.toArray n') :: led) ++ σ.n } h₂ := c₁.fresh kp fun p hp => ⟨(hn p hp).1, (hn p hp).2.1⟩
  obtain ⟨oC, eC, pC, gC, r⟩ := ns
  have c₃ : Cx G ((C, oC) :: own) { σ with n := ((D, listOf ys.toArray n') :: led) ++ σ.n } h₂ := by
    have f := Off.fresh (c := c₁) hC
    have off : ∀ p ∈ ((D, listOf ys.toArray n') :: led) ++ σ.n, p.1 ≠ C := fun p hp e => by
      rcases List.mem_append.mp hp with q | q
      · exact (hn p q).2.2 e
      · exact f.n p (List.mem_append_right _ q) (by simp [e])
    refine ⟨c₂.F, fun p hp => ?_, c₂.C, fun p hp q hq e => ?_, fun p hp x a ha e => ?_⟩
    · rcases List.mem_cons.mp hp with rfl | hp
      · exact ⟨gC, fun e => f.L (by simp [← e]), f.h C (by simp)⟩
      · exact c₂.N p hp
    · rcases List.mem_cons.mp hp with rfl | hp
      · exact off q hq e.symm
      · exact c₂.offO p hp q hq e
    · rcases List.mem_cons.mp hp with rfl | hp
      · exact f.c x a ha (by simp [← e])
      · exact c₂.offC p hp x a ha e
  refine tm_toName O hy ((C, oC) :: own) { s with heap := h₂, toks := tk } _ E c₃ fun u σ₄ h₄ tk₄ e₄ c₄ => ?_
  obtain ⟨e₄, _⟩ := e₄
  subst e₄
  have gC₄ := (c₄.N (C, oC) (.head _)).1
  refine ⟨m, ⟨oC, eC, pC, gC₄, r⟩, fun h₅ hs₅ => wpAny_pure (wpAny_pure (k .next _ h₅ tk₄ ⟨rfl, D, ys, n', led, inv, hl, rfl, fun p hp q hq e => by have := (hn p hp).2.1; rw [e, c₁.get hq] at this; cases this⟩ ?_))⟩
  have f := c₄.N (C, oC) (.head _)
  refine ⟨⟨c₄.F.ns.sameBut hs₅ (Ne.symm f.2.1), fun b o e => (hs₅.2 b fun q => ?_).trans (c₄.F.keep b o e), c₄.F.above⟩, fun p hp => ?_, fun x a ha => (c₄.C x a ha).sameBut hs₅ fun e => ?_, fun p hp => c₄.offO p (.tail _ hp), fun p hp => c₄.offC p (.tail _ hp)⟩
  · rw [q, f.2.2] at e; cases e
  · have := c₄.N p (.tail _ hp)
    refine ⟨(hs₅.2 _ fun q => ?_).trans this.1, this.2⟩
    rcases List.mem_append.mp hp with r | r
    · have fr := Off.fresh (c := c₁) hC
      exact fr.n p (List.mem_append_left _ r) (by simp [q])
    · exact c₄.offO (C, oC) (.head _) p r q.symm
  · exact c₄.offC (C, oC) (.head _) x a ha e.symm


theorem csrc_list2 (O : Ok G d) {target iter : Expr} {its : Array Value} {Pm : Nat → Sg → Sg → Prop} {T : Env → Heap → Prop} (he : Tm G σ (eval iter G.env) (fun v σ₁ => (∃ nw, σ₁ = { σ with n := nw ++ σ.n }) ∧ ∃ l o, v = .ref l ∧ Fx G σ₁ [(l, o)] ∧ Obj.lst o its))
    (hgo : ∀ (I l : Addr) i (s : Shared) v (Q : Unit → Shared → Prop) (E : Value → Shared → Prop), s.heap.IsListIter I l i → its[i - 1]? = some v → Q () s → wpAny (model G.prog G.w) G.A (letOwnedTupleGo target (.ref I) v) Q E s)
    (has : ∀ own h₁ env' d l o i v σ₁ nw, Cx G own { σ with n := nw ++ σ.n } h₁ → T env' h₁ → Ok (CG G h₁ env') d → its[i]? = some v → Fx (CG G h₁ env') σ₁ [(l, o)] → Tm (CG G h₁ env') σ₁ (assign target env' v) (fun _ σ' => Pm i σ₁ σ' ∧ σ'.n = σ₁.n)) : CSrc2 G σ target iter its.size Pm T := fun own s Q E c k =>
  he own s _ E c fun v σ₁ h₁ t₁ ⟨⟨nw, e₁⟩, l, o, e, fx, ho⟩ c₁ => by
    subst e; subst e₁
    have gl := fx.get c₁ _ (.head _)
    have il : h₁.IsList l its := ⟨o, gl, ho.1, ho.2⟩
    refine wpAny_pyIter_list (s := { s with heap := h₁, toks := t₁ }) il ?_
    exact k (.ref h₁.objs.size) [h₁.objs.size] _ h₁ _ t₁ [(l, o)] (Cx.drop c₁) (fun b o e => Heap.get?_push_of_some _ e) (fun b hb => by obtain rfl := List.mem_singleton.mp hb; exact ⟨get_size _, by rw [Heap.size_push]; exact Nat.lt_succ_self _⟩) (by rw [Heap.size_push]; exact Nat.le_succ _) (fun p hp => by obtain rfl := List.mem_singleton.mp hp; exact gl)
      (fun env' d' hx O' => drv_list O' (Nat.ne_of_lt (Heap.lt_size gl)) (hgo _ _) (fun i v σ hv hf => has own h₁ env' d' l o i v σ nw c₁ hx O' hv hf)) ⟨⟨_, Heap.get?_push_size _ rfl, rfl, rfl⟩, il.push _⟩
/-- two cells by a tuple -/
theorem to_tupleC (O : Ok G d) {own : Led} {s : Shared} {Q : Unit → Shared → Prop} {E : Value → Shared → Prop} {x y : Str} {p q pos : Pos} {n : Nat} {T : Addr} {a b : Value} {ax ay : Addr} (c : Cx G own σ s.heap) (hT : s.heap.IsTuple T #[a, b])
    (lx : G.env.cells.lookup x = some ax) (ly : G.env.cells.lookup y = some ay) (x0 : G.h₀.get? ax = none) (y0 : G.h₀.get? ay = none)
    (hx : G.env.kindOf x = some .cell) (hy : G.env.kindOf y = some .cell) (hl : ∀ env, (assignEach [Expr.Name x p, Expr.Name y q] env) = [(false, assign (.Name x p) env), (false, assign (.Name y q) env)] := by intro _; rfl)
    (k : ∀ h' tk', Cx G own { σ with c := put (put σ.c x a) y b } h' → Q () { s with heap := h', toks := tk' }) :
    wpAny (model G.prog G.w) G.A (assign (.Tuple [.Name x p, .Name y q] n pos) G.env (.ref T)) Q E s := by
  refine wpAny_assign_Tuple O.hh hT (by rw [hl]; rfl) (by rw [hl]; rfl) fun h' xb => ?_
  have c' := c.keep (ext_keeps xb)
  rw [hl]
  refine wpAny_assignInOrder_more (wpAny_assign_Name (tm_storeC O lx x0 hx own _ _ E c' fun u σ₁ h₁ t₁ e c₁ => ?_))
  subst e
  refine wpAny_assignInOrder_more (wpAny_assign_Name (tm_storeC O ly y0 hy own _ _ E c₁ fun u σ₂ h₂ t₂ e c₂ => ?_))
  subst e
  exact wpAny_assignInOrder_none (k h₂ t₂ c₂)
end
end Mine
open PySem PySem.W PySem.Calls PyProof.Rows
set_option Elab.async false
set_option maxRecDepth 100000
set_option maxHeartbeats 4000000
set_option linter.unusedVariables false
namespace Mine

noncomputable def lawEnv (w : World) (L fa : Addr) (cd : Value) : Env := envOfC "law" (fdOf (KK w) 116).scope L fa cd
noncomputable def lawB (w : World) : List Stmt := match (fdOf (KK w) 116).body with | .stmts b => b | _ => []
noncomputable def LG (prog : Program) (w : World) (h₀ : Heap) (fa : Addr) (cd : Value) : Gx := ⟨prog, w, KK w, callerA.deeper (lawEnv w h₀.objs.size fa cd), lawEnv w h₀.objs.size fa cd, h₀⟩

/-- the law's rest, from the i-th statement on -/
@[irreducible] def Rest (prog : Program) (w : World) (h₀ : Heap) (fa : Addr) (cd : Value) (i : Nat) (R : Flow → Sg → Prop) (σ : Sg) : Prop := Tm (LG prog w h₀ fa cd) σ (execs ((lawB w).drop i) (LG prog w h₀ fa cd).env) R
theorem Rest.mk {prog : Program} {w : World} {h₀ : Heap} {fa : Addr} {cd : Value} {i : Nat} {R : Flow → Sg → Prop} {σ : Sg} (h : Tm (LG prog w h₀ fa cd) σ (execs ((lawB w).drop i) (LG prog w h₀ fa cd).env) R) : Rest prog w h₀ fa cd i R σ := by unfold Rest; exact h
theorem Rest.at {prog : Program} {w : World} {h₀ : Heap} {fa : Addr} {cd : Value} {i : Nat} {R : Flow → Sg → Prop} {σ : Sg} {t : Sem Flow} (h : Rest prog w h₀ fa cd i R σ) (e : t = execs ((lawB w).drop i) (LG prog w h₀ fa cd).env := by rfl) : Tm (LG prog w h₀ fa cd) σ t R := by
  unfold Rest at h
  rw [e]; exact h

def WordOk (s : Str) : Prop := s.length ≤ 5 ∧ PyData.strOk s = true
def KV (kv : List (Str × Value)) : Prop := kv.length ≤ 20 ∧ AllI kv ∧ ∀ q ∈ kv, WordOk q.1

structure DB where
  nl : Addr
  nv : List Value
  nn : Nat
  ms : List Int
  wl : Addr
  DL : Addr
  D : Nat → Addr
structure DV where
  wv : List Value
  wn : Nat
  ws : List Str
  oD : Nat → Obj
  kv : Nat → List (Str × Value)
structure St1 (G : Gx) (b : DB) (v : DV) (σ : Sg) : Prop where
  m1 : σ.m "numbers" = some (.ref b.nl)
  n1 : (b.nl, listOf b.nv.toArray b.nn) ∈ σ.n
  i1 : IntsAre b.nv b.ms
  l1 : b.ms.length ≤ 10
  m2 : σ.m "words" = some (.ref b.wl)
  n2 : (b.wl, listOf v.wv.toArray v.wn) ∈ σ.n
  i2 : StrsAre v.wv v.ws
  l2 : v.ws.length ≤ 11 ∧ 0 < v.ws.length ∧ ∀ s ∈ v.ws, WordOk s
  m3 : σ.m "data" = some (.ref b.DL)
  n3 : (b.DL, listOf [Value.ref (b.D 0), .ref (b.D 1)].toArray 0) ∈ σ.n
  dd : ∀ s, s < 2 → (b.D s, v.oD s) ∈ σ.n ∧ (v.oD s).IsDictOf (SK G) (v.kv s) ∧ (b.D s == sysModules) = false
  kk : ∀ s, s < 2 → KV (v.kv s)
structure Ap1 (b : DB) : Prop where
  wn : b.wl ≠ b.nl
  Ln : b.DL ≠ b.nl
  Lw : b.DL ≠ b.wl
  D01 : b.D 0 ≠ b.D 1
  Dx : ∀ s, s < 2 → b.D s ≠ b.nl ∧ b.D s ≠ b.wl ∧ b.D s ≠ b.DL
theorem Ap1.dd {b : DB} (A : Ap1 b) {s t : Nat} (hs : s < 2) (ht : t < 2) (h : s ≠ t) : b.D s ≠ b.D t := by
  match s, t, hs, ht, h with
  | 0, 1, _, _, _ => exact A.D01
  | 1, 0, _, _, _ => exact A.D01.symm
  | 0, 0, _, _, h => exact absurd rfl h
  | 1, 1, _, _, h => exact absurd rfl h

def sd (r : Nat) : List Nat := if r = 0 then [0, 1] else if r = 1 then [0] else [1]
theorem sd_lt (r : Nat) : ∀ s ∈ sd r, s < 2 := by
  unfold sd
  split
  · decide
  · split <;> decide
theorem sd_len (r : Nat) : (sd r).length ≤ 2 := by
  unfold sd
  split
  · decide
  · split <;> decide

theorem strOk_iff {x : Str} : PyData.strOk x = true ↔ ∀ c ∈ lw x, c < 0x110000 := by
  unfold PyData.strOk lw
  rw [Array.all_eq_true']
  simp
theorem strOk_append {x y : Str} (h : PyData.strOk x = true) (h' : PyData.strOk y = true) : PyData.strOk (x ++ y) = true := by
  rw [strOk_iff] at *
  intro c hc
  rw [lw_append] at hc
  rcases List.mem_append.mp hc with q | q
  · exact h c q
  · exact h' c q
theorem strOk_cut {x : Str} (h : PyData.strOk x = true) {j : Int} (hj : 0 ≤ j) : PyData.strOk (Txt.slice x none (some j)) = true := by
  rw [strOk_iff] at *
  intro c hc
  rw [slice_to hj] at hc
  exact h c (List.mem_of_mem_take hc)
theorem strOk_sign (n : Int) : PyData.strOk (sign n) = true := by
  unfold sign
  split
  · rename_i h
    have m4 := fmod4 n
    have hc : n.fmod 4 = 0 ∨ n.fmod 4 = 1 ∨ n.fmod 4 = 2 := by omega
    rcases hc with h | h | h <;> rw [h] <;> decide +kernel
  · rw [strOk_iff]
    intro c hc
    have e : c = (chrPt n).toNat := by simpa [lw] using hc
    subst e
    have h0 : 0 ≤ (n.fdiv 4).fmod 1112064 := Int.fmod_nonneg_of_pos _ (by decide)
    have h1 : (n.fdiv 4).fmod 1112064 < 1112064 := Int.fmod_lt_of_pos _ (by decide)
    unfold chrPt
    split <;> omega

section
variable {prog : Program} {w : World} {h₀ : Heap} {fa : Addr} {cd : Value} {σ : Sg} {R : Flow → Sg → Prop}

theorem St1.put {G : Gx} {b : DB} {v : DV} {σ : Sg} (S : St1 G b v σ) (A : Ap1 b) {s : Nat} (hs : s < 2) {o' : Obj} {k : Str} {i : Int} {t : Tok} (ho : o'.IsDictOf (SK G) (stored (v.kv s) k (.int i t))) (hk : WordOk k) (hz : (v.kv s).length < 20) :
    St1 G b { v with oD := fun t => if t = s then o' else v.oD t, kv := fun u => if u = s then stored (v.kv s) k (.int i t) else v.kv u } { σ with n := updL (b.D s) o' σ.n } := by
  refine ⟨S.m1, updL_ne S.n1 (A.Dx s hs).1.symm, S.i1, S.l1, S.m2, updL_ne S.n2 (A.Dx s hs).2.1.symm, S.i2, S.l2, S.m3, updL_ne S.n3 (A.Dx s hs).2.2.symm, fun u hu => ?_, fun u hu => ?_⟩
  · by_cases e : u = s
    · subst e
      simp only [if_true]
      exact ⟨updL_self (S.dd u hu).1, ho, (S.dd u hu).2.2⟩
    · simp only [e, if_false]
      exact ⟨updL_ne (S.dd u hu).1 (A.dd hu hs e), (S.dd u hu).2⟩
  · by_cases e : u = s
    · subst e
      simp only [if_true]
      refine ⟨by have := stored_length_le (v.kv u) k (.int i t); omega, fun q hq => ?_, fun q hq => ?_⟩
      · rcases mem_stored hq with rfl | ⟨h, _⟩
        · exact ⟨i, t, rfl⟩
        · exact (S.kk u hu).2.1 q h
      · rcases mem_stored hq with rfl | ⟨h, _⟩
        · exact hk
        · exact (S.kk u hu).2.2 q h
    · simp only [e, if_false]
      exact S.kk u hu
theorem St1.mono {G : Gx} {b : DB} {v : DV} {σ σ' : Sg} (S : St1 G b v σ) (h1 : σ'.m "numbers" = σ.m "numbers") (h2 : σ'.m "words" = σ.m "words") (h3 : σ'.m "data" = σ.m "data") (h : ∀ p ∈ σ.n, p ∈ σ'.n) : St1 G b v σ' :=
  ⟨h1.trans S.m1, h _ S.n1, S.i1, S.l1, h2.trans S.m2, h _ S.n2, S.i2, S.l2, h3.trans S.m3, h _ S.n3, fun s hs => ⟨h _ (S.dd s hs).1, (S.dd s hs).2⟩, S.kk⟩

/-- [[0, 1], [0], [1]][e] -/
theorem tm_sides {G : Gx} {σ : Sg} {d : Nat} {ie : Expr} {r : Nat} {p1 p2 p3 p4 p5 q1 q2 q3 q4 : Pos} {k1 k2 k3 k4 : Nat} (hr : r < 3) (hi : ∀ nw, Tr G { σ with n := nw ++ σ.n } (eval ie G.env) (IsI (r : Int)))
    (hs : ∀ l t, subscripted ie false (.ref l) (.int (r : Int) t) = operate [.ref l, .int (r : Int) t] (getItem (.ref l) (.int (r : Int) t)) := by intro _ _; with_unfolding_all rfl)
    (e1 : starEach [.List [.Constant (.int 0) k1 q1, .Constant (.int 1) k2 q2] p1, .List [.Constant (.int 0) k3 q3] p2, .List [.Constant (.int 1) k4 q4] p3] G.env = (false, eval (.List [.Constant (.int 0) k1 q1, .Constant (.int 1) k2 q2] p1) G.env) :: starEach [.List [.Constant (.int 0) k3 q3] p2, .List [.Constant (.int 1) k4 q4] p3] G.env := by rfl)
    (e2 : starEach [.List [.Constant (.int 0) k3 q3] p2, .List [.Constant (.int 1) k4 q4] p3] G.env = (false, eval (.List [.Constant (.int 0) k3 q3] p2) G.env) :: starEach [.List [.Constant (.int 1) k4 q4] p3] G.env := by rfl)
    (e3 : starEach [.List [.Constant (.int 1) k4 q4] p3] G.env = (false, eval (.List [.Constant (.int 1) k4 q4] p3) G.env) :: starEach [] G.env := by rfl) :
    Tm G σ (eval (.Subscript (.List [.List [.Constant (.int 0) k1 q1, .Constant (.int 1) k2 q2] p1, .List [.Constant (.int 0) k3 q3] p2, .List [.Constant (.int 1) k4 q4] p3] p4) ie p5) G.env) (fun v σ' => ∃ nw l vs, v = .ref l ∧ σ' = { σ with n := nw ++ σ.n } ∧ (l, listOf (List.toArray vs) 0) ∈ nw ∧ vs.length = (sd r).length ∧ ∀ (i : Nat) x, vs[i]? = some x → ∃ s, (sd r)[i]? = some s ∧ IsI (s : Int) x) := by
  refine tm_sub_ (Pa := fun v σ' => ∃ nw L a b c va vb vc, v = .ref L ∧ σ' = { σ with n := nw ++ σ.n } ∧ (L, listOf [Value.ref a, .ref b, .ref c].toArray 0) ∈ nw ∧ (a, listOf (List.toArray va) 0) ∈ nw ∧ (b, listOf (List.toArray vb) 0) ∈ nw ∧ (c, listOf (List.toArray vc) 0) ∈ nw ∧ (∃ x y, va = [x, y] ∧ IsI 0 x ∧ IsI 1 y) ∧ (∃ x, vb = [x] ∧ IsI 0 x) ∧ (∃ x, vc = [x] ∧ IsI 1 x))
    (Pb := fun u v σ' => ∃ nw L a b c va vb vc, u = .ref L ∧ σ' = { σ with n := nw ++ σ.n } ∧ (L, listOf [Value.ref a, .ref b, .ref c].toArray 0) ∈ nw ∧ (a, listOf (List.toArray va) 0) ∈ nw ∧ (b, listOf (List.toArray vb) 0) ∈ nw ∧ (c, listOf (List.toArray vc) 0) ∈ nw ∧ (∃ x y, va = [x, y] ∧ IsI 0 x ∧ IsI 1 y) ∧ (∃ x, vb = [x] ∧ IsI 0 x) ∧ (∃ x, vc = [x] ∧ IsI 1 x) ∧ IsI (r : Int) v) ?_ (fun a σ' p => ?_) (fun u v σ' p => ?_)
  · refine tm_list (P := fun vs σ' => ∃ a b c va vb vc, vs = [.ref a, .ref b, .ref c] ∧ σ' = { σ with n := (c, listOf (List.toArray vc) 0) :: (b, listOf (List.toArray vb) 0) :: (a, listOf (List.toArray va) 0) :: σ.n } ∧ (∃ x y, va = [x, y] ∧ IsI 0 x ∧ IsI 1 y) ∧ (∃ x, vb = [x] ∧ IsI 0 x) ∧ (∃ x, vc = [x] ∧ IsI 1 x)) ?_ (fun vs σ' l p _ => ?_) (by simp) fun vs σ' p => ?_
    · refine tm_arg (P := fun v σ' => ∃ a va, v = .ref a ∧ σ' = { σ with n := (a, listOf (List.toArray va) 0) :: σ.n } ∧ ∃ x y, va = [x, y] ∧ IsI 0 x ∧ IsI 1 y) (tm_list (Tr.m (tr_arg2 tr_int tr_int)) (fun vs σ' l p _ => ?_) (by simp) fun vs σ' p => ?_) (fun v σ' p => ?_) e1
      · obtain ⟨rfl, x, y, rfl, hx, hy⟩ := p; exact ⟨l, _, rfl, rfl, x, y, rfl, hx, hy⟩
      · obtain ⟨rfl, x, y, rfl, hx, hy⟩ := p; simp
      obtain ⟨a, va, rfl, rfl, ha⟩ := p
      refine tm_arg (tm_list1 tr_int) (fun v σ' p => ?_) e2
      obtain ⟨b, x, rfl, hx, rfl, _⟩ := p
      refine tm_arg (tm_list1 tr_int) (fun v σ' p => ?_) e3
      obtain ⟨c, y, rfl, hy, rfl, _⟩ := p
      exact Tm.mono (Tr.m tr_args0) fun vs σ'' q => by obtain ⟨rfl, rfl⟩ := q; exact ⟨a, b, c, va, [x], [y], rfl, rfl, ha, ⟨x, rfl, hx⟩, ⟨y, rfl, hy⟩⟩
    · obtain ⟨a, b, c, va, vb, vc, rfl, rfl, h1, h2, h3⟩ := p
      exact ⟨[(l, listOf [Value.ref a, .ref b, .ref c].toArray 0), (c, listOf (List.toArray vc) 0), (b, listOf (List.toArray vb) 0), (a, listOf (List.toArray va) 0)], l, a, b, c, va, vb, vc, rfl, rfl, .head _, .tail _ (.tail _ (.tail _ (.head _))), .tail _ (.tail _ (.head _)), .tail _ (.head _), h1, h2, h3⟩
    · obtain ⟨a, b, c, va, vb, vc, rfl, _⟩ := p; simp
  · obtain ⟨nw, L, a, b, c, va, vb, vc, rfl, rfl, g1, g2, g3, g4, g5, g6, g7⟩ := p
    exact Tm.mono (Tr.m (hi nw)) fun v σ'' q => by obtain ⟨rfl, q⟩ := q; exact ⟨nw, L, a, b, c, va, vb, vc, rfl, rfl, g1, g2, g3, g4, g5, g6, g7, q⟩
  · obtain ⟨nw, L, a, b, c, va, vb, vc, rfl, rfl, g1, g2, g3, g4, ⟨x, y, rfl, hx, hy⟩, ⟨z, rfl, hz⟩, ⟨u, rfl, hu⟩, q⟩ := p
    match r, hr with
    | 0, _ =>
      refine Tm.mono (Tr.m (tr_item (x := .ref a) (ent_list (List.mem_append_left _ g1)) rfl q (by decide) (by decide) rfl (hs _))) fun v σ'' p => ?_
      obtain ⟨rfl, rfl⟩ := p
      refine ⟨nw, a, _, rfl, rfl, g2, rfl, fun i e he => ?_⟩
      match i with
      | 0 => cases he; exact ⟨0, rfl, hx⟩
      | 1 => cases he; exact ⟨1, rfl, hy⟩
      | i + 2 => simp at he
    | 1, _ =>
      refine Tm.mono (Tr.m (tr_item (x := .ref b) (ent_list (List.mem_append_left _ g1)) rfl q (by decide) (by decide) rfl (hs _))) fun v σ'' p => ?_
      obtain ⟨rfl, rfl⟩ := p
      refine ⟨nw, b, _, rfl, rfl, g3, rfl, fun i e he => ?_⟩
      match i with
      | 0 => cases he; exact ⟨0, rfl, hz⟩
      | i + 1 => simp at he
    | 2, _ =>
      refine Tm.mono (Tr.m (tr_item (x := .ref c) (ent_list (List.mem_append_left _ g1)) rfl q (by decide) (by decide) rfl (hs _))) fun v σ'' p => ?_
      obtain ⟨rfl, rfl⟩ := p
      refine ⟨nw, c, _, rfl, rfl, g4, rfl, fun i e he => ?_⟩
      match i with
      | 0 => cases he; exact ⟨1, rfl, hu⟩
      | i + 1 => simp at he
end
end Mine
open PySem PySem.W PySem.Calls PyProof.Rows
set_option Elab.async false
set_option maxRecDepth 100000
set_option maxHeartbeats 4000000
set_option linter.unusedVariables false
namespace Mine

theorem pair_get {b : DB} {s : Nat} (hs : s < 2) : ([Value.ref (b.D 0), .ref (b.D 1)].toArray)[((s : Nat) : Int).toNat]? = some (.ref (b.D s)) := by
  match s, hs with
  | 0, _ => rfl
  | 1, _ => rfl
theorem Cx.neLD {prog : Program} {w : World} {knd : KeyKind prog w Str} {G : Gx} {own : Led} {σ : Sg} {h : Heap} (c : Cx G own σ h) {l D : Addr} {its : Array Value} {n : Nat} {o : Obj} {kv : List (Str × Value)} (hl : (l, listOf its n) ∈ σ.n) (hd : (D, o) ∈ σ.n) (ho : o.IsDictOf knd kv) : l ≠ D := by
  refine c.ne hl hd fun e => ?_
  obtain ⟨es, ep, _, h2, _⟩ := ho
  rw [← e] at h2
  cases h2
theorem fmod3 (n : Int) : ∃ r : Nat, r < 3 ∧ n.fmod 3 = (r : Int) := by
  have h0 : 0 ≤ n.fmod 3 := Int.fmod_nonneg_of_pos _ (by decide)
  have h1 : n.fmod 3 < 3 := Int.fmod_lt_of_pos _ (by decide)
  exact ⟨(n.fmod 3).toNat, by omega, by omega⟩

section
variable {prog : Program} {w : World} {h₀ : Heap} {fa : Addr} {cd : Value} {σ : Sg} {R : Flow → Sg → Prop}

theorem ph1 (O : Ok (LG prog w h₀ fa cd) 12) {sl : Addr} {sv : List Value} {ns : List Int} (hs : h₀.IsList sl sv.toArray) (hi : IntsAre sv ns) (hz : ns.length ≤ 63) (hm : σ.m "script" = some (.ref sl))
    (k : ∀ σ b v, St1 (LG prog w h₀ fa cd) b v σ → Ap1 b → Rest prog w h₀ fa cd 4 R σ) : Tm (LG prog w h₀ fa cd) σ (execs (lawB w) (LG prog w h₀ fa cd).env) R := by
  have hvl : sv.length = ns.length := hi.length
  refine seq_assign O (tm_cutList (k := 10) (tr_name O hm) (ent_list₀ hs) tr_int (by omega)) fun v σ₁ p => ?_
  obtain ⟨nl, rfl, rfl, apn⟩ := p
  refine seq_assign O (tm_list1 tr_str) fun v σ₂ p => ?_
  obtain ⟨wl, sv0, rfl, ⟨t0, rfl⟩, rfl, apw⟩ := p
  refine seq_assign O (tm_list (P := fun vs σ' => ∃ D0 o0 D1 o1, vs = [.ref D0, .ref D1] ∧ σ' = Sg.mk (put (put σ.m "numbers" (.ref nl)) "words" (.ref wl)) σ.c ((D1, o1) :: (D0, o0) :: (wl, listOf [Value.str "" t0].toArray 0) :: (nl, listOf (sv.take 10).toArray 0) :: σ.n) ∧ o0.IsDictOf (SK (LG prog w h₀ fa cd)) [] ∧ o1.IsDictOf (SK (LG prog w h₀ fa cd)) [] ∧ (D0 == sysModules) = false ∧ (D1 == sysModules) = false ∧
      wl ≠ D0 ∧ nl ≠ D0 ∧ wl ≠ D1 ∧ nl ≠ D1 ∧ D0 ≠ D1)
    (R := fun v σ' => ∃ L D0 o0 D1 o1, v = .ref L ∧ σ' = Sg.mk (put (put σ.m "numbers" (.ref nl)) "words" (.ref wl)) σ.c ((L, listOf [Value.ref D0, .ref D1].toArray 0) :: (D1, o1) :: (D0, o0) :: (wl, listOf [Value.str "" t0].toArray 0) :: (nl, listOf (sv.take 10).toArray 0) :: σ.n) ∧ o0.IsDictOf (SK (LG prog w h₀ fa cd)) [] ∧ o1.IsDictOf (SK (LG prog w h₀ fa cd)) [] ∧ (D0 == sysModules) = false ∧ (D1 == sysModules) = false ∧
      (wl ≠ D0 ∧ nl ≠ D0 ∧ wl ≠ D1 ∧ nl ≠ D1 ∧ D0 ≠ D1) ∧ D1 ≠ L ∧ D0 ≠ L ∧ wl ≠ L ∧ nl ≠ L) ?_ (fun vs σ' l p ap => ?_) (by simp) fun vs σ' p => ?_) fun v σ₃ p => ?_
  · refine tm_arg (tm_dictNew O) fun v σ' p => ?_
    obtain ⟨D0, o0, rfl, rfl, i0, s0, ap0⟩ := p
    refine tm_arg (tm_dictNew O) fun v σ' p => ?_
    obtain ⟨D1, o1, rfl, rfl, i1, s1, ap1⟩ := p
    refine Tm.mono (Tr.m tr_args0) fun vs σ'' q => ?_
    obtain ⟨rfl, rfl⟩ := q
    exact ⟨D0, o0, D1, o1, rfl, rfl, i0, i1, s0, s1, ap0 (wl, _) (.head _), ap0 (nl, _) (.tail _ (.head _)), ap1 (wl, _) (.tail _ (.head _)), ap1 (nl, _) (.tail _ (.tail _ (.head _))), ap1 (D0, _) (.head _)⟩
  · obtain ⟨D0, o0, D1, o1, rfl, rfl, i0, i1, s0, s1, h⟩ := p
    exact ⟨l, D0, o0, D1, o1, rfl, rfl, i0, i1, s0, s1, h, ap (D1, _) (.head _), ap (D0, _) (.tail _ (.head _)), ap (wl, _) (.tail _ (.tail _ (.head _))), ap (nl, _) (.tail _ (.tail _ (.tail _ (.head _))))⟩
  · obtain ⟨D0, o0, D1, o1, rfl, _⟩ := p; simp
  obtain ⟨DL, D0, o0, D1, o1, rfl, rfl, i0, i1, s0, s1, ⟨a1, a2, a3, a4, a5⟩, a6, a7, a8, a9⟩ := p
  have wn : wl ≠ nl := fun e => apw (nl, _) (.head _) e.symm
  have ke : nsIn (KK w) mainGlobals "enumerate" = some none := by rfl
  have kl : nsIn (KK w) mainGlobals "len" = some none := by rfl
  have ks : nsIn (KK w) mainGlobals "_law_sign" = some (some (.ref 92)) := by rfl
  have kk : keepIn (KK w) (.ref 92) = true := by rfl
  have itk : IntsAre (sv.take 10) (ns.take 10) := hi.take 10
  have ltk : (sv.take 10).length ≤ 10 := by rw [List.length_take]; omega
  let b : DB := ⟨nl, sv.take 10, 0, ns.take 10, wl, DL, fun s => if s = 0 then D0 else D1⟩
  have A : Ap1 b := ⟨wn, a9.symm, a8.symm, a5, fun s hs => by
    match s, hs with
    | 0, _ => exact ⟨a2.symm, a1.symm, a7⟩
    | 1, _ => exact ⟨a4.symm, a3.symm, a6⟩⟩
  refine @seq _ _ _ _ _ (@tm_for _ _ _ _ _ _ _ _ _ _ (src_list O (its := (sv.take 10).toArray) (Pm := toN "n" (fun i v => (sv.take 10).toArray[i]? = some v)) (Pre := fun σ₁ fix => σ₁ = _ ∧ fix = [(nl, listOf (sv.take 10).toArray 0)])
      (Tm.mono (Tr.m (tr_name O rfl)) fun v σ' p => ⟨nl, listOf (sv.take 10).toArray 0, p.2, ⟨p.1, rfl⟩, Fx.one (by rw [p.1]; exact .tail _ (.tail _ (.tail _ (.tail _ (.head _))))), lst_of⟩) (fun I l i s v Q E _ _ q => wpAny_pure q) (fun l o i v σ₁ σ _ hv hf => has_toN (P := fun i v => (sv.take 10).toArray[i]? = some v) O rfl i v σ hv hf))
    (fun fix i σ' => fix = [(nl, listOf (sv.take 10).toArray 0)] ∧ ∃ v, St1 (LG prog w h₀ fa cd) b v σ' ∧ v.ws.length = i + 1 ∧ ∀ s, s < 2 → (v.kv s).length ≤ 2 * i) ?_ ?_ ?_ ?_ (by intro _; rfl))
  · rintro σ₁ fix ⟨rfl, rfl⟩
    refine ⟨rfl, ⟨[.str "" t0], 0, [""], fun s => if s = 0 then o0 else o1, fun _ => []⟩, ⟨rfl, .tail _ (.tail _ (.tail _ (.tail _ (.head _)))), itk, by show (ns.take 10).length ≤ 10; rw [List.length_take]; omega, rfl, .tail _ (.tail _ (.tail _ (.head _))), .cons _ _ .nil, ⟨by simp, by simp, fun s hs => ?_⟩, rfl, .head _, fun s hs => ?_, fun s hs => ⟨by simp, (fun q hq => nomatch hq), fun q hq => nomatch hq⟩⟩, rfl, fun s hs => Nat.zero_le _⟩
    · obtain rfl := List.mem_singleton.mp hs; exact ⟨by decide, by decide +kernel⟩
    · match s, hs with
      | 0, _ => exact ⟨.tail _ (.tail _ (.head _)), i0, s0⟩
      | 1, _ => exact ⟨.tail _ (.head _), i1, s1⟩
  · rintro fix i σ' ⟨rfl, v, S, _⟩
    exact Fx.one S.n1
  · rintro fix i σ₁ σ₂ hi' ⟨rfl, v, S, hwl, hkl⟩ ⟨vn, hvn, rfl⟩ _
    obtain ⟨n, tn, rfl, hn⟩ := ints_get itk i vn (by simpa using hvn)
    have hi10 : i < 10 := by
      have : i < (sv.take 10).length := by simpa using hi'
      omega
    have hwv := strs_len S.i2
    have m2' : σ₁.m "words" = some (.ref wl) := S.m2
    have nwl : (wl, listOf v.wv.toArray v.wn) ∈ σ₁.n := S.n2
    have hq0 : 0 ≤ (n.fdiv 60).fmod (v.wv.toArray.size : Int) := Int.fmod_nonneg_of_pos _ (by simp; omega)
    have hq1 : (n.fdiv 60).fmod (v.wv.toArray.size : Int) < v.wv.toArray.size := Int.fmod_lt_of_pos _ (by simp; omega)
    generalize hq : (n.fdiv 60).fmod (v.wv.toArray.size : Int) = q at hq0 hq1
    have hsz : v.wv.toArray.size = v.ws.length := by simp [hwv]
    obtain ⟨sw, hsw⟩ : ∃ s, v.ws[((-1 - q) + (v.wv.toArray.size : Int)).toNat]? = some s := ⟨_, List.getElem?_eq_getElem (by omega)⟩
    obtain ⟨tw, htw⟩ := strs_get S.i2 _ sw hsw
    have lsw : WordOk sw := S.l2.2.2 sw (List.mem_of_getElem? hsw)
    have hj0 : 0 ≤ (n.fdiv 12).fmod 5 := Int.fmod_nonneg_of_pos _ (by decide)
    have hj1 : (n.fdiv 12).fmod 5 < 5 := Int.fmod_lt_of_pos _ (by decide)
    generalize hj : (n.fdiv 12).fmod 5 = j at hj0 hj1
    have lcut : (Txt.slice sw none (some j)).length ≤ 4 := by
      rw [← lw_length, slice_to hj0, List.length_take]
      omega
    have lsg := sign_len n
    have lnew : WordOk (Txt.slice sw none (some j) ++ sign n) := ⟨by
      rw [← lw_length, lw_append, List.length_append, lw_length, lw_length]; omega, strOk_append (strOk_cut lsw.2 hj0) (strOk_sign n)⟩
    have z5 : sw.length ≤ 5 := lsw.1
    refine seq_assign O (Tr.m (tr_cat (tr_cutTo (x := sw) (j := j) (tr_sub_ (tr_name O m2') (tr_sub (a := -1) (b := q) tr_neg1 (by
          rw [← hq]
          exact tr_mod (tr_div (tr_nameI O rfl) tr_int (by decide) (PyProof.noPylong_small (by decide))) (tr_fn1 O kl (id := "len") (by decide +kernel) rfl (tr_name O m2') (R := IsI v.wv.toArray.size) fun v e => by subst e; exact tr_len_list (ent_list nwl) (by omega)) (by omega))) fun a b ha hb => Tr.mono (tr_itemN (x := .str sw tw) (ent_list nwl) ha hb (by omega) (by omega) (by omega) (by simpa using htw)) fun v e => ⟨tw, e⟩)
        (by
          rw [← hj]
          exact tr_mod (tr_div (tr_nameI O rfl) tr_int (by decide) (PyProof.noPylong_small (by decide))) tr_int (by decide)) (by rw [sizeLine_eq]; omega))
        (tr_callK O (tr_glob O ks) kk (tr_arg1 (tr_nameP (P := fun v => v = .int n tn) O rfl rfl)) fun vs ⟨v, e, ev⟩ => by subst e; subst ev; exact sign_fn rfl O n tn) (by rw [sizeLine_eq]; omega))) fun u σ' p => ?_
    obtain ⟨rfl, t', rfl⟩ := p
    generalize hw' : Txt.slice sw none (some j) ++ sign n = w' at *
    refine seq (tm_appendStmt (v := .none) (P := IsV (.str w' t')) (tr_name O m2') nwl (by rw [sizeLine_eq]; omega) (tr_name O rfl) fun u n' pu => ?_)
    subst pu
    have hpush : v.wv.toArray.push (.str w' t') = (v.wv ++ [Value.str w' t']).toArray := by simp
    rw [hpush]
    have nwl' := updL_self (o' := listOf (v.wv ++ [Value.str w' t']).toArray n') nwl
    -- the state with the new word
    have S2 : St1 (LG prog w h₀ fa cd) b { v with wv := v.wv ++ [Value.str w' t'], wn := n', ws := v.ws ++ [w'] } (Sg.mk (put (put σ₁.m "n" (.int n tn)) "word" (.str w' t')) σ₁.c (updL wl (listOf (v.wv ++ [Value.str w' t']).toArray n') σ₁.n)) := by
      refine ⟨S.m1, updL_ne S.n1 A.wn.symm, S.i1, S.l1, m2', nwl', StrsAre.snoc S.i2 w' t', ⟨?_, ?_, ?_⟩, S.m3, updL_ne S.n3 A.Lw, fun s hs => ⟨updL_ne (S.dd s hs).1 (A.Dx s hs).2.1, (S.dd s hs).2⟩, S.kk⟩
      · simp; omega
      · simp
      · intro s hs
        rcases List.mem_append.mp hs with hs | hs
        · exact S.l2.2.2 s hs
        · obtain rfl := List.mem_singleton.mp hs; exact lnew
    obtain ⟨r, hr, hr'⟩ := fmod3 (n.fdiv 4)
    have ln := sd_len r
    refine @seq _ _ _ _ _ (@tm_for _ _ _ _ _ _ _ _ _ _ (@src_listE _ _ _ O _ _ (sd r).length (fun i x => ∃ s, (sd r)[i]? = some s ∧ IsI (s : Int) x) (toN "side" (fun i x => ∃ s, (sd r)[i]? = some s ∧ IsI (s : Int) x))
        (fun σ' fix => ∃ l vs nw, fix = [(l, listOf (List.toArray vs) 0)] ∧ (l, listOf (List.toArray vs) 0) ∈ nw ∧ σ' = Sg.mk (put (put σ₁.m "n" (.int n tn)) "word" (.str w' t')) σ₁.c (nw ++ updL wl (listOf (v.wv ++ [Value.str w' t']).toArray n') σ₁.n))
        (@Tm.mono _ _ _ _ _ _ (tm_sides (d := 0) hr fun nw => ?_) fun u σ' p => ?_) (fun I l i j s v Q E _ _ q => wpAny_pure q) (fun l o i v σ₁ σ _ hv hf => has_toN (P := fun i x => ∃ s, (sd r)[i]? = some s ∧ IsI (s : Int) x) O rfl i v σ hv hf))
      (fun fix i' σ' => (∃ l vs, fix = [(l, listOf (List.toArray vs) 0)] ∧ (l, listOf (List.toArray vs) 0) ∈ σ'.n) ∧ σ'.m "n" = some (.int n tn) ∧ σ'.m "word" = some (.str w' t') ∧ ∃ v', St1 (LG prog w h₀ fa cd) b v' σ' ∧ v'.ws.length = i + 2 ∧ ∀ s, s < 2 → (v'.kv s).length ≤ 2 * i + i') ?_ ?_ ?_ ?_ (by intro _; rfl))
    · rw [← hr']
      exact tr_mod (tr_div (tr_nameI O rfl) tr_int (by decide) (PyProof.noPylong_small (by decide))) tr_int (by decide)
    · obtain ⟨nw, l, vs, rfl, rfl, h1, h2, h3⟩ := p
      exact ⟨l, _, _, rfl, by simpa using h2, fun i x hx => h3 i x (by simpa using hx), ⟨l, vs, nw, rfl, h1, rfl⟩, Fx.one (List.mem_append_left _ h1), lst_of⟩
    · rintro σ' fix ⟨l, vs, nw, rfl, h1, rfl⟩
      exact ⟨⟨l, vs, rfl, List.mem_append_left _ h1⟩, rfl, rfl, _, S2.mono rfl rfl rfl fun p hp => List.mem_append_right _ hp, by simp [hwl], fun s hs => hkl s hs⟩
    · rintro fix i' σ' ⟨⟨l, vs, rfl, h1⟩, _⟩
      exact Fx.one h1
    · rintro fix i' σ₃ σ₄ hi2 ⟨⟨l, vs, rfl, h1⟩, mn, mw, v', S', hl', hk'⟩ ⟨x, ⟨s, hs, ts, rfl⟩, rfl⟩ _
      have hs2 : s < 2 := sd_lt r s (List.mem_of_getElem? hs)
      refine Tm.cx fun own h c => ?_
      have lD : l ≠ b.D s := c.neLD h1 (S'.dd s hs2).1 (S'.dd s hs2).2.1
      refine seq (tm_assignSub (P := fun v σ' => σ' = Sg.mk (put σ₃.m "side" (.int (s : Int) ts)) σ₃.c σ₃.n ∧ v = .int n tn) (P₂ := fun v u σ' => σ' = Sg.mk (put σ₃.m "side" (.int (s : Int) ts)) σ₃.c σ₃.n ∧ v = .int n tn ∧ u = .ref (b.D s)) (P₃ := fun v u y σ' => σ' = Sg.mk (put σ₃.m "side" (.int (s : Int) ts)) σ₃.c σ₃.n ∧ v = .int n tn ∧ u = .ref (b.D s) ∧ IsS w' y) (Tr.m (tr_name O (v := .int n tn) mn))
        (fun v σ' p => by obtain ⟨rfl, p⟩ := p; exact Tm.mono (Tr.m (tr_sub_ (tr_name O S'.m3) (tr_nameI (a := (s : Int)) O rfl) fun a b' ha hb => tr_item (x := .ref (b.D s)) (ent_list S'.n3) ha hb (by omega) (by omega) (pair_get hs2))) fun u σ'' q => ⟨q.1, p, q.2⟩)
        (fun v u σ' p => by
          obtain ⟨rfl, p1, p2⟩ := p
          exact Tm.mono (Tr.m (tr_nameP (P := IsS w') O mw ⟨t', rfl⟩)) fun y σ'' q => ⟨q.1, p1, p2, q.2⟩)
        fun v u y σ' p => ?_)
      obtain ⟨rfl, rfl, p2, p3⟩ := p
      have hlen := hk' s hs2
      have hi3 : i' < 2 := by omega
      refine Tm.mono (tm_dictSet (S'.dd s hs2).1 (S'.dd s hs2).2.1 p2 p3 (by rw [sizeLine_eq]; omega)) fun _ σ₅ p => ?_
      obtain ⟨o', ho', rfl⟩ := p
      have S3 := (S'.mono (σ' := Sg.mk (put σ₃.m "side" (.int (s : Int) ts)) σ₃.c σ₃.n) rfl rfl rfl fun p hp => hp).put A hs2 ho' lnew (by omega)
      refine tm_nil ⟨⟨l, vs, rfl, updL_ne h1 lD⟩, mn, mw, _, S3, hl', fun u hu => ?_⟩
      by_cases e : u = s
      · subst e
        simp only [if_true]
        have := stored_length_le (v'.kv u) w' (.int n tn)
        omega
      · simp only [e, if_false]
        have := hk' u hu
        omega
    · rintro fix σ₃ ⟨_, mn, mw, v', S', hl', hk'⟩
      refine tm_nil ⟨rfl, v', S', by omega, fun s hs => ?_⟩
      have := hk' s hs
      omega
  · rintro fix σ₁ ⟨rfl, v, S, _⟩
    exact (k σ₁ b v S A).at
end
end Mine
open PySem PySem.W PySem.Calls PyProof.Rows
set_option Elab.async false
set_option maxRecDepth 100000
set_option maxHeartbeats 4000000
set_option linter.unusedVariables false
namespace Mine

/-- two lists, place by place -/
inductive F2 {α β : Type} (R : α → β → Prop) : List α → List β → Prop
  | nil : F2 R [] []
  | cons {a : α} {b : β} {as : List α} {bs : List β} : R a b → F2 R as bs → F2 R (a :: as) (b :: bs)
section
variable {α β : Type} {R R' : α → β → Prop}
theorem F2.imp (h : ∀ a b, R a b → R' a b) : ∀ {as : List α} {bs : List β}, F2 R as bs → F2 R' as bs
  | _, _, .nil => .nil
  | _, _, .cons x r => .cons (h _ _ x) (F2.imp h r)
theorem F2.append : ∀ {as cs : List α} {bs ds : List β}, F2 R as bs → F2 R cs ds → F2 R (as ++ cs) (bs ++ ds)
  | _, _, _, _, .nil, h => h
  | _, _, _, _, .cons x r, h => .cons x (F2.append r h)
theorem F2.length : ∀ {as : List α} {bs : List β}, F2 R as bs → as.length = bs.length
  | _, _, .nil => rfl
  | _, _, .cons _ r => by rw [List.length_cons, List.length_cons, F2.length r]
theorem F2.reverse : ∀ {as : List α} {bs : List β}, F2 R as bs → F2 R as.reverse bs.reverse
  | _, _, .nil => .nil
  | _, _, .cons x r => by rw [List.reverse_cons, List.reverse_cons]; exact F2.append (F2.reverse r) (.cons x .nil)
theorem F2.get : ∀ {as : List α} {bs : List β}, F2 R as bs → ∀ {i : Nat} {a : α}, as[i]? = some a → ∃ b, bs[i]? = some b ∧ R a b
  | _, _, .nil, i, a, h => by simp at h
  | _, _, .cons x r, 0, a, h => by cases h; exact ⟨_, rfl, x⟩
  | _, _, .cons x r, i + 1, a, h => by simpa using F2.get r (by simpa using h)
theorem F2.get' : ∀ {as : List α} {bs : List β}, F2 R as bs → ∀ {i : Nat} {b : β}, bs[i]? = some b → ∃ a, as[i]? = some a ∧ R a b
  | _, _, .nil, i, a, h => by simp at h
  | _, _, .cons x r, 0, a, h => by cases h; exact ⟨_, rfl, x⟩
  | _, _, .cons x r, i + 1, a, h => by simpa using F2.get' r (by simpa using h)
end

def tupO (vs : List Value) : Obj := { cls := .type "tuple", data := .seq vs.toArray }
def LookAt (n : Led) (v : Value) (q : Int × Str) : Prop := ∃ T t t', v = .ref T ∧ (T, tupO [.int q.1 t, .str q.2 t']) ∈ n
def LookOk (q : Int × Str) : Prop := (q.1 = 0 ∨ q.1 = 1 ∨ q.1 = 2 ∨ q.1 = 3) ∧ q.2.length ≤ 10
theorem LookAt.mono {n n' : Led} {v : Value} {q : Int × Str} (h : ∀ p ∈ n, p ∈ n') (l : LookAt n v q) : LookAt n' v q := by
  obtain ⟨T, t, t', e, m⟩ := l; exact ⟨T, t, t', e, h _ m⟩

structure DT where
  T : Nat → TF
  nt : Nat → Led
  TL : Addr
structure St2 (G : Gx) (b : DB) (v : DV) (u : DT) (σ : Sg) : Prop extends St1 G b v σ where
  c4 : σ.c "trees" = some (.ref u.TL)
  n4 : (u.TL, listOf [Value.ref ((u.T 0).na []), .ref ((u.T 1).na [])].toArray 0) ∈ σ.n
  tt : ∀ s, s < 2 → TreeF (SK G) (u.nt s) (u.T s) ∧ TreeIs (u.T s) (v.kv s) ∧ ∀ p ∈ u.nt s, p ∈ σ.n
theorem St2.mono {G : Gx} {b : DB} {v : DV} {u : DT} {σ σ' : Sg} (S : St2 G b v u σ) (h1 : σ'.m "numbers" = σ.m "numbers") (h2 : σ'.m "words" = σ.m "words") (h3 : σ'.m "data" = σ.m "data") (h4 : σ'.c "trees" = σ.c "trees") (h : ∀ p ∈ σ.n, p ∈ σ'.n) : St2 G b v u σ' :=
  ⟨S.toSt1.mono h1 h2 h3 h, h4.trans S.c4, h _ S.n4, fun s hs => ⟨(S.tt s hs).1, (S.tt s hs).2.1, fun p hp => h _ ((S.tt s hs).2.2 p hp)⟩⟩

structure DL where
  l : Addr
  vs : List Value
  lk : List (Int × Str)
structure St3 (G : Gx) (b : DB) (v : DV) (u : DT) (z : DL) (σ : Sg) : Prop extends St2 G b v u σ where
  m5 : σ.m "looks" = some (.ref z.l)
  n5 : (z.l, listOf z.vs.toArray 0) ∈ σ.n
  l5 : F2 (LookAt σ.n) z.vs z.lk
  k5 : z.lk.length ≤ 40 ∧ ∀ q ∈ z.lk, LookOk q

section
variable {prog : Program} {w : World} {h₀ : Heap} {fa : Addr} {cd : Value} {σ : Sg} {R : Flow → Sg → Prop}

theorem ph2 (O : Ok (LG prog w h₀ fa cd) 12) {b : DB} {v : DV} (S : St1 (LG prog w h₀ fa cd) b v σ)
    (k : ∀ σ u, St2 (LG prog w h₀ fa cd) b v u σ → Rest prog w h₀ fa cd 5 R σ) : Rest prog w h₀ fa cd 4 R σ := by
  refine Rest.mk ?_
  have kT : nsIn (KK w) mainGlobals "_law_tree" = some (some (.ref 99)) := by rfl
  have kk : keepIn (KK w) (.ref 99) = true := by rfl
  have one : ∀ {σ' : Sg} {s : Nat} {np sp q1 q2 pos : Pos} {k1 : Nat}, s < 2 → St1 (LG prog w h₀ fa cd) b v σ' → Tm (LG prog w h₀ fa cd) σ' (eval (.Call (.Name "_law_tree" np) [.Subscript (.Name "data" q1) (.Constant (.int (s : Int)) k1 q2) sp] [] pos) (LG prog w h₀ fa cd).env)
      (fun x σ'' => ∃ nw t, x = .ref (t.na []) ∧ σ'' = { σ' with n := nw ++ σ'.n } ∧ TreeF (SK (LG prog w h₀ fa cd)) nw t ∧ TreeIs t (v.kv s)) := fun {σ' s np sp q1 q2 pos k1} hs S' => by
    obtain ⟨d1, d2, d3⟩ := S'.dd s hs
    obtain ⟨kz, kI, kw⟩ := S'.kk s hs
    refine tm_callK O (tr_glob O kT) kk (Tr.m (tr_arg1 (P := IsV (.ref (b.D s))) (tr_sub_ (tr_name O S'.m3) (tr_int (i := (s : Int))) fun a b' ha hb => tr_item (x := .ref (b.D s)) (ent_list S'.n3) ha hb (by omega) (by omega) (pair_get hs)))) fun vs σ'' p => ?_
    obtain ⟨rfl, x, rfl, rfl⟩ := p
    obtain ⟨_, _, _, _, _, _, hnd⟩ := id d2
    exact Tm.mono (tree_fn (d := 10) rfl O (ent_dict d1 d2) d3 hnd kz fun q hq => (kw q hq).1) fun x σ'' ⟨nw, t, h1, h2, h3, h4, _⟩ => ⟨nw, t, h1, h2, h3, h4⟩
  refine seq_assignC O (a := h₀.objs.size + 1) rfl (none_above (Nat.le_succ _)) (tm_list (P := fun vs σ' => ∃ t0 t1 w0 w1, vs = [.ref (t0.na []), .ref (t1.na [])] ∧ σ' = { σ with n := w1 ++ (w0 ++ σ.n) } ∧ TreeF (SK (LG prog w h₀ fa cd)) w0 t0 ∧ TreeIs t0 (v.kv 0) ∧ TreeF (SK (LG prog w h₀ fa cd)) w1 t1 ∧ TreeIs t1 (v.kv 1))
    (R := fun x σ' => ∃ L t0 t1 w0 w1, x = .ref L ∧ σ' = Sg.mk σ.m σ.c ((L, listOf [Value.ref (t0.na []), .ref (t1.na [])].toArray 0) :: (w1 ++ (w0 ++ σ.n))) ∧ TreeF (SK (LG prog w h₀ fa cd)) w0 t0 ∧ TreeIs t0 (v.kv 0) ∧ TreeF (SK (LG prog w h₀ fa cd)) w1 t1 ∧ TreeIs t1 (v.kv 1)) ?_ (fun vs σ' l p _ => ?_) (by simp) fun vs σ' p => ?_) fun x σ₁ p => ?_
  · refine tm_arg (one (s := 0) (by decide) S) fun x σ' p => ?_
    obtain ⟨w0, t0, rfl, rfl, T0, I0⟩ := p
    refine tm_arg (one (s := 1) (by decide) (S.mono rfl rfl rfl fun p hp => List.mem_append_right _ hp)) fun x σ' p => ?_
    obtain ⟨w1, t1, rfl, rfl, T1, I1⟩ := p
    refine Tm.mono (Tr.m tr_args0) fun vs σ'' q => ?_
    obtain ⟨rfl, rfl⟩ := q
    exact ⟨t0, t1, w0, w1, rfl, rfl, T0, I0, T1, I1⟩
  · obtain ⟨t0, t1, w0, w1, rfl, rfl, h⟩ := p
    exact ⟨l, t0, t1, w0, w1, rfl, rfl, h⟩
  · obtain ⟨t0, t1, w0, w1, rfl, _⟩ := p; simp
  obtain ⟨L, t0, t1, w0, w1, rfl, rfl, T0, I0, T1, I1⟩ := p
  refine Rest.at (i := 5) ?_
  refine k _ ⟨fun s => if s = 0 then t0 else t1, fun s => if s = 0 then w0 else w1, L⟩ ⟨S.mono rfl rfl rfl fun p hp => .tail _ (List.mem_append_right _ (List.mem_append_right _ hp)), rfl, .head _, fun s hs => ?_⟩
  match s, hs with
  | 0, _ => exact ⟨T0, I0, fun p hp => .tail _ (List.mem_append_right _ (List.mem_append_left _ hp))⟩
  | 1, _ => exact ⟨T1, I1, fun p hp => .tail _ (List.mem_append_left _ hp)⟩

/-- (k, x) -/
theorem tm_look {G : Gx} {σ : Sg} {e f : Expr} {m : Nat} {pos : Pos} {i : Int} {x : Str} (he : Tr G σ (eval e G.env) (IsI i)) (hf : Tr G σ (eval f G.env) (IsS x)) (hs : starEach [e, f] G.env = [(false, eval e G.env), (false, eval f G.env)] := by rfl) (hs' : starEach [f] G.env = [(false, eval f G.env)] := by rfl) :
    Tm G σ (eval (.Tuple [e, f] m pos) G.env) (fun v σ' => ∃ T t t', v = .ref T ∧ σ' = { σ with n := (T, tupO [.int i t, .str x t']) :: σ.n }) :=
  tm_tuple (Tr.m (tr_arg2 he hf hs hs')) (fun vs σ' l p _ => by obtain ⟨rfl, a, b, rfl, ⟨t, rfl⟩, ⟨t', rfl⟩⟩ := p; exact ⟨l, t, t', rfl, rfl⟩) fun vs σ' p => by obtain ⟨rfl, a, b, rfl, _⟩ := p; simp

/-- [(k, x), (k, x), (k, x)] -/
theorem tm_looks3 {G : Gx} {σ : Sg} {e1 f1 e2 f2 e3 f3 : Expr} {m1 m2 m3 : Nat} {p1 p2 p3 pos : Pos} {i1 i2 i3 : Int} {x1 x2 x3 : Str} (h1 : Tr G σ (eval e1 G.env) (IsI i1)) (g1 : Tr G σ (eval f1 G.env) (IsS x1)) (h2 : ∀ nw, Tr G { σ with n := nw ++ σ.n } (eval e2 G.env) (IsI i2)) (g2 : ∀ nw, Tr G { σ with n := nw ++ σ.n } (eval f2 G.env) (IsS x2))
    (h3 : ∀ nw, Tr G { σ with n := nw ++ σ.n } (eval e3 G.env) (IsI i3)) (g3 : ∀ nw, Tr G { σ with n := nw ++ σ.n } (eval f3 G.env) (IsS x3))
    (s1 : starEach [.Tuple [e1, f1] m1 p1, .Tuple [e2, f2] m2 p2, .Tuple [e3, f3] m3 p3] G.env = (false, eval (.Tuple [e1, f1] m1 p1) G.env) :: starEach [.Tuple [e2, f2] m2 p2, .Tuple [e3, f3] m3 p3] G.env := by rfl)
    (s2 : starEach [.Tuple [e2, f2] m2 p2, .Tuple [e3, f3] m3 p3] G.env = (false, eval (.Tuple [e2, f2] m2 p2) G.env) :: starEach [.Tuple [e3, f3] m3 p3] G.env := by rfl) (s3 : starEach [.Tuple [e3, f3] m3 p3] G.env = (false, eval (.Tuple [e3, f3] m3 p3) G.env) :: starEach [] G.env := by rfl)
    (q1 : starEach [e1, f1] G.env = [(false, eval e1 G.env), (false, eval f1 G.env)] := by rfl) (q1' : starEach [f1] G.env = [(false, eval f1 G.env)] := by rfl) (q2 : starEach [e2, f2] G.env = [(false, eval e2 G.env), (false, eval f2 G.env)] := by rfl) (q2' : starEach [f2] G.env = [(false, eval f2 G.env)] := by rfl)
    (q3 : starEach [e3, f3] G.env = [(false, eval e3 G.env), (false, eval f3 G.env)] := by rfl) (q3' : starEach [f3] G.env = [(false, eval f3 G.env)] := by rfl) :
    Tm G σ (eval (.List [.Tuple [e1, f1] m1 p1, .Tuple [e2, f2] m2 p2, .Tuple [e3, f3] m3 p3] pos) G.env) (fun v σ' => ∃ l vs nw, v = .ref l ∧ σ' = { σ with n := nw ++ σ.n } ∧ (l, listOf (List.toArray vs) 0) ∈ nw ∧ F2 (LookAt nw) vs [(i1, x1), (i2, x2), (i3, x3)]) := by
  refine tm_list (P := fun vs σ' => ∃ nw, σ' = { σ with n := nw ++ σ.n } ∧ F2 (LookAt nw) vs [(i1, x1), (i2, x2), (i3, x3)]) ?_ (fun vs σ' l p _ => ?_) (by simp) fun vs σ' p => ?_
  · refine tm_arg (tm_look h1 g1 q1 q1') (fun v σ' p => ?_) s1
    obtain ⟨T1, t1, t1', rfl, rfl⟩ := p
    refine tm_arg (tm_look (h2 [_]) (g2 [_]) q2 q2') (fun v σ' p => ?_) s2
    obtain ⟨T2, t2, t2', rfl, rfl⟩ := p
    refine tm_arg (tm_look (h3 [_, _]) (g3 [_, _]) q3 q3') (fun v σ' p => ?_) s3
    obtain ⟨T3, t3, t3', rfl, rfl⟩ := p
    refine Tm.mono (Tr.m tr_args0) fun vs σ'' q => ?_
    obtain ⟨rfl, rfl⟩ := q
    exact ⟨[(T3, tupO [.int i3 t3, .str x3 t3']), (T2, tupO [.int i2 t2, .str x2 t2']), (T1, tupO [.int i1 t1, .str x1 t1'])], rfl, .cons ⟨T1, t1, t1', rfl, .tail _ (.tail _ (.head _))⟩ (.cons ⟨T2, t2, t2', rfl, .tail _ (.head _)⟩ (.cons ⟨T3, t3, t3', rfl, .head _⟩ .nil))⟩
  · obtain ⟨nw, rfl, h⟩ := p
    exact ⟨l, vs, (l, listOf (List.toArray vs) 0) :: nw, rfl, rfl, .head _, h.imp fun a b x => x.mono fun p hp => .tail _ hp⟩
  · obtain ⟨nw, rfl, h⟩ := p
    rw [h.length]; simp

theorem ph3 (O : Ok (LG prog w h₀ fa cd) 12) {b : DB} {v : DV} {u : DT} (S : St2 (LG prog w h₀ fa cd) b v u σ)
    (k : ∀ σ z, St3 (LG prog w h₀ fa cd) b v u z σ → Rest prog w h₀ fa cd 7 R σ) : Rest prog w h₀ fa cd 5 R σ := by
  refine Rest.mk ?_
  have ke : nsIn (KK w) mainGlobals "enumerate" = some none := by rfl
  have kl : nsIn (KK w) mainGlobals "len" = some none := by rfl
  have kE : nsIn (KK w) mainGlobals "_law_ENDS" = some (some (.ref 85)) := by rfl
  have kkE : keepIn (KK w) (.ref 85) = true := by rfl
  refine @seq_assign _ _ _ O _ _ _ _ _ _ _ (tm_looks3 (i1 := 0) (x1 := "") (i2 := 1) (x2 := "") (i3 := 2) (x3 := "") tr_int tr_str (fun _ => tr_int) (fun _ => tr_str) (fun _ => tr_int) fun _ => tr_str) (fun x σ₁ p => ?_) rfl rfl
  obtain ⟨l0, vs0, nw0, rfl, rfl, hm0, hF0⟩ := p
  have hnum := strs_len S.i2
  have hil := S.i1.length
  have hl10 := S.l1
  refine seq (tm_for (src_enum O ke rfl (tr_name O S.m1) (Fx.one (List.mem_append_right _ S.n1)) (lst_of (its := b.nv.toArray) (n := b.nn)) rfl rfl)
    (fun fix i σ' => fix = [(b.nl, listOf b.nv.toArray b.nn)] ∧ ∃ z, St3 (LG prog w h₀ fa cd) b v u z σ' ∧ z.lk.length = 3 + 3 * i) ?_ ?_ ?_ ?_)
  · rintro σ₁ fix ⟨rfl, rfl⟩
    refine ⟨rfl, ⟨l0, vs0, _⟩, ⟨S.mono rfl rfl rfl rfl fun p hp => List.mem_append_right _ hp, rfl, List.mem_append_left _ hm0, hF0.imp fun a b x => x.mono fun p hp => List.mem_append_left _ hp, by simp, fun q hq => ?_⟩, rfl⟩
    simp only [List.mem_cons, List.mem_nil_iff, or_false] at hq
    rcases hq with rfl | rfl | rfl
    · exact ⟨.inl rfl, by decide⟩
    · exact ⟨.inr (.inl rfl), by decide⟩
    · exact ⟨.inr (.inr (.inl rfl)), by decide⟩
  · rintro fix i σ' ⟨rfl, z, S', _⟩; exact Fx.one S'.n1
  · rintro fix i σ₁ σ₂ hi' ⟨rfl, z, S', hlk⟩ ⟨ti, vn, hvn, rfl⟩ _
    obtain ⟨n, tn, rfl, hn⟩ := ints_get S.i1 i vn (by simpa using hvn)
    have hi10 : i < 10 := by
      have h1 : i < b.nv.length := by simpa using hi'
      omega
    have hsz : v.wv.toArray.size = v.ws.length := by simp [hnum]
    have hpos := S.l2.2.1
    have hw9 := S.l2.1
    -- head
    have hq0 : 0 ≤ (n.fdiv 5 + (i : Int)).fmod (v.wv.toArray.size : Int) := Int.fmod_nonneg_of_pos _ (by omega)
    have hq1 : (n.fdiv 5 + (i : Int)).fmod (v.wv.toArray.size : Int) < v.wv.toArray.size := Int.fmod_lt_of_pos _ (by omega)
    generalize hq : (n.fdiv 5 + (i : Int)).fmod (v.wv.toArray.size : Int) = q at hq0 hq1
    obtain ⟨sw, hsw⟩ : ∃ s, v.ws[q.toNat]? = some s := ⟨_, List.getElem?_eq_getElem (by omega)⟩
    obtain ⟨tw, htw⟩ := strs_get S.i2 _ sw hsw
    have lsw : sw.length ≤ 5 := (S.l2.2.2 sw (List.mem_of_getElem? hsw)).1
    have hj0 : 0 ≤ (n.fdiv 3).fmod 5 := Int.fmod_nonneg_of_pos _ (by decide)
    have hj1 : (n.fdiv 3).fmod 5 < 5 := Int.fmod_lt_of_pos _ (by decide)
    generalize hj : (n.fdiv 3).fmod 5 = j at hj0 hj1
    have lhead : (Txt.slice sw none (some j)).length ≤ 5 := by
      rw [← lw_length, slice_to hj0, List.length_take]
      omega
    refine seq_assign O (Tr.m (tr_cutTo (x := sw) (j := j) (tr_sub_ (tr_name O S'.m2) (Pb := IsI q) (by
          rw [← hq]
          exact tr_mod (tr_add (tr_div (tr_nameI O rfl) tr_int (by decide) (PyProof.noPylong_small (by decide))) (tr_nameI O rfl)) (tr_fn1 O kl (id := "len") (by decide +kernel) rfl (tr_name O S'.m2) (R := IsI v.wv.toArray.size) fun v e => by subst e; exact tr_len_list (ent_list S'.n2) (by omega)) (by omega)) fun a b ha hb => Tr.mono (tr_item (x := .str sw tw) (ent_list S'.n2) ha hb (by omega) (by omega) (by simpa using htw)) fun v e => ⟨tw, e⟩)
        (by
          rw [← hj]
          exact tr_mod (tr_div (tr_nameI O rfl) tr_int (by decide) (PyProof.noPylong_small (by decide))) tr_int (by decide)) (by rw [sizeLine_eq]; omega))) fun x σ' p => ?_
    obtain ⟨rfl, th, rfl⟩ := p
    generalize Txt.slice sw none (some j) = head at lhead
    -- tail
    have hr0 : 0 ≤ (n.fdiv 2 + (i : Int)).fmod (v.wv.toArray.size : Int) := Int.fmod_nonneg_of_pos _ (by omega)
    have hr1 : (n.fdiv 2 + (i : Int)).fmod (v.wv.toArray.size : Int) < v.wv.toArray.size := Int.fmod_lt_of_pos _ (by omega)
    generalize hr : (n.fdiv 2 + (i : Int)).fmod (v.wv.toArray.size : Int) = r at hr0 hr1
    obtain ⟨su, hsu⟩ : ∃ s, v.ws[r.toNat]? = some s := ⟨_, List.getElem?_eq_getElem (by omega)⟩
    obtain ⟨tu, htu⟩ := strs_get S.i2 _ su hsu
    have lsu : su.length ≤ 5 := (S.l2.2.2 su (List.mem_of_getElem? hsu)).1
    have he0 : 0 ≤ (n.fdiv 6).fmod 4 := Int.fmod_nonneg_of_pos _ (by decide)
    have he1 : (n.fdiv 6).fmod 4 < 4 := Int.fmod_lt_of_pos _ (by decide)
    generalize he : (n.fdiv 6).fmod 4 = e at he0 he1
    obtain ⟨se, hse⟩ : ∃ s, endsL[e.toNat]? = some s := ⟨_, List.getElem?_eq_getElem (by show e.toNat < 4; omega)⟩
    have lse : se.length ≤ 2 := by
      have := List.mem_of_getElem? hse
      revert this
      unfold endsL
      intro h
      simp only [List.mem_cons, List.mem_nil_iff, or_false] at h
      rcases h with rfl | rfl | rfl | rfl <;> decide
    refine seq_assign O (Tr.m (tr_cat (tr_sub_ (tr_name O S'.m2) (Pb := IsI r) (by
          rw [← hr]
          exact tr_mod (tr_add (tr_div (tr_nameI O rfl) tr_int (by decide) (PyProof.noPylong_small (by decide))) (tr_nameI O rfl)) (tr_fn1 O kl (id := "len") (by decide +kernel) rfl (tr_name O S'.m2) (R := IsI v.wv.toArray.size) fun v e => by subst e; exact tr_len_list (ent_list S'.n2) (by omega)) (by omega)) fun a b ha hb => Tr.mono (tr_item (x := .str su tu) (ent_list S'.n2) ha hb (by omega) (by omega) (by simpa using htu)) fun v e => ⟨tu, e⟩)
        (tr_itemA (k := e) (tm_callK0 O (tr_glob O kE) kkE (Tm.mono (ends_fn rfl O) fun v σ' ⟨nw', l, n', vs, h1, h2, h3, h4⟩ => by
            obtain ⟨te, hte⟩ := strs_get h4 _ se hse
            exact ⟨nw', l, n', vs, h1, h2, h3, _, hte, te, rfl⟩)) (fun nw' => by
          rw [← he]
          exact tr_mod (tr_div (tr_nameI O rfl) tr_int (by decide) (PyProof.noPylong_small (by decide))) tr_int (by decide)) he0 (by omega)) (by rw [sizeLine_eq]; omega))) fun x σ' p => ?_
    obtain ⟨rfl, tt, rfl⟩ := p
    have ltail : (su ++ se).length ≤ 7 := by rw [← lw_length, lw_append, List.length_append, lw_length, lw_length]; omega
    generalize su ++ se = tail at ltail
    -- looks + [..]
    have hk0 : 0 ≤ (n + (i : Int)).fmod 3 := Int.fmod_nonneg_of_pos _ (by decide)
    have hk1 : (n + (i : Int)).fmod 3 < 3 := Int.fmod_lt_of_pos _ (by decide)
    generalize hk : (n + (i : Int)).fmod 3 = kk at hk0 hk1
    have hb0 : 0 ≤ (n.fdiv 9).fmod 2 := Int.fmod_nonneg_of_pos _ (by decide)
    have hb1 : (n.fdiv 9).fmod 2 < 2 := Int.fmod_lt_of_pos _ (by decide)
    generalize hb : (n.fdiv 9).fmod 2 = bb at hb0 hb1
    let τ : Sg := Sg.mk (put (put (put (put σ₁.m "place" (.int i ti)) "n" (.int n tn)) "head" (.str head th)) "tail" (.str tail tt)) σ₁.c σ₁.n
    have hlz := S'.l5.length
    refine seq_assign O (tm_binop (Pa := fun x σ' => σ' = τ ∧ x = .ref z.l) (Pb := fun x y σ' => x = .ref z.l ∧ ∃ l vs nw, y = .ref l ∧ σ' = { τ with n := nw ++ τ.n } ∧ (l, listOf (List.toArray vs) 0) ∈ nw ∧ F2 (LookAt nw) vs [(0, head), (0, tail), (1 + kk, if bb = 0 then head else tail)])
      (R := fun x σ' => ∃ l' us nw, x = .ref l' ∧ σ' = { τ with n := (l', listOf (z.vs ++ us).toArray 0) :: (nw ++ τ.n) } ∧ F2 (LookAt nw) us [(0, head), (0, tail), (1 + kk, if bb = 0 then head else tail)])
      (Tr.m (tr_name O S'.m5)) (fun x σ' p => ?_) fun x y σ' p => ?_) fun x σ' p => ?_
    · obtain ⟨rfl, rfl⟩ := p
      refine Tm.mono (tm_looks3 (i1 := 0) (x1 := head) (i2 := 0) (x2 := tail) (i3 := 1 + kk) (x3 := if bb = 0 then head else tail) tr_int (tr_nameP (P := IsS head) O rfl ⟨th, rfl⟩) (fun _ => tr_int) (fun _ => tr_nameP (P := IsS tail) O rfl ⟨tt, rfl⟩) (fun nw => ?_) fun nw => ?_) fun y σ' p => ⟨rfl, p⟩
      · rw [← hk]
        exact tr_add tr_int (tr_mod (tr_add (tr_nameI O rfl) (tr_nameI O rfl)) tr_int (by decide))
      · refine tr_display (k := bb) (tr_arg2 (tr_nameP (P := IsS head) O rfl ⟨th, rfl⟩) (tr_nameP (P := IsS tail) O rfl ⟨tt, rfl⟩)) (fun vs p => ?_) (fun nw' => ?_) hb0 (by omega) (by simp)
        · obtain ⟨x, y, rfl, hx, hy⟩ := p
          refine ⟨by simp, ?_⟩
          have hc : bb = 0 ∨ bb = 1 := by omega
          rcases hc with rfl | rfl
          · exact ⟨x, rfl, hx⟩
          · exact ⟨y, rfl, hy⟩
        · rw [← hb]
          exact tr_mod (tr_div (tr_nameI O rfl) tr_int (by decide) (PyProof.noPylong_small (by decide))) tr_int (by decide)
    · obtain ⟨rfl, l, us, nw, rfl, rfl, hm, hF⟩ := p
      refine Tm.mono (tm_addList (fun own h c => c.get (List.mem_append_right _ S'.n5)) (fun own h c => c.get (List.mem_append_left _ hm)) rfl rfl (by have := hF.length; have := S'.k5.1; simp at *; omega)) fun x σ' p => ?_
      obtain ⟨l', rfl, rfl, _⟩ := p
      exact ⟨l', us, nw, rfl, rfl, hF⟩
    · obtain ⟨l', us, nw, rfl, rfl, hF⟩ := p
      refine tm_nil ⟨rfl, ⟨l', z.vs ++ us, z.lk ++ [(0, head), (0, tail), (1 + kk, if bb = 0 then head else tail)]⟩, ⟨S'.toSt2.mono rfl rfl rfl rfl fun p hp => .tail _ (List.mem_append_right _ hp), rfl, .head _, ?_, ?_, ?_⟩, ?_⟩
      · exact F2.append (S'.l5.imp fun a b x => x.mono fun p hp => .tail _ (List.mem_append_right _ hp)) (hF.imp fun a b x => x.mono fun p hp => .tail _ (List.mem_append_left _ hp))
      · simp [hlk]; omega
      · intro q hq
        rcases List.mem_append.mp hq with hq | hq
        · exact S'.k5.2 q hq
        · simp only [List.mem_cons, List.mem_nil_iff, or_false] at hq
          rcases hq with rfl | rfl | rfl
          · exact ⟨.inl rfl, by show head.length ≤ 10; omega⟩
          · exact ⟨.inl rfl, by show tail.length ≤ 10; omega⟩
          · refine ⟨by show 1 + kk = 0 ∨ 1 + kk = 1 ∨ 1 + kk = 2 ∨ 1 + kk = 3; omega, ?_⟩
            show (if bb = 0 then head else tail).length ≤ 10
            split <;> omega
      · simp [hlk]; omega
  · rintro fix σ₁ ⟨rfl, z, S', _⟩
    exact (k σ₁ z S').at
end
end Mine
open PySem PySem.W PySem.Calls PyProof.Rows
set_option Elab.async false
set_option maxRecDepth 100000
set_option maxHeartbeats 4000000
set_option linter.unusedVariables false
namespace Mine

def AskAt (kv : Nat → List (Str × Value)) (n : Led) (v : Value) (q : Int × Str) : Prop :=
  ∃ T t t' D ys n', v = .ref T ∧ (T, tupO [.int q.1 t, .str q.2 t', .ref D]) ∈ n ∧ (D, listOf (List.toArray ys) n') ∈ n ∧ ys.length = 2 ∧ ∀ (s : Nat) y, ys[s]? = some y → Rep n y (due (kv s) q.1 q.2)
theorem AskAt.mono {kv : Nat → List (Str × Value)} {n n' : Led} {v : Value} {q : Int × Str} (h : ∀ p ∈ n, p ∈ n') (l : AskAt kv n v q) : AskAt kv n' v q := by
  obtain ⟨T, t, t', D, ys, m, e, h1, h2, h3, h4⟩ := l
  exact ⟨T, t, t', D, ys, m, e, h _ h1, h _ h2, h3, fun s y hy => (h4 s y hy).mono h⟩

structure DA where
  al : Addr
  av : List Value
  an : Nat
structure St4 (G : Gx) (b : DB) (v : DV) (u : DT) (z : DL) (a : DA) (σ : Sg) : Prop extends St3 G b v u z σ where
  m6 : σ.m "asked" = some (.ref a.al)
  n6 : (a.al, listOf a.av.toArray a.an) ∈ σ.n
  l6 : F2 (AskAt v.kv σ.n) a.av z.lk

section
variable {prog : Program} {w : World} {h₀ : Heap} {fa : Addr} {cd : Value} {σ : Sg} {R : Flow → Sg → Prop}

theorem tr_nameCX {G : Gx} {σ : Sg} {d : Nat} (O : Ok G d) {x : Str} {pos : Pos} {v : Value} {a : Addr} {P : Value → Prop} (ha : G.env.cells.lookup x = some a) (hv : σ.c x = some v) (hp : P v) (hx : G.env.kindOf x = some .cell := by rfl) (hd : (x == ("__debug__" : Str)) = false := by decide) :
    Tr G σ (eval (.Name x pos) G.env) P := tr_nameCP O ha hv hp hx hd

theorem ph4 (O : Ok (LG prog w h₀ fa cd) 12) {b : DB} {v : DV} {u : DT} {z : DL} (S : St3 (LG prog w h₀ fa cd) b v u z σ)
    (k : ∀ σ a, St4 (LG prog w h₀ fa cd) b v u z a σ → Rest prog w h₀ fa cd 8 R σ) : Rest prog w h₀ fa cd 7 R σ := by
  refine Rest.mk ?_
  have kT : nsIn (KK w) mainGlobals "_law_told" = some (some (.ref 104)) := by rfl
  have kk : keepIn (KK w) (.ref 104) = true := by rfl
  have hzl := S.l5.length
  have hz40 := S.k5.1
  refine tm_next (tm_assignComp2 O (x₁ := "kind") (x₂ := "word") (csrc_list2 O (its := z.vs.toArray) (Pm := fun i σ' σ'' => ∃ k x t t', z.lk[i]? = some (k, x) ∧ σ'' = { σ' with c := put (put σ'.c "kind" (.int k t)) "word" (.str x t') })
      (T := fun env' h₁ => ∃ a1 a2, env'.cells.lookup ("kind" : Str) = some a1 ∧ env'.cells.lookup ("word" : Str) = some a2 ∧ h₁.get? a1 = none ∧ h₁.get? a2 = none ∧ env'.kindOf "kind" = some .cell ∧ env'.kindOf "word" = some .cell)
      (Tm.mono (Tr.m (tr_name O S.m5)) fun x σ' p => ⟨⟨[], p.1⟩, z.l, listOf z.vs.toArray 0, p.2, Fx.one (by rw [p.1]; exact S.n5), lst_of⟩) (fun I l i s x Q E hit hx qq => ?_) fun own h₁ env' d l o i x σ₁ nw c T' O' hx hf => ?_)
      (fun C h₁ n1 n2 => ⟨C + 1, C + 2, rfl, rfl, n1, n2, rfl, rfl⟩) rfl (lookup_all fun p hp => ?_) (fun b => by cases b with | zero => exact .inr rfl | succ b => exact .inl rfl) (fun _ => rfl) (by decide) rfl rfl rfl (by decide) (fun _ => rfl)
      (fun i ys led => F2 (AskAt v.kv (led ++ σ.n)) ys (z.lk.take i)) (by rw [List.take_zero]; exact .nil) (fun i ys m₁ σ₁ own h₁ C hi hys inv hcells c₁ nc1 nc2 O' pm => ?_) (by simp; omega) rfl rfl) fun σ₁ p => ?_
  · obtain ⟨q, hq, T, t, t', rfl, _⟩ := S.l5.get (show z.vs[i - 1]? = some x by simpa using hx)
    exact wpAny_letOwnedTupleGo_listiter hit qq
  · obtain ⟨a1, a2, l1, l2, n1, n2, k1, k2⟩ := T'
    obtain ⟨q, hq, T, t, t', rfl, hm⟩ := S.l5.get (show z.vs[i]? = some x by simpa using hx)
    exact fun own' s Q E c' k' => to_tupleC (G := CG (LG prog w h₀ fa cd) h₁ env') O' c' ⟨_, c'.F.keep _ _ (c.get (List.mem_append_right _ hm)), rfl, 0, rfl⟩ l1 l2 n1 n2 k1 k2 (k := fun h' tk' c'' => k' () _ h' tk' ⟨⟨q.1, q.2, t, t', hq, rfl⟩, rfl⟩ c'')
  · obtain rfl := List.mem_singleton.mp hp; rfl
  · obtain ⟨kd, x, t, t', hq, rfl⟩ := pm
    have hok := S.k5.2 _ (List.mem_of_getElem? hq)
    have ct : (Sg.mk m₁.m (put (put m₁.c "kind" (.int kd t)) "word" (.str x t')) m₁.n).c "trees" = some (Value.ref u.TL) := (hcells "trees" _ rfl).trans S.c4
    have keep : ∀ p ∈ σ.n, h₁.get? p.1 = some p.2 := fun p hp => c₁.get hp
    refine ct_none (tm_tuple (P := fun vs σ' => ∃ D ys n' led, vs = [.int kd t, .str x t', .ref D] ∧ σ' = Sg.mk m₁.m (put (put m₁.c "kind" (.int kd t)) "word" (.str x t')) ((D, listOf (List.toArray ys) n') :: (led ++ m₁.n)) ∧ ys.length = 2 ∧ ∀ (s : Nat) y, ys[s]? = some y → Rep (led ++ σ.n) y (due (v.kv s) kd x)) ?_ (fun vs σ' l p _ => ?_) fun vs σ' p => ?_)
    · refine tm_arg (Tr.m (tr_nameC O' (a := C + 1) (v := .int kd t) rfl rfl)) fun y σ' p => ?_
      obtain ⟨rfl, rfl⟩ := p
      refine tm_arg (Tr.m (tr_nameC O' (a := C + 2) (v := .str x t') rfl rfl)) fun y σ' p => ?_
      obtain ⟨rfl, rfl⟩ := p
      refine tm_arg (tm_comp O' (csrc_list O' (target := .Name "tree" _) (its := #[Value.ref ((u.T 0).na []), .ref ((u.T 1).na [])]) (Pm := toN "tree" (fun i y => ([Value.ref ((u.T 0).na []), .ref ((u.T 1).na [])])[i]? = some y)) (T := fun env => env.kindOf "tree" = some .local)
          (Tm.mono (Tr.m (tr_nameC O' (v := .ref u.TL) rfl ct)) fun y σ' p => ⟨⟨[], p.1⟩, u.TL, listOf [Value.ref ((u.T 0).na []), .ref ((u.T 1).na [])].toArray 0, p.2, Fx.old (keep _ S.n4), lst_of⟩) (fun I l i s y Q E _ _ q => wpAny_pure q)
          (fun own h₁ env' d l o i y σ₁ nw c T' O' hy hf => has_toN (G := CG _ h₁ env') (P := fun i y => ([Value.ref ((u.T 0).na []), .ref ((u.T 1).na [])])[i]? = some y) O' T' i y σ₁ (by simpa using hy) hf))
        (fun C => rfl) rfl (lookup_all fun p hp => ?_) (by decide) rfl (by decide) (fun _ => rfl)
        (fun i ys led => ys.length = i ∧ ∀ (s : Nat) y, ys[s]? = some y → Rep (led ++ σ.n) y (due (v.kv s) kd x)) ⟨rfl, fun s y h => by simp at h⟩ (fun i ys m₂ σ₂ own' h₂ C' hi' hys' inv' hcells' c₂ O'' pm' => ?_) (by simp)) fun y σ' p => ?_
      · rcases List.mem_cons.mp hp with rfl | hp
        · rfl
        · obtain rfl := List.mem_singleton.mp hp; rfl
      · obtain ⟨y, hy, rfl⟩ := pm'
        have hi2 : i < 2 := hi'
        have ey : y = .ref ((u.T i).na []) := by
          match i, hi2 with
          | 0, _ => exact (Option.some.inj hy).symm
          | 1, _ => exact (Option.some.inj hy).symm
        subst ey
        obtain ⟨TF, TI, sub⟩ := S.tt i hi2
        have c1 := (hcells' "kind" _ rfl).trans (rfl : _ = some (Value.int kd t))
        have c2 := (hcells' "word" _ rfl).trans (rfl : _ = some (Value.str x t'))
        refine ct_none (Tm.mono (tm_callK O'' (tr_glob O'' kT) kk (Tr.m (tr_arg3 (P := IsV (.ref ((u.T i).na []))) (R := IsV (.int kd t)) (S := IsV (.str x t')) (tr_name O'' rfl) (tr_nameC O'' rfl c1) (tr_nameC O'' rfl c2)))
          (R := fun y σ' => ∃ nw, σ' = Sg.mk (put m₂.m "tree" (.ref ((u.T i).na []))) m₂.c (nw ++ m₂.n) ∧ Rep (nw ++ u.nt i) y (due (v.kv i) kd x)) fun vs σ' p => ?_) fun y σ' p => ?_)
        · obtain ⟨rfl, y1, y2, y3, rfl, rfl, rfl, rfl⟩ := p
          exact Tm.mono (told_fn (d := 4) rfl O'' TF TI (S.kk i hi2).2.1 (fun p hp => .inr (c₂.F.keep _ _ (keep _ (sub p hp)))) hok.1 (by have := hok.2; simp only at this; omega)) fun y σ' ⟨nw, h1, h2, _⟩ => ⟨nw, h1, h2⟩
        · obtain ⟨nw, rfl, hr⟩ := p
          refine ⟨by simp [inv'.1], fun s y' hy' => ?_⟩
          by_cases e : s < ys.length
          · rw [List.getElem?_append_left e] at hy'
            refine (inv'.2 s y' hy').mono fun p hp => ?_
            rcases List.mem_append.mp hp with hp | hp
            · exact List.mem_append_left _ (List.mem_append_right _ hp)
            · exact List.mem_append_right _ hp
          · rw [List.getElem?_append_right (by omega)] at hy'
            have es : s = i := by
              have := (List.getElem?_eq_some_iff.mp hy').1
              have := inv'.1
              simp at *
              omega
            subst es
            rw [inv'.1, Nat.sub_self] at hy'
            obtain rfl : y = y' := Option.some.inj hy'
            refine hr.mono fun p hp => ?_
            rcases List.mem_append.mp hp with hp | hp
            · exact List.mem_append_left _ (List.mem_append_left _ hp)
            · exact List.mem_append_right _ (sub p hp)
      · obtain ⟨D, ys', n', led', rfl, hinv, _, rfl, _⟩ := p
        refine Tm.mono (Tr.m tr_args0) fun vs σ'' q => ?_
        obtain ⟨rfl, rfl⟩ := q
        exact ⟨D, ys', n', led', rfl, rfl, hinv.1, hinv.2⟩
    · obtain ⟨D, ys', n', led', rfl, rfl, h1, h2⟩ := p
      have ht : z.lk.take (i + 1) = z.lk.take i ++ [(kd, x)] := by rw [List.take_add_one, hq]; rfl
      show F2 _ _ (z.lk.take (i + 1))
      rw [ht]
      refine F2.append (inv.imp fun a b y => y.mono fun p hp => ?_) (.cons ⟨l, t, t', D, ys', n', rfl, .head _, .tail _ (.head _), h1, fun s y hy => (h2 s y hy).mono fun p hp => ?_⟩ .nil)
      · rcases List.mem_append.mp hp with hp | hp
        · exact .tail _ (.tail _ (List.mem_append_left _ (List.mem_append_left _ hp)))
        · exact .tail _ (.tail _ (List.mem_append_right _ hp))
      · rcases List.mem_append.mp hp with hp | hp
        · exact .tail _ (.tail _ (List.mem_append_left _ (List.mem_append_right _ hp)))
        · exact .tail _ (.tail _ (List.mem_append_right _ hp))
    · obtain ⟨D, ys', n', led', rfl, _⟩ := p; simp
  · obtain ⟨D, ys, n', led, hinv, _, rfl, _⟩ := p
    have hz : (z.vs.toArray.size) = z.lk.length := by simpa using hzl
    rw [hz, List.take_length] at hinv
    refine Rest.at (i := 8) ?_
    exact k _ ⟨D, ys, n'⟩ ⟨⟨S.toSt2.mono rfl rfl rfl rfl fun p hp => .tail _ (List.mem_append_right _ hp), S.m5, .tail _ (List.mem_append_right _ S.n5), S.l5.imp fun a b y => y.mono fun p hp => .tail _ (List.mem_append_right _ hp), S.k5⟩, rfl, .head _, hinv.imp fun a b y => y.mono fun p hp => .tail _ hp⟩
end
end Mine
open PySem PySem.W PySem.Calls PyProof.Rows
set_option Elab.async false
set_option maxRecDepth 100000
set_option maxHeartbeats 4000000
set_option linter.unusedVariables false
namespace Mine

theorem StrsAre.rev {vs : List Value} {ss : List Str} (h : StrsAre vs ss) : StrsAre vs.reverse ss.reverse := by
  induction h with
  | nil => exact .nil
  | cons k t _ ih => rw [List.reverse_cons, List.reverse_cons]; exact StrsAre.snoc ih k t

/-- the names that stay -/
def KeepN (σ σ' : Sg) : Prop := σ'.m "numbers" = σ.m "numbers" ∧ σ'.m "words" = σ.m "words" ∧ σ'.m "data" = σ.m "data" ∧ σ'.c "trees" = σ.c "trees" ∧ σ'.m "looks" = σ.m "looks" ∧ σ'.m "asked" = σ.m "asked" ∧ σ'.m "back" = σ.m "back"
theorem KeepN.trans {σ σ' σ'' : Sg} (a : KeepN σ σ') (b : KeepN σ' σ'') : KeepN σ σ'' := ⟨b.1.trans a.1, b.2.1.trans a.2.1, b.2.2.1.trans a.2.2.1, b.2.2.2.1.trans a.2.2.2.1, b.2.2.2.2.1.trans a.2.2.2.2.1, b.2.2.2.2.2.1.trans a.2.2.2.2.2.1, b.2.2.2.2.2.2.trans a.2.2.2.2.2.2⟩
theorem St4.mono {G : Gx} {b : DB} {v : DV} {u : DT} {z : DL} {a : DA} {σ σ' : Sg} (S : St4 G b v u z a σ) (hk : KeepN σ σ') (h : ∀ p ∈ σ.n, p ∈ σ'.n) : St4 G b v u z a σ' :=
  ⟨⟨S.toSt2.mono hk.1 hk.2.1 hk.2.2.1 hk.2.2.2.1 h, hk.2.2.2.2.1.trans S.m5, h _ S.n5, S.l5.imp fun a b y => y.mono h, S.k5⟩, hk.2.2.2.2.2.1.trans S.m6, h _ S.n6, S.l6.imp fun a b y => y.mono h⟩

structure DE where
  BL : Addr
  E : Nat → Addr
  oE : Nat → Obj
structure St5 (G : Gx) (b : DB) (v : DV) (u : DT) (z : DL) (a : DA) (e : DE) (σ : Sg) : Prop extends St4 G b v u z a σ where
  m8 : σ.m "back" = some (.ref e.BL)
  n8 : (e.BL, listOf [Value.ref (e.E 0), .ref (e.E 1)].toArray 0) ∈ σ.n
  ee : ∀ s, s < 2 → (e.E s, e.oE s) ∈ σ.n ∧ (e.oE s).IsDictOf (SK G) (v.kv s).reverse ∧ (e.E s == sysModules) = false
theorem St5.mono {G : Gx} {b : DB} {v : DV} {u : DT} {z : DL} {a : DA} {e : DE} {σ σ' : Sg} (S : St5 G b v u z a e σ) (hk : KeepN σ σ') (h : ∀ p ∈ σ.n, p ∈ σ'.n) : St5 G b v u z a e σ' :=
  ⟨S.toSt4.mono hk h, hk.2.2.2.2.2.2.trans S.m8, h _ S.n8, fun s hs => ⟨h _ (S.ee s hs).1, (S.ee s hs).2⟩⟩

def backF (kv : Nat → List (Str × Value)) (i t : Nat) : List (Str × Value) := if t < i then (kv t).reverse else []
def pairF (E0 E1 : Addr) (s : Nat) : Addr := if s = 0 then E0 else E1

theorem pairF_get {E0 E1 : Addr} {s : Nat} (hs : s < 2) : ([Value.ref E0, .ref E1].toArray)[((s : Nat) : Int).toNat]? = some (.ref (pairF E0 E1 s)) := by
  match s, hs with
  | 0, _ => rfl
  | 1, _ => rfl
theorem pairF_ne {E0 E1 : Addr} (h : E0 ≠ E1) {s t : Nat} (hs : s < 2) (ht : t < 2) (n : s ≠ t) : pairF E0 E1 s ≠ pairF E0 E1 t := by
  match s, t, hs, ht, n with
  | 0, 1, _, _, _ => exact h
  | 1, 0, _, _, _ => exact h.symm
  | 0, 0, _, _, n => exact absurd rfl n
  | 1, 1, _, _, n => exact absurd rfl n

section
variable {prog : Program} {w : World} {h₀ : Heap} {fa : Addr} {cd : Value} {σ : Sg} {R : Flow → Sg → Prop}

/-- (0, 1) -/
theorem tm_side2 {G : Gx} {σ : Sg} {m k1 k2 : Nat} {q1 q2 pos : Pos} (hs : starEach [.Constant (.int 0) k1 q1, .Constant (.int 1) k2 q2] G.env = [(false, eval (.Constant (.int 0) k1 q1) G.env), (false, eval (.Constant (.int 1) k2 q2) G.env)] := by rfl) (hs' : starEach [.Constant (.int 1) k2 q2] G.env = [(false, eval (.Constant (.int 1) k2 q2) G.env)] := by rfl) :
    Tm G σ (eval (.Tuple [.Constant (.int 0) k1 q1, .Constant (.int 1) k2 q2] m pos) G.env) (fun v σ' => ∃ l its, v = .ref l ∧ σ' = { σ with n := (l, { cls := .type "tuple", data := .seq its }) :: σ.n } ∧ its.size = 2 ∧ ∀ (i : Nat) x, its[i]? = some x → IsI (i : Int) x) :=
  tm_tuple (Tr.m (tr_arg2 (tr_int (i := 0)) (tr_int (i := 1)) hs hs')) (fun vs σ' l p _ => by
    obtain ⟨rfl, a, b, rfl, ha, hb⟩ := p
    refine ⟨l, _, rfl, rfl, rfl, fun i x hx => ?_⟩
    match i with
    | 0 => cases hx; exact ha
    | 1 => cases hx; exact hb
    | i + 2 => simp at hx) fun vs σ' p => by obtain ⟨rfl, a, b, rfl, _⟩ := p; simp

theorem src_side (O : Ok (LG prog w h₀ fa cd) 12) {σ : Sg} {m k1 k2 : Nat} {p q1 q2 pos : Pos} (hs : starEach [.Constant (.int 0) k1 q1, .Constant (.int 1) k2 q2] (LG prog w h₀ fa cd).env = [(false, eval (.Constant (.int 0) k1 q1) (LG prog w h₀ fa cd).env), (false, eval (.Constant (.int 1) k2 q2) (LG prog w h₀ fa cd).env)] := by rfl) (hs' : starEach [.Constant (.int 1) k2 q2] (LG prog w h₀ fa cd).env = [(false, eval (.Constant (.int 1) k2 q2) (LG prog w h₀ fa cd).env)] := by rfl) :
    Src (LG prog w h₀ fa cd) σ (.Name "side" p) (.Tuple [.Constant (.int 0) k1 q1, .Constant (.int 1) k2 q2] m pos) 2 (toN "side" (fun i x => IsI (i : Int) x)) (fun σ' fix => ∃ l its, fix = [(l, { cls := .type "tuple", data := .seq its })] ∧ σ' = { σ with n := (l, { cls := .type "tuple", data := .seq its }) :: σ.n }) :=
  src_tupE O (PV := fun i x => IsI (i : Int) x) (Tm.mono (tm_side2 hs hs') fun v σ' p => by
    obtain ⟨l, its, rfl, rfl, h1, h2⟩ := p
    exact ⟨l, its, rfl, h1, h2, ⟨l, its, rfl, rfl⟩, .head _⟩) (fun I l i j s v Q E _ _ q => wpAny_pure q) (fun l o i v σ₁ σ _ hv hf => has_toN (P := fun i x => IsI (i : Int) x) O rfl i v σ hv hf)

theorem Cx.neTD {prog : Program} {w : World} {knd : KeyKind prog w Str} {G : Gx} {own : Led} {σ : Sg} {h : Heap} (c : Cx G own σ h) {l D : Addr} {its : Array Value} {o : Obj} {kv : List (Str × Value)} (hl : (l, ({ cls := .type "tuple", data := .seq its } : Obj)) ∈ σ.n) (hd : (D, o) ∈ σ.n) (ho : o.IsDictOf knd kv) : l ≠ D := by
  refine c.ne hl hd fun e => ?_
  obtain ⟨es, ep, _, h2, _⟩ := ho
  rw [← e] at h2
  cases h2

structure BackI (prog : Program) (w : World) (σ₀ : Sg) (BL E0 E1 : Addr) (N : Led) (f : Nat → List (Str × Value)) (σ : Sg) : Prop where
  keep : KeepN σ₀ σ
  sub : ∀ p ∈ N, p ∈ σ.n
  n8 : (BL, listOf [Value.ref E0, .ref E1].toArray 0) ∈ σ.n
  ee : ∀ s, s < 2 → ∃ o, (pairF E0 E1 s, o) ∈ σ.n ∧ o.IsDictOf (PySem.strKind prog w) (f s)

theorem ph5 (O : Ok (LG prog w h₀ fa cd) 12) {b : DB} {v : DV} {u : DT} {z : DL} {a : DA} (S : St4 (LG prog w h₀ fa cd) b v u z a σ)
    (k : ∀ σ e, St5 (LG prog w h₀ fa cd) b v u z a e σ → Rest prog w h₀ fa cd 10 R σ) : Rest prog w h₀ fa cd 8 R σ := by
  refine Rest.mk ?_
  have kli : nsIn (KK w) mainGlobals "list" = some none := by rfl
  refine seq_assign O (tm_list (P := fun vs σ' => ∃ D0 o0 D1 o1, vs = [.ref D0, .ref D1] ∧ σ' = Sg.mk σ.m σ.c ((D1, o1) :: (D0, o0) :: σ.n) ∧ o0.IsDictOf (SK (LG prog w h₀ fa cd)) [] ∧ o1.IsDictOf (SK (LG prog w h₀ fa cd)) [] ∧ (D0 == sysModules) = false ∧ (D1 == sysModules) = false ∧ (∀ p ∈ σ.n, p.1 ≠ D0) ∧ (∀ p ∈ σ.n, p.1 ≠ D1) ∧ D0 ≠ D1)
    (R := fun x σ' => ∃ L D0 o0 D1 o1, x = .ref L ∧ σ' = Sg.mk σ.m σ.c ((L, listOf [Value.ref D0, .ref D1].toArray 0) :: (D1, o1) :: (D0, o0) :: σ.n) ∧ o0.IsDictOf (SK (LG prog w h₀ fa cd)) [] ∧ o1.IsDictOf (SK (LG prog w h₀ fa cd)) [] ∧ (D0 == sysModules) = false ∧ (D1 == sysModules) = false ∧ ((∀ p ∈ σ.n, p.1 ≠ D0) ∧ (∀ p ∈ σ.n, p.1 ≠ D1) ∧ D0 ≠ D1) ∧ D1 ≠ L ∧ D0 ≠ L) ?_ (fun vs σ' l p ap => ?_) (by simp) fun vs σ' p => ?_) fun x σ₃ p => ?_
  · refine tm_arg (tm_dictNew O) fun x σ' p => ?_
    obtain ⟨D0, o0, rfl, rfl, i0, s0, ap0⟩ := p
    refine tm_arg (tm_dictNew O) fun x σ' p => ?_
    obtain ⟨D1, o1, rfl, rfl, i1, s1, ap1⟩ := p
    refine Tm.mono (Tr.m tr_args0) fun vs σ'' q => ?_
    obtain ⟨rfl, rfl⟩ := q
    exact ⟨D0, o0, D1, o1, rfl, rfl, i0, i1, s0, s1, ap0, fun p hp => ap1 p (.tail _ hp), ap1 (D0, _) (.head _)⟩
  · obtain ⟨D0, o0, D1, o1, rfl, rfl, i0, i1, s0, s1, h⟩ := p
    exact ⟨l, D0, o0, D1, o1, rfl, rfl, i0, i1, s0, s1, h, ap (D1, _) (.head _), ap (D0, _) (.tail _ (.head _))⟩
  · obtain ⟨D0, o0, D1, o1, rfl, _⟩ := p; simp
  obtain ⟨BL, E0, o0, E1, o1, rfl, rfl, i0, i1, s0, s1, ⟨a0, a1, a01⟩, aL1, aL0⟩ := p
  let τ : Sg := Sg.mk (put σ.m "back" (.ref BL)) σ.c ((BL, listOf [Value.ref E0, .ref E1].toArray 0) :: (E1, o1) :: (E0, o0) :: σ.n)
  have pE : ∀ s, s < 2 → (∀ p ∈ σ.n, p.1 ≠ pairF E0 E1 s) ∧ pairF E0 E1 s ≠ BL ∧ (pairF E0 E1 s == sysModules) = false := fun s hs => by
    match s, hs with
    | 0, _ => exact ⟨a0, aL0, s0⟩
    | 1, _ => exact ⟨a1, aL1, s1⟩
  have base : ∀ {f σ'}, BackI prog w τ BL E0 E1 σ.n f σ' → St4 (LG prog w h₀ fa cd) b v u z a (Sg.mk (put σ'.m "back" (.ref BL)) σ'.c σ'.n) := fun B => ⟨⟨S.toSt2.mono (B.keep.1.trans rfl) (B.keep.2.1.trans rfl) (B.keep.2.2.1.trans rfl) (B.keep.2.2.2.1.trans rfl) B.sub, (B.keep.2.2.2.2.1.trans rfl).trans S.m5, B.sub _ S.n5, S.l5.imp fun a b y => y.mono B.sub, S.k5⟩, (B.keep.2.2.2.2.2.1.trans rfl).trans S.m6, B.sub _ S.n6, S.l6.imp fun a b y => y.mono B.sub⟩
  have hnd : ∀ s, s < 2 → ((v.kv s).map (·.1)).Nodup := fun s hs => by
    obtain ⟨_, d2, _⟩ := S.dd s hs
    obtain ⟨_, _, _, _, _, _, h⟩ := id d2
    exact h
  refine seq (tm_for (src_side O) (fun fix i σ' => (∃ l its, fix = [(l, { cls := .type "tuple", data := .seq its })] ∧ (l, ({ cls := .type "tuple", data := .seq its } : Obj)) ∈ σ'.n) ∧ BackI prog w τ BL E0 E1 σ.n (backF v.kv i) σ') ?_ ?_ ?_ ?_)
  · rintro σ₁ fix ⟨l, its, rfl, rfl⟩
    refine ⟨⟨l, its, rfl, .head _⟩, ⟨rfl, rfl, rfl, rfl, rfl, rfl, rfl⟩, fun p hp => .tail _ (.tail _ (.tail _ (.tail _ hp))), .tail _ (.head _), fun s hs => ?_⟩
    match s, hs with
    | 0, _ => exact ⟨o0, .tail _ (.tail _ (.tail _ (.head _))), i0⟩
    | 1, _ => exact ⟨o1, .tail _ (.tail _ (.head _)), i1⟩
  · rintro fix i σ' ⟨⟨l, its, rfl, hl⟩, _⟩; exact Fx.one hl
  · rintro fix s σ₁ σ₂ hs2 ⟨⟨l, its, rfl, hl⟩, B⟩ ⟨x, ⟨ts, rfl⟩, rfl⟩ _
    have kzI := S.kk s hs2
    have hd2 := S.dd s hs2
    have dataAt : ∀ {σ' : Sg} {q1 q2 pos : Pos}, σ'.m "data" = some (.ref b.DL) → σ'.m "side" = some (.int (s : Int) ts) → (b.DL, listOf [Value.ref (b.D 0), .ref (b.D 1)].toArray 0) ∈ σ'.n → Tr (LG prog w h₀ fa cd) σ' (eval (.Subscript (.Name "data" q1) (.Name "side" q2) pos) (LG prog w h₀ fa cd).env) (IsV (.ref (b.D s))) := fun m1 m2 m3 =>
      tr_sub_ (tr_name O m1) (tr_nameI (a := (s : Int)) O m2) fun a b' ha hb => tr_item (x := .ref (b.D s)) (ent_list m3) ha hb (by omega) (by omega) (pair_get hs2)
    have mdata : ∀ {f σ'}, BackI prog w τ BL E0 E1 σ.n f σ' → σ'.m "data" = some (.ref b.DL) := fun B => B.keep.2.2.1.trans S.m3
    have mback : ∀ {f σ'}, BackI prog w τ BL E0 E1 σ.n f σ' → σ'.m "back" = some (.ref BL) := fun B => B.keep.2.2.2.2.2.2.trans rfl
    refine seq (tm_for (src_listE O (n := (v.kv s).length) (PV := fun i x => ∃ key y, (v.kv s).reverse[i]? = some (key, y) ∧ IsS key x) (Pm := toN "word" (fun i x => ∃ key y, (v.kv s).reverse[i]? = some (key, y) ∧ IsS key x))
        (Pre := fun σ' fix => ∃ l vs nw, fix = [(l, listOf (List.toArray vs) 0)] ∧ (l, listOf (List.toArray vs) 0) ∈ nw ∧ σ' = Sg.mk (put σ₁.m "side" (.int (s : Int) ts)) σ₁.c (nw ++ σ₁.n))
        (Tm.mono (tm_rev (R := fun vs σ' => ∃ l n', σ' = Sg.mk (put σ₁.m "side" (.int (s : Int) ts)) σ₁.c ((l, listOf (List.toArray vs) n') :: σ₁.n) ∧ StrsAre vs ((v.kv s).map (·.1)))
          (tm_callT (tr_blt O (v := .type "list") kli (by decide +kernel)) (Tr.m (tr_arg1 (dataAt (mdata (σ' := σ₁) B) rfl (B.sub _ S.n3)))) fun vs σ' p => ?_) (fun _ => tr_neg1)) fun x σ' p => ?_) (fun I l i j s v Q E _ _ q => wpAny_pure q) (fun l o i x σ₁ σ _ hv hf => has_toN (P := fun i x => ∃ key y, (v.kv s).reverse[i]? = some (key, y) ∧ IsS key x) O rfl i x σ hv hf))
      (fun fix j σ' => (∃ l vs, fix = [(l, listOf (List.toArray vs) 0)] ∧ (l, listOf (List.toArray vs) 0) ∈ σ'.n) ∧ σ'.m "side" = some (.int (s : Int) ts) ∧ (l, ({ cls := .type "tuple", data := .seq its } : Obj)) ∈ σ'.n ∧ BackI prog w τ BL E0 E1 σ.n (fun t => if t = s then (v.kv s).reverse.take j else backF v.kv s t) σ') ?_ ?_ ?_ ?_)
    · obtain ⟨rfl, x, rfl, rfl⟩ := p
      refine Tm.mono (tm_listDict O (Fx.one (B.sub _ hd2.1)) hd2.2.1 hd2.2.2 (by have := kzI.1; omega)) fun x σ' p => ?_
      obtain ⟨l', n', vs, rfl, rfl, hv, _⟩ := p
      exact ⟨l', vs, rfl, ent_list (.head _), by have := strs_len hv; have := kzI.1; simp at *; omega, l', n', rfl, hv⟩
    · obtain ⟨l', vs, σ₅, rfl, ⟨l2, n', rfl, hv⟩, rfl, _⟩ := p
      refine ⟨l', _, _, rfl, ?_, fun i x hx => ?_, ⟨l', vs.reverse, [(l', listOf vs.reverse.toArray 0), (l2, listOf (List.toArray vs) n')], rfl, .head _, rfl⟩, Fx.one (.head _), lst_of⟩
      · have := strs_len hv; simp at this ⊢; exact this
      · obtain ⟨key, t, rfl, hk⟩ := strs_item (StrsAre.rev hv) i x (by simpa using hx)
        rw [← List.map_reverse, List.getElem?_map] at hk
        cases e : (v.kv s).reverse[i]? with
        | none => rw [e] at hk; cases hk
        | some q => rw [e] at hk; obtain rfl := Option.some.inj hk; exact ⟨q.1, q.2, rfl, t, rfl⟩
    · rintro σ' fix ⟨l', vs, nw, rfl, h1, rfl⟩
      refine ⟨⟨l', vs, rfl, List.mem_append_left _ h1⟩, rfl, List.mem_append_right _ hl, ⟨B.keep.trans ⟨rfl, rfl, rfl, rfl, rfl, rfl, rfl⟩, fun p hp => List.mem_append_right _ (B.sub p hp), List.mem_append_right _ B.n8, fun t ht => ?_⟩⟩
      obtain ⟨o, ho, io⟩ := B.ee t ht
      refine ⟨o, List.mem_append_right _ ho, ?_⟩
      by_cases e : t = s
      · subst e
        rw [if_pos rfl, List.take_zero]
        rw [show backF v.kv t t = [] from if_neg (Nat.lt_irrefl _)] at io
        exact io
      · rw [if_neg e]; exact io
    · rintro fix j σ' ⟨⟨l', vs, rfl, h1⟩, _⟩; exact Fx.one h1
    · rintro fix j σ₃ σ₄ hj ⟨⟨l', vs, rfl, h1⟩, ms, ht, B'⟩ ⟨x, ⟨key, y, hkey, tk, rfl⟩, rfl⟩ _
      have hmem : (key, y) ∈ v.kv s := List.mem_reverse.mp (List.mem_of_getElem? hkey)
      have hy : valueAt (v.kv s) key = some y := (valueAt_nodup (hnd s hs2)).mpr hmem
      obtain ⟨oE, hE, iE⟩ := B'.ee s hs2
      rw [if_pos rfl] at iE
      refine Tm.cx fun own h c => ?_
      have lE : l' ≠ pairF E0 E1 s := c.neLD h1 hE iE
      have tE : l ≠ pairF E0 E1 s := c.neTD ht hE iE
      let υ : Sg := Sg.mk (put σ₃.m "word" (.str key tk)) σ₃.c σ₃.n
      refine seq (tm_assignSub (P := fun x σ' => σ' = υ ∧ x = y) (P₂ := fun x o σ' => σ' = υ ∧ x = y ∧ o = .ref (pairF E0 E1 s)) (P₃ := fun x o i σ' => σ' = υ ∧ x = y ∧ o = .ref (pairF E0 E1 s) ∧ IsS key i)
        (Tr.m (tr_sub_ (dataAt (mdata (σ' := σ₃) B') ms (B'.sub _ S.n3)) (tr_nameP (P := IsS key) O rfl ⟨tk, rfl⟩) fun a b' ha hb => tr_dItem (ent_dict (B'.sub _ hd2.1) hd2.2.1) ha hb hy))
        (fun x σ' p => by
          obtain ⟨rfl, p⟩ := p
          exact Tm.mono (Tr.m (tr_sub_ (tr_name O (mback (σ' := σ₃) B')) (tr_nameI (a := (s : Int)) O ms) fun a b' ha hb => tr_item (x := .ref (pairF E0 E1 s)) (ent_list B'.n8) ha hb (by omega) (by omega) (pairF_get hs2))) fun o σ'' q => ⟨q.1, p, q.2⟩)
        (fun x o σ' p => by
          obtain ⟨rfl, p1, p2⟩ := p
          exact Tm.mono (Tr.m (tr_nameP (P := IsS key) O rfl ⟨tk, rfl⟩)) fun i σ'' q => ⟨q.1, p1, p2, q.2⟩)
        fun x o i σ' p => ?_)
      obtain ⟨rfl, rfl, p2, p3⟩ := p
      have hl20 := kzI.1
      refine Tm.mono (tm_dictSet hE iE p2 p3 (by rw [sizeLine_eq, List.length_take]; simp; omega)) fun _ σ₅ p => ?_
      obtain ⟨o', ho', rfl⟩ := p
      have htk : (v.kv s).reverse.take (j + 1) = (v.kv s).reverse.take j ++ [(key, x)] := by rw [List.take_add_one, hkey]; rfl
      have hn' : (((v.kv s).reverse.take (j + 1)).map (·.1)).Nodup := by
        rw [List.map_take, List.map_reverse]
        exact List.Nodup.sublist (List.take_sublist _ _) ((List.reverse_perm _).nodup_iff.mpr (hnd s hs2))
      rw [stored_new (by
        rw [htk, List.map_append] at hn'
        intro hm
        exact (List.nodup_append.mp hn').2.2 key hm key (by simp) rfl), ← htk] at ho'
      refine tm_nil ⟨⟨l', vs, rfl, updL_ne h1 lE⟩, ms, updL_ne ht tE, ⟨B'.keep.trans ⟨rfl, rfl, rfl, rfl, rfl, rfl, rfl⟩, fun p hp => updL_ne (B'.sub p hp) ((pE s hs2).1 p hp), updL_ne B'.n8 (pE s hs2).2.1.symm, fun t ht' => ?_⟩⟩
      by_cases e : t = s
      · subst e
        rw [if_pos rfl]
        exact ⟨o', updL_self hE, ho'⟩
      · rw [if_neg e]
        obtain ⟨o, ho, io⟩ := B'.ee t ht'
        rw [if_neg e] at io
        exact ⟨o, updL_ne ho (pairF_ne a01 ht' hs2 e), io⟩
    · rintro fix σ₃ ⟨_, ms, ht, B'⟩
      refine tm_nil ⟨⟨l, its, rfl, ht⟩, ⟨B'.keep, B'.sub, B'.n8, fun t ht' => ?_⟩⟩
      obtain ⟨o, ho, io⟩ := B'.ee t ht'
      refine ⟨o, ho, ?_⟩
      by_cases e : t = s
      · subst e
        rw [if_pos rfl, List.take_of_length_le (by simp)] at io
        rw [show backF v.kv (t + 1) t = (v.kv t).reverse from if_pos (Nat.lt_succ_self _)]
        exact io
      · rw [if_neg e] at io
        have : backF v.kv (s + 1) t = backF v.kv s t := by
          unfold backF
          by_cases h : t < s
          · rw [if_pos h, if_pos (by omega)]
          · rw [if_neg h, if_neg (by omega)]
        rw [this]; exact io
  · rintro fix σ₁ ⟨_, B⟩
    obtain ⟨p0, h0, j0⟩ := B.ee 0 (by decide)
    obtain ⟨p1, h1, j1⟩ := B.ee 1 (by decide)
    have mb : σ₁.m "back" = some (.ref BL) := B.keep.2.2.2.2.2.2.trans rfl
    have S4 : St4 (LG prog w h₀ fa cd) b v u z a σ₁ := ⟨⟨S.toSt2.mono (B.keep.1.trans rfl) (B.keep.2.1.trans rfl) (B.keep.2.2.1.trans rfl) (B.keep.2.2.2.1.trans rfl) B.sub, (B.keep.2.2.2.2.1.trans rfl).trans S.m5, B.sub _ S.n5, S.l5.imp fun a b y => y.mono B.sub, S.k5⟩, (B.keep.2.2.2.2.2.1.trans rfl).trans S.m6, B.sub _ S.n6, S.l6.imp fun a b y => y.mono B.sub⟩
    refine (k σ₁ ⟨BL, pairF E0 E1, fun s => if s = 0 then p0 else p1⟩ ⟨S4, mb, B.n8, fun s hs => ?_⟩).at
    match s, hs with
    | 0, _ => exact ⟨h0, j0, s0⟩
    | 1, _ => exact ⟨h1, j1, s1⟩
end
end Mine
open PySem PySem.W PySem.Calls PyProof.Rows
set_option Elab.async false
set_option maxRecDepth 100000
set_option maxHeartbeats 4000000
set_option linter.unusedVariables false
namespace Mine

structure LayD where
  f : Nat → Addr
  o : Nat → Obj
  g : Nat → List (Str × Value)
  L : Addr
  r : Addr
  rv : List Value
  rn : Nat
  lk : List (Int × Str)
structure Lay {prog : Program} {w : World} (knd : KeyKind prog w Str) (kv : Nat → List (Str × Value)) (N : Led) (y : LayD) : Prop where
  L : (y.L, listOf [Value.ref (y.f 0), .ref (y.f 1)].toArray 0) ∈ N
  d : ∀ s, s < 2 → (y.f s, y.o s) ∈ N ∧ (y.o s).IsDictOf knd (y.g s) ∧ (y.f s == sysModules) = false ∧ KV (y.g s) ∧ ∀ k x, due (y.g s) k x = due (kv s) k x
  r : (y.r, listOf y.rv.toArray y.rn) ∈ N
  a : F2 (AskAt kv N) y.rv y.lk
  k : y.lk.length ≤ 40 ∧ ∀ q ∈ y.lk, LookOk q

theorem Fx.sub {G : Gx} {σ : Sg} {N M : Led} (h : Fx G σ N) (hs : ∀ p ∈ M, p ∈ N) : Fx G σ M := fun p hp => h p (hs p hp)
theorem Fx.up {G : Gx} {σ σ' : Sg} {N : Led} (h : Fx G σ N) (hs : ∀ p ∈ σ.n, p ∈ σ'.n) : Fx G σ' N := fun p hp => (h p hp).imp (hs p) id
theorem Fx.list {G : Gx} {σ : Sg} {N : Led} {l : Addr} {its : Array Value} {n : Nat} (h : Fx G σ N) (hm : (l, listOf its n) ∈ N) : Ent G σ (fun h => h.IsList l its) := fun own hp c => ⟨_, h.get c _ hm, rfl, n, rfl⟩
theorem Fx.dict {G : Gx} {σ : Sg} {N : Led} {l : Addr} {o : Obj} {kvs : List (Str × Value)} (h : Fx G σ N) (hm : (l, o) ∈ N) (hd : o.IsDictOf (SK G) kvs) : Ent G σ (fun h => h.DictOf (SK G) l kvs) := fun own hp c => Heap.dictOf_iff.mpr ⟨_, h.get c _ hm, hd⟩

theorem datOf_ok {kvs : List (Str × Value)} (h : ∀ q ∈ kvs, WordOk q.1) : kqdOk 8 (.list (datOf kvs)) = true := by
  show (datOf kvs).all (kqdOk 7) = true
  rw [List.all_eq_true]
  intro e he
  obtain ⟨q, hq, rfl⟩ := List.mem_map.mp he
  show ([Dat.str q.1, .int (iv q.2)]).all (kqdOk 6) = true
  have := (h q hq).2
  simp [kqdOk, this]
theorem lay_get {y : LayD} {s : Nat} (hs : s < 2) : ([Value.ref (y.f 0), .ref (y.f 1)].toArray)[((s : Nat) : Int).toNat]? = some (.ref (y.f s)) := by
  match s, hs with
  | 0, _ => rfl
  | 1, _ => rfl

section
variable {G : Gx} {σ : Sg} {d : Nat}
theorem src_nameF (O : Ok G d) {target iter : Expr} {l : Addr} {o : Obj} {its : Array Value} {N : Led} {Pm : Nat → Sg → Sg → Prop} (he : Tr G σ (eval iter G.env) (IsV (.ref l))) (hm : (l, o) ∈ N) (hN : Fx G σ N) (ho : Obj.lst o its)
    (hgo : ∀ (I l : Addr) i (s : Shared) v (Q : Unit → Shared → Prop) (E : Value → Shared → Prop), s.heap.IsListIter I l i → its[i - 1]? = some v → Q () s → wpAny (model G.prog G.w) G.A (letOwnedTupleGo target (.ref I) v) Q E s)
    (has : ∀ i v σ, its[i]? = some v → Fx G σ N → Tm G σ (assign target G.env v) (fun _ σ' => Pm i σ σ' ∧ σ'.n = σ.n)) : Src G σ target iter its.size Pm (fun σ₁ fix => σ₁ = σ ∧ fix = N) := fun own s Q E c k =>
  he own s _ E c fun v h₁ t₁ e c₁ => by
    subst e
    have gl := hN.get c₁ _ hm
    have il : h₁.IsList l its := ⟨o, gl, ho.1, ho.2⟩
    have hne : l ≠ h₁.objs.size := Nat.ne_of_lt (Heap.lt_size gl)
    refine wpAny_pyIter_list (s := { s with heap := h₁, toks := t₁ }) il ?_
    exact k (.ref h₁.objs.size) [h₁.objs.size] _ _ _ σ N ⟨rfl, rfl⟩
      (Drv.walks (Walks.list (prog := G.prog) (w := G.w) O.hh h₁.objs.size l hne its) (fun b hb => by
        rcases List.mem_cons.mp hb with e | hb
        · exact .inl e
        · exact .inr (List.mem_map.mpr ⟨_, hm, (List.mem_singleton.mp hb).symm⟩)) (fun i h st => ⟨_, st.1.choose_spec.1⟩) (fun i own σ s v Q E st pv c of fx q => hgo _ _ (i + 1) s v Q E st.1 pv q) has)
      ⟨⟨_, Heap.get?_push_size _ rfl, rfl, rfl⟩, il.push _⟩ (c₁.push _) (Off.fresh c₁ (get_size _))

theorem src_tupF (O : Ok G d) {target iter : Expr} {n : Nat} {PV : Led → Nat → Value → Prop} {Pm : Nat → Sg → Sg → Prop} (he : Tm G σ (eval iter G.env) (fun v σ₁ => ∃ l its, v = .ref l ∧ its.size = n ∧ (∀ (i : Nat) x, its[i]? = some x → PV σ₁.n i x) ∧ (l, { cls := .type "tuple", data := .seq its }) ∈ σ₁.n))
    (hgo : ∀ (I l : Addr) N i j (s : Shared) v (Q : Unit → Shared → Prop) (E : Value → Shared → Prop), s.heap.IsTupleIter I l i → PV N j v → Q () s → wpAny (model G.prog G.w) G.A (letOwnedTupleGo target (.ref I) v) Q E s)
    (has : ∀ N i v σ, PV N i v → Fx G σ N → Tm G σ (assign target G.env v) (fun _ σ' => Pm i σ σ' ∧ σ'.n = σ.n)) : Src G σ target iter n Pm (fun σ₁ fix => fix = σ₁.n) := fun own s Q E c k =>
  he own s _ E c fun v σ₁ h₁ t₁ ⟨l, its, e, en, hp, hm⟩ c₁ => by
    subst e; subst en
    have gl := c₁.get hm
    have il : h₁.IsTuple l its := ⟨_, gl, rfl, 0, rfl⟩
    have hne : l ≠ h₁.objs.size := Nat.ne_of_lt (Heap.lt_size gl)
    refine wpAny_pyIter_tuple il ?_
    exact k (.ref h₁.objs.size) [h₁.objs.size] _ _ _ σ₁ σ₁.n rfl
      (Drv.walks (Walks.tuple (prog := G.prog) (w := G.w) O.hh h₁.objs.size l hne its) (fun b hb => by
        rcases List.mem_cons.mp hb with e | hb
        · exact .inl e
        · exact .inr (List.mem_map.mpr ⟨_, hm, (List.mem_singleton.mp hb).symm⟩)) (fun i h st => ⟨_, st.1.choose_spec.1⟩) (fun i own σ s v Q E st pv c of fx q => hgo _ _ σ₁.n (i + 1) i s v Q E st.1 (hp _ _ pv) q) (fun i v σ hv hf => has σ₁.n i v σ (hp _ _ hv) hf))
      ⟨⟨_, Heap.get?_push_size _ rfl, rfl, rfl⟩, il.push _⟩ (c₁.push _) (Off.fresh c₁ (get_size _))
end

section
variable {prog : Program} {w : World} {h₀ : Heap} {fa : Addr} {cd : Value} {σ : Sg} {R : Flow → Sg → Prop}

/-- what the two lists of items are -/
def PairsAt (N : Led) (g : Nat → List (Str × Value)) (P : Addr) : Prop :=
  ∃ l0 l1 v0 v1 n0 n1, (P, listOf [Value.ref l0, .ref l1].toArray 0) ∈ N ∧ (l0, listOf (List.toArray v0) n0) ∈ N ∧ (l1, listOf (List.toArray v1) n1) ∈ N ∧ DatAll N v0 (datOf (g 0)) ∧ DatAll N v1 (datOf (g 1)) ∧ v0.length = (g 0).length ∧ v1.length = (g 1).length
theorem PairsAt.mono {N N' : Led} {g : Nat → List (Str × Value)} {P : Addr} (h : ∀ p ∈ N, p ∈ N') (x : PairsAt N g P) : PairsAt N' g P := by
  obtain ⟨l0, l1, v0, v1, n0, n1, a, b, c, d, e, f⟩ := x
  exact ⟨l0, l1, v0, v1, n0, n1, h _ a, h _ b, h _ c, d.mono h, e.mono h, f⟩

theorem tm_pairs (O : Ok (LG prog w h₀ fa cd) 12) {kv : Nat → List (Str × Value)} {N : Led} {y : LayD} {σ : Sg} (Y : Lay (SK (LG prog w h₀ fa cd)) kv N y) (hN : Fx (LG prog w h₀ fa cd) σ N) (ml : σ.m "laid" = some (.ref y.L)) {p1 p2 p3 p4 p5 p6 p7 q1 q2 q3 q4 q5 q6 q7 pos : Pos} {k1 k2 : Nat} {pl0 pl1 : Sem Bool}
    (hq0 : eval (.Call (.Attribute (.Subscript (.Name "laid" p2) (.Constant (.int 0) k1 p3) p4) "items" p5) [] [] p6) (LG prog w h₀ fa cd).env = (do
          let ov ← eval (.Subscript (.Name "laid" p2) (.Constant (.int 0) k1 p3) p4) (LG prog w h₀ fa cd).env
          standAt p5.atName
          let (f, first) ← holding [ov] (getMethod ov "items" pl0)
          callWith p6 f first (backTo p6 (starEach [] (LG prog w h₀ fa cd).env)) []) := by rfl)
    (hq1 : eval (.Call (.Attribute (.Subscript (.Name "laid" q2) (.Constant (.int 1) k2 q3) q4) "items" q5) [] [] q6) (LG prog w h₀ fa cd).env = (do
          let ov ← eval (.Subscript (.Name "laid" q2) (.Constant (.int 1) k2 q3) q4) (LG prog w h₀ fa cd).env
          standAt q5.atName
          let (f, first) ← holding [ov] (getMethod ov "items" pl1)
          callWith q6 f first (backTo q6 (starEach [] (LG prog w h₀ fa cd).env)) []) := by rfl) :
    Tm (LG prog w h₀ fa cd) σ (eval (.List [.Call (.Name "list" p1) [.Call (.Attribute (.Subscript (.Name "laid" p2) (.Constant (.int 0) k1 p3) p4) "items" p5) [] [] p6] [] p7, .Call (.Name "list" q1) [.Call (.Attribute (.Subscript (.Name "laid" q2) (.Constant (.int 1) k2 q3) q4) "items" q5) [] [] q6] [] q7] pos) (LG prog w h₀ fa cd).env) (fun v σ' => ∃ P nw, v = .ref P ∧ σ' = { σ with n := nw ++ σ.n } ∧ PairsAt nw y.g P) := by
  have kli : nsIn (KK w) mainGlobals "list" = some none := by rfl
  have one : ∀ {σ' : Sg} {s : Nat} {p1 p2 p3 p4 p5 p6 p7 : Pos} {k1 : Nat} {pl : Sem Bool} (hq : eval (.Call (.Attribute (.Subscript (.Name "laid" p2) (.Constant (.int (s : Int)) k1 p3) p4) "items" p5) [] [] p6) (LG prog w h₀ fa cd).env = (do
          let ov ← eval (.Subscript (.Name "laid" p2) (.Constant (.int (s : Int)) k1 p3) p4) (LG prog w h₀ fa cd).env
          standAt p5.atName
          let (f, first) ← holding [ov] (getMethod ov "items" pl)
          callWith p6 f first (backTo p6 (starEach [] (LG prog w h₀ fa cd).env)) [])), s < 2 → Fx (LG prog w h₀ fa cd) σ' N → σ'.m "laid" = some (.ref y.L) → Tm (LG prog w h₀ fa cd) σ' (eval (.Call (.Name "list" p1) [.Call (.Attribute (.Subscript (.Name "laid" p2) (.Constant (.int (s : Int)) k1 p3) p4) "items" p5) [] [] p6] [] p7) (LG prog w h₀ fa cd).env)
      (fun v σ'' => ∃ l n' vs nw, v = .ref l ∧ σ'' = { σ' with n := nw ++ σ'.n } ∧ (l, listOf (List.toArray vs) n') ∈ nw ∧ DatAll nw vs (datOf (y.g s)) ∧ vs.length = (y.g s).length) := fun {σ' s p1 p2 p3 p4 p5 p6 p7 k1 pl} hq hs hF hm => by
    obtain ⟨d1, d2, d3, d4, d5⟩ := Y.d s hs
    exact tm_items O kli rfl (tr_sub_ (tr_name O hm) (tr_int (i := (s : Int))) fun a b ha hb => tr_item (x := .ref (y.f s)) (hF.list Y.L) ha hb (by omega) (by omega) (lay_get hs)) (hF.sub fun p hp => by obtain rfl := List.mem_singleton.mp hp; exact d1) d2 d3 d4.2.1 (by have := d4.1; omega) hq
  refine tm_list (P := fun vs σ' => ∃ l0 l1 v0 v1 n0 n1 nw, vs = [.ref l0, .ref l1] ∧ σ' = { σ with n := nw ++ σ.n } ∧ (l0, listOf (List.toArray v0) n0) ∈ nw ∧ (l1, listOf (List.toArray v1) n1) ∈ nw ∧ DatAll nw v0 (datOf (y.g 0)) ∧ DatAll nw v1 (datOf (y.g 1)) ∧ v0.length = (y.g 0).length ∧ v1.length = (y.g 1).length) ?_ (fun vs σ' l p _ => ?_) (by simp) fun vs σ' p => ?_
  · refine tm_arg (one (s := 0) hq0 (by decide) hN ml) fun x σ' p => ?_
    obtain ⟨l0, n0, v0, w0, rfl, rfl, m0, D0, e0⟩ := p
    refine tm_arg (one (s := 1) hq1 (by decide) (hN.up fun p hp => List.mem_append_right _ hp) ml) fun x σ' p => ?_
    obtain ⟨l1, n1, v1, w1, rfl, rfl, m1, D1, e1⟩ := p
    refine Tm.mono (Tr.m tr_args0) fun vs σ'' q => ?_
    obtain ⟨rfl, rfl⟩ := q
    exact ⟨l0, l1, v0, v1, n0, n1, w1 ++ w0, rfl, by simp, List.mem_append_right _ m0, List.mem_append_left _ m1, D0.mono fun p hp => List.mem_append_right _ hp, D1.mono fun p hp => List.mem_append_left _ hp, e0, e1⟩
  · obtain ⟨l0, l1, v0, v1, n0, n1, nw, rfl, rfl, m0, m1, D0, D1, e0, e1⟩ := p
    exact ⟨l, (l, listOf [Value.ref l0, .ref l1].toArray 0) :: nw, rfl, rfl, l0, l1, v0, v1, n0, n1, .head _, .tail _ m0, .tail _ m1, D0.mono fun p hp => .tail _ hp, D1.mono fun p hp => .tail _ hp, e0, e1⟩
  · obtain ⟨l0, l1, v0, v1, n0, n1, nw, rfl, _⟩ := p; simp

/-- the two tries -/
def TriesAt (N : Led) (y : LayD) (X : Addr) (x : Nat → Addr) : Prop := (X, listOf [Value.ref (x 0), .ref (x 1)].toArray 0) ∈ N ∧ ∀ s, s < 2 → ∃ nw, TrieN (x s) (y.f s) (y.g s) nw ∧ ∀ p ∈ nw, p ∈ N
theorem TriesAt.mono {N N' : Led} {y : LayD} {X : Addr} {x : Nat → Addr} (h : ∀ p ∈ N, p ∈ N') (t : TriesAt N y X x) : TriesAt N' y X x := ⟨h _ t.1, fun s hs => let ⟨nw, a, b⟩ := t.2 s hs; ⟨nw, a, fun p hp => h _ (b p hp)⟩⟩
theorem tries_get {x : Nat → Addr} {s : Nat} (hs : s < 2) : ([Value.ref (x 0), .ref (x 1)].toArray)[((s : Nat) : Int).toNat]? = some (.ref (x s)) := by
  match s, hs with
  | 0, _ => rfl
  | 1, _ => rfl
theorem tm_tries (O : Ok (LG prog w h₀ fa cd) 12) {kv : Nat → List (Str × Value)} {N : Led} {y : LayD} {σ : Sg} (Y : Lay (SK (LG prog w h₀ fa cd)) kv N y) (hN : Fx (LG prog w h₀ fa cd) σ N) (ml : σ.m "laid" = some (.ref y.L)) {p1 p2 p3 p4 p5 q1 q2 q3 q4 q5 pos : Pos} {k1 k2 : Nat} :
    Tm (LG prog w h₀ fa cd) σ (eval (.List [.Call (.Name "Trie" p1) [.Subscript (.Name "laid" p2) (.Constant (.int 0) k1 p3) p4] [] p5, .Call (.Name "Trie" q1) [.Subscript (.Name "laid" q2) (.Constant (.int 1) k2 q3) q4] [] q5] pos) (LG prog w h₀ fa cd).env) (fun v σ' => ∃ X x nw, v = .ref X ∧ σ' = { σ with n := nw ++ σ.n } ∧ TriesAt nw y X x) := by
  have kT : nsIn (KK w) mainGlobals "Trie" = some (some (.ref 74)) := by rfl
  have kkT : keepIn (KK w) (.ref 74) = true := by rfl
  have one : ∀ {σ' : Sg} {s : Nat} {p1 p2 p3 p4 p5 : Pos} {k1 : Nat}, s < 2 → Fx (LG prog w h₀ fa cd) σ' N → σ'.m "laid" = some (.ref y.L) → Tm (LG prog w h₀ fa cd) σ' (eval (.Call (.Name "Trie" p1) [.Subscript (.Name "laid" p2) (.Constant (.int (s : Int)) k1 p3) p4] [] p5) (LG prog w h₀ fa cd).env)
      (fun v σ'' => ∃ x nw, v = .ref x ∧ σ'' = { σ' with n := nw ++ σ'.n } ∧ TrieN x (y.f s) (y.g s) nw) := fun {σ' s p1 p2 p3 p4 p5 k1} hs hF hm => by
    obtain ⟨d1, d2, d3, d4, d5⟩ := Y.d s hs
    refine tm_callK O (tr_glob O kT) kkT (Tr.m (tr_arg1 (P := IsV (.ref (y.f s))) (tr_sub_ (tr_name O hm) (tr_int (i := (s : Int))) fun a b ha hb => tr_item (x := .ref (y.f s)) (hF.list Y.L) ha hb (by omega) (by omega) (lay_get hs)))) fun vs σ' p => ?_
    obtain ⟨rfl, x, rfl, rfl⟩ := p
    exact Tm.mono (trie_make (d := 9) rfl O (hF.dict d1 d2) d3 (by have := d4.1; omega)) fun v σ' ⟨x, nw, h1, h2, h3, _⟩ => ⟨x, nw, h1, h2, h3⟩
  refine tm_list (P := fun vs σ' => ∃ x0 x1 w0 w1, vs = [.ref x0, .ref x1] ∧ σ' = { σ with n := w1 ++ (w0 ++ σ.n) } ∧ TrieN x0 (y.f 0) (y.g 0) w0 ∧ TrieN x1 (y.f 1) (y.g 1) w1) ?_ (fun vs σ' l p _ => ?_) (by simp) fun vs σ' p => ?_
  · refine tm_arg (one (s := 0) (by decide) hN ml) fun x σ' p => ?_
    obtain ⟨x0, w0, rfl, rfl, T0⟩ := p
    refine tm_arg (one (s := 1) (by decide) (hN.up fun p hp => List.mem_append_right _ hp) ml) fun x σ' p => ?_
    obtain ⟨x1, w1, rfl, rfl, T1⟩ := p
    refine Tm.mono (Tr.m tr_args0) fun vs σ'' q => ?_
    obtain ⟨rfl, rfl⟩ := q
    exact ⟨x0, x1, w0, w1, rfl, rfl, T0, T1⟩
  · obtain ⟨x0, x1, w0, w1, rfl, rfl, T0, T1⟩ := p
    refine ⟨l, fun s => if s = 0 then x0 else x1, (l, listOf [Value.ref x0, .ref x1].toArray 0) :: (w1 ++ w0), rfl, by simp, .head _, fun s hs => ?_⟩
    match s, hs with
    | 0, _ => exact ⟨w0, T0, fun p hp => .tail _ (List.mem_append_right _ hp)⟩
    | 1, _ => exact ⟨w1, T1, fun p hp => .tail _ (List.mem_append_left _ hp)⟩
  · obtain ⟨x0, x1, w0, w1, rfl, _⟩ := p; simp
end
end Mine
open PySem PySem.W PySem.Calls PyProof.Rows
set_option Elab.async false
set_option maxRecDepth 100000
set_option maxHeartbeats 4000000
set_option linter.unusedVariables false
namespace Mine

noncomputable def bodyB (w : World) : List Stmt := match (lawB w).drop 10 with
  | .For _ _ b _ _ :: _ => b
  | _ => []

def KeepB (σ σ' : Sg) : Prop := σ'.m "laid" = σ.m "laid" ∧ σ'.m "row" = σ.m "row" ∧ σ'.m "pairs" = σ.m "pairs" ∧ σ'.m "tries" = σ.m "tries" ∧ ∀ p ∈ σ.n, p ∈ σ'.n
theorem KeepB.trans {σ σ' σ'' : Sg} (a : KeepB σ σ') (b : KeepB σ' σ'') : KeepB σ σ'' := ⟨b.1.trans a.1, b.2.1.trans a.2.1, b.2.2.1.trans a.2.2.1, b.2.2.2.1.trans a.2.2.2.1, fun p hp => b.2.2.2.2 p (a.2.2.2.2 p hp)⟩

section
variable {prog : Program} {w : World} {h₀ : Heap} {fa : Addr} {cd : Value} {σ : Sg} {R : Flow → Sg → Prop}

theorem trie_inst {G : Gx} {σ : Sg} {x D : Addr} {kvs : List (Str × Value)} {nw : Led} (T : TrieN x D kvs nw) (hs : ∀ p ∈ nw, p ∈ σ.n) : ∃ dx es n, Ent G σ (fun h => InstIn h x 74 dx es n) := by
  obtain ⟨dx, es, n, l, m, vs, ss, t, u, v, tk, h1, h1', _⟩ := T
  exact ⟨dx, es, n, fun own h c => ⟨c.get (hs _ h1), c.get (hs _ h1')⟩⟩

theorem tr_isinst (O : Ok (LG prog w h₀ fa cd) 12) {σ : Sg} {e : Expr} {np bp pos : Pos} {n : Led} {v : Value} {D : Due} (he : Tr (LG prog w h₀ fa cd) σ (eval e (LG prog w h₀ fa cd).env) (IsV v)) (r : Rep n v D) (hn : Fx (LG prog w h₀ fa cd) σ n)
    (hs : starEach [e, .Name "bool" bp] (LG prog w h₀ fa cd).env = [(false, eval e (LG prog w h₀ fa cd).env), (false, eval (.Name "bool" bp) (LG prog w h₀ fa cd).env)] := by rfl) (hs' : starEach [.Name "bool" bp] (LG prog w h₀ fa cd).env = [(false, eval (.Name "bool" bp) (LG prog w h₀ fa cd).env)] := by rfl) :
    Tr (LG prog w h₀ fa cd) σ (eval (.Call (.Name "isinstance" np) [e, .Name "bool" bp] [] pos) (LG prog w h₀ fa cd).env) (IsB (isBd D)) := by
  have ki : nsIn (KK w) mainGlobals "isinstance" = some none := by rfl
  have kb : nsIn (KK w) mainGlobals "bool" = some none := by rfl
  refine Tm.r (tm_callB (tr_blt O (v := .builtin "isinstance") ki (by decide +kernel)) (Tr.m (tr_arg2 (P := IsV v) (R := IsV (.type "bool")) he (tr_blt O kb (by decide +kernel)) hs hs')) (fun vs σ' p => ?_) (by rw [hs, hs']) (by rw [hs']; rfl))
  obtain ⟨rfl, a, b, rfl, rfl, rfl⟩ := p
  exact Tr.m (tr_isBool r hn)

theorem body_turn (O : Ok (LG prog w h₀ fa cd) 12) {kv : Nat → List (Str × Value)} {N : Led} {y : LayD} (Y : Lay (SK (LG prog w h₀ fa cd)) kv N y) (hN : Fx (LG prog w h₀ fa cd) σ N) (ml : σ.m "laid" = some (.ref y.L)) (mr : σ.m "row" = some (.ref y.r)) :
    Tm (LG prog w h₀ fa cd) σ (execs (bodyB w) (LG prog w h₀ fa cd).env) (fun f σ' => f = .next ∧ ∀ p ∈ σ.n, p ∈ σ'.n) := by
  have kl : nsIn (KK w) mainGlobals "len" = some none := by rfl
  have kA : nsIn (KK w) mainGlobals "_law_answer" = some (some (.ref 111)) := by rfl
  have kkA : keepIn (KK w) (.ref 111) = true := by rfl
  have f4 : findIn (KK w) (.ref 74) "__len__" = some (some (.ref 50)) := by rfl
  have f5 : isFn (KK w) (.ref 50) = true := by rfl
  have hun : (LG prog w h₀ fa cd).A.units + 64 < cLine := by have := O.units; omega
  refine seq_assign O (tm_pairs O Y hN ml) fun v σ₁ p => ?_
  obtain ⟨P, nw0, rfl, rfl, hP⟩ := p
  refine seq_assign O (tm_tries (σ := Sg.mk (put σ.m "pairs" (.ref P)) σ.c (nw0 ++ σ.n)) O Y (hN.up fun p hp => List.mem_append_right _ hp) ml) fun v σ₁ p => ?_
  obtain ⟨X, x, nw1, rfl, rfl, hX⟩ := p
  let τ : Sg := Sg.mk (put (put σ.m "pairs" (.ref P)) "tries" (.ref X)) σ.c (nw1 ++ (nw0 ++ σ.n))
  have hτ : ∀ p ∈ σ.n, p ∈ τ.n := fun p hp => List.mem_append_right _ (List.mem_append_right _ hp)
  have hP' : PairsAt τ.n y.g P := hP.mono fun p hp => List.mem_append_right _ (List.mem_append_left _ hp)
  have hX' : TriesAt τ.n y X x := hX.mono fun p hp => List.mem_append_left _ hp
  have triesAt : ∀ {σ' : Sg} {e : Expr} {q1 pos : Pos} {s : Nat}, KeepB τ σ' → s < 2 → Tr (LG prog w h₀ fa cd) σ' (eval e (LG prog w h₀ fa cd).env) (IsI (s : Int)) → (∀ l t, subscripted e false (.ref l) (.int (s : Int) t) = operate [.ref l, .int (s : Int) t] (getItem (.ref l) (.int (s : Int) t))) →
      Tr (LG prog w h₀ fa cd) σ' (eval (.Subscript (.Name "tries" q1) e pos) (LG prog w h₀ fa cd).env) (IsV (.ref (x s))) := fun {σ' e q1 pos s} K hs he hsub =>
    tr_sub_ (tr_name O (K.2.2.2.1.trans (rfl : τ.m "tries" = some (.ref X)))) he fun a b ha hb => tr_item (x := .ref (x s)) (ent_list (K.2.2.2.2 _ hX'.1)) ha hb (by omega) (by omega) (tries_get hs) (hsub _)
  have trieH : ∀ {A : Around} {σ' : Sg} {s : Nat}, KeepB τ σ' → s < 2 → Ent ((LG prog w h₀ fa cd).at A) σ' (fun h => TrieH (SK (LG prog w h₀ fa cd)) h (x s) (y.f s) (y.g s)) := fun {A σ' s} K hs => by
    obtain ⟨nw, T, hsub⟩ := hX'.2 s hs
    obtain ⟨d1, d2, d3, _⟩ := Y.d s hs
    exact TrieN.ent (G := (LG prog w h₀ fa cd).at A) T (fun p hp => K.2.2.2.2 _ (hsub p hp)) (Fx.dict (G := (LG prog w h₀ fa cd).at A) (hN.up fun p hp => K.2.2.2.2 _ (hτ p hp)) d1 d2) d3
  have hNK : ∀ {σ'}, KeepB τ σ' → Fx (LG prog w h₀ fa cd) σ' N := fun K => hN.up fun p hp => K.2.2.2.2 _ (hτ p hp)
  refine tm_next (P₁ := fun σ' => KeepB τ σ') (tm_for (src_nameF O (l := y.r) (o := listOf y.rv.toArray y.rn) (its := y.rv.toArray) (N := N)
      (Pm := fun i σ σ' => ∃ k z t t' D ys n', y.lk[i]? = some (k, z) ∧ σ' = { σ with m := put (put (put σ.m "kind" (.int k t)) "word" (.str z t')) "dues" (.ref D) } ∧ (D, listOf (List.toArray ys) n') ∈ N ∧ ys.length = 2 ∧ ∀ (s : Nat) u, ys[s]? = some u → Rep N u (due (kv s) k z))
      (tr_name O mr) Y.r (hN.up hτ) lst_of (fun I l i s v Q E hit hv qq => ?_) (fun i v σ' hv hf => ?_))
    (fun fix i σ' => fix = N ∧ KeepB τ σ') ?_ ?_ ?_ ?_) fun σ₂ K => ?_
  · obtain ⟨q, hq, T, t, t', D, ys, n', rfl, _⟩ := Y.a.get (show y.rv[i - 1]? = some v by simpa using hv)
    exact wpAny_letOwnedTupleGo_listiter hit qq
  · obtain ⟨q, hq, T, t, t', D, ys, n', rfl, h1, h2, h3, h4⟩ := Y.a.get (show y.rv[i]? = some v by simpa using hv)
    exact fun own s Q E c k' => to_tuple3 O c ⟨_, hf.get c _ h1, rfl, 0, rfl⟩ rfl rfl rfl (k := fun h' tk' c' => k' () _ h' tk' ⟨⟨q.1, q.2, t, t', D, ys, n', hq, rfl, h2, h3, h4⟩, rfl⟩ c')
  · rintro σ₁ fix ⟨rfl, rfl⟩
    exact ⟨rfl, rfl, rfl, rfl, rfl, fun p hp => hp⟩
  · rintro fix i σ' ⟨rfl, K⟩; exact hNK K
  · rintro fix i σ₁ σ₂ hi ⟨rfl, K⟩ ⟨kd, z, t, t', D, ys, n', hq, rfl, hD, hy2, hrep⟩ _
    have hok := Y.k.2 _ (List.mem_of_getElem? hq)
    have K₂ : KeepB τ (Sg.mk (put (put (put σ₁.m "kind" (.int kd t)) "word" (.str z t')) "dues" (.ref D)) σ₁.c σ₁.n) := K.trans ⟨rfl, rfl, rfl, rfl, fun p hp => hp⟩
    refine seq (tm_for (src_side O) (fun fix j σ' => (∃ l its, fix = [(l, { cls := .type "tuple", data := .seq its })] ∧ (l, ({ cls := .type "tuple", data := .seq its } : Obj)) ∈ σ'.n) ∧ KeepB τ σ' ∧ σ'.m "kind" = some (.int kd t) ∧ σ'.m "word" = some (.str z t') ∧ σ'.m "dues" = some (.ref D)) ?_ ?_ ?_ ?_)
    · rintro σ₃ fix ⟨l, its, rfl, rfl⟩
      exact ⟨⟨l, its, rfl, .head _⟩, K₂.trans ⟨rfl, rfl, rfl, rfl, fun p hp => .tail _ hp⟩, rfl, rfl, rfl⟩
    · rintro fix j σ' ⟨⟨l, its, rfl, hl⟩, _⟩; exact Fx.one hl
    · rintro fix s σ₃ σ₄ hs2 ⟨⟨l, its, rfl, hl⟩, K₃, mk, mw, md⟩ ⟨xs, ⟨ts, rfl⟩, rfl⟩ _
      have K₄ : KeepB τ (Sg.mk (put σ₃.m "side" (.int (s : Int) ts)) σ₃.c σ₃.n) := K₃.trans ⟨rfl, rfl, rfl, rfl, fun p hp => hp⟩
      obtain ⟨d1, d2, d3, d4, d5⟩ := Y.d s hs2
      obtain ⟨us, hus⟩ : ∃ u, ys[s]? = some u := ⟨_, List.getElem?_eq_getElem (by omega)⟩
      have rep := hrep s us hus
      refine seq_assign O (tm_callK O (tr_glob O kA) kkA (Tr.m (tr_arg3 (P := IsV (.ref (x s))) (R := IsV (.int kd t)) (S := IsV (.str z t')) (triesAt K₄ hs2 (tr_nameI O rfl) (by intro _ _; with_unfolding_all rfl)) (tr_name O mk) (tr_name O mw)))
        (R := fun v σ' => ∃ nw, σ' = Sg.mk (put σ₃.m "side" (.int (s : Int) ts)) σ₃.c (nw ++ σ₃.n) ∧ Rep nw v (due (kv s) kd z)) fun vs σ' p => ?_) fun v σ' p => ?_
      · obtain ⟨rfl, y1, y2, y3, rfl, rfl, rfl, rfl⟩ := p
        refine Tm.mono (answer_fn (d := 8) rfl O rfl rfl (trieH (A := (LG prog w h₀ fa cd).A) K₄ hs2) d4.2.1 hok.1 (by have := hok.2; simp only at this; omega) (by have := d4.1; omega)) fun v σ' ⟨nw, h1, h2, _⟩ => ⟨nw, h1, ?_⟩
        rw [← d5]; exact h2
      obtain ⟨nw, rfl, hr⟩ := p
      have K₅ : KeepB τ (Sg.mk (put (put σ₃.m "side" (.int (s : Int) ts)) "answer" v) σ₃.c (nw ++ σ₃.n)) := K₄.trans ⟨rfl, rfl, rfl, rfl, fun p hp => List.mem_append_right _ hp⟩
      have dueAt : ∀ {q1 q2 pos : Pos}, Tr (LG prog w h₀ fa cd) (Sg.mk (put (put σ₃.m "side" (.int (s : Int) ts)) "answer" v) σ₃.c (nw ++ σ₃.n)) (eval (.Subscript (.Name "dues" q1) (.Name "side" q2) pos) (LG prog w h₀ fa cd).env) (IsV us) := fun {q1 q2 pos} =>
        tr_sub_ (tr_name O md) (tr_nameI (a := (s : Int)) O rfl) fun a b ha hb => tr_item (x := us) ((hNK K₅).list hD) ha hb (by omega) (by omega) (by rw [List.getElem?_toArray, Int.toNat_natCast]; exact hus)
      have fnw : Fx (LG prog w h₀ fa cd) (Sg.mk (put (put σ₃.m "side" (.int (s : Int) ts)) "answer" v) σ₃.c (nw ++ σ₃.n)) nw := fun p hp => .inl (List.mem_append_left _ hp)
      refine seq_if (x := false) (tr_testOr (tr_testCmp (Pa := IsV v) (Pb := IsV us) (tr_name O rfl) dueAt fun a b ha hb => by subst ha; subst hb; exact tr_neDue hr rep fnw (hNK K₅) hun)
        (tr_testCmp (Pa := IsB (isBd (due (kv s) kd z))) (Pb := IsB (isBd (due (kv s) kd z))) (tr_isinst O (tr_name O rfl) hr fnw) (tr_isinst O dueAt rep (hNK K₅)) fun a b ha hb => Tr.mono (tr_neBool hun ha hb) fun v e => by rw [e]; simp)) (fun h => nomatch h) fun _ => tm_nil (tm_nil ?_)
      exact ⟨⟨l, its, rfl, List.mem_append_right _ hl⟩, K₅, mk, mw, md⟩
    · rintro fix σ₃ ⟨_, K₃, _⟩
      exact tm_nil ⟨rfl, K₃⟩
  · rintro fix σ₁ ⟨rfl, K⟩; exact ⟨rfl, K⟩
  -- the two counts
  have glen : ∀ s, s < 2 → (y.g s).length < 64 := fun s hs => by have := (Y.d s hs).2.2.2.1.1; omega
  have lenT : ∀ {σ' : Sg} {s : Nat} {q1 q2 q3 q4 pos : Pos} {k1 : Nat}, KeepB τ σ' → s < 2 → Tr (LG prog w h₀ fa cd) σ' (eval (.Call (.Name "len" q1) [.Subscript (.Name "tries" q2) (.Constant (.int (s : Int)) k1 q3) q4] [] pos) (LG prog w h₀ fa cd).env) (IsI (y.g s).length) := fun {σ' s q1 q2 q3 q4 pos k1} K' hs => by
    obtain ⟨nw, T, hsub⟩ := hX'.2 s hs
    obtain ⟨dx, es, n, hi⟩ := trie_inst (G := LG prog w h₀ fa cd) (σ := σ') T fun p hp => K'.2.2.2.2 _ (hsub p hp)
    have hl := glen s hs
    exact tr_fn1 O kl (id := "len") (by decide +kernel) rfl (triesAt K' hs (tr_int (i := (s : Int))) (by intro _ _; with_unfolding_all rfl)) fun v hv => by
      subst hv
      exact tr_lenK O hi f4 f5 (len_fn (d := 10) rfl (O.in1) (trieH K' hs) hl) (by omega)
  obtain ⟨l0, l1, v0, v1, n0, n1, p1, p2, p3, p4, p5, p6, p7⟩ := hP'
  have mP : ∀ {σ'}, KeepB τ σ' → σ'.m "pairs" = some (.ref P) := fun K => K.2.2.1.trans rfl
  have g20 := glen 0 (by decide)
  have g21 := glen 1 (by decide)
  have lenP0 : ∀ {σ' : Sg} {q1 q2 q3 q4 pos : Pos} {k1 : Nat}, KeepB τ σ' → Tr (LG prog w h₀ fa cd) σ' (eval (.Call (.Name "len" q1) [.Subscript (.Name "pairs" q2) (.Constant (.int 0) k1 q3) q4] [] pos) (LG prog w h₀ fa cd).env) (IsI (y.g 0).length) := fun {σ' q1 q2 q3 q4 pos k1} K' =>
    tr_fn1 O kl (id := "len") (by decide +kernel) rfl (tr_sub_ (tr_name O (mP K')) (tr_int (i := 0)) fun a b ha hb => tr_item (x := .ref l0) (ent_list (K'.2.2.2.2 _ p1)) ha hb (by decide) (by decide) rfl) fun v hv => by
      subst hv
      have := tr_len_list (G := LG prog w h₀ fa cd) (σ := σ') (ent_list (K'.2.2.2.2 _ p2)) (by simp [p6]; omega)
      simpa [p6] using this
  have lenP1 : ∀ {σ' : Sg} {q1 q2 q3 q4 pos : Pos} {k1 : Nat}, KeepB τ σ' → Tr (LG prog w h₀ fa cd) σ' (eval (.Call (.Name "len" q1) [.Subscript (.Name "pairs" q2) (.Constant (.int 1) k1 q3) q4] [] pos) (LG prog w h₀ fa cd).env) (IsI (y.g 1).length) := fun {σ' q1 q2 q3 q4 pos k1} K' =>
    tr_fn1 O kl (id := "len") (by decide +kernel) rfl (tr_sub_ (tr_name O (mP K')) (tr_int (i := 1)) fun a b ha hb => tr_item (x := .ref l1) (ent_list (K'.2.2.2.2 _ p1)) ha hb (by decide) (by decide) rfl) fun v hv => by
      subst hv
      have := tr_len_list (G := LG prog w h₀ fa cd) (σ := σ') (ent_list (K'.2.2.2.2 _ p3)) (by simp [p7]; omega)
      simpa [p7] using this
  refine seq_if (x := false) (tr_testCmpN (Pa := fun v nw => ∃ l vs, v = .ref l ∧ (l, listOf (List.toArray vs) 0) ∈ nw ∧ IntsAre vs [((y.g 0).length : Int), ((y.g 1).length : Int)]) (Pb := fun a v nw => ∃ l vs l' vs', a = .ref l ∧ v = .ref l' ∧ (l, listOf (List.toArray vs) 0) ∈ nw ∧ (l', listOf (List.toArray vs') 0) ∈ nw ∧ IntsAre vs [((y.g 0).length : Int), ((y.g 1).length : Int)] ∧ IntsAre vs' [((y.g 0).length : Int), ((y.g 1).length : Int)])
    (tm_list (Tr.m (tr_arg2 (lenT (s := 0) K (by decide)) (lenT (s := 1) K (by decide)))) (fun vs σ' l p _ => ?_) (by simp) fun vs σ' p => ?_) (fun a nw p => tm_list (Tr.m (tr_arg2 (lenP0 (K.trans ⟨rfl, rfl, rfl, rfl, fun p hp => List.mem_append_right _ hp⟩)) (lenP1 (K.trans ⟨rfl, rfl, rfl, rfl, fun p hp => List.mem_append_right _ hp⟩)))) (fun vs σ' l' q _ => ?_) (by simp) fun vs σ' q => ?_) fun a b nw p => ?_) (fun h => nomatch h) fun _ => tm_nil ?_
  · obtain ⟨rfl, a, b, rfl, ⟨t, rfl⟩, ⟨t', rfl⟩⟩ := p
    exact ⟨[(l, _)], rfl, l, _, rfl, .head _, .cons _ _ (.cons _ _ .nil)⟩
  · obtain ⟨rfl, a, b, rfl, _⟩ := p; simp
  · obtain ⟨l, us, rfl, h1, h2⟩ := p
    obtain ⟨rfl, a, b, rfl, ⟨t, rfl⟩, ⟨t', rfl⟩⟩ := q
    exact ⟨(l', _) :: nw, rfl, l, us, l', _, rfl, rfl, .tail _ h1, .head _, h2, .cons _ _ (.cons _ _ .nil)⟩
  · obtain ⟨rfl, a, b, rfl, _⟩ := q; simp
  · obtain ⟨l, vs, l', vs', rfl, rfl, h1, h2, h3, h4⟩ := p
    exact Tr.mono (tr_neInts (ent_list (List.mem_append_left _ h1)) h3 (ent_list (List.mem_append_left _ h2)) h4 hun rfl rfl) fun v e => by rw [e]; simp
  -- the pairs stand
  have dok : ∀ e ∈ [Dat.list (datOf (y.g 0)), .list (datOf (y.g 1))], kqdOk 8 e = true := fun e he => by
    simp only [List.mem_cons, List.mem_nil_iff, or_false] at he
    rcases he with rfl | rfl
    · exact datOf_ok (Y.d 0 (by decide)).2.2.2.1.2.2
    · exact datOf_ok (Y.d 1 (by decide)).2.2.2.1.2.2
  refine seq_if (x := false) (tr_testCmpN (Pa := fun v nw => ∃ l, v = .ref l ∧ PairsAt nw y.g l) (Pb := fun a v nw => ∃ l, a = .ref l ∧ PairsAt nw y.g l ∧ v = .ref P)
    (Tm.mono (tm_pairs O Y (hNK K) (K.1.trans ml)) fun v σ' p => ?_) (fun a nw p => Tm.mono (Tr.m (tr_name O (mP (K.trans ⟨rfl, rfl, rfl, rfl, fun p hp => List.mem_append_right nw hp⟩)))) fun v σ' q => ?_) fun a b nw p => ?_) (fun h => nomatch h) fun _ => tm_nil (tm_nil ⟨rfl, fun p hp => K.2.2.2.2 _ (hτ p hp)⟩)
  · obtain ⟨l, nw, rfl, rfl, h⟩ := p
    exact ⟨nw, rfl, l, rfl, h⟩
  · obtain ⟨l, rfl, h⟩ := p
    exact ⟨nw, q.1, l, rfl, h, q.2⟩
  · obtain ⟨l, rfl, ⟨a0, a1, w0, w1, m0, m1, c1, c2, c3, c4, c5, _⟩, rfl⟩ := p
    have up : ∀ p ∈ τ.n, p ∈ nw ++ σ₂.n := fun p hp => List.mem_append_right _ (K.2.2.2.2 _ hp)
    have lf : ∀ p ∈ nw, p ∈ nw ++ σ₂.n := fun p hp => List.mem_append_left _ hp
    exact tr_neDat (ds := [Dat.list (datOf (y.g 0)), .list (datOf (y.g 1))]) (lf _ c1) (up _ p1) (.cons (.list (lf _ c2) (c4.mono lf)) (.cons (.list (lf _ c3) (c5.mono lf)) .nil)) (.cons (.list (up _ p2) (p4.mono up)) (.cons (.list (up _ p3) (p5.mono up)) .nil)) dok hun rfl rfl
end
end Mine
open PySem PySem.W PySem.Calls PyProof.Rows
set_option Elab.async false
set_option maxRecDepth 100000
set_option maxHeartbeats 4000000
set_option linter.unusedVariables false
namespace Mine

theorem KV.rev {kv : List (Str × Value)} (h : KV kv) : KV kv.reverse := ⟨by rw [List.length_reverse]; exact h.1, fun q hq => h.2.1 q (List.mem_reverse.mp hq), fun q hq => h.2.2 q (List.mem_reverse.mp hq)⟩

section
variable {prog : Program} {w : World} {h₀ : Heap} {fa : Addr} {cd : Value} {σ : Sg} {R : Flow → Sg → Prop}

theorem ph6 (O : Ok (LG prog w h₀ fa cd) 12) {b : DB} {v : DV} {u : DT} {z : DL} {a : DA} {e : DE} (S : St5 (LG prog w h₀ fa cd) b v u z a e σ) :
    Rest prog w h₀ fa cd 10 (fun f σ' => f = .ret (.bool true)) σ := by
  refine Rest.mk ?_
  have hzl := S.l6.length
  have hz40 := S.k5.1
  have hnd : ∀ s, s < 2 → ((v.kv s).map (·.1)).Nodup := fun s hs => by
    obtain ⟨_, d2, _⟩ := S.dd s hs
    obtain ⟨_, _, _, _, _, _, h⟩ := id d2
    exact h
  refine tm_next (P₁ := fun _ => True) (tm_for (src_tupF O (n := 2) (PV := fun N i x => ∃ T y, x = .ref T ∧ (T, tupO [.ref y.L, .ref y.r]) ∈ N ∧ Lay (SK (LG prog w h₀ fa cd)) v.kv N y) (Pm := fun i σ σ' => ∃ N y, Lay (SK (LG prog w h₀ fa cd)) v.kv N y ∧ Fx (LG prog w h₀ fa cd) σ N ∧ σ' = { σ with m := put (put σ.m "laid" (.ref y.L)) "row" (.ref y.r) })
      (tm_tuple (P := fun vs σ' => ∃ T0 T1 AR, vs = [.ref T0, .ref T1] ∧ σ' = { σ with n := (T1, tupO [.ref e.BL, .ref AR]) :: (AR, listOf a.av.reverse.toArray 0) :: (T0, tupO [.ref b.DL, .ref a.al]) :: σ.n }) ?_ (fun vs σ' l p _ => ?_) fun vs σ' p => ?_) (fun I l N i j s x Q E hit pv qq => ?_) (fun N i x σ pv hf => ?_))
    (fun fix i σ' => ∀ p ∈ fix, p ∈ σ'.n) ?_ ?_ ?_ ?_) fun σ' _ => seq_ret (Tm.mono (Tr.m tr_bool) fun x σ'' p => by rw [p.2])
  · refine tm_arg (P := fun x σ' => ∃ T0, x = .ref T0 ∧ σ' = { σ with n := (T0, tupO [.ref b.DL, .ref a.al]) :: σ.n }) (tm_tuple (Tr.m (tr_arg2 (tr_name O S.m3) (tr_name O S.m6))) (fun vs σ' l p _ => ?_) fun vs σ' p => ?_) fun x σ' p => ?_
    · obtain ⟨rfl, x, y, rfl, rfl, rfl⟩ := p; exact ⟨l, rfl, rfl⟩
    · obtain ⟨rfl, x, y, rfl, _⟩ := p; simp
    obtain ⟨T0, rfl, rfl⟩ := p
    refine tm_arg (P := fun x σ' => ∃ T1 AR, x = .ref T1 ∧ σ' = { σ with n := (T1, tupO [.ref e.BL, .ref AR]) :: (AR, listOf a.av.reverse.toArray 0) :: (T0, tupO [.ref b.DL, .ref a.al]) :: σ.n })
      (tm_tuple (P := fun vs σ' => ∃ AR, vs = [.ref e.BL, .ref AR] ∧ σ' = { σ with n := (AR, listOf a.av.reverse.toArray 0) :: (T0, tupO [.ref b.DL, .ref a.al]) :: σ.n }) ?_ (fun vs σ' l p _ => ?_) fun vs σ' p => ?_) fun x σ' p => ?_
    · refine tm_arg (Tr.m (tr_name O S.m8)) fun x σ' p => ?_
      obtain ⟨rfl, rfl⟩ := p
      refine tm_arg (tm_rev (R := fun vs σ' => vs = a.av ∧ σ' = { σ with n := (T0, tupO [.ref b.DL, .ref a.al]) :: σ.n }) (Tm.mono (Tr.m (tr_name O S.m6)) fun x σ' p => ?_) fun _ => tr_neg1) fun x σ' p => ?_
      · obtain ⟨rfl, rfl⟩ := p
        exact ⟨a.al, a.av, rfl, ent_list (.tail _ S.n6), by omega, rfl, rfl⟩
      · obtain ⟨AR, vs, σ₁, rfl, ⟨rfl, rfl⟩, rfl, _⟩ := p
        refine Tm.mono (Tr.m tr_args0) fun vs σ'' q => ?_
        obtain ⟨rfl, rfl⟩ := q
        exact ⟨AR, rfl, rfl⟩
    · obtain ⟨AR, rfl, rfl⟩ := p; exact ⟨l, AR, rfl, rfl⟩
    · obtain ⟨AR, rfl, _⟩ := p; simp
    obtain ⟨T1, AR, rfl, rfl⟩ := p
    refine Tm.mono (Tr.m tr_args0) fun vs σ'' q => ?_
    obtain ⟨rfl, rfl⟩ := q
    exact ⟨T0, T1, AR, rfl, rfl⟩
  · obtain ⟨T0, T1, AR, rfl, rfl⟩ := p
    have up : ∀ p ∈ σ.n, p ∈ (l, ({ cls := .type "tuple", data := .seq [Value.ref T0, .ref T1].toArray } : Obj)) :: (T1, tupO [.ref e.BL, .ref AR]) :: (AR, listOf a.av.reverse.toArray 0) :: (T0, tupO [.ref b.DL, .ref a.al]) :: σ.n := fun p hp => .tail _ (.tail _ (.tail _ (.tail _ hp)))
    refine ⟨l, _, rfl, rfl, fun i x hx => ?_, .head _⟩
    match i with
    | 0 =>
      cases hx
      exact ⟨T0, ⟨b.D, v.oD, v.kv, b.DL, a.al, a.av, a.an, z.lk⟩, rfl, .tail _ (.tail _ (.tail _ (.head _))), ⟨up _ S.n3, fun s hs => ⟨up _ (S.dd s hs).1, (S.dd s hs).2.1, (S.dd s hs).2.2, S.kk s hs, fun _ _ => rfl⟩, up _ S.n6, S.l6.imp fun a b y => y.mono up, S.k5⟩⟩
    | 1 =>
      cases hx
      refine ⟨T1, ⟨e.E, e.oE, fun s => (v.kv s).reverse, e.BL, AR, a.av.reverse, 0, z.lk.reverse⟩, rfl, .tail _ (.head _), ⟨up _ S.n8, fun s hs => ⟨up _ (S.ee s hs).1, (S.ee s hs).2.1, (S.ee s hs).2.2, (S.kk s hs).rev, fun k x => due_reverse (hnd s hs) k x⟩, .tail _ (.tail _ (.head _)), (S.l6.imp fun a b y => y.mono up).reverse, ?_, fun q hq => S.k5.2 q (List.mem_reverse.mp hq)⟩⟩
      show z.lk.reverse.length ≤ 40
      rw [List.length_reverse]; exact hz40
    | i + 2 => simp at hx
  · obtain ⟨T0, T1, AR, rfl, _⟩ := p; simp
  · obtain ⟨T, y, rfl, _⟩ := pv
    exact go_tupIter hit qq
  · obtain ⟨T, y, rfl, hT, Y⟩ := pv
    exact fun own s Q E c k => to_tuple2 O c ⟨_, hf.get c _ hT, rfl, 0, rfl⟩ rfl rfl (k := fun h' tk' c' => k () _ h' tk' ⟨⟨N, y, Y, hf, rfl⟩, rfl⟩ c')
  · rintro σ₁ fix rfl; exact fun p hp => hp
  · rintro fix i σ' h; exact fun p hp => .inl (h p hp)
  · rintro fix i σ₁ σ₂ hi inv ⟨N, y, Y, hN, rfl⟩ _
    refine Tm.mono (body_turn O Y hN rfl rfl) fun f σ' p => ?_
    obtain ⟨rfl, h⟩ := p
    exact fun p hp => h p (inv p hp)
  · rintro fix σ₁ _; exact ⟨rfl, trivial⟩
end

theorem law_ends {prog : Program} {w : World} {s₁ : Shared} {fa : Addr} {cd : Value} {sl : Addr} {sv : List Value} {ns : List Int} {h₁ : Heap} {tk₁ : Nat} {p : Program} {loose : List Str} {mg mb m₀ : Str → Option Value} {o1 : Obj} {Q : Flow → Shared → Prop} {E : Value → Shared → Prop}
    (KX : (KK w).In s₁.heap) (T : TopRead p loose mg mb s₁.heap) (hL : s₁.heap.IsList sl sv.toArray) (hI : IntsAre sv ns) (hz : ns.length ≤ 63) (F : Fr s₁.heap s₁.heap.objs.size h₁ m₀) (hm : m₀ "script" = some (.ref sl))
    (N : News s₁.heap s₁.heap.objs.size h₁ [(s₁.heap.objs.size + 1, o1)]) (d1 : o1.data = .cell none)
    (hQ : ∀ h' tk' m, Fr s₁.heap s₁.heap.objs.size h' m → Q (.ret (.bool true)) { s₁ with heap := h', toks := tk' }) :
    wpAny (model prog w) (callerA.deeper (lawEnv w s₁.heap.objs.size fa cd)) (execs (lawB w) (lawEnv w s₁.heap.objs.size fa cd)) Q E { s₁ with heap := h₁, toks := tk₁ } := by
  have ec : (LG prog w s₁.heap fa cd).env.cells = ([("trees", s₁.heap.objs.size + 1)] : List (Str × Addr)) := by rfl
  have hcl : ∀ x a, (LG prog w s₁.heap fa cd).env.cells.lookup x = some a → x = "trees" ∧ a = s₁.heap.objs.size + 1 := by
    intro x a h
    rw [ec] at h
    simp only [List.lookup_cons, List.lookup_nil] at h
    split at h
    · rename_i hb; cases h; exact ⟨eq_of_beq hb, rfl⟩
    · cases h
  have O : Ok (LG prog w s₁.heap fa cd) 12 := {
    X := KX
    T := ⟨p, loose, mg, mb, T⟩
    B := ⟨s₁.heap, [lawEnv w s₁.heap.objs.size fa cd], ⟨KX, p, loose, mg, mb, T⟩, fun h m F' => pushX (below_caller s₁.heap) F' rfl rfl⟩
    kind := rfl
    glob := rfl
    blt := rfl
    hh := rfl
    depth := by show callerA.depth + 1 + 12 < recursionLimit; decide
    units := by show callerA.units + 3 + 10 * 12 < cLine; decide
    cpw := fun x y a h1 h2 => (hcl x a h1).1.trans (hcl y a h2).1.symm
    cL := fun x a h1 => by
      show a ≠ s₁.heap.objs.size
      rw [(hcl x a h1).2]
      exact Nat.ne_of_gt (Nat.lt_add_of_pos_right (by decide)) }
  have c : Cx (LG prog w s₁.heap fa cd) [] ⟨m₀, fun _ => none, []⟩ h₁ := ⟨F, News.nil, fun x a h => by
    rw [(hcl x a h).2]
    exact ⟨o1, (N (_, o1) (by simp)).1, d1⟩, (fun _ h => nomatch h), fun _ h => nomatch h⟩
  have key : Tm (LG prog w s₁.heap fa cd) ⟨m₀, fun _ => none, []⟩ (execs (lawB w) (LG prog w s₁.heap fa cd).env) (fun f σ' => f = .ret (.bool true)) := ph1 O hL hI hz hm (fun σ b v S1 A => ph2 O S1 fun σ u S2 => ph3 O S2 fun σ z S3 => ph4 O S3 fun σ a S4 => ph5 O S4 fun σ e S5 => ph6 O S5)
  exact key [] { s₁ with heap := h₁, toks := tk₁ } Q E c fun f σ' h' tk' pf c' => by
    subst pf; exact hQ h' tk' _ c'.F
end Mine
open PySem PySem.W PySem.Calls PyProof.Rows
set_option Elab.async false
set_option maxRecDepth 100000
set_option maxHeartbeats 8000000
namespace Mine
theorem t1 : PySem.Challenge.rw_te0029_01.Holds := hd1 (by
  k_go0
  refine' law_ends ?KX ?T ?hL ?hI ?hz ?F ?hm ?N ?d1 ?hQ
  case KX => assumption
  case T => exact topRead_of (by assumption)
  case hL => assumption
  case hI => assumption
  case F => assumption
  case N => assumption
  case hz => omega
  case hm => rfl
  case d1 => assumption
  case hQ =>
    intro h' tk' m F'
    refine goodW_bool F' (by assumption) (raisesW_false ?_) ?_
    · wrow_none_raised
    · wrow_post)
end Mine

set_option maxRecDepth 100000 in
set_option maxHeartbeats 8000000 in
theorem PySem.Challenge.cw_te0029_01_holds : PySem.Challenge.rw_te0029_01.Holds := by
  exact Mine.t1
