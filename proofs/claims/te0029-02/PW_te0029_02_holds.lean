import PyProof.Rows.All
import Wide.All
import OpenK.AllK
import Wide.FinOn
import PySem.Challenge.RW_te0029_02

open PySem PySem.W PyProof.Rows
set_option Elab.async false
set_option maxRecDepth 100000
set_option maxHeartbeats 8000000
namespace Mine
open_top hd2 for PySem.Challenge.rw_te0029_02
end Mine
open PySem PySem.W PySem.Calls PyProof.Rows
set_option Elab.async false
set_option maxRecDepth 100000
set_option maxHeartbeats 4000000
namespace Mine

abbrev Led := List (Addr × Obj)

structure Gx where
  prog : Program
  w : World
  K : Frag
  A : Around
  env : Env
  h₀ : Heap

structure Sg where
  m : Str → Option Value
  c : Str → Option Value
  n : Led

structure Ok (G : Gx) (d : Nat) : Prop where
  X : G.K.In G.h₀
  T : ∃ p loose mg mb, TopRead p loose mg mb G.h₀
  B : ∃ base outer, (G.K.In base ∧ ∃ p loose mg mb, TopRead p loose mg mb base) ∧ ∀ h m, Fr G.h₀ G.env.locals h m → Below G.A base outer h
  kind : G.env.scope.kind = .function
  glob : G.env.globals = mainGlobals
  blt : G.env.builtins = builtinsNs
  hh : G.A.handled = none
  depth : G.A.depth + d < recursionLimit
  units : G.A.units + 10 * d < cLine
  cpw : ∀ x y a, G.env.cells.lookup x = some a → G.env.cells.lookup y = some a → x = y
  cL : ∀ x a, G.env.cells.lookup x = some a → a ≠ G.env.locals

structure Cx (G : Gx) (own : Led) (σ : Sg) (h : Heap) : Prop where
  F : Fr G.h₀ G.env.locals h σ.m
  N : News G.h₀ G.env.locals h (own ++ σ.n)
  C : ∀ x a, G.env.cells.lookup x = some a → h.IsCell a (σ.c x)
  offO : ∀ p ∈ own, ∀ q ∈ σ.n, p.1 ≠ q.1
  offC : ∀ p ∈ own ++ σ.n, ∀ x a, G.env.cells.lookup x = some a → p.1 ≠ a

section
variable {G : Gx} {own : Led} {σ : Sg} {h h' : Heap}

theorem Cx.keep (x : Cx G own σ h) (k : ∀ b o, h.get? b = some o → h'.get? b = some o) : Cx G own σ h' :=
  ⟨⟨x.F.ns.keeps k, fun b o e => k _ _ (x.F.keep b o e), x.F.above⟩, x.N.keepsAll k, fun y a e => (x.C y a e).keeps k, x.offO, x.offC⟩

theorem Cx.push (x : Cx G own σ h) (o : Obj) : Cx G own σ (h.push o) := x.keep fun _ _ e => Heap.get?_push_of_some _ e

/-- what is new may be put in the ledger -/
theorem Cx.more (x : Cx G own σ h) {nw : Led} (hg : ∀ p ∈ nw, h.get? p.1 = some p.2 ∧ p.1 ≠ G.env.locals ∧ G.h₀.get? p.1 = none)
    (ho : ∀ p ∈ own, ∀ q ∈ nw, p.1 ≠ q.1) (hc : ∀ p ∈ nw, ∀ x a, G.env.cells.lookup x = some a → p.1 ≠ a) : Cx G own { σ with n := nw ++ σ.n } h := by
  refine ⟨x.F, fun p hp => ?_, x.C, fun p hp q hq => ?_, fun p hp => ?_⟩
  · rcases List.mem_append.mp hp with hp | hp
    · exact x.N p (List.mem_append_left _ hp)
    · rcases List.mem_append.mp hp with hp | hp
      · exact hg p hp
      · exact x.N p (List.mem_append_right _ hp)
  · rcases List.mem_append.mp hq with hq | hq
    · exact ho p hp q hq
    · exact x.offO p hp q hq
  · rcases List.mem_append.mp hp with hp | hp
    · exact x.offC p (List.mem_append_left _ hp)
    · rcases List.mem_append.mp hp with hp | hp
      · exact hc p hp
      · exact x.offC p (List.mem_append_right _ hp)

/-- objects made since an elder heap -/
theorem Cx.fresh (x : Cx G own σ h) (k : ∀ b o, h.get? b = some o → h'.get? b = some o) {nw : Led}
    (hg : ∀ p ∈ nw, h'.get? p.1 = some p.2 ∧ h.get? p.1 = none) : Cx G own { σ with n := nw ++ σ.n } h' := by
  refine (x.keep k).more (fun p hp => ⟨(hg p hp).1, fun e => ?_, ?_⟩) (fun p hp q hq e => ?_) fun p hp y a ha e => ?_
  · obtain ⟨o, _, _, ho, _⟩ := x.F.ns
    have := (hg p hp).2; rw [e, ho] at this; cases this
  · cases hq : G.h₀.get? p.1 with
    | none => rfl
    | some o => have := (hg p hp).2; rw [x.F.keep _ _ hq] at this; cases this
  · have := (hg q hq).2; rw [← e, (x.N p (List.mem_append_left _ hp)).1] at this; cases this
  · obtain ⟨o, ho, _⟩ := x.C y a ha
    have := (hg p hp).2; rw [e, ho] at this; cases this

theorem Cx.pushN (x : Cx G own σ h) (o : Obj) (hf : o.isFreed = false := by rfl) : Cx G own { σ with n := (h.objs.size, o) :: σ.n } (h.push o) := by
  refine x.fresh (h' := h.push o) (nw := [(h.objs.size, o)]) (fun _ _ e => Heap.get?_push_of_some _ e) fun p hp => ?_
  obtain rfl := List.mem_singleton.mp hp
  refine ⟨Heap.get?_push_size _ hf, ?_⟩
  cases hq : h.get? h.objs.size with
  | none => rfl
  | some o' => exact absurd (Heap.lt_size hq) (Nat.lt_irrefl _)

def updL (d : Addr) (o' : Obj) (l : Led) : Led := l.map fun p => if p.1 = d then (d, o') else p
theorem updL_self {d : Addr} {o o' : Obj} {l : Led} (h : (d, o) ∈ l) : (d, o') ∈ updL d o' l := by
  refine List.mem_map.mpr ⟨_, h, ?_⟩
  simp
theorem updL_ne {d a : Addr} {o o' : Obj} {l : Led} (h : (a, o) ∈ l) (hne : a ≠ d) : (a, o) ∈ updL d o' l := by
  refine List.mem_map.mpr ⟨_, h, ?_⟩
  simp [hne]
theorem updL_fst {d : Addr} {o' : Obj} {l : Led} {p : Addr × Obj} (h : p ∈ updL d o' l) : ∃ q ∈ l, q.1 = p.1 := by
  obtain ⟨q, hq, rfl⟩ := List.mem_map.mp h
  refine ⟨q, hq, ?_⟩
  by_cases e : q.1 = d <;> simp [e]

theorem Cx.upd (x : Cx G own σ h) {d : Addr} {o o' : Obj} (hm : (d, o) ∈ σ.n) (hs : Heap.SameBut d h h') (ho : h'.get? d = some o') : Cx G own { σ with n := updL d o' σ.n } h' := by
  have hd := x.N (d, o) (List.mem_append_right _ hm)
  have offd : ∀ p ∈ own, p.1 ≠ d := fun p hp => x.offO p hp _ hm
  refine ⟨⟨x.F.ns.sameBut hs (Ne.symm hd.2.1), fun b ob e => (hs.2 b fun q => ?_).trans (x.F.keep b ob e), x.F.above⟩, fun p hp => ?_, fun y a ha => (x.C y a ha).sameBut hs fun e => ?_, fun p hp q hq => ?_, fun p hp y a ha => ?_⟩
  · rw [q, hd.2.2] at e; cases e
  · rcases List.mem_append.mp hp with hp | hp
    · have := x.N p (List.mem_append_left _ hp)
      exact ⟨(hs.2 _ (offd p hp)).trans this.1, this.2⟩
    · obtain ⟨q, hq, rfl⟩ := List.mem_map.mp hp
      have hq' := x.N q (List.mem_append_right _ hq)
      by_cases e : q.1 = d
      · simp only [e, if_true]; exact ⟨ho, hd.2⟩
      · simp only [e, if_false]; exact ⟨(hs.2 _ e).trans hq'.1, hq'.2⟩
  · exact x.offC (d, o) (List.mem_append_right _ hm) y a ha e.symm
  · obtain ⟨q', hq', e⟩ := updL_fst hq
    rw [← e]; exact x.offO p hp q' hq'
  · rcases List.mem_append.mp hp with hp | hp
    · exact x.offC p (List.mem_append_left _ hp) y a ha
    · obtain ⟨q', hq', e⟩ := updL_fst hp
      rw [← e]; exact x.offC q' (List.mem_append_right _ hq') y a ha

def put (m : Str → Option Value) (x : Str) (v : Value) : Str → Option Value := fun y => if y = x then some v else m y

theorem Cx.store (x : Cx G own σ h) {y : Str} {v : Value} (hn : h'.Ns G.env.locals (put σ.m y v)) (hs : Heap.SameBut G.env.locals h h') (hL : ∀ z a, G.env.cells.lookup z = some a → a ≠ G.env.locals) : Cx G own { σ with m := put σ.m y v } h' :=
  ⟨x.F.set hn hs, x.N.set hs, fun z a ha => (x.C z a ha).sameBut hs (hL z a ha), x.offO, x.offC⟩

theorem Cx.get (x : Cx G own σ h) {a : Addr} {o : Obj} (hm : (a, o) ∈ σ.n) : h.get? a = some o := (x.N _ (List.mem_append_right _ hm)).1
theorem Cx.old (x : Cx G own σ h) {a : Addr} {o : Obj} (hm : G.h₀.get? a = some o) : h.get? a = some o := x.F.keep _ _ hm
theorem Cx.ne (x : Cx G own σ h) {a b : Addr} {o o' : Obj} (ha : (a, o) ∈ σ.n) (hb : (b, o') ∈ σ.n) (hne : o ≠ o') : a ≠ b := by
  rintro rfl
  have := x.get ha; rw [x.get hb] at this; exact hne (Option.some.inj this).symm
theorem Cx.ne₀ (x : Cx G own σ h) {a b : Addr} {o o' : Obj} (ha : (a, o) ∈ σ.n) (hb : G.h₀.get? b = some o') : a ≠ b := by
  rintro rfl
  have := (x.N _ (List.mem_append_right _ ha)).2.2; rw [hb] at this; cases this
end

/-- a tree that runs to its end in every heap of the kind σ and changes what P says -/
def Tm {α : Type} (G : Gx) (σ : Sg) (t : Sem α) (P : α → Sg → Prop) : Prop :=
  ∀ (own : Led) (s : Shared) (Q : α → Shared → Prop) (E : Value → Shared → Prop), Cx G own σ s.heap →
    (∀ v σ' h' tk', P v σ' → Cx G own σ' h' → Q v { s with heap := h', toks := tk' }) → wpAny (model G.prog G.w) G.A t Q E s
/-- .. that changes nothing -/
def Tr {α : Type} (G : Gx) (σ : Sg) (t : Sem α) (P : α → Prop) : Prop :=
  ∀ (own : Led) (s : Shared) (Q : α → Shared → Prop) (E : Value → Shared → Prop), Cx G own σ s.heap →
    (∀ v h' tk', P v → Cx G own σ h' → Q v { s with heap := h', toks := tk' }) → wpAny (model G.prog G.w) G.A t Q E s
/-- what every heap of the kind σ shows -/
def Ent (G : Gx) (σ : Sg) (φ : Heap → Prop) : Prop := ∀ own h, Cx G own σ h → φ h

section
variable {α β : Type} {G : Gx} {σ : Sg}
theorem Tr.m {t : Sem α} {P : α → Prop} (h : Tr G σ t P) : Tm G σ t (fun v σ' => σ' = σ ∧ P v) := fun own s Q E c k => h own s Q E c fun v h' tk' p c' => k v σ h' tk' ⟨rfl, p⟩ c'
theorem Tm.r {t : Sem α} {P : α → Prop} (h : Tm G σ t (fun v σ' => σ' = σ ∧ P v)) : Tr G σ t P := fun own s Q E c k => h own s Q E c fun v σ' h' tk' p c' => k v h' tk' p.2 (p.1 ▸ c')
theorem Tm.mono {t : Sem α} {P R : α → Sg → Prop} (h : Tm G σ t P) (k : ∀ v σ', P v σ' → R v σ') : Tm G σ t R := fun own s Q E c q => h own s Q E c fun v σ' h' tk' p c' => q v σ' h' tk' (k v σ' p) c'
theorem Tr.mono {t : Sem α} {P R : α → Prop} (h : Tr G σ t P) (k : ∀ v, P v → R v) : Tr G σ t R := fun own s Q E c q => h own s Q E c fun v h' tk' p c' => q v h' tk' (k v p) c'
theorem tm_bind {t : Sem α} {f : α → Sem β} {P : α → Sg → Prop} {R : β → Sg → Prop} (h : Tm G σ t P) (k : ∀ v σ', P v σ' → Tm G σ' (f v) R) : Tm G σ (t >>= f) R := fun own s Q E c q =>
  wpAny_bind (h own s _ E c fun v σ' h' tk' p c' => k v σ' p own _ Q E c' fun v₂ σ₂ h₂ tk₂ p₂ c₂ => q v₂ σ₂ h₂ tk₂ p₂ c₂)
theorem tr_pure {v : α} {P : α → Prop} (h : P v) : Tr G σ (pure v) P := fun _ s _ _ c k => wpAny_pure (k v s.heap s.toks h c)
end

abbrev IsV (v : Value) : Value → Prop := fun x => x = v
abbrev IsI (a : Int) : Value → Prop := fun v => ∃ t, v = .int a t
abbrev IsS (x : Str) : Value → Prop := fun v => ∃ t, v = .str x t
abbrev IsB (b : Bool) : Value → Prop := fun v => v = .bool b

section
variable {G : Gx} {σ : Sg} {d : Nat}

/-- names -/
theorem tr_name (O : Ok G d) {x : Str} {pos : Pos} {v : Value} (hv : σ.m x = some v) (hx : G.env.kindOf x = some .local := by rfl) (hd : (x == ("__debug__" : Str)) = false := by decide) :
    Tr G σ (eval (.Name x pos) G.env) (IsV v) := fun _ s _ _ c k => wpAny_Name (wpAny_loadName_local O.kind hx c.F.ns hv (k v s.heap s.toks rfl c)) hd
theorem tr_nameC (O : Ok G d) {x : Str} {pos : Pos} {v : Value} {a : Addr} (ha : G.env.cells.lookup x = some a) (hv : σ.c x = some v) (hx : G.env.kindOf x = some .cell := by rfl) (hd : (x == ("__debug__" : Str)) = false := by decide) :
    Tr G σ (eval (.Name x pos) G.env) (IsV v) := fun _ s _ _ c k => wpAny_Name (wpAny_loadName_cell O.kind hx ha (hv ▸ c.C x a ha) (k v s.heap s.toks rfl c)) hd
theorem tr_nameF (O : Ok G d) {x : Str} {pos : Pos} {v : Value} {a : Addr} (ha : G.env.cells.lookup x = some a) (hv : σ.c x = some v) (hx : G.env.kindOf x = some .free := by rfl) (hd : (x == ("__debug__" : Str)) = false := by decide) (hn : (x == ("__classdict__" : Str)) = false := by decide) :
    Tr G σ (eval (.Name x pos) G.env) (IsV v) := fun _ s _ _ c k => wpAny_Name (wpAny_loadName_free O.kind hx ha (hv ▸ c.C x a ha) (k v s.heap s.toks rfl c) hn) hd
theorem tr_int {i : Int} {k : Nat} {pos : Pos} : Tr G σ (eval (.Constant (.int i) k pos) G.env) (IsI i) := fun _ s _ _ c q => wpAny_Constant_int (q _ s.heap _ ⟨_, rfl⟩ c)
theorem tr_str {x : Str} {k : Nat} {pos : Pos} : Tr G σ (eval (.Constant (.str x) k pos) G.env) (IsS x) := fun _ s _ _ c q => wpAny_Constant_str (q _ s.heap _ ⟨_, rfl⟩ c)
end
end Mine
open PySem PySem.W PySem.Calls PyProof.Rows
set_option Elab.async false
set_option maxRecDepth 100000
namespace Mine
abbrev lw (x : Str) : List Nat := x.cps.toList
theorem str_ext {x y : Str} (h : lw x = lw y) : x = y := by
  cases x; cases y; simp only [lw, Array.toList_inj] at h; rw [h]
theorem lw_append (x y : Str) : lw (x ++ y) = lw x ++ lw y := by
  show (x.cps ++ y.cps).toList = _
  simp [lw]
theorem lw_length (x : Str) : (lw x).length = x.length := rfl
open Builtin.Str in
theorem slice_gen {x : Str} {l u : Option Int} {a b : Nat} (hab : a ≤ b) (hb : b ≤ x.length) (e : strSliceIndices l u 1 x.length = strSliceIndices (some (a : Int)) (some (b : Int)) 1 x.length) : lw (Txt.slice x l u) = ((lw x).drop a).take (b - a) := by
  have h := PySem.StrLaws.sliced_plain x hab hb
  unfold Txt.slice
  rw [e]
  split
  · rename_i hc
    have hl : (strSliceIndices (some (a : Int)) (some (b : Int)) 1 x.length).length = x.length := by simpa using hc
    rw [PySem.StrLaws.strSliceIndices_plain hab hb] at hl
    simp only [List.length_map, List.length_range] at hl
    have ha : a = 0 := by omega
    have hb' : b = x.length := by omega
    subst ha; subst hb'
    rw [List.drop_zero, Nat.sub_zero, ← lw_length, List.take_length]
  · show (((strSliceIndices (some (a : Int)) (some (b : Int)) 1 x.length).filterMap (x.cps[·]?)).toArray).toList = _
    rw [h]
theorem slice_to {x : Str} {k : Int} (h : 0 ≤ k) : lw (Txt.slice x none (some k)) = (lw x).take k.toNat := by
  by_cases hk : k.toNat ≤ x.length
  · rw [slice_gen (a := 0) (b := k.toNat) (Nat.zero_le _) hk (by rw [PySem.StrLaws.sliceIdx_none_lo, Int.toNat_of_nonneg h]; rfl)]
    simp
  · have hk' : (x.length : Int) ≤ k := by omega
    rw [slice_gen (a := 0) (b := x.length) (Nat.zero_le _) (Nat.le_refl _) (by rw [sliceIdx_hi_beyond _ hk', PySem.StrLaws.sliceIdx_none_lo]; rfl)]
    rw [List.drop_zero, Nat.sub_zero, ← lw_length, List.take_length, List.take_of_length_le]
    rw [lw_length]; omega
theorem slice_from {x : Str} {k : Nat} (h : k ≤ x.length) : lw (Txt.slice x (some (k : Int)) none) = (lw x).drop k := by
  rw [slice_gen (a := k) (b := x.length) h (Nat.le_refl _) (by rw [PySem.StrLaws.sliceIdx_none_hi])]
  rw [List.take_of_length_le (by rw [List.length_drop, lw_length]; omega)]
theorem slice_neg {x : Str} {k : Nat} (h : 1 ≤ k) (h' : k ≤ x.length) : lw (Txt.slice x none (some (-(k:Int)))) = (lw x).take (x.length - k) := by
  rw [slice_gen (a := 0) (b := x.length - k) (Nat.zero_le _) (by omega) (by
    rw [PySem.StrLaws.sliceIdx_none_lo, PySem.StrLaws.sliceIdx_neg_hi _ _ (by omega) (by omega)]
    congr 2; omega)]
  simp
theorem starts_iff (x y : Str) : Txt.startswith x y = decide (lw y <+: lw x) := by
  unfold Txt.startswith
  rw [PySem.StrLaws.subAt_eq]
  rw [Bool.eq_iff_iff]
  simp only [Nat.zero_add, List.drop_zero, Bool.and_eq_true, decide_eq_true_eq, beq_iff_eq]
  rw [List.prefix_iff_eq_take]
  constructor
  · rintro ⟨_, h⟩; exact h.symm
  · intro h
    refine ⟨?_, h.symm⟩
    have := congrArg List.length h
    rw [List.length_take] at this
    simp only [lw_length] at this
    omega
/-- the order of words -/
theorem le_of_prefix {a b : List Nat} (h : a <+: b) : ¬ b < a := by
  obtain ⟨t, rfl⟩ := h
  induction a with
  | nil => simp
  | cons x a ih => rw [List.cons_append, List.cons_lt_cons_iff]; simpa using ih
theorem prefix_between {p a k : List Nat} (h1 : ¬ a < p) (h2 : ¬ k < a) (h3 : p <+: k) : p <+: a := by
  obtain ⟨t, rfl⟩ := h3
  induction p generalizing a with
  | nil => exact List.nil_prefix
  | cons x p ih =>
    cases a with
    | nil => exact (h1 (by simp)).elim
    | cons y a =>
      rw [List.cons_append] at h2
      simp only [List.cons_lt_cons_iff, not_or, not_and] at h1 h2
      have : x = y := by omega
      subst this
      exact List.cons_prefix_cons.mpr ⟨rfl, ih (h1.2 rfl) (h2.2 rfl)⟩
end Mine
open PySem PySem.W PySem.Calls PyProof.Rows
set_option Elab.async false
set_option maxRecDepth 100000
set_option maxHeartbeats 4000000
set_option linter.unusedVariables false
namespace Mine
section
variable {G : Gx} {σ : Sg} {d : Nat}

theorem tr_glob (O : Ok G d) {x : Str} {pos : Pos} {v : Value} (e : nsIn G.K mainGlobals x = some (some v)) (hx : G.env.kindOf x = some .globalImplicit := by rfl) (hd : (x == ("__debug__" : Str)) = false := by decide) :
    Tr G σ (eval (.Name x pos) G.env) (IsV v) := fun _ s _ _ c k => by
  obtain ⟨p, lo, mg, mb, T⟩ := O.T
  exact Calls.Name_function_global O.kind hx (Calls.loadGlobal_global (by rw [O.glob]; exact T.g.keeps c.F.keep) (mg_of O.X T.g e) (k v s.heap s.toks rfl c)) hd
theorem tr_blt (O : Ok G d) {x : Str} {pos : Pos} {v : Value} (e : nsIn G.K mainGlobals x = some none) (hb : bootBuiltins x = some v) (hn : x ≠ "__name__" := by decide) (hx : G.env.kindOf x = some .globalImplicit := by rfl) (hd : (x == ("__debug__" : Str)) = false := by decide) :
    Tr G σ (eval (.Name x pos) G.env) (IsV v) := fun _ s _ _ c k => by
  obtain ⟨p, lo, mg, mb, T⟩ := O.T
  exact Calls.Name_function_global O.kind hx (Calls.loadGlobal_builtin (by rw [O.glob]; exact T.g.keeps c.F.keep) (mg_none_of O.X T.g e) (by rw [O.blt]; exact T.b.keeps c.F.keep) ((T.builtins x hn).trans hb) (k v s.heap s.toks rfl c)) hd

theorem tr_none {k : Nat} {pos : Pos} : Tr G σ (eval (.Constant .none k pos) G.env) (IsV .none) := fun _ s _ _ c q => wpAny_Constant_none (q _ s.heap s.toks rfl c)
theorem tr_bool {b : Bool} {k : Nat} {pos : Pos} : Tr G σ (eval (.Constant (.bool b) k pos) G.env) (IsB b) := fun _ s _ _ c q => wpAny_Constant_bool (q _ s.heap s.toks rfl c)

theorem tm_binop {l r : Expr} {op : Operator} {pos : Pos} {Pa : Value → Sg → Prop} {Pb : Value → Value → Sg → Prop} {R : Value → Sg → Prop} (hl : Tm G σ (eval l G.env) Pa) (hr : ∀ a σ', Pa a σ' → Tm G σ' (eval r G.env) (Pb a))
    (ho : ∀ a b σ', Pb a b σ' → Tm G σ' (binaryOp op a b) R) : Tm G σ (eval (.BinOp l op r pos) G.env) R := fun own s Q E c k =>
  wpAny_BinOp (hl own s _ E c fun a σ₁ h₁ t₁ pa c₁ => hr a σ₁ pa own _ _ E c₁ fun b σ₂ h₂ t₂ pb c₂ => ho a b σ₂ pb own _ Q E c₂ fun v σ₃ h₃ t₃ pv c₃ => k v σ₃ h₃ t₃ pv c₃)
theorem tr_binop {l r : Expr} {op : Operator} {pos : Pos} {Pa Pb R : Value → Prop} (hl : Tr G σ (eval l G.env) Pa) (hr : Tr G σ (eval r G.env) Pb)
    (ho : ∀ a b, Pa a → Pb b → Tr G σ (binaryOp op a b) R) : Tr G σ (eval (.BinOp l op r pos) G.env) R := fun own s Q E c k =>
  wpAny_BinOp (hl own s _ E c fun a h₁ t₁ pa c₁ => hr own _ _ E c₁ fun b h₂ t₂ pb c₂ => ho a b pa pb own _ Q E c₂ fun v h₃ t₃ pv c₃ => k v h₃ t₃ pv c₃)
theorem tr_add {l r : Expr} {pos : Pos} {a b : Int} (hl : Tr G σ (eval l G.env) (IsI a)) (hr : Tr G σ (eval r G.env) (IsI b)) : Tr G σ (eval (.BinOp l .Add r pos) G.env) (IsI (a + b)) :=
  tr_binop hl hr fun _ _ ⟨_, e1⟩ ⟨_, e2⟩ => by subst e1; subst e2; exact fun _ s _ _ c k => add_int (k _ s.heap _ ⟨_, rfl⟩ c)
theorem tr_sub {l r : Expr} {pos : Pos} {a b : Int} (hl : Tr G σ (eval l G.env) (IsI a)) (hr : Tr G σ (eval r G.env) (IsI b)) : Tr G σ (eval (.BinOp l .Sub r pos) G.env) (IsI (a - b)) :=
  tr_binop hl hr fun _ _ ⟨_, e1⟩ ⟨_, e2⟩ => by subst e1; subst e2; exact fun _ s _ _ c k => sub_int (k _ s.heap _ ⟨_, rfl⟩ c)
theorem tr_mod {l r : Expr} {pos : Pos} {a b : Int} (hl : Tr G σ (eval l G.env) (IsI a)) (hr : Tr G σ (eval r G.env) (IsI b)) (hb : b ≠ 0) : Tr G σ (eval (.BinOp l .Mod r pos) G.env) (IsI (a.fmod b)) :=
  tr_binop hl hr fun _ _ ⟨_, e1⟩ ⟨_, e2⟩ => by subst e1; subst e2; exact fun _ s _ _ c k => mod_int hb (k _ s.heap _ ⟨_, rfl⟩ c)
theorem tr_div {l r : Expr} {pos : Pos} {a b : Int} (hl : Tr G σ (eval l G.env) (IsI a)) (hr : Tr G σ (eval r G.env) (IsI b)) (hb : b ≠ 0) (hg : Builtin.divisionGoesByPylong a b = false) : Tr G σ (eval (.BinOp l .FloorDiv r pos) G.env) (IsI (a.fdiv b)) :=
  tr_binop hl hr fun _ _ ⟨_, e1⟩ ⟨_, e2⟩ => by subst e1; subst e2; exact fun _ s _ _ c k => floordiv_int hb (k _ s.heap _ ⟨_, rfl⟩ c) (.inl hg)
theorem tr_cat {l r : Expr} {pos : Pos} {x y : Str} (hl : Tr G σ (eval l G.env) (IsS x)) (hr : Tr G σ (eval r G.env) (IsS y)) (hz : x.length + y.length ≤ sizeLine) : Tr G σ (eval (.BinOp l .Add r pos) G.env) (IsS (x ++ y)) :=
  tr_binop hl hr fun _ _ ⟨_, e1⟩ ⟨_, e2⟩ => by subst e1; subst e2; exact fun _ s _ _ c k => SBL.add (fun t' n _ => k _ s.heap n ⟨_, rfl⟩ c) hz
theorem tr_neg1 {pos p' : Pos} {i : Int} {n : Nat} : Tr G σ (eval (.UnaryOp .USub (.Constant (.int i) n p') pos) G.env) (IsI (-i)) := fun _ s _ _ c k =>
  wpAny_UnaryOp (wpAny_Constant_int (neg_int (k _ s.heap _ ⟨_, rfl⟩ c)))
theorem tr_neg {pos : Pos} {a : Int} {e : Expr} (h : Tr G σ (eval e G.env) (IsI a)) : Tr G σ (eval (.UnaryOp .USub e pos) G.env) (IsI (-a)) := fun own s Q E c k =>
  wpAny_UnaryOp (h own s _ E c fun v h₁ t₁ ⟨t, e1⟩ c₁ => by subst e1; exact neg_int (k _ h₁ _ ⟨_, rfl⟩ c₁))

theorem tr_cmp {l r : Expr} {op : CmpOp} {pos : Pos} {Pa Pb R : Value → Prop} (hl : Tr G σ (eval l G.env) Pa) (hr : Tr G σ (eval r G.env) Pb)
    (ho : ∀ a b, Pa a → Pb b → Tr G σ (compareOp op a b) R) (hm : behindInMarks op r = false := by rfl) : Tr G σ (eval (.Compare l [op] [r] pos) G.env) R := fun own s Q E c k =>
  wpAny_Compare1 (hl own s _ E c fun a h₁ t₁ pa c₁ => hr own _ _ E c₁ fun b h₂ t₂ pb c₂ => ho a b pa pb own _ Q E c₂ fun v h₃ t₃ pv c₃ => k v h₃ t₃ pv c₃) hm
theorem tr_testCmp {l r : Expr} {op : CmpOp} {pos : Pos} {Pa Pb : Value → Prop} {b : Bool} {whole : Sem Value} (hl : Tr G σ (eval l G.env) Pa) (hr : Tr G σ (eval r G.env) Pb)
    (ho : ∀ x y, Pa x → Pb y → Tr G σ (compareOp op x y) (IsB b)) (hm : behindInMarks op r = false := by rfl) : Tr G σ (PySem.isTrue (.Compare l [op] [r] pos) G.env whole) (fun x => x = b) := fun own s Q E c k =>
  wpAny_isTrue_Compare1 (hl own s _ E c fun a h₁ t₁ pa c₁ => hr own _ _ E c₁ fun b h₂ t₂ pb c₂ => ho a b pa pb own _ _ E c₂ fun v h₃ t₃ pv c₃ => by subst pv; exact wpAny_truthy_bool (k _ h₃ t₃ rfl c₃)) hm

theorem tr_lt_int {a b : Int} {u v : Value} (h1 : IsI a u) (h2 : IsI b v) : Tr G σ (compareOp .Lt u v) (IsB (decide (a < b))) := by
  obtain ⟨_, rfl⟩ := h1; obtain ⟨_, rfl⟩ := h2; exact fun _ s _ _ c k => PyProof.Rows.lt_int (k _ s.heap s.toks rfl c)
theorem tr_eq_int {a b : Int} {u v : Value} (h1 : IsI a u) (h2 : IsI b v) : Tr G σ (compareOp .Eq u v) (IsB (a == b)) := by
  obtain ⟨_, rfl⟩ := h1; obtain ⟨_, rfl⟩ := h2; exact fun _ s _ _ c k => PyProof.Rows.eq_int (k _ s.heap s.toks rfl c)
theorem tr_lt_str {a b : Str} {u v : Value} (h1 : IsS a u) (h2 : IsS b v) : Tr G σ (compareOp .Lt u v) (IsB (decide (a.cps.toList < b.cps.toList))) := by
  obtain ⟨_, rfl⟩ := h1; obtain ⟨_, rfl⟩ := h2; exact fun _ s _ _ c k => PyProof.Rows.lt_str (k _ s.heap s.toks rfl c)
theorem tr_eq_str {a b : Str} {u v : Value} (h1 : IsS a u) (h2 : IsS b v) : Tr G σ (compareOp .Eq u v) (IsB (a == b)) := by
  obtain ⟨_, rfl⟩ := h1; obtain ⟨_, rfl⟩ := h2; exact fun _ s _ _ c k => PyProof.Rows.eq_str (k _ s.heap s.toks rfl c)

/-- tests -/
theorem tr_test {e : Expr} {P : Value → Prop} {b : Bool} (h : Tr G σ (eval e G.env) P) (ht : ∀ v, P v → Tr G σ (truthy v) (fun x => x = b)) (hp : PySem.isTrue e G.env (eval e G.env) = (do
          let v ← eval e G.env
          standAt e.pos
          holding [v] (truthy v)) := by rfl) : Tr G σ (PySem.isTrue e G.env (eval e G.env)) (fun x => x = b) := fun own s Q E c k =>
  isTrue_plain (h own s _ E c fun v h₁ t₁ pv c₁ => ht v pv own _ Q E c₁ fun x h₂ t₂ px c₂ => k x h₂ t₂ px c₂) hp
theorem tr_truthyB {b : Bool} {v : Value} (h : IsB b v) : Tr G σ (truthy v) (fun x => x = b) := by
  subst h; exact fun _ s _ _ c k => wpAny_truthy_bool (k _ s.heap s.toks rfl c)
theorem tm_ifexp {t a b : Expr} {pos : Pos} {x : Bool} {R : Value → Sg → Prop} (ht : Tr G σ (PySem.isTrue t G.env (eval t G.env)) (fun y => y = x)) (h : Tm G σ (if x = true then eval a G.env else eval b G.env) R) : Tm G σ (eval (.IfExp t a b pos) G.env) R := fun own s Q E c k =>
  wpAny_IfExp (ht own s _ E c fun v h₁ t₁ pv c₁ => by subst pv; cases v <;> exact h own _ Q E c₁ fun v h₂ t₂ pv c₂ => k v h₂ t₂ pv c₂)
theorem tr_ifexp {t a b : Expr} {pos : Pos} {x : Bool} {R : Value → Prop} (ht : Tr G σ (PySem.isTrue t G.env (eval t G.env)) (fun y => y = x)) (h : Tr G σ (if x = true then eval a G.env else eval b G.env) R) : Tr G σ (eval (.IfExp t a b pos) G.env) R := fun own s Q E c k =>
  wpAny_IfExp (ht own s _ E c fun v h₁ t₁ pv c₁ => by subst pv; cases v <;> exact h own _ Q E c₁ fun v h₂ t₂ pv c₂ => k v h₂ t₂ pv c₂)

/-- reading -/
theorem tr_sub_ {v i : Expr} {pos : Pos} {Pa Pb R : Value → Prop} (hl : Tr G σ (eval v G.env) Pa) (hr : Tr G σ (eval i G.env) Pb) (ho : ∀ a b, Pa a → Pb b → Tr G σ (subscriptTail v i a b) R) : Tr G σ (eval (.Subscript v i pos) G.env) R := fun own s Q E c k =>
  Subscript_ (hl own s _ E c fun a h₁ t₁ pa c₁ => hr own _ _ E c₁ fun b h₂ t₂ pb c₂ => ho a b pa pb own _ Q E c₂ fun v h₃ t₃ pv c₃ => k v h₃ t₃ pv c₃)
theorem tm_sub_ {v i : Expr} {pos : Pos} {Pa : Value → Sg → Prop} {Pb : Value → Value → Sg → Prop} {R : Value → Sg → Prop} (hl : Tm G σ (eval v G.env) Pa) (hr : ∀ a σ', Pa a σ' → Tm G σ' (eval i G.env) (Pb a)) (ho : ∀ a b σ', Pb a b σ' → Tm G σ' (subscriptTail v i a b) R) : Tm G σ (eval (.Subscript v i pos) G.env) R := fun own s Q E c k =>
  Subscript_ (hl own s _ E c fun a σ₁ h₁ t₁ pa c₁ => hr a σ₁ pa own _ _ E c₁ fun b σ₂ h₂ t₂ pb c₂ => ho a b σ₂ pb own _ Q E c₂ fun v σ₃ h₃ t₃ pv c₃ => k v σ₃ h₃ t₃ pv c₃)

theorem tr_item {ve ie : Expr} {l : Addr} {its : Array Value} {k : Int} {v i : Value} {x : Value} (hl : Ent G σ (fun h => h.IsList l its)) (hv : v = .ref l) (hi : IsI k i) (h0 : 0 ≤ k) (hk : k < 2 ^ 63) (hx : its[k.toNat]? = some x)
    (hs : ∀ t, subscripted ie false (.ref l) (.int k t) = operate [.ref l, .int k t] (getItem (.ref l) (.int k t)) := by intro _; with_unfolding_all rfl) : Tr G σ (subscriptTail ve ie v i) (IsV x) := by
  obtain ⟨t, rfl⟩ := hi; subst hv
  exact fun own s Q E c q => tail_any (hl own _ c).typeIs slot_list_getitem.lookup (wpAny_getItem_list (hl own _ c) h0 hk hx (q x s.heap s.toks rfl c)) (hs t)
theorem tr_itemN {ve ie : Expr} {l : Addr} {its : Array Value} {k : Int} {v i : Value} {x : Value} (hl : Ent G σ (fun h => h.IsList l its)) (hv : v = .ref l) (hi : IsI k i) (h0 : k < 0) (hk : -(its.size : Int) ≤ k) (hb : -2 ^ 63 ≤ k) (hx : its[(k + its.size).toNat]? = some x)
    (hs : ∀ t, subscripted ie false (.ref l) (.int k t) = operate [.ref l, .int k t] (getItem (.ref l) (.int k t)) := by intro _; with_unfolding_all rfl) : Tr G σ (subscriptTail ve ie v i) (IsV x) := by
  obtain ⟨t, rfl⟩ := hi; subst hv
  exact fun own s Q E c q => tail_any (hl own _ c).typeIs slot_list_getitem.lookup (wpAny_getItem_list_neg (hl own _ c) h0 hk hb hx (q x s.heap s.toks rfl c)) (hs t)

abbrev SK (G : Gx) := PySem.strKind G.prog G.w
theorem isStr_str (x : Str) (t : Tok) : Value.isStrOf x (.str x t) = true := by simp [Value.isStrOf]
theorem tr_dItem {ve ie : Expr} {a : Addr} {kvs : List (Str × Value)} {x : Str} {v i : Value} {y : Value} (hd : Ent G σ (fun h => h.DictOf (SK G) a kvs)) (hv : v = .ref a) (hi : IsS x i) (hx : valueAt kvs x = some y)
    (hs : ∀ t, subscripted ie false (.ref a) (.str x t) = operate [.ref a, .str x t] (getItem (.ref a) (.str x t)) := by intro _; with_unfolding_all rfl) : Tr G σ (subscriptTail ve ie v i) (IsV y) := by
  obtain ⟨t, rfl⟩ := hi; subst hv
  exact fun own s Q E c q => tail_any (hd own _ c).typeIs slot_dict_getitem.lookup (wpAny_getItem_of (knd := SK G) (k := x) (isStr_str x t) (hd own _ c).mapOf hx (q y s.heap _ rfl c)) (hs t)
theorem tr_dIn {a : Addr} {kvs : List (Str × Value)} {x : Str} {v i : Value} (hd : Ent G σ (fun h => h.DictOf (SK G) a kvs)) (hlo : (a == sysModules) = false) (hv : v = .ref a) (hi : IsS x i) : Tr G σ (compareOp .In i v) (IsB (valueAt kvs x).isSome) := by
  obtain ⟨t, rfl⟩ := hi; subst hv
  exact fun own s Q E c q => wpAny_in_of (knd := SK G) (k := x) (isStr_str x t) hlo (hd own _ c).mapOf (q _ s.heap _ rfl c)
end
end Mine
open PySem PySem.W PySem.Calls PyProof.Rows
set_option Elab.async false
set_option maxRecDepth 100000
set_option maxHeartbeats 4000000
set_option linter.unusedVariables false
namespace Mine
section
variable {G : Gx} {σ : Sg} {d : Nat}

/-- texts cut -/
theorem keptCx {own : Led} : KeptH (fun h => Cx G own σ h) := fun _ o c => c.push o
theorem tr_cutTo {ve e : Expr} {p pos : Pos} {x : Str} {j : Int} (hv : Tr G σ (eval ve G.env) (IsS x)) (he : Tr G σ (eval e G.env) (IsI j)) (hz : x.length ≤ sizeLine)
    (hs : ∀ t a, subscripted (.Slice none (some e) none p) false (.str x t) (.ref a) = operate [.ref a, .str x t] (getItem (.str x t) (.ref a)) := by intro _ _; with_unfolding_all rfl)
    (ht : ∀ t r, letTemporaryGo ve (.str x t) r = pure () := by intro _ _; with_unfolding_all rfl) :
    Tr G σ (eval (.Subscript ve (.Slice none (some e) none p) pos) G.env) (IsS (Txt.slice x none (some j))) := fun own s Q E c k =>
  Subscript_ (hv own s _ E c fun v h₁ t₁ ⟨t, e1⟩ c₁ => by
    subst e1
    exact wpAny_Slice (evalPart_none_step (evalPart_some_step (he own _ _ E c₁ fun u h₂ t₂ ⟨t', e2⟩ c₂ => by
      subst e2
      exact evalPart_none_step (tail_of_ItemOn (s := { s with heap := h₂.push _, toks := t₂ }) (SBH.sliceItem_ns (s := { s with heap := h₂, toks := t₂ }) keptCx c₂ (fun h' t' n c' => k _ h' n ⟨_, rfl⟩ c') hz) (hs _ _) (ht _))))))
theorem tr_cutFrom {ve e : Expr} {p pos : Pos} {x : Str} {j : Int} (hv : Tr G σ (eval ve G.env) (IsS x)) (he : Tr G σ (eval e G.env) (IsI j)) (hz : x.length ≤ sizeLine)
    (hs : ∀ t a, subscripted (.Slice (some e) none none p) false (.str x t) (.ref a) = operate [.ref a, .str x t] (getItem (.str x t) (.ref a)) := by intro _ _; with_unfolding_all rfl)
    (ht : ∀ t r, letTemporaryGo ve (.str x t) r = pure () := by intro _ _; with_unfolding_all rfl) :
    Tr G σ (eval (.Subscript ve (.Slice (some e) none none p) pos) G.env) (IsS (Txt.slice x (some j) none)) := fun own s Q E c k =>
  Subscript_ (hv own s _ E c fun v h₁ t₁ ⟨t, e1⟩ c₁ => by
    subst e1
    exact wpAny_Slice (evalPart_some_step (he own _ _ E c₁ fun u h₂ t₂ ⟨t', e2⟩ c₂ => by
      subst e2
      exact evalPart_none_step (evalPart_none_step (tail_of_ItemOn (s := { s with heap := h₂.push _, toks := t₂ }) (SBH.sliceItem_sn (s := { s with heap := h₂, toks := t₂ }) keptCx c₂ (fun h' t' n c' => k _ h' n ⟨_, rfl⟩ c') hz) (hs _ _) (ht _))))))

/-- arguments -/
theorem tr_args0 {pos : Pos} : Tr G σ (spliced (backTo pos (starEach [] G.env))) (fun vs => vs = []) := fun _ s _ _ c k => spliced_none (k [] s.heap s.toks rfl c)
theorem tm_arg {e : Expr} {rest : List Expr} {pos : Pos} {P : Value → Sg → Prop} {R : List Value → Sg → Prop} (he : Tm G σ (eval e G.env) P)
    (hr : ∀ v σ', P v σ' → Tm G σ' (spliced (backTo pos (starEach rest G.env))) (fun vs σ₂ => R (v :: vs) σ₂)) (hs : starEach (e :: rest) G.env = (false, eval e G.env) :: starEach rest G.env := by rfl) :
    Tm G σ (spliced (backTo pos (starEach (e :: rest) G.env))) R := fun own s Q E c k =>
  spliced_more (he own s _ E c fun v σ₁ h₁ t₁ pv c₁ => hr v σ₁ pv own _ _ E c₁ fun vs σ₂ h₂ t₂ pr c₂ => k _ σ₂ h₂ t₂ pr c₂) hs
theorem tr_arg {e : Expr} {rest : List Expr} {pos : Pos} {P : Value → Prop} {R : List Value → Prop} (he : Tr G σ (eval e G.env) P)
    (hr : ∀ v, P v → Tr G σ (spliced (backTo pos (starEach rest G.env))) (fun vs => R (v :: vs))) (hs : starEach (e :: rest) G.env = (false, eval e G.env) :: starEach rest G.env := by rfl) :
    Tr G σ (spliced (backTo pos (starEach (e :: rest) G.env))) R := fun own s Q E c k =>
  spliced_more (he own s _ E c fun v h₁ t₁ pv c₁ => hr v pv own _ _ E c₁ fun vs h₂ t₂ pr c₂ => k _ h₂ t₂ pr c₂) hs
theorem tr_arg1 {e : Expr} {pos : Pos} {P : Value → Prop} (he : Tr G σ (eval e G.env) P) (hs : starEach [e] G.env = [(false, eval e G.env)] := by rfl) :
    Tr G σ (spliced (backTo pos (starEach [e] G.env))) (fun vs => ∃ v, vs = [v] ∧ P v) := tr_arg he (fun v pv => Tr.mono tr_args0 fun vs e => by subst e; exact ⟨v, rfl, pv⟩) hs
theorem tr_arg2 {e f : Expr} {pos : Pos} {P R : Value → Prop} (he : Tr G σ (eval e G.env) P) (hf : Tr G σ (eval f G.env) R) (hs : starEach [e, f] G.env = [(false, eval e G.env), (false, eval f G.env)] := by rfl) (hs' : starEach [f] G.env = [(false, eval f G.env)] := by rfl) :
    Tr G σ (spliced (backTo pos (starEach [e, f] G.env))) (fun vs => ∃ v u, vs = [v, u] ∧ P v ∧ R u) :=
  tr_arg he (fun v pv => Tr.mono (tr_arg1 hf hs') fun vs ⟨u, e, pu⟩ => by subst e; exact ⟨v, u, rfl, pv, pu⟩) (by rw [hs, hs'])

/-- calls by a name -/
theorem tm_callB {x : Str} {np pos : Pos} {id : String} {e : Expr} {rest : List Expr} {P : List Value → Sg → Prop} {R : Value → Sg → Prop} (hf : Tr G σ (eval (.Name x np) G.env) (IsV (.builtin id)))
    (ha : Tm G σ (spliced (backTo pos (starEach (e :: rest) G.env))) P) (hc : ∀ vs σ', P vs σ' → Tm G σ' (call (.builtin id) vs) R)
    (he : starEach (e :: rest) G.env = (false, eval e G.env) :: starEach rest G.env := by rfl) (hp : (backTo pos (starEach rest G.env)).any (·.1) = false := by rfl) : Tm G σ (eval (.Call (.Name x np) (e :: rest) [] pos) G.env) R := fun own s Q E c k =>
  wpAny_Call_NameR (hf own s _ E c fun v h₁ t₁ pv c₁ => by
    subst pv
    exact callWith_method1 (ha own _ _ E c₁ fun vs σ₂ h₂ t₂ pa c₂ => hc vs σ₂ pa own _ Q E c₂ fun v σ₃ h₃ t₃ pv c₃ => k v σ₃ h₃ t₃ pv c₃) he hp)
theorem tm_callT {x : Str} {np pos : Pos} {T : String} {e : Expr} {rest : List Expr} {P : List Value → Sg → Prop} {R : Value → Sg → Prop} (hf : Tr G σ (eval (.Name x np) G.env) (IsV (.type T)))
    (ha : Tm G σ (spliced (backTo pos (starEach (e :: rest) G.env))) P) (hc : ∀ vs σ', P vs σ' → Tm G σ' (call (.type T) vs) R)
    (he : starEach (e :: rest) G.env = (false, eval e G.env) :: starEach rest G.env := by rfl) (hp : (backTo pos (starEach rest G.env)).any (·.1) = false := by rfl) : Tm G σ (eval (.Call (.Name x np) (e :: rest) [] pos) G.env) R := fun own s Q E c k =>
  wpAny_Call_NameR (hf own s _ E c fun v h₁ t₁ pv c₁ => by
    subst pv
    exact Pv.callWith_type1 (ha own _ _ E c₁ fun vs σ₂ h₂ t₂ pa c₂ => hc vs σ₂ pa own _ Q E c₂ fun v σ₃ h₃ t₃ pv c₃ => k v σ₃ h₃ t₃ pv c₃) he hp)
theorem tm_callK (O : Ok G d) {x : Str} {np pos : Pos} {f : Addr} {e : Expr} {rest : List Expr} {P : List Value → Sg → Prop} {R : Value → Sg → Prop} (hf : Tr G σ (eval (.Name x np) G.env) (IsV (.ref f))) (hk : keepIn G.K (.ref f) = true)
    (ha : Tm G σ (spliced (backTo pos (starEach (e :: rest) G.env))) P) (hc : ∀ vs σ', P vs σ' → Tm G σ' (call (.ref f) vs) R)
    (he : starEach (e :: rest) G.env = (false, eval e G.env) :: starEach rest G.env := by rfl) (hp : (backTo pos (starEach rest G.env)).any (·.1) = false := by rfl) : Tm G σ (eval (.Call (.Name x np) (e :: rest) [] pos) G.env) R := fun own s Q E c k =>
  wpAny_Call_NameR (hf own s _ E c fun v h₁ t₁ pv c₁ => by
    subst pv
    exact callWith_K (first := []) O.X hk (ha own _ _ E c₁ fun vs σ₂ h₂ t₂ pa c₂ => ⟨O.X.keeps c₂.F.keep, hc vs σ₂ pa own _ Q E c₂ fun v σ₃ h₃ t₃ pv c₃ => k v σ₃ h₃ t₃ pv c₃⟩) he hp)
theorem tm_callK0 (O : Ok G d) {x : Str} {np pos : Pos} {f : Addr} {R : Value → Sg → Prop} (hf : Tr G σ (eval (.Name x np) G.env) (IsV (.ref f))) (hk : keepIn G.K (.ref f) = true)
    (hc : Tm G σ (call (.ref f) []) R) : Tm G σ (eval (.Call (.Name x np) [] [] pos) G.env) R := fun own s Q E c k =>
  wpAny_Call_NameR (hf own s _ E c fun v h₁ t₁ pv c₁ => by
    subst pv
    exact callWith_K0 (first := []) (O.X.keeps c₁.F.keep) hk (hc own _ Q E c₁ fun v σ₃ h₃ t₃ pv c₃ => k v σ₃ h₃ t₃ pv c₃))

/-- methods -/
theorem tm_meth {pl : Sem Bool} {o : Expr} {name : Str} {apos pos : Pos} {args : List Expr} {P : Value → Sg → Prop} {R : Value → Sg → Prop} (ho : Tm G σ (eval o G.env) P)
    (hm : ∀ v σ', P v σ' → ∀ own s Q E, Cx G own σ' s.heap → (∀ v σ₂ h' tk', R v σ₂ → Cx G own σ₂ h' → Q v { s with heap := h', toks := tk' }) →
      wpAny (model G.prog G.w) G.A (getMethod v name pl) (fun fx s₂ => wpAny (model G.prog G.w) G.A (callWith pos fx.1 fx.2 (backTo pos (starEach args G.env)) []) Q E s₂) E s)
    (hq : eval (.Call (.Attribute o name apos) args [] pos) G.env = (do
          let ov ← eval o G.env
          standAt apos.atName
          let (f, first) ← holding [ov] (getMethod ov name pl)
          callWith pos f first (backTo pos (starEach args G.env)) []) := by rfl) :
    Tm G σ (eval (.Call (.Attribute o name apos) args [] pos) G.env) R := fun own s Q E c k =>
  MethodCall_ (pl := pl) (ho own s _ E c fun v σ₁ h₁ t₁ pv c₁ => hm v σ₁ pv own _ Q E c₁ fun v σ₂ h₂ t₂ pr c₂ => k v σ₂ h₂ t₂ pr c₂) hq
end
end Mine
open PySem PySem.W PySem.Calls PyProof.Rows
set_option Elab.async false
set_option maxRecDepth 100000
set_option maxHeartbeats 4000000
set_option linter.unusedVariables false
namespace Mine
section
variable {G : Gx} {σ : Sg} {d : Nat}

/-- statements -/
theorem tm_nil {P : Flow → Sg → Prop} (h : P .next σ) : Tm G σ (execs [] G.env) P := fun own s Q E c k => wpAny_execs_nil (k .next σ s.heap s.toks h c)
theorem tm_cons {st : Stmt} {rest : List Stmt} {P₁ P : Flow → Sg → Prop} (h : Tm G σ (exec st G.env) P₁) (hn : ∀ σ', P₁ .next σ' → Tm G σ' (execs rest G.env) P) (hr : ∀ f σ', (∀ x : Unit, f ≠ .next) → P₁ f σ' → P f σ') :
    Tm G σ (execs (st :: rest) G.env) P := fun own s Q E c k =>
  wpAny_execs_cons (h own s _ E c fun f σ₁ h₁ t₁ p c₁ => by
    cases f with
    | next => exact hn σ₁ p own _ Q E c₁ fun v σ₂ h₂ t₂ p₂ c₂ => k v σ₂ h₂ t₂ p₂ c₂
    | brk => exact k _ σ₁ h₁ t₁ (hr _ σ₁ (fun _ => by simp) p) c₁
    | cont => exact k _ σ₁ h₁ t₁ (hr _ σ₁ (fun _ => by simp) p) c₁
    | ret v => exact k _ σ₁ h₁ t₁ (hr _ σ₁ (fun _ => by simp) p) c₁)
/-- a statement that only goes on -/
theorem tm_next {st : Stmt} {rest : List Stmt} {P₁ : Sg → Prop} {P : Flow → Sg → Prop} (h : Tm G σ (exec st G.env) (fun f σ' => f = .next ∧ P₁ σ')) (hn : ∀ σ', P₁ σ' → Tm G σ' (execs rest G.env) P) :
    Tm G σ (execs (st :: rest) G.env) P := tm_cons h (fun σ' p => hn σ' p.2) fun f σ' hf p => absurd p.1 (hf ())

theorem tm_assign (O : Ok G d) {x : Str} {p pos : Pos} {e : Expr} {P : Value → Sg → Prop} {R : Flow → Sg → Prop} (he : Tm G σ (eval e G.env) P) (hr : ∀ v σ', P v σ' → R .next { σ' with m := put σ'.m x v })
    (hx : G.env.kindOf x = some .local := by rfl) (hw : swapsWith e (some (.Name x p)) pos.line G.env = pure false := by rfl) : Tm G σ (exec (.Assign [.Name x p] e pos) G.env) R := fun own s Q E c k =>
  wpAny_Assign_Name (he own s _ E c fun v σ₁ h₁ t₁ pv c₁ => wpAny_storeName_local hx c₁.F.ns (fun h' hn hs => k .next _ h' _ (hr v σ₁ pv) (c₁.store hn hs O.cL))
    (by rw [O.kind]; rfl)) hw
theorem tm_storeName (O : Ok G d) {x : Str} {v : Value} (hx : G.env.kindOf x = some .local := by rfl) : Tm G σ (storeName G.env x v) (fun _ σ' => σ' = { σ with m := put σ.m x v }) := fun own s Q E c k =>
  wpAny_storeName_local hx c.F.ns (fun h' hn hs => k () _ h' _ rfl (c.store hn hs O.cL)) (by rw [O.kind]; rfl)

theorem Cx.storeC {own : Led} {h h' : Heap} (x : Cx G own σ h) (O : Ok G d) {y : Str} {v : Value} {a : Addr} (ha : G.env.cells.lookup y = some a) (a0 : G.h₀.get? a = none) (hv : h'.IsCell a (some v)) (hs : Heap.SameBut a h h') : Cx G own { σ with c := put σ.c y v } h' := by
  have aL := O.cL y a ha
  refine ⟨⟨x.F.ns.sameBut hs (Ne.symm aL), fun b o e => (hs.2 b fun q => ?_).trans (x.F.keep b o e), x.F.above⟩, fun p hp => ⟨(hs.2 _ fun q => ?_).trans (x.N p hp).1, (x.N p hp).2⟩, fun z b hb => ?_, x.offO, x.offC⟩
  · rw [q, a0] at e; cases e
  · exact x.offC p hp y a ha q
  · by_cases e : z = y
    · subst e
      have : b = a := by rw [ha] at hb; exact (Option.some.inj hb).symm
      subst this; simpa [put] using hv
    · have : b ≠ a := fun q => e (O.cpw z y a (q ▸ hb) ha)
      simpa [put, e] using (x.C z b hb).sameBut hs this
theorem tm_assignC (O : Ok G d) {x : Str} {p pos : Pos} {e : Expr} {a : Addr} {P : Value → Sg → Prop} {R : Flow → Sg → Prop} (ha : G.env.cells.lookup x = some a) (a0 : G.h₀.get? a = none) (he : Tm G σ (eval e G.env) P) (hr : ∀ v σ', P v σ' → R .next { σ' with c := put σ'.c x v })
    (hx : G.env.kindOf x = some .cell := by rfl) (hw : swapsWith e (some (.Name x p)) pos.line G.env = pure false := by rfl) : Tm G σ (exec (.Assign [.Name x p] e pos) G.env) R := fun own s Q E c k =>
  wpAny_Assign_Name (he own s _ E c fun v σ₁ h₁ t₁ pv c₁ => wpAny_storeName_cell O.kind hx ha (c₁.C x a ha) (fun h' hn hs => k .next _ h' _ (hr v σ₁ pv) (c₁.storeC O ha a0 hn hs))) hw
theorem tm_storeC (O : Ok G d) {x : Str} {v : Value} {a : Addr} (ha : G.env.cells.lookup x = some a) (a0 : G.h₀.get? a = none) (hx : G.env.kindOf x = some .cell := by rfl) : Tm G σ (storeName G.env x v) (fun _ σ' => σ' = { σ with c := put σ.c x v }) := fun own s Q E c k =>
  wpAny_storeName_cell O.kind hx ha (c.C x a ha) (fun h' hn hs => k () _ h' _ rfl (c.storeC O ha a0 hn hs))

theorem tm_assignSub {o i e : Expr} {p pos : Pos} {P : Value → Sg → Prop} {P₂ : Value → Value → Sg → Prop} {P₃ : Value → Value → Value → Sg → Prop} {R : Flow → Sg → Prop} (he : Tm G σ (eval e G.env) P) (ho : ∀ v σ', P v σ' → Tm G σ' (eval o G.env) (P₂ v))
    (hi : ∀ v u σ', P₂ v u σ' → Tm G σ' (eval i G.env) (P₃ v u)) (hs : ∀ v u w σ', P₃ v u w σ' → Tm G σ' (setItem u w v) (fun _ σ₂ => R .next σ₂)) (hw : swapsWith e (some (.Subscript o i p)) pos.line G.env = pure false := by rfl) :
    Tm G σ (exec (.Assign [.Subscript o i p] e pos) G.env) R := fun own s Q E c k =>
  wpAny_Assign_Subscript (he own s _ E c fun v σ₁ h₁ t₁ pv c₁ => ho v σ₁ pv own _ _ E c₁ fun u σ₂ h₂ t₂ pu c₂ => hi v u σ₂ pu own _ _ E c₂ fun w σ₃ h₃ t₃ pw c₃ => hs v u w σ₃ pw own _ _ E c₃ fun _ σ₄ h₄ t₄ p c₄ => k .next σ₄ h₄ t₄ p c₄) hw

theorem tm_expr {e : Expr} {pos : Pos} {P : Value → Sg → Prop} {R : Flow → Sg → Prop} (he : Tm G σ (eval e G.env) P) (hr : ∀ v σ', P v σ' → R .next σ') (hi : interactive G.env = false := by rfl) (hw : swapsWith e none pos.line G.env = pure false := by rfl) :
    Tm G σ (exec (.Expr e pos) G.env) R := fun own s Q E c k => wpAny_Expr_any (he own s _ E c fun v σ₁ h₁ t₁ pv c₁ => k .next σ₁ h₁ t₁ (hr v σ₁ pv) c₁) hi hw
theorem tm_ret {e : Expr} {pos : Pos} {P : Value → Sg → Prop} {R : Flow → Sg → Prop} (he : Tm G σ (eval e G.env) P) (hr : ∀ v σ', P v σ' → R (.ret v) σ') : Tm G σ (exec (.Return (some e) pos) G.env) R := fun own s Q E c k =>
  wpAny_Return_some (he own s _ E c fun v σ₁ h₁ t₁ pv c₁ => k (.ret v) σ₁ h₁ t₁ (hr v σ₁ pv) c₁)
theorem tm_if {t : Expr} {a b : List Stmt} {pos : Pos} {x : Bool} {R : Flow → Sg → Prop} (ht : Tr G σ (PySem.isTrue t G.env (eval t G.env)) (fun y => y = x)) (h : Tm G σ (if x = true then execs a G.env else execs b G.env) R) : Tm G σ (exec (.If t a b pos) G.env) R := fun own s Q E c k =>
  wpAny_If (ht own s _ E c fun v h₁ t₁ pv c₁ => by subst pv; cases v <;> exact h own _ Q E c₁ fun v σ₂ h₂ t₂ pv c₂ => k v σ₂ h₂ t₂ pv c₂)
theorem tm_ifM {t : Expr} {a b : List Stmt} {pos : Pos} {P : Bool → Sg → Prop} {R : Flow → Sg → Prop} (ht : Tm G σ (PySem.isTrue t G.env (eval t G.env)) P) (h : ∀ x σ', P x σ' → Tm G σ' (if x = true then execs a G.env else execs b G.env) R) : Tm G σ (exec (.If t a b pos) G.env) R := fun own s Q E c k =>
  wpAny_If (ht own s _ E c fun v σ₁ h₁ t₁ pv c₁ => by
    have := h v σ₁ pv
    cases v <;> exact this own _ Q E c₁ fun v σ₂ h₂ t₂ pv c₂ => k v σ₂ h₂ t₂ pv c₂)
theorem tm_brk {pos : Pos} {R : Flow → Sg → Prop} (h : R .brk σ) : Tm G σ (exec (.Break pos) G.env) R := fun own s Q E c k => wpAny_Break (k .brk σ s.heap s.toks h c)

/-- stores into objects of the ledger -/
theorem tm_dictSet {a : Addr} {o : Obj} {kvs : List (Str × Value)} {x : Str} {u w v : Value} (hm : (a, o) ∈ σ.n) (hd : o.IsDictOf (SK G) kvs) (hu : u = .ref a) (hw : IsS x w) (hz : kvs.length ≤ sizeLine) :
    Tm G σ (setItem u w v) (fun _ σ' => ∃ o', o'.IsDictOf (SK G) (stored kvs x v) ∧ σ' = { σ with n := updL a o' σ.n }) := by
  obtain ⟨t, rfl⟩ := hw; subst hu
  refine fun own s Q E c k => wpAny_setItem_pairs (knd := SK G) (k := x) (isStr_str x t) (Heap.dictOf_iff.mpr ⟨o, c.get hm, hd⟩) (fun h' hd' hs => ?_) hz
  obtain ⟨o', ho', hd''⟩ := Heap.dictOf_iff.mp hd'
  exact k () _ h' _ ⟨o', hd'', rfl⟩ (c.upd hm hs ho')
theorem tm_append {a : Addr} {its : Array Value} {n : Nat} {v : Value} (hm : (a, listOf its n) ∈ σ.n) (hz : its.size ≤ sizeLine) :
    Tm G σ (call (.builtin "list.append") [.ref a, v]) (fun r σ' => r = .none ∧ ∃ n', σ' = { σ with n := updL a (listOf (its.push v) n') σ.n }) := fun own s Q E c k =>
  wpAny_list_append_plain ⟨n, c.get hm⟩ (fun h' ⟨n', e⟩ hs => k .none _ h' _ ⟨rfl, n', rfl⟩ (c.upd hm hs e)) hz

/-- ledger facts read -/
theorem ent_list {a : Addr} {its : Array Value} {n : Nat} (hm : (a, listOf its n) ∈ σ.n) : Ent G σ (fun h => h.IsList a its) := fun own h c => ⟨_, c.get hm, rfl, n, rfl⟩
theorem ent_dict {a : Addr} {o : Obj} {kvs : List (Str × Value)} (hm : (a, o) ∈ σ.n) (hd : o.IsDictOf (SK G) kvs) : Ent G σ (fun h => h.DictOf (SK G) a kvs) := fun own h c => Heap.dictOf_iff.mpr ⟨o, c.get hm, hd⟩
theorem ent_old {φ : Heap → Prop} (h₀ : φ G.h₀) (hk : ∀ h h' : Heap, (∀ b o, h.get? b = some o → h'.get? b = some o) → φ h → φ h') : Ent G σ φ := fun own h c => hk _ _ c.F.keep h₀
theorem ent_list₀ {a : Addr} {its : Array Value} (h : G.h₀.IsList a its) : Ent G σ (fun h => h.IsList a its) := ent_old h fun _ _ k x => x.at fun o e => k _ _ e
theorem ent_dict₀ {a : Addr} {kvs : List (Str × Value)} (h : G.h₀.DictOf (SK G) a kvs) : Ent G σ (fun h => h.DictOf (SK G) a kvs) := ent_old h fun _ _ k x => x.at fun o e => k _ _ e

/-- built-in methods -/
theorem tm_methB {pl : Sem Bool} {o : Expr} {name : Str} {apos pos : Pos} {e : Expr} {rest : List Expr} {T id : String} {P : Value → Sg → Prop} {P₂ : Value → List Value → Sg → Prop} {R : Value → Sg → Prop} (pa : PlainAttrs T) (slot : Slot T name id) (hty : typeOf (.builtin id) = pure (.type "method_descriptor"))
    (ho : Tm G σ (eval o G.env) P) (ht : ∀ v σ' own (s : Shared), P v σ' → Cx G own σ' s.heap → s.TypeIs v T ∧ ∀ a, v = .ref a → ∃ o : Obj, s.heap.get? a = some o ∧ o.dict = none)
    (ha : ∀ v σ', P v σ' → Tm G σ' (spliced (backTo pos (starEach (e :: rest) G.env))) (P₂ v)) (hc : ∀ v vs σ', P₂ v vs σ' → Tm G σ' (call (.builtin id) (v :: vs)) R)
    (hq : eval (.Call (.Attribute o name apos) (e :: rest) [] pos) G.env = (do
          let ov ← eval o G.env
          standAt apos.atName
          let (f, first) ← holding [ov] (getMethod ov name pl)
          callWith pos f first (backTo pos (starEach (e :: rest) G.env)) []) := by rfl)
    (he : starEach (e :: rest) G.env = (false, eval e G.env) :: starEach rest G.env := by rfl) (hp : (backTo pos (starEach rest G.env)).any (·.1) = false := by rfl) :
    Tm G σ (eval (.Call (.Attribute o name apos) (e :: rest) [] pos) G.env) R :=
  tm_meth ho (fun v σ' pv own s Q E c k => getMethod_builtin (ht v σ' own s pv c).1 pa slot hty (ht v σ' own s pv c).2
    (PyProof.Rows.callWith_method1 (ha v σ' pv own s _ E c fun vs σ₂ h₂ t₂ p₂ c₂ => hc v vs σ₂ p₂ own _ Q E c₂ fun v σ₃ h₃ t₃ pv c₃ => k v σ₃ h₃ t₃ pv c₃) he hp)) hq
theorem tm_methB0 {pl : Sem Bool} {o : Expr} {name : Str} {apos pos : Pos} {T id : String} {P : Value → Sg → Prop} {R : Value → Sg → Prop} (pa : PlainAttrs T) (slot : Slot T name id) (hty : typeOf (.builtin id) = pure (.type "method_descriptor"))
    (ho : Tm G σ (eval o G.env) P) (ht : ∀ v σ' own (s : Shared), P v σ' → Cx G own σ' s.heap → s.TypeIs v T ∧ ∀ a, v = .ref a → ∃ o : Obj, s.heap.get? a = some o ∧ o.dict = none)
    (hc : ∀ v σ', P v σ' → Tm G σ' (call (.builtin id) [v]) R)
    (hq : eval (.Call (.Attribute o name apos) [] [] pos) G.env = (do
          let ov ← eval o G.env
          standAt apos.atName
          let (f, first) ← holding [ov] (getMethod ov name pl)
          callWith pos f first (backTo pos (starEach [] G.env)) []) := by rfl) :
    Tm G σ (eval (.Call (.Attribute o name apos) [] [] pos) G.env) R :=
  tm_meth ho (fun v σ' pv own s Q E c k => getMethod_builtin (ht v σ' own s pv c).1 pa slot hty (ht v σ' own s pv c).2
    (callWith_method0 (hc v σ' pv own s Q E c fun v σ₃ h₃ t₃ pv c₃ => k v σ₃ h₃ t₃ pv c₃))) hq

/-- words.append(e) -/
theorem tm_appendStmt {pl : Sem Bool} {o e : Expr} {apos pos p : Pos} {a : Addr} {its : Array Value} {n : Nat} {v : Value} {P : Value → Prop} {R : Flow → Sg → Prop} (ho : Tr G σ (eval o G.env) (IsV (.ref a))) (hm : (a, listOf its n) ∈ σ.n) (hz : its.size ≤ sizeLine) (he : Tr G σ (eval e G.env) P)
    (hr : ∀ v n', P v → R .next { σ with n := updL a (listOf (its.push v) n') σ.n })
    (hq : eval (.Call (.Attribute o "append" apos) [e] [] pos) G.env = (do
          let ov ← eval o G.env
          standAt apos.atName
          let (f, first) ← holding [ov] (getMethod ov "append" pl)
          callWith pos f first (backTo pos (starEach [e] G.env)) []) := by rfl)
    (hs : starEach [e] G.env = [(false, eval e G.env)] := by rfl) (hi : interactive G.env = false := by rfl) (hw : swapsWith (.Call (.Attribute o "append" apos) [e] [] pos) none p.line G.env = pure false := by rfl) :
    Tm G σ (exec (.Expr (.Call (.Attribute o "append" apos) [e] [] pos) p) G.env) R :=
  tm_expr (tm_methB (P₂ := fun v vs σ' => σ' = σ ∧ v = .ref a ∧ ∃ x, vs = [x] ∧ P x) (R := fun r σ' => R .next σ') F.plainAttrs_list F.slot_list_append F.type_list_append ho.m
    (fun v σ' own s pv c => by obtain ⟨rfl, rfl⟩ := pv; exact ⟨⟨_, c.get hm, rfl⟩, fun b e => by cases e; exact ⟨_, c.get hm, rfl⟩⟩)
    (fun v σ' pv => by obtain ⟨rfl, rfl⟩ := pv; exact (tr_arg1 he hs).m.mono fun vs σ' p => ⟨p.1, rfl, p.2⟩)
    (fun v vs σ' p => by
      obtain ⟨rfl, rfl, x, rfl, px⟩ := p
      exact (tm_append hm hz).mono fun r σ' pr => by obtain ⟨_, n', rfl⟩ := pr; exact hr x n' px) hq (by rw [hs]; rfl) rfl) (fun v σ' p => p) hi hw
end
end Mine
open PySem PySem.W PySem.Calls PyProof.Rows
set_option Elab.async false
set_option maxRecDepth 100000
set_option maxHeartbeats 4000000
set_option linter.unusedVariables false
namespace Mine

/-- the callee's frame: all of the caller's heap is its base -/
def Cal (G : Gx) (h : Heap) (fd : FuncData) (L f : Addr) : Gx := { G with A := G.A.deeper (callEnv fd L f), env := callEnv fd L f, h₀ := h }

section
variable {G : Gx} {σ : Sg} {d : Nat}

theorem Ok.cal {own : Led} {h : Heap} {fd : FuncData} {L f : Addr} (O : Ok G (d + 1)) (c : Cx G own σ h) (hk : fd.scope.kind = .function) (hg : fd.globals = mainGlobals) (hb : fd.builtins = builtinsNs) (hc : fd.closure = []) : Ok (Cal G h fd L f) d where
  X := O.X.keeps c.F.keep
  T := let ⟨p, lo, mg, mb, T⟩ := O.T; ⟨p, lo, mg, mb, T.keeps c.F.keep⟩
  B := by
    obtain ⟨base, outer, hb, B⟩ := O.B
    exact ⟨base, _, hb, fun h' m F => pushX (B h _ c.F) F rfl hk⟩
  kind := hk
  glob := hg
  blt := hb
  hh := O.hh
  depth := by show G.A.depth + 1 + d < _; have := O.depth; omega
  units := by show G.A.units + 3 + 10 * d < _; have := O.units; omega
  cpw := fun x y a e => by
    have : (callEnv fd L f).cells = [] := hc
    change (callEnv fd L f).cells.lookup x = some a at e
    rw [this] at e; cases e
  cL := fun x a e => by
    have : (callEnv fd L f).cells = [] := hc
    change (callEnv fd L f).cells.lookup x = some a at e
    rw [this] at e; cases e

def retOf : Flow → Value
  | .ret v => v
  | _ => .none

/-- a call of a plain def: all that stood stands -/
theorem call_fn {own : Led} {s : Shared} {Q E : Value → Shared → Prop} {f : Addr} {fd : FuncData} {oc : Value} {od : Option Addr} {osl : Array (Option Value)} {body : List Stmt} {args : List Value} {binds : List (Str × Value)} {R : Value → Led → Prop}
    (O : Ok G (d + 1)) (c : Cx G own σ s.heap) (hK : G.K.lookup f = some ⟨oc, od, .func fd, osl⟩) (hbody : fd.body = .stmts body) (hcode : codeIn G.K fd.code fd.qualname = true)
    (hk : fd.scope.kind = .function) (hg : fd.globals = mainGlobals) (hb : fd.builtins = builtinsNs) (hc : fd.closure = []) (hco : fd.scope.isCoroutine = false) (hgen : fd.scope.isGenerator = false)
    (hcell : ∀ x ∈ fd.scope.names, x.2 ≠ .cell) (hbind : BindsTo s fd ⟨args, []⟩ binds) (hloc : ∀ x ∈ binds, fd.scope.names.lookup x.1 = some .local)
    (hw : ∀ L, Ok (Cal G s.heap fd L f) d → Tm (Cal G s.heap fd L f) ⟨fun x => binds.reverse.lookup x, fun _ => none, []⟩ (execs body (Cal G s.heap fd L f).env) (fun fl σ' => R (retOf fl) σ'.n))
    (hQ : ∀ v nw h' tk', R v nw → (∀ b o, s.heap.get? b = some o → h'.get? b = some o) → (∀ p ∈ nw, h'.get? p.1 = some p.2 ∧ s.heap.get? p.1 = none) → Q v { s with heap := h', toks := tk' }) :
    wpAny (model G.prog G.w) G.A (call (.ref f) args []) Q E s := by
  obtain ⟨p, lo, mg, mb, T⟩ := O.T
  have X := O.X.keeps c.F.keep
  refine wpAny_call (codeAny_call_def (by have := O.depth; omega) (X _ _ hK) rfl (T.nolimit.keeps c.F.keep) (codeRec_of X hcode) hbody hbind hcell hloc (fun h₁ hns hk₁ => ?_) hco hgen hk)
  have F₁ : Fr s.heap s.heap.objs.size h₁ (fun x => binds.reverse.lookup x) := ⟨hns, hk₁, Nat.le_refl _⟩
  have c₁ : Cx (Cal G s.heap fd s.heap.objs.size f) [] ⟨fun x => binds.reverse.lookup x, fun _ => none, []⟩ h₁ :=
    ⟨F₁, News.nil, (fun x a e => by
      have : (callEnv fd s.heap.objs.size f).cells = [] := hc
      change (callEnv fd s.heap.objs.size f).cells.lookup x = some a at e
      rw [this] at e; cases e), (fun _ h => nomatch h), fun _ h => nomatch h⟩
  refine hw s.heap.objs.size (O.cal c hk hg hb hc) [] _ _ _ c₁ fun fl σ' h' tk' pr c' => ?_
  have := hQ (retOf fl) σ'.n h' tk' pr c'.F.keep (fun q hq => ⟨c'.get hq, (c'.N q (List.mem_append_right _ hq)).2.2⟩)
  cases fl <;> exact this

/-- as a tree of the caller's -/
theorem tm_fn {f : Addr} {fd : FuncData} {oc : Value} {od : Option Addr} {osl : Array (Option Value)} {body : List Stmt} {args : List Value} {binds : List (Str × Value)} {R : Value → Led → Prop}
    (O : Ok G (d + 1)) (hK : G.K.lookup f = some ⟨oc, od, .func fd, osl⟩) (hbody : fd.body = .stmts body) (hcode : codeIn G.K fd.code fd.qualname = true)
    (hk : fd.scope.kind = .function) (hg : fd.globals = mainGlobals) (hb : fd.builtins = builtinsNs) (hc : fd.closure = []) (hco : fd.scope.isCoroutine = false) (hgen : fd.scope.isGenerator = false)
    (hcell : ∀ x ∈ fd.scope.names, x.2 ≠ .cell) (hbind : ∀ s : Shared, G.K.In s.heap → BindsTo s fd ⟨args, []⟩ binds) (hloc : ∀ x ∈ binds, fd.scope.names.lookup x.1 = some .local)
    (hw : ∀ own h L, Cx G own σ h → Ok (Cal G h fd L f) d → Tm (Cal G h fd L f) ⟨fun x => binds.reverse.lookup x, fun _ => none, []⟩ (execs body (Cal G h fd L f).env) (fun fl σ' => R (retOf fl) σ'.n)) :
    Tm G σ (call (.ref f) args []) (fun v σ' => ∃ nw, σ' = { σ with n := nw ++ σ.n } ∧ R v nw ∧ ∀ p ∈ nw, ∀ q ∈ σ.n, p.1 ≠ q.1) := fun own s Q E c k =>
  call_fn O c hK hbody hcode hk hg hb hc hco hgen hcell (hbind s (O.X.keeps c.F.keep)) hloc (fun L O' => hw own s.heap L c O') fun v nw h' tk' r kp hn =>
    k v _ h' tk' ⟨nw, rfl, r, fun p hp q hq e => by have := (hn p hp).2; rw [e, c.get hq] at this; cases this⟩ (c.fresh kp hn)

/-- instances -/
def InstIn (h : Heap) (x C dx : Addr) (es : List DictEntry) (n : Nat) : Prop := h.get? x = some (instObj C dx) ∧ h.get? dx = some (dictOf es n)
theorem InstIn.at {h : Heap} {x C dx : Addr} {es : List DictEntry} {n : Nat} (i : InstIn h x C dx es n) : PySem.W.InstAt h x (instObj C dx) C (some (dictOf es n)) := ⟨i.1, rfl, rfl, i.2⟩
theorem InstIn.keep {h h' : Heap} {x C dx : Addr} {es : List DictEntry} {n : Nat} (i : InstIn h x C dx es n) (k : ∀ b o, h.get? b = some o → h'.get? b = some o) : InstIn h' x C dx es n := ⟨k _ _ i.1, k _ _ i.2⟩

theorem tr_attr (O : Ok G d) {y name : Str} {np pos : Pos} {x C dx : Addr} {es : List DictEntry} {n : Nat} {v : Value} {attr : Option Value} (he : Tr G σ (eval (.Name y np) G.env) (IsV (.ref x))) (hi : Ent G σ (fun h => InstIn h x C dx es n))
    (hg : plainGet G.K C name = true) (hh : hasDictIn G.K C = true) (ha : findIn G.K (.ref C) name = some attr) (hn : noGet G.K attr = true) (hl : getL name es = some (some v)) (hv : handedIn v = true) : Tr G σ (eval (.Attribute (.Name y np) name pos) G.env) (IsV v) := fun own s Q E c k =>
  Attribute_name (he own s _ E c fun o h₁ t₁ e c₁ => by
    subst e
    exact get_own (L := G.env.locals) (m := σ.m) (s := { s with heap := h₁, toks := t₁ }) c₁.F O.X (hi own _ c₁).at hg hh ha hn hl hv (k v h₁ _ rfl c₁))

/-- a method of an instance's class -/
theorem tm_methI (O : Ok G d) {pl : Sem Bool} {o : Expr} {name : Str} {apos pos : Pos} {e : Expr} {rest : List Expr} {x C dx f : Addr} {es : List DictEntry} {n : Nat} {P : List Value → Sg → Prop} {R : Value → Sg → Prop} (ho : Tr G σ (eval o G.env) (IsV (.ref x))) (hi : Ent G σ (fun h => InstIn h x C dx es n))
    (hg : plainGet G.K C name = true) (hf : findIn G.K (.ref C) name = some (some (.ref f))) (ht : isFn G.K (.ref f) = true) (hl : getL name es = some none) (hk : keepIn G.K (.ref f) = true)
    (ha : Tm G σ (spliced (backTo pos (starEach (e :: rest) G.env))) P) (hc : ∀ vs σ', P vs σ' → Tm G σ' (call (.ref f) (.ref x :: vs)) R)
    (hq : eval (.Call (.Attribute o name apos) (e :: rest) [] pos) G.env = (do
          let ov ← eval o G.env
          standAt apos.atName
          let (f, first) ← holding [ov] (getMethod ov name pl)
          callWith pos f first (backTo pos (starEach (e :: rest) G.env)) []) := by rfl)
    (he : starEach (e :: rest) G.env = (false, eval e G.env) :: starEach rest G.env := by rfl) (hp : (backTo pos (starEach rest G.env)).any (·.1) = false := by rfl) :
    Tm G σ (eval (.Call (.Attribute o name apos) (e :: rest) [] pos) G.env) R :=
  tm_meth ho.m (fun v σ' pv own s Q E c k => by
    obtain ⟨rfl, rfl⟩ := pv
    refine method_inst (L := G.env.locals) (m := σ'.m) c.F O.X (hi own _ c).at hg hf ht hl ?_
    exact callWith_K (first := [.ref x]) O.X hk (ha own s _ E c fun vs σ₂ h₂ t₂ pa c₂ => ⟨O.X.keeps c₂.F.keep, hc vs σ₂ pa own _ Q E c₂ fun v σ₃ h₃ t₃ pv c₃ => k v σ₃ h₃ t₃ pv c₃⟩) he hp) hq

theorem putL_length (name : Str) (hsh : Int) (key v : Value) : ∀ es : List DictEntry, (putL name hsh key v es).length ≤ es.length + 1
  | [] => Nat.le_refl _
  | e :: r => by
    unfold putL
    split
    · simp
    · simpa using putL_length name hsh key v r
/-- an attribute stored -/
theorem tm_setAttr (O : Ok G d) {name : Str} {x C dx : Addr} {es : List DictEntry} {n : Nat} {v : Value} {pre post : Led} (hcl : ∀ z, G.env.cells.lookup z = none)
    (hs : findIn G.K (.ref C) "__setattr__" = some (some (.builtin "object.__setattr__"))) (hp : plainOver G.K C = true) (ht : takerIn G.K C name = some none) (hh : hasDictIn G.K C = true) (hl : (getL name es).isSome = true)
    (he : σ.n = pre ++ (dx, dictOf es n) :: post) (h1 : ∀ p ∈ pre, p.1 ≠ dx) (h2 : ∀ p ∈ post, p.1 ≠ dx) (hx : (x, instObj C dx) ∈ σ.n) (hz : es.length ≤ 900) :
    Tm G σ (setAttr (.ref x) name v) (fun _ σ' => ∃ hash tk, σ' = { σ with n := pre ++ (dx, dictOf (putL name hash (.str name tk) v es) (putN name es n)) :: post }) := fun own s Q E c k => by
  have e1 : own ++ σ.n = (own ++ pre) ++ (dx, dictOf es n) :: post := by rw [he, List.append_assoc]
  have N := c.N
  rw [e1] at N
  have off : ∀ p ∈ own ++ pre, p.1 ≠ dx := fun p hp => by
    rcases List.mem_append.mp hp with h | h
    · exact c.offO p h (dx, dictOf es n) (by rw [he]; simp)
    · exact h1 p h
  refine set_plain (O.X.keeps c.F.keep) (C := C) (od := some (dictOf es n)) ⟨c.get hx, rfl, rfl, c.get (by rw [he]; simp)⟩ hs
    (osa_dict (s := { s with toks := s.toks + 1 }) c.F N (O.X.keeps c.F.keep) ⟨c.get hx, rfl, rfl, c.get (by rw [he]; simp)⟩ rfl hp ht hh hl off h2 (by rw [putName_dict]) rfl ?_ fun h' F' N' => ?_)
  · exact Nat.le_trans (putL_length _ _ _ _ es) (by omega)
  · have C' : Cx G own { σ with n := pre ++ (dx, dictOf (putL name (PyData.keyHash G.w.params name) (.str name (s.toks + 1)) v es) (putN name es n)) :: post } h' := by
      refine ⟨F', ?_, fun y a ha => ?_, ?_, fun p _ y a ha => ?_⟩
      · show News _ _ _ (own ++ (pre ++ _))
        rw [← List.append_assoc]; exact N'
      · rw [hcl] at ha; cases ha
      · intro p hp q hq
        rcases List.mem_append.mp hq with h | h
        · exact c.offO p hp q (by rw [he]; exact List.mem_append_left _ h)
        · rcases List.mem_cons.mp h with rfl | h
          · exact c.offO p hp (dx, dictOf es n) (by rw [he]; simp)
          · exact c.offO p hp q (by rw [he]; exact List.mem_append_right _ (.tail _ h))
      · rw [hcl] at ha; cases ha
    exact k () _ h' _ ⟨_, _, rfl⟩ C'
theorem tm_assignAttr {o e : Expr} {name : Str} {p pos : Pos} {P : Value → Sg → Prop} {P₂ : Value → Value → Sg → Prop} {R : Flow → Sg → Prop} (he : Tm G σ (eval e G.env) P) (ho : ∀ v σ', P v σ' → Tm G σ' (eval o G.env) (P₂ v))
    (hs : ∀ v u σ', P₂ v u σ' → Tm G σ' (setAttr u name v) (fun _ σ₂ => R .next σ₂)) (hw : swapsWith e (some (.Attribute o name p)) pos.line G.env = pure false := by rfl) :
    Tm G σ (exec (.Assign [.Attribute o name p] e pos) G.env) R := fun own s Q E c k =>
  plainObj_wpAny_Assign_Attribute (he own s _ E c fun v σ₁ h₁ t₁ pv c₁ => ho v σ₁ pv own _ _ E c₁ fun u σ₂ h₂ t₂ pu c₂ => hs v u σ₂ pu own _ _ E c₂ fun _ σ₄ h₄ t₄ p c₄ => k .next σ₄ h₄ t₄ p c₄) hw
end
end Mine
open PySem PySem.W PySem.Calls PyProof.Rows
set_option Elab.async false
set_option maxRecDepth 100000
set_option maxHeartbeats 4000000
set_option linter.unusedVariables false
namespace Mine
section
variable {G : Gx} {σ : Sg} {d : Nat}

def Gx.at (G : Gx) (A : Around) : Gx := { G with A := A }
theorem Cx.at {own : Led} {h : Heap} (c : Cx G own σ h) (A : Around) : Cx (G.at A) own σ h := ⟨c.F, c.N, c.C, c.offO, c.offC⟩
theorem Cx.un {own : Led} {h : Heap} {A : Around} (c : Cx (G.at A) own σ h) : Cx G own σ h := ⟨c.F, c.N, c.C, c.offO, c.offC⟩
theorem Ok.at {A : Around} {e : Nat} (O : Ok G d) (hf : A.frames = G.A.frames) (hh : A.handled = G.A.handled) (hd : A.depth + e < recursionLimit) (hu : A.units + 10 * e < cLine) : Ok (G.at A) e where
  X := O.X
  T := O.T
  B := by
    obtain ⟨base, outer, hb, B⟩ := O.B
    exact ⟨base, outer, hb, fun h m F => ⟨hf.trans (B h m F).stack, (B h m F).stays, (B h m F).frames⟩⟩
  kind := O.kind
  glob := O.glob
  blt := O.blt
  hh := hh.trans O.hh
  depth := hd
  units := hu
  cpw := O.cpw
  cL := O.cL
theorem Ok.in1 (O : Ok G (d + 1)) : Ok (G.at G.A.in1) d := O.at rfl rfl (by have := O.depth; show G.A.depth + d < _; omega) (by have := O.units; show G.A.units + 1 + 10 * d < _; omega)
theorem Ok.less {e : Nat} (O : Ok G d) (h : e ≤ d) : Ok G e := ⟨O.X, O.T, O.B, O.kind, O.glob, O.blt, O.hh, by have := O.depth; omega, by have := O.units; omega, O.cpw, O.cL⟩

/-- a def called upon a heap that has more than the caller's -/
theorem code_fn {own n₀ : Led} {hb : Heap} {s : Shared} {Rr : Result → Shared → Prop} {f : Addr} {fd : FuncData} {oc : Value} {od : Option Addr} {osl : Array (Option Value)} {body : List Stmt} {args : List Value} {binds : List (Str × Value)} {R : Value → Led → Prop}
    (O : Ok G (d + 1)) (c : Cx G own σ hb) (kb : ∀ b o, hb.get? b = some o → s.heap.get? b = some o) (hsz : hb.objs.size ≤ s.heap.objs.size) (hn₀ : ∀ p ∈ n₀, s.heap.get? p.1 = some p.2 ∧ hb.get? p.1 = none)
    (hK : G.K.lookup f = some ⟨oc, od, .func fd, osl⟩) (hbody : fd.body = .stmts body) (hcode : codeIn G.K fd.code fd.qualname = true)
    (hk : fd.scope.kind = .function) (hg : fd.globals = mainGlobals) (hb' : fd.builtins = builtinsNs) (hc : fd.closure = []) (hco : fd.scope.isCoroutine = false) (hgen : fd.scope.isGenerator = false)
    (hcell : ∀ x ∈ fd.scope.names, x.2 ≠ .cell) (hbind : BindsTo s fd ⟨args, []⟩ binds) (hloc : ∀ x ∈ binds, fd.scope.names.lookup x.1 = some .local)
    (hw : ∀ L, Ok (Cal G hb fd L f) d → Tm (Cal G hb fd L f) ⟨fun x => binds.reverse.lookup x, fun _ => none, n₀⟩ (execs body (Cal G hb fd L f).env) (fun fl σ' => R (retOf fl) σ'.n))
    (hQ : ∀ v nw h' tk', R v nw → (∀ b o, hb.get? b = some o → h'.get? b = some o) → (∀ p ∈ nw, h'.get? p.1 = some p.2 ∧ hb.get? p.1 = none) → Rr (.ok (.ret v)) { s with heap := h', toks := tk' }) :
    codeAny (model G.prog G.w) G.A (.call (.ref f) ⟨args, []⟩) Rr s := by
  obtain ⟨p, lo, mg, mb, T⟩ := O.T
  have X := (O.X.keeps c.F.keep).keeps kb
  refine codeAny_call_def (by have := O.depth; omega) (X _ _ hK) rfl ((T.nolimit.keeps c.F.keep).keeps kb) (codeRec_of X hcode) hbody hbind hcell hloc (fun h₁ hns hk₁ => ?_) hco hgen hk
  have F₁ : Fr hb s.heap.objs.size h₁ (fun x => binds.reverse.lookup x) := ⟨hns, fun b o e => hk₁ _ _ (kb _ _ e), hsz⟩
  have nc : ∀ x, (callEnv fd s.heap.objs.size f).cells.lookup x = none := fun x => by
    have : (callEnv fd s.heap.objs.size f).cells = [] := hc
    rw [this]; rfl
  have c₁ : Cx (Cal G hb fd s.heap.objs.size f) [] ⟨fun x => binds.reverse.lookup x, fun _ => none, n₀⟩ h₁ := by
    refine ⟨F₁, fun p hp => ⟨hk₁ _ _ (hn₀ p hp).1, Nat.ne_of_lt (Heap.lt_size (hn₀ p hp).1), (hn₀ p hp).2⟩, fun x a e => ?_, (fun _ h => nomatch h), fun p _ x a e => ?_⟩
    · have := nc x; change (callEnv fd s.heap.objs.size f).cells.lookup x = some a at e; rw [this] at e; cases e
    · have := nc x; change (callEnv fd s.heap.objs.size f).cells.lookup x = some a at e; rw [this] at e; cases e
  refine hw s.heap.objs.size (O.cal c hk hg hb' hc) [] _ _ _ c₁ fun fl σ' h' tk' pr c' => ?_
  have := hQ (retOf fl) σ'.n h' tk' pr c'.F.keep (fun q hq => ⟨c'.get hq, (c'.N q (List.mem_append_right _ hq)).2.2⟩)
  cases fl <;> exact this

/-- an instance made: x is its address, dx its dict's -/
theorem tm_make {C fI : Addr} {fd : FuncData} {oc : Value} {od : Option Addr} {osl : Array (Option Value)} {body : List Stmt} {args : List Value} {binds : Addr → List (Str × Value)} {R : Addr → Led → Prop}
    (O : Ok G (d + 2)) (hm : makesIn G.K C = true) (hi : findIn G.K (.ref C) "__init__" = some (some (.ref fI))) (hf : typeIn G.K (.ref fI) = some (.type "function"))
    (hK : G.K.lookup fI = some ⟨oc, od, .func fd, osl⟩) (hbody : fd.body = .stmts body) (hcode : codeIn G.K fd.code fd.qualname = true)
    (hk : fd.scope.kind = .function) (hg : fd.globals = mainGlobals) (hb : fd.builtins = builtinsNs) (hc : fd.closure = []) (hco : fd.scope.isCoroutine = false) (hgen : fd.scope.isGenerator = false)
    (hcell : ∀ x ∈ fd.scope.names, x.2 ≠ .cell) (hbind : ∀ x (s : Shared), G.K.In s.heap → BindsTo s fd ⟨.ref x :: args, []⟩ (binds x)) (hloc : ∀ x, ∀ y ∈ binds x, fd.scope.names.lookup y.1 = some .local)
    (hw : ∀ own h L A x dx, Cx G own σ h → x ≠ dx → Ok (Cal (G.at A) h fd L fI) d → Tm (Cal (G.at A) h fd L fI) ⟨fun y => (binds x).reverse.lookup y, fun _ => none, [(x, instObj C dx), (dx, dictOf [] 0)]⟩ (execs body (Cal (G.at A) h fd L fI).env) (fun fl σ' => retOf fl = .none ∧ R x σ'.n)) :
    Tm G σ (call (.ref C) args []) (fun v σ' => ∃ x nw, v = .ref x ∧ σ' = { σ with n := nw ++ σ.n } ∧ R x nw ∧ ∀ p ∈ nw, ∀ q ∈ σ.n, p.1 ≠ q.1) := by
  rintro own ⟨h, g, dr, tk, os⟩ Q E c k
  have X := O.X.keeps c.F.keep
  refine wpAny_call (make_core (makes_of X hm) (looks_findIn X hi) (fun self => bind_fn X self hf) (.inl rfl) ?_)
  have gx : ((h.push emptyDict).push (instObj C h.objs.size)).get? (h.objs.size + 1) = some (instObj C h.objs.size) := by
    have := Heap.get?_push_size (h.push emptyDict) (o := instObj C h.objs.size) rfl
    rwa [Heap.size_push] at this
  have gd : ((h.push emptyDict).push (instObj C h.objs.size)).get? h.objs.size = some (dictOf [] 0) := Heap.get?_push_of_some _ (Heap.get?_push_size _ rfl)
  have none_ : ∀ b, h.objs.size ≤ b → h.get? b = none := fun b hb => by
    cases e : h.get? b with
    | none => rfl
    | some o => exact absurd (Heap.lt_size e) (Nat.not_lt.mpr hb)
  have kp : ∀ b o, h.get? b = some o → ((h.push emptyDict).push (instObj C h.objs.size)).get? b = some o := fun b o e => Heap.get?_push_of_some _ (Heap.get?_push_of_some _ e)
  have O' : Ok (G.at (G.A.under (.builtin "type.__call__" ⟨.ref C :: args, []⟩))) (d + 1) := O.at rfl rfl (by have := O.depth; show G.A.depth + 1 + (d + 1) < _; omega) (by have := O.units; show G.A.units + 1 + 10 * (d + 1) < _; omega)
  refine code_fn (G := G.at (G.A.under (.builtin "type.__call__" ⟨.ref C :: args, []⟩))) (σ := σ) (own := own) (hb := h) (n₀ := [(h.objs.size + 1, instObj C h.objs.size), (h.objs.size, dictOf [] 0)]) (R := fun v nw => v = .none ∧ R (h.objs.size + 1) nw)
    O' (c.at _) kp (by simp only [Heap.size_push]; omega) (fun p hp => ?_) hK hbody hcode hk hg hb hc hco hgen hcell (hbind _ _ (X.keeps kp)) (hloc _)
    (fun L O₂ => hw own h L _ _ _ c (Nat.succ_ne_self _) O₂) fun v nw h' tk' r kp' hn => ?_
  · rcases List.mem_cons.mp hp with rfl | hp
    · exact ⟨gx, none_ _ (Nat.le_succ _)⟩
    · obtain rfl := List.mem_singleton.mp hp
      exact ⟨gd, none_ _ (Nat.le_refl _)⟩
  · obtain ⟨rfl, r⟩ := r
    exact ⟨rfl, k (.ref (h.objs.size + 1)) _ h' tk' ⟨_, nw, rfl, rfl, r, fun p hp q hq e => by have := (hn p hp).2; rw [e, c.get hq] at this; cases this⟩ (c.fresh kp' hn)⟩
end
end Mine
open PySem PySem.W PySem.Calls PyProof.Rows
set_option Elab.async false
set_option maxRecDepth 100000
set_option maxHeartbeats 4000000
set_option linter.unusedVariables false
namespace Mine

/-- addresses that no one of the frame's own touches -/
structure Off (G : Gx) (own : Led) (σ : Sg) (its : List Addr) : Prop where
  n : ∀ p ∈ own ++ σ.n, p.1 ∉ its
  c : ∀ x a, G.env.cells.lookup x = some a → a ∉ its
  L : G.env.locals ∉ its
  h : ∀ b ∈ its, G.h₀.get? b = none

section
variable {G : Gx} {σ : Sg} {d : Nat} {own : Led} {h h' : Heap} {its : List Addr}

theorem Cx.but (x : Cx G own σ h) (o : Off G own σ its) (k : ∀ b ob, b ∉ its → h.get? b = some ob → h'.get? b = some ob) : Cx G own σ h' := by
  refine ⟨⟨x.F.ns.at' fun ob e => k _ ob o.L e, fun b ob e => k _ _ (fun hb => by rw [o.h b hb] at e; cases e) (x.F.keep b ob e), x.F.above⟩, fun p hp => ⟨k _ _ (o.n p hp) (x.N p hp).1, (x.N p hp).2⟩, fun y a ha => ?_, x.offO, x.offC⟩
  obtain ⟨ob, e, q⟩ := x.C y a ha
  exact ⟨ob, k _ _ (o.c y a ha) e, q⟩

def ownAt (h : Heap) (its : List Addr) : Led := its.filterMap fun b => (h.get? b).map fun o => (b, o)
theorem mem_ownAt {p : Addr × Obj} (hp : p ∈ ownAt h its) : p.1 ∈ its ∧ h.get? p.1 = some p.2 := by
  obtain ⟨b, hb, e⟩ := List.mem_filterMap.mp hp
  cases q : h.get? b with
  | none => rw [q] at e; cases e
  | some o => rw [q] at e; cases e; exact ⟨hb, q⟩
theorem ownAt_mem {b : Addr} {o : Obj} (hb : b ∈ its) (e : h.get? b = some o) : (b, o) ∈ ownAt h its := List.mem_filterMap.mpr ⟨b, hb, by rw [e]; rfl⟩

theorem Cx.take (x : Cx G own σ h) (o : Off G own σ its) : Cx G (ownAt h its ++ own) σ h := by
  refine ⟨x.F, fun p hp => ?_, x.C, fun p hp q hq => ?_, fun p hp y a ha => ?_⟩
  · rw [List.append_assoc] at hp
    rcases List.mem_append.mp hp with q | q
    · have := mem_ownAt q
      exact ⟨this.2, fun e => o.L (e ▸ this.1), o.h _ this.1⟩
    · exact x.N p q
  · rcases List.mem_append.mp hp with r | r
    · exact fun e => o.n q (List.mem_append_right _ hq) (e ▸ (mem_ownAt r).1)
    · exact x.offO p r q hq
  · rw [List.append_assoc] at hp
    rcases List.mem_append.mp hp with r | r
    · exact fun e => o.c y a ha (e ▸ (mem_ownAt r).1)
    · exact x.offC p r y a ha
theorem Cx.give {o₁ : Led} (x : Cx G (o₁ ++ own) σ h) : Cx G own σ h :=
  ⟨x.F, fun p hp => x.N p (by rw [List.append_assoc]; exact List.mem_append_right _ hp), x.C, fun p hp => x.offO p (List.mem_append_right _ hp), fun p hp => x.offC p (by rw [List.append_assoc]; exact List.mem_append_right _ hp)⟩
theorem Cx.drop {nw n : Led} {m c : Str → Option Value} (x : Cx G own ⟨m, c, nw ++ n⟩ h) : Cx G own ⟨m, c, n⟩ h :=
  ⟨x.F, fun p hp => x.N p (by rcases List.mem_append.mp hp with q | q; exact List.mem_append_left _ q; exact List.mem_append_right _ (List.mem_append_right _ q)), x.C, fun p hp q hq => x.offO p hp q (List.mem_append_right _ hq),
    fun p hp => x.offC p (by rcases List.mem_append.mp hp with q | q; exact List.mem_append_left _ q; exact List.mem_append_right _ (List.mem_append_right _ q))⟩
/-- what the iterator's addresses are to the ledger behind a body -/
theorem Off.of_take {o₁ : Led} (x : Cx G (o₁ ++ own) σ h) (hm : ∀ b ∈ its, ∃ o, (b, o) ∈ o₁) (hw : ∀ p ∈ own, p.1 ∉ its) : Off G own σ its := by
  refine ⟨fun p hp hb => ?_, fun y a ha hb => ?_, fun hb => ?_, fun b hb => ?_⟩
  · obtain ⟨o, ho⟩ := hm _ hb
    rcases List.mem_append.mp hp with q | q
    · exact hw p q hb
    · exact x.offO _ (List.mem_append_left _ ho) p q rfl
  · obtain ⟨o, ho⟩ := hm _ hb
    exact x.offC (a, o) (List.mem_append_left _ (List.mem_append_left _ ho)) y a ha rfl
  · obtain ⟨o, ho⟩ := hm _ hb
    exact (x.N (_, o) (List.mem_append_left _ (List.mem_append_left _ ho))).2.1 rfl
  · obtain ⟨o, ho⟩ := hm _ hb
    exact (x.N (b, o) (List.mem_append_left _ (List.mem_append_left _ ho))).2.2

end
/-- a loop's own source stands -/
def Fx (G : Gx) (σ : Sg) (fix : Led) : Prop := ∀ p ∈ fix, p ∈ σ.n ∨ G.h₀.get? p.1 = some p.2
theorem Fx.get {G : Gx} {σ : Sg} {own fix : Led} {h : Heap} (f : Fx G σ fix) (c : Cx G own σ h) : ∀ p ∈ fix, h.get? p.1 = some p.2 := fun p hp => (f p hp).elim (fun q => c.get q) fun q => c.old q
theorem Fx.nil {G : Gx} {σ : Sg} : Fx G σ [] := fun _ h => nomatch h
theorem Fx.one {G : Gx} {σ : Sg} {a : Addr} {o : Obj} (h : (a, o) ∈ σ.n) : Fx G σ [(a, o)] := fun p hp => by obtain rfl := List.mem_singleton.mp hp; exact .inl h
theorem Fx.old {G : Gx} {σ : Sg} {a : Addr} {o : Obj} (h : G.h₀.get? a = some o) : Fx G σ [(a, o)] := fun p hp => by obtain rfl := List.mem_singleton.mp hp; exact .inr h

/-- an iterator that drives a loop over a target -/
structure Drv (G : Gx) (target : Expr) (it : Value) (its : List Addr) (fix : Led) (n : Nat) (Pm : Nat → Sg → Sg → Prop) (St : Nat → Heap → Prop) : Prop where
  frame : ∀ i h h', St i h → (∀ b, b ∈ its ∨ b ∈ fix.map (·.1) → ∀ o, h.get? b = some o → h'.get? b = some o) → St i h'
  live : ∀ i h, St i h → ∀ b ∈ its, ∃ o, h.get? b = some o
  step : ∀ i own σ (s : Shared) (Q : Unit → Shared → Prop) (E : Value → Shared → Prop), i < n → St i s.heap → Cx G own σ s.heap → Off G own σ its → Fx G σ fix →
    (∀ σ' h' tk', Pm i σ σ' → σ'.n = σ.n → St (i + 1) h' → Cx G own σ' h' → Off G own σ' its → Q () { s with heap := h', toks := tk' }) →
    wpAny (model G.prog G.w) G.A (pyNext it) (fun r s₁ => match r with
      | some v => wpAny (model G.prog G.w) G.A (letOwnedTupleGo target it v) (fun _ s₂ => wpAny (model G.prog G.w) G.A (assign target G.env v) (fun _ => Q ()) E s₂) E s₁
      | none => False) E s
  self : ∀ i (s : Shared) (Q : Value → Shared → Prop) (E : Value → Shared → Prop), St i s.heap → Q it s → wpAny (model G.prog G.w) G.A (pyIter it) Q E s
  done : ∀ own σ (s : Shared) (Q : Shared → Prop) (E : Value → Shared → Prop), St n s.heap → Cx G own σ s.heap → Off G own σ its →
    (∀ h' tk', Cx G own σ h' → Q { s with heap := h', toks := tk' }) → wpAny (model G.prog G.w) G.A (pyNext it) (fun r s₁ => match r with
      | none => Q s₁
      | some _ => False) E s

/-- what an iterable's expression yields; Pre tells the ledger with the source in it -/
def Src (G : Gx) (σ : Sg) (target iter : Expr) (n : Nat) (Pm : Nat → Sg → Sg → Prop) (Pre : Sg → Led → Prop) : Prop :=
  ∀ own (s : Shared) (Q : Value → Shared → Prop) (E : Value → Shared → Prop), Cx G own σ s.heap →
    (∀ it its St h₁ tk σ₁ fix, Pre σ₁ fix → Drv G target it its fix n Pm St → St 0 h₁ → Cx G own σ₁ h₁ → Off G own σ₁ its → Q it { s with heap := h₁, toks := tk }) →
    wpAny (model G.prog G.w) G.A (eval iter G.env) (fun xv s₁ => wpAny (model G.prog G.w) G.A (pyIter xv) Q E s₁) E s

section
variable {G : Gx} {σ : Sg} {d : Nat}

theorem tm_for {target iter : Expr} {body : List Stmt} {pos : Pos} {n : Nat} {Pm : Nat → Sg → Sg → Prop} {Pre : Sg → Led → Prop} {R : Flow → Sg → Prop} (hsrc : Src G σ target iter n Pm Pre) (Inv : Led → Nat → Sg → Prop) (h0 : ∀ σ₁ fix, Pre σ₁ fix → Inv fix 0 σ₁)
    (hfix : ∀ fix i σ', Inv fix i σ' → Fx G σ' fix)
    (turn : ∀ fix i σ₁ σ₂, i < n → Inv fix i σ₁ → Pm i σ₁ σ₂ → σ₂.n = σ₁.n → Tm G σ₂ (execs body G.env) (fun f σ₃ => match f with
      | .next => Inv fix (i + 1) σ₃
      | .cont => Inv fix (i + 1) σ₃
      | .brk => R .next σ₃
      | .ret v => R (.ret v) σ₃))
    (done : ∀ fix σ₁, Inv fix n σ₁ → R .next σ₁) (hs : ∀ x, foldedSetIterable iter G.env x = pure x := by intro _; rfl) : Tm G σ (exec (.For target iter body [] pos) G.env) R := by
  intro own s Q E c k
  refine wpAny_For (hsrc own s _ E c fun it its St h₁ tk σ fix pre D st c₁ of₁ => ?_) hs
  refine codeAny_forLoop_any (fun m s' => ∃ h' tk' σ' i, s' = { s with heap := h', toks := tk' } ∧ St i h' ∧ Cx G own σ' h' ∧ Off G own σ' its ∧ Inv fix i σ' ∧ i ≤ n ∧ m = n + 1 - i) ?_ (n + 1)
    ⟨h₁, tk, σ, 0, rfl, st, c₁, of₁, h0 _ _ pre, Nat.zero_le _, rfl⟩
  rintro m s' ⟨h', tk', σ', i, rfl, st', c', of', inv, hi, rfl⟩
  by_cases hlt : i < n
  · refine wpAny_mono (D.step i own σ' { s with heap := h', toks := tk' } (fun _ s₃ => wpAny (model G.prog G.w) G.A (execs body G.env) (fun f s₄ => match f with
            | .next | .cont => ∃ m', m' < n + 1 - i ∧ ∃ h' tk' σ' i, s₄ = { s with heap := h', toks := tk' } ∧ St i h' ∧ Cx G own σ' h' ∧ Off G own σ' its ∧ Inv fix i σ' ∧ i ≤ n ∧ m' = n + 1 - i
            | .brk => Q .next s₄
            | .ret v => Q (.ret v) s₄) (notedBy (model G.prog G.w) G.A G.env (cameBackBy (model G.prog G.w) G.A G.env E)) s₃) _ hlt st' c' of' (hfix _ _ _ inv) fun σ₂ h₂ tk₂ pm en st₂ c₂ of₂ => ?_)
      (fun r s₁ hr => ?_) fun _ _ e => e
    · have hf₂ : ∀ p ∈ fix, h₂.get? p.1 = some p.2 := Fx.get (σ := σ₂) (fun p hp => by rw [en]; exact hfix _ _ _ inv p hp) c₂
      refine turn fix i σ' σ₂ hlt inv pm en (ownAt h₂ its ++ own) _ _ _ (c₂.take of₂) fun f σ₃ h₃ tk₃ p c₃ => ?_
      have nx : Inv fix (i + 1) σ₃ → ∃ m', m' < n + 1 - i ∧ ∃ h' tk' σ' i, ({ s with heap := h₃, toks := tk₃ } : Shared) = { s with heap := h', toks := tk' } ∧ St i h' ∧ Cx G own σ' h' ∧ Off G own σ' its ∧ Inv fix i σ' ∧ i ≤ n ∧ m' = n + 1 - i := by
        intro inv₃
        have hf₃ := (hfix _ _ _ inv₃).get c₃
        refine ⟨n + 1 - (i + 1), by omega, h₃, tk₃, σ₃, i + 1, rfl, D.frame _ _ _ st₂ fun b hb o e => ?_, c₃.give, Off.of_take c₃ (fun b hb => ?_) (fun p hp => of₂.n p (List.mem_append_left _ hp)), inv₃, hlt, rfl⟩
        · rcases hb with hb | hb
          · exact (c₃.N (b, o) (List.mem_append_left _ (List.mem_append_left _ (ownAt_mem hb e)))).1
          · obtain ⟨p, hp, rfl⟩ := List.mem_map.mp hb
            rw [hf₂ p hp] at e; cases e; exact hf₃ p hp
        · obtain ⟨o, e⟩ := D.live _ _ st₂ b hb
          exact ⟨o, ownAt_mem hb e⟩
      cases f with
      | next => exact nx p
      | cont => exact nx p
      | brk => exact k .next σ₃ h₃ tk₃ p c₃.give
      | ret v => exact k (.ret v) σ₃ h₃ tk₃ p c₃.give
    · cases r with
      | none => exact hr.elim
      | some v => exact hr
  · have hin : i = n := by omega
    subst hin
    refine wpAny_mono (D.done own σ' { s with heap := h', toks := tk' } (fun s₁ => Q .next s₁) _ st' c' of' fun h₂ tk₂ c₂ => k .next σ' h₂ tk₂ (done fix σ' inv) c₂) (fun r s₁ hr => ?_) fun _ _ e => e
    cases r with
    | none => exact wpAny_execs_nil hr
    | some v => exact hr.elim

/-- drivers by Walks -/
theorem Drv.walks {target : Expr} {I : Addr} {fp : List Addr} {fix : Led} {n : Nat} {P : Nat → Value → Prop} {Pm : Nat → Sg → Sg → Prop} {St : Nat → Heap → Prop} (W : Walks G.prog G.w G.A I fp [I] n P St) (hfp : ∀ b ∈ fp, b = I ∨ b ∈ fix.map (·.1))
    (live : ∀ i h, St i h → ∃ o, h.get? I = some o)
    (hgo : ∀ i own σ (s : Shared) v (Q : Unit → Shared → Prop) (E : Value → Shared → Prop), St (i + 1) s.heap → P i v → Cx G own σ s.heap → Off G own σ [I] → Fx G σ fix → Q () s → wpAny (model G.prog G.w) G.A (letOwnedTupleGo target (.ref I) v) Q E s)
    (has : ∀ i v σ, P i v → Fx G σ fix → Tm G σ (assign target G.env v) (fun _ σ' => Pm i σ σ' ∧ σ'.n = σ.n)) : Drv G target (.ref I) [I] fix n Pm St where
  frame := fun i h h' st k => W.frame i h h' st fun b hb o e => k b ((hfp b hb).imp (fun e => by simp [e]) id) o e
  live := fun i h st b hb => by obtain rfl := List.mem_singleton.mp hb; exact live i h st
  step := fun i own σ s Q E hi st c of hf k => W.item i s _ E hi st fun v h' tk pv st' kp => by
    have c' := c.but of kp
    refine hgo i own σ { s with heap := h', toks := tk } v _ E st' pv c' of hf ?_
    refine has i v σ pv hf (ownAt h' [I] ++ own) { s with heap := h', toks := tk } _ E (c'.take of) fun u σ' h₂ tk₂ ⟨pm, en⟩ c₂ => ?_
    have c₃ := c₂.give
    have hI₂ : ∀ o, h'.get? I = some o → h₂.get? I = some o := fun o e => (c₂.N (I, o) (List.mem_append_left _ (List.mem_append_left _ (ownAt_mem (List.mem_singleton.mpr rfl) e)))).1
    have hf' := hf.get c'
    have hf₂ : ∀ p ∈ fix, h₂.get? p.1 = some p.2 := Fx.get (σ := σ') (fun p hp => by rw [en]; exact hf p hp) c₃
    refine k σ' h₂ tk₂ pm en (W.frame _ _ _ st' fun b hb o e => ?_) c₃ ⟨fun p hp => of.n p (by rw [← en]; exact hp), of.c, of.L, of.h⟩
    rcases hfp b hb with rfl | hb
    · exact hI₂ o e
    · obtain ⟨p, hp, rfl⟩ := List.mem_map.mp hb
      rw [hf' p hp] at e; cases e; exact hf₂ p hp
  self := W.self
  done := fun own σ s Q E st c of k => W.done s _ E st fun h' tk kp => k h' tk (c.but of kp)

/-- a fresh address is off -/
theorem Off.fresh {own : Led} {h : Heap} (c : Cx G own σ h) {I : Addr} (hI : h.get? I = none) : Off G own σ [I] where
  n := fun p hp e => by rw [← List.mem_singleton.mp e, (c.N p hp).1] at hI; cases hI
  c := fun x a ha e => by obtain ⟨o, ho, _⟩ := c.C x a ha; rw [← List.mem_singleton.mp e, ho] at hI; cases hI
  L := fun e => by obtain ⟨o, _, _, ho, _⟩ := c.F.ns; rw [← List.mem_singleton.mp e, ho] at hI; cases hI
  h := fun b e => by
    obtain rfl := List.mem_singleton.mp e
    cases q : G.h₀.get? b with
    | none => rfl
    | some o => rw [c.F.keep _ _ q] at hI; cases hI
theorem get_size (h : Heap) : h.get? h.objs.size = none := by
  cases e : h.get? h.objs.size with
  | none => rfl
  | some o => exact absurd (Heap.lt_size e) (Nat.lt_irrefl _)

/-- targets -/
theorem tm_toName (O : Ok G d) {x : Str} {p : Pos} {v : Value} (hx : G.env.kindOf x = some .local := by rfl) : Tm G σ (assign (.Name x p) G.env v) (fun _ σ' => σ' = { σ with m := put σ.m x v } ∧ σ'.n = σ.n) := fun own s Q E c k =>
  wpAny_assign_Name (tm_storeName O hx own s Q E c fun u σ' h' tk' e c' => by subst e; exact k u _ h' tk' ⟨rfl, rfl⟩ c')
theorem tm_toCell (O : Ok G d) {x : Str} {p : Pos} {v : Value} {a : Addr} (ha : G.env.cells.lookup x = some a) (a0 : G.h₀.get? a = none) (hx : G.env.kindOf x = some .cell := by rfl) : Tm G σ (assign (.Name x p) G.env v) (fun _ σ' => σ' = { σ with c := put σ.c x v } ∧ σ'.n = σ.n) := fun own s Q E c k =>
  wpAny_assign_Name (tm_storeC O ha a0 hx own s Q E c fun u σ' h' tk' e c' => by subst e; exact k u _ h' tk' ⟨rfl, rfl⟩ c')

/-- binds for a one-name target -/
def toN (x : Str) (P : Nat → Value → Prop) (i : Nat) (σ σ' : Sg) : Prop := ∃ v, P i v ∧ σ' = { σ with m := put σ.m x v }
def toC (x : Str) (P : Nat → Value → Prop) (i : Nat) (σ σ' : Sg) : Prop := ∃ v, P i v ∧ σ' = { σ with c := put σ.c x v }
theorem has_toN (O : Ok G d) {x : Str} {p : Pos} {P : Nat → Value → Prop} {fix : Led} (hx : G.env.kindOf x = some .local := by rfl) : ∀ i v σ, P i v → Fx G σ fix → Tm G σ (assign (.Name x p) G.env v) (fun _ σ' => toN x P i σ σ' ∧ σ'.n = σ.n) := fun i v σ pv _ =>
  Tm.mono (tm_toName O hx) fun _ σ' e => ⟨⟨v, pv, e.1⟩, e.2⟩
theorem has_toC (O : Ok G d) {x : Str} {p : Pos} {P : Nat → Value → Prop} {fix : Led} {a : Addr} (ha : G.env.cells.lookup x = some a) (a0 : G.h₀.get? a = none) (hx : G.env.kindOf x = some .cell := by rfl) : ∀ i v σ, P i v → Fx G σ fix → Tm G σ (assign (.Name x p) G.env v) (fun _ σ' => toC x P i σ σ' ∧ σ'.n = σ.n) := fun i v σ pv _ =>
  Tm.mono (tm_toCell O ha a0 hx) fun _ σ' e => ⟨⟨v, pv, e.1⟩, e.2⟩
theorem go_name {x : Str} {p : Pos} {I : Addr} {fix : Led} {P : Nat → Value → Prop} {St : Nat → Heap → Prop} : ∀ i own σ (s : Shared) v (Q : Unit → Shared → Prop) (E : Value → Shared → Prop), St (i + 1) s.heap → P i v → Cx G own σ s.heap → Off G own σ [I] → Fx G σ fix → Q () s → wpAny (model G.prog G.w) G.A (letOwnedTupleGo (.Name x p) (.ref I) v) Q E s :=
  fun _ _ _ _ _ _ _ _ _ _ _ _ q => wpAny_pure q

end
end Mine
open PySem PySem.W PySem.Calls PyProof.Rows
set_option Elab.async false
set_option maxRecDepth 100000
set_option maxHeartbeats 4000000
set_option linter.unusedVariables false
namespace Mine
section
variable {G : Gx} {σ : Sg} {d : Nat}

theorem ext_keeps {h h' : Heap} (x : Heap.ExtBut h.objs.size h h') : ∀ b o, h.get? b = some o → h'.get? b = some o := fun b o e => x b o (Nat.ne_of_lt (Heap.lt_size e)) e

/-- two names by a tuple -/
theorem to_tuple2 (O : Ok G d) {own : Led} {s : Shared} {Q : Unit → Shared → Prop} {E : Value → Shared → Prop} {x y : Str} {p q pos : Pos} {n : Nat} {T : Addr} {a b : Value} (c : Cx G own σ s.heap) (hT : s.heap.IsTuple T #[a, b])
    (hx : G.env.kindOf x = some .local) (hy : G.env.kindOf y = some .local) (hl : ∀ env, (assignEach [Expr.Name x p, Expr.Name y q] env) = [(false, assign (.Name x p) env), (false, assign (.Name y q) env)] := by intro _; rfl)
    (k : ∀ h' tk', Cx G own { σ with m := put (put σ.m x a) y b } h' → Q () { s with heap := h', toks := tk' }) :
    wpAny (model G.prog G.w) G.A (assign (.Tuple [.Name x p, .Name y q] n pos) G.env (.ref T)) Q E s := by
  refine wpAny_assign_Tuple O.hh hT (by rw [hl]; rfl) (by rw [hl]; rfl) fun h' xb => ?_
  have c' := c.keep (ext_keeps xb)
  rw [hl]
  refine wpAny_assignInOrder_more (wpAny_assign_Name (tm_storeName O hx own _ _ E c' fun u σ₁ h₁ t₁ e c₁ => ?_))
  subst e
  refine wpAny_assignInOrder_more (wpAny_assign_Name (tm_storeName O hy own _ _ E c₁ fun u σ₂ h₂ t₂ e c₂ => ?_))
  subst e
  exact wpAny_assignInOrder_none (k h₂ t₂ c₂)
theorem to_tuple3 (O : Ok G d) {own : Led} {s : Shared} {Q : Unit → Shared → Prop} {E : Value → Shared → Prop} {x y z : Str} {p q r pos : Pos} {n : Nat} {T : Addr} {a b e : Value} (c : Cx G own σ s.heap) (hT : s.heap.IsTuple T #[a, b, e])
    (hx : G.env.kindOf x = some .local) (hy : G.env.kindOf y = some .local) (hz : G.env.kindOf z = some .local) (hl : ∀ env, (assignEach [Expr.Name x p, Expr.Name y q, Expr.Name z r] env) = [(false, assign (.Name x p) env), (false, assign (.Name y q) env), (false, assign (.Name z r) env)] := by intro _; rfl)
    (k : ∀ h' tk', Cx G own { σ with m := put (put (put σ.m x a) y b) z e } h' → Q () { s with heap := h', toks := tk' }) :
    wpAny (model G.prog G.w) G.A (assign (.Tuple [.Name x p, .Name y q, .Name z r] n pos) G.env (.ref T)) Q E s := by
  refine wpAny_assign_Tuple O.hh hT (by rw [hl]; rfl) (by rw [hl]; rfl) fun h' xb => ?_
  have c' := c.keep (ext_keeps xb)
  rw [hl]
  refine wpAny_assignInOrder_more (wpAny_assign_Name (tm_storeName O hx own _ _ E c' fun u σ₁ h₁ t₁ e c₁ => ?_))
  subst e
  refine wpAny_assignInOrder_more (wpAny_assign_Name (tm_storeName O hy own _ _ E c₁ fun u σ₂ h₂ t₂ e c₂ => ?_))
  subst e
  refine wpAny_assignInOrder_more (wpAny_assign_Name (tm_storeName O hz own _ _ E c₂ fun u σ₃ h₃ t₃ e c₃ => ?_))
  subst e
  exact wpAny_assignInOrder_none (k h₃ t₃ c₃)

theorem drv_list (O : Ok G d) {target : Expr} {I l : Addr} {o : Obj} {its : Array Value} {Pm : Nat → Sg → Sg → Prop} (hne : l ≠ I)
    (hgo : ∀ i (s : Shared) v (Q : Unit → Shared → Prop) (E : Value → Shared → Prop), s.heap.IsListIter I l i → its[i - 1]? = some v → Q () s → wpAny (model G.prog G.w) G.A (letOwnedTupleGo target (.ref I) v) Q E s)
    (has : ∀ i v σ, its[i]? = some v → Fx G σ [(l, o)] → Tm G σ (assign target G.env v) (fun _ σ' => Pm i σ σ' ∧ σ'.n = σ.n)) :
    Drv G target (.ref I) [I] [(l, o)] its.size Pm (fun i h => h.IsListIter I l i ∧ h.IsList l its) :=
  Drv.walks (Walks.list (prog := G.prog) (w := G.w) O.hh I l hne its) (fun b hb => by simpa using hb) (fun i h st => ⟨_, st.1.choose_spec.1⟩) (fun i own σ s v Q E st pv c of fx q => hgo (i + 1) s v Q E st.1 pv q) has
theorem drv_dict (O : Ok G d) {x : Str} {p : Pos} {I a : Addr} {o : Obj} {kvs : List (Str × Value)} {ep : Nat} {Pm : Nat → Sg → Sg → Prop} (hne : a ≠ I)
    (has : ∀ (i : Nat) v σ, (∃ k y, kvs[i]? = some (k, y) ∧ Value.isStrOf k v = true) → Fx G σ [(a, o)] → Tm G σ (assign (.Name x p) G.env v) (fun _ σ' => Pm i σ σ' ∧ σ'.n = σ.n)) :
    Drv G (.Name x p) (.ref I) [I] [(a, o)] kvs.length Pm (fun i h => h.IsKeyIter I a i kvs.length ep ∧ h.DictAt (SK G) a kvs ep) :=
  Drv.walks (Walks.dictKeys (knd := SK G) O.hh I a hne kvs ep) (fun b hb => by simpa using hb) (fun i h st => ⟨_, st.1.choose_spec.1⟩) (P := fun i v => ∃ k x, kvs[i]? = some (k, x) ∧ Value.isStrOf k v = true) (fun _ _ _ _ _ _ _ _ _ _ _ _ q => wpAny_pure q) has
theorem drv_range (O : Ok G d) {x : Str} {p : Pos} {I : Addr} {a : Int} {n : Nat} (hx : G.env.kindOf x = some .local) :
    Drv G (.Name x p) (.ref I) [I] [] n (toN x (fun i v => IsI (a + (i : Int)) v)) (fun i h => IsRangeIter h I (a + (i : Int) * 1) ((n : Int) - (i : Nat)) 1) :=
  Drv.walks (Walks.range (prog := G.prog) (w := G.w) O.hh I a 1 n) (fun b hb => .inl (List.mem_singleton.mp hb)) (fun i h st => ⟨_, st⟩) (fun _ _ _ _ _ _ _ _ _ _ _ _ q => wpAny_pure q) fun i v σ pv fx => has_toN O hx i v σ (by simpa using pv) fx

def Obj.lst (o : Obj) (its : Array Value) : Prop := o.cls = .type "list" ∧ ∃ n, o.data = .seq its n
theorem lst_of {its : Array Value} {n : Nat} : Obj.lst (listOf its n) its := ⟨rfl, n, rfl⟩

/-- for x in a list -/
theorem src_list (O : Ok G d) {target iter : Expr} {its : Array Value} {Pm : Nat → Sg → Sg → Prop} {Pre : Sg → Led → Prop} (he : Tm G σ (eval iter G.env) (fun v σ₁ => ∃ l o, v = .ref l ∧ Pre σ₁ [(l, o)] ∧ Fx G σ₁ [(l, o)] ∧ Obj.lst o its))
    (hgo : ∀ (I l : Addr) i (s : Shared) v (Q : Unit → Shared → Prop) (E : Value → Shared → Prop), s.heap.IsListIter I l i → its[i - 1]? = some v → Q () s → wpAny (model G.prog G.w) G.A (letOwnedTupleGo target (.ref I) v) Q E s)
    (has : ∀ l o i v σ₁ σ, Pre σ₁ [(l, o)] → its[i]? = some v → Fx G σ [(l, o)] → Tm G σ (assign target G.env v) (fun _ σ' => Pm i σ σ' ∧ σ'.n = σ.n)) : Src G σ target iter its.size Pm Pre := fun own s Q E c k =>
  he own s _ E c fun v σ₁ h₁ t₁ ⟨l, o, e, pre, fx, ho⟩ c₁ => by
    subst e
    have gl := fx.get c₁ _ (.head _)
    have il : h₁.IsList l its := ⟨o, gl, ho.1, ho.2⟩
    refine wpAny_pyIter_list il ?_
    exact k (.ref h₁.objs.size) [h₁.objs.size] _ _ _ σ₁ _ pre (drv_list O (Nat.ne_of_lt (Heap.lt_size gl)) (hgo _ _) (fun i v σ => has l o i v σ₁ σ pre))
      ⟨⟨_, Heap.get?_push_size _ rfl, rfl, rfl⟩, il.push _⟩ (c₁.push _) (Off.fresh c₁ (get_size _))
/-- for x in a dict -/
theorem src_dict (O : Ok G d) {x : Str} {p : Pos} {iter : Expr} {a : Addr} {o : Obj} {kvs : List (Str × Value)} {Pm : Nat → Sg → Sg → Prop} (he : Tr G σ (eval iter G.env) (IsV (.ref a))) (hl : Fx G σ [(a, o)]) (ho : o.IsDictOf (SK G) kvs) (hlo : (a == sysModules) = false)
    (has : ∀ (i : Nat) v σ, (∃ k y, kvs[i]? = some (k, y) ∧ Value.isStrOf k v = true) → Fx G σ [(a, o)] → Tm G σ (assign (.Name x p) G.env v) (fun _ σ' => Pm i σ σ' ∧ σ'.n = σ.n)) : Src G σ (.Name x p) iter kvs.length Pm (fun σ₁ fix => σ₁ = σ ∧ fix = [(a, o)]) := fun own s Q E c k =>
  he own s _ E c fun v h₁ t₁ e c₁ => by
    subst e
    have gl := hl.get c₁ _ (.head _)
    obtain ⟨ep, hA⟩ := (Heap.dictOf_iff.mpr ⟨o, gl, ho⟩ : h₁.DictOf (SK G) a kvs).dictAt
    refine wpAny_pyIter_dict hlo (s := { s with heap := h₁, toks := t₁ }) hA ?_
    exact k (.ref h₁.objs.size) [h₁.objs.size] _ _ _ σ _ ⟨rfl, rfl⟩ (drv_dict O (ep := ep) (Nat.ne_of_lt (Heap.lt_size gl)) has)
      ⟨⟨_, Heap.get?_push_size _ rfl, rfl, rfl⟩, hA.push _⟩ (c₁.push _) (Off.fresh c₁ (get_size _))

/-- range(a, b), small -/
theorem range_small {a b : Int} (ha : -1000 ≤ a) (ha' : a ≤ 100000000) (hb : b ≤ 100000000) (hb' : -1000 ≤ b) : Builtin.Range.small a b 1 = true := by
  unfold Builtin.Range.small Builtin.Range.rangeFitsLong
  rw [rangeSize_one]
  simp only [Bool.and_eq_true, Bool.or_eq_true, decide_eq_true_eq, beq_iff_eq]
  simp only [show ((1 : Int) > 0) = True from by simp, if_true]
  split <;> refine ⟨⟨⟨⟨⟨?_, ?_⟩, ⟨?_, ?_⟩⟩, ⟨?_, ?_⟩⟩, ⟨?_, ?_⟩⟩, .inr ?_⟩ <;> first | omega | (simp only [Bool.and_eq_true, decide_eq_true_eq]; omega)
theorem range_iter0 {h : Heap} {a b : Int} : IsRangeIter (h.push { cls := .type "range_iterator", data := .fields #[rawInt a, rawInt (Builtin.Range.rangeSize a b 1), rawInt 1] }) h.objs.size (a + ((0 : Nat) : Int) * 1) (((b - a).toNat : Int) - (0 : Nat)) 1 := by
  have e : Builtin.Range.rangeSize a b 1 = ((b - a).toNat : Int) := by rw [rangeSize_one]; split <;> omega
  rw [e]
  simpa using Heap.get?_push_size h (o := { cls := .type "range_iterator", data := .fields #[rawInt a, rawInt ((b - a).toNat : Int), rawInt 1] }) rfl
theorem range_driven (O : Ok G d) {own : Led} {x : Str} {p : Pos} {a b : Int} {r : Addr} {t u v : Tok} {s : Shared} {Q : Value → Shared → Prop} {E : Value → Shared → Prop} (c : Cx G own σ s.heap) (hr : IsRange s.heap r a b 1 t u v) (ha : -1000 ≤ a) (ha' : a ≤ 100000000) (hb : b ≤ 100000000) (hb' : -1000 ≤ b) (hx : G.env.kindOf x = some .local)
    (k : ∀ it its St h₁ tk, Drv G (.Name x p) it its [] (b - a).toNat (toN x (fun i v => IsI (a + (i : Int)) v)) St → St 0 h₁ → Cx G own σ h₁ → Off G own σ its → Q it { s with heap := h₁, toks := tk }) :
    wpAny (model G.prog G.w) G.A (pyIter (.ref r)) Q E s :=
  wpAny_pyIter_range hr (range_small ha ha' hb hb') (k (.ref s.heap.objs.size) [s.heap.objs.size] _ _ s.toks (drv_range O hx) range_iter0 (c.push _) (Off.fresh c (get_size _)))
theorem range2_made (O : Ok G d) {np pos : Pos} {ea eb : Expr} {a b : Int} (hn : nsIn G.K mainGlobals "range" = some none) (hg : G.env.kindOf "range" = some .globalImplicit) (hea : Tr G σ (eval ea G.env) (IsI a)) (heb : Tr G σ (eval eb G.env) (IsI b))
    (he : starEach [ea, eb] G.env = [(false, eval ea G.env), (false, eval eb G.env)]) (he' : starEach [eb] G.env = [(false, eval eb G.env)]) :
    Tm G σ (eval (.Call (.Name "range" np) [ea, eb] [] pos) G.env) (fun v σ₁ => ∃ r t u w, v = .ref r ∧ σ₁ = { σ with n := (r, { cls := .type "range", data := .fields #[.int a t, .int b u, .int 1 w] }) :: σ.n }) := fun own s Q E c k =>
  wpAny_Call_NameR ((tr_blt O (v := .type "range") hn (by decide +kernel) (by decide) hg) own s _ E c fun v h₁ t₁ pv c₁ => by
    subst pv
    refine Pv.callWith_type1 (tr_arg2 hea heb he he' own _ _ E c₁ fun vs h₂ t₂ ⟨v, u, e, ⟨tv, pv⟩, ⟨tu, pu⟩⟩ c₂ => ?_) (by rw [he, he']) (by rw [he']; rfl)
    subst e; subst pv; subst pu
    exact call_range_2 (k _ _ _ _ ⟨_, _, _, _, rfl, rfl⟩ (c₂.pushN _)))
theorem range1_made (O : Ok G d) {np pos : Pos} {eb : Expr} {b : Int} (hn : nsIn G.K mainGlobals "range" = some none) (hg : G.env.kindOf "range" = some .globalImplicit) (heb : Tr G σ (eval eb G.env) (IsI b))
    (he' : starEach [eb] G.env = [(false, eval eb G.env)]) :
    Tm G σ (eval (.Call (.Name "range" np) [eb] [] pos) G.env) (fun v σ₁ => ∃ r t u w, v = .ref r ∧ σ₁ = { σ with n := (r, { cls := .type "range", data := .fields #[.int 0 t, .int b u, .int 1 w] }) :: σ.n }) := fun own s Q E c k =>
  wpAny_Call_NameR ((tr_blt O (v := .type "range") hn (by decide +kernel) (by decide) hg) own s _ E c fun v h₁ t₁ pv c₁ => by
    subst pv
    refine Pv.callWith_type1 (tr_arg1 heb he' own _ _ E c₁ fun vs h₂ t₂ ⟨v, e, ⟨tv, pv⟩⟩ c₂ => ?_) (by rw [he']; rfl) rfl
    subst e; subst pv
    exact call_range_1 (k _ _ _ _ ⟨_, _, _, _, rfl, rfl⟩ (c₂.pushN _)))
/-- for x in a range -/
theorem src_range (O : Ok G d) {x : Str} {p : Pos} {iter : Expr} {a b : Int} (he : Tm G σ (eval iter G.env) (fun v σ₁ => ∃ r t u w, v = .ref r ∧ σ₁ = { σ with n := (r, { cls := .type "range", data := .fields #[.int a t, .int b u, .int 1 w] }) :: σ.n }))
    (ha : -1000 ≤ a) (ha' : a ≤ 100000000) (hb : b ≤ 100000000) (hb' : -1000 ≤ b) (hx : G.env.kindOf x = some .local) :
    Src G σ (.Name x p) iter (b - a).toNat (toN x (fun i v => IsI (a + (i : Int)) v)) (fun σ₁ fix => σ₁ = σ ∧ fix = []) := fun own s Q E c k =>
  he own s _ E c fun v σ₁ h₁ t₁ ⟨r, t, u, w, e, e₁⟩ c₁ => by
    subst e; subst e₁
    exact range_driven O (s := { s with heap := h₁, toks := t₁ }) (Cx.drop (nw := [_]) c₁) (c₁.get (.head _)) ha ha' hb hb' hx fun it its St h₃ tk D st c₃ o => k it its St h₃ tk σ [] ⟨rfl, rfl⟩ D st c₃ o

/-- enumerate over a list -/
def toE (x y : Str) (its : Array Value) (i : Nat) (σ σ' : Sg) : Prop := ∃ t v, its[i]? = some v ∧ σ' = { σ with m := put (put σ.m x (.int i t)) y v }
theorem off2 {own : Led} {h : Heap} (c : Cx G own σ h) {a b : Addr} (ha : h.get? a = none) (hb : h.get? b = none) : Off G own σ [a, b] := by
  have f1 := Off.fresh c ha
  have f2 := Off.fresh c hb
  exact ⟨fun p hp e => by rcases List.mem_cons.mp e with e | e; exact f1.n p hp (by rw [e]; exact .head _); exact f2.n p hp e,
    fun x a ha e => by rcases List.mem_cons.mp e with e | e; exact f1.c x a ha (by rw [e]; exact .head _); exact f2.c x a ha e,
    fun e => by rcases List.mem_cons.mp e with e | e; exact f1.L (by rw [e]; exact .head _); exact f2.L e,
    fun b e => by rcases List.mem_cons.mp e with e | e; exact f1.h b (by rw [e]; exact .head _); exact f2.h b e⟩
theorem drv_enum (O : Ok G d) {x y : Str} {p q tp : Pos} {n : Nat} {e it l : Addr} {o : Obj} {its : Array Value} (hei : e ≠ it) (hle : l ≠ e) (hli : l ≠ it) (hx : G.env.kindOf x = some .local) (hy : G.env.kindOf y = some .local) :
    Drv G (.Tuple [.Name x p, .Name y q] n tp) (.ref e) [e, it] [(l, o)] its.size (toE x y its) (fun i h => (∃ old, IsEnum h e it (i : Int) old) ∧ h.IsListIter it l i ∧ h.IsList l its) := by
  have W := (WalksT.enumerate (prog := G.prog) (w := G.w) O.hh e it l hei hle hli its)
  refine ⟨fun i h h' st kk => W.frame i h h' st fun b hb o e => kk b (by simpa [or_assoc] using hb) o e, fun i h st b hb => ?_, fun i own σ s Q E hi st c of fx k => ?_, W.self, fun own σ s Q E st c of k => ?_⟩
  · rcases List.mem_cons.mp hb with rfl | hb
    · exact ⟨_, st.1.choose_spec⟩
    · obtain rfl := List.mem_singleton.mp hb
      exact ⟨_, st.2.1.choose_spec.1⟩
  · refine W.item i s _ E hi st fun T vals h' tk ⟨t, v, hv, ev⟩ hT iT mid kp' => ?_
    subst ev
    refine W.go _ _ _ i T { s with heap := h', toks := tk } _ E mid fun h'' st' kp'' => ?_
    have c' := (c.but of kp').but of kp''
    have iT' : h''.IsTuple T #[.int i t, v] := by
      obtain ⟨o, ho, r⟩ := iT
      exact ⟨o, kp'' _ _ (W.apart i T h' mid) ho, r⟩
    refine to_tuple2 (s := { s with heap := h'', toks := tk }) O (c'.take of) iT' hx hy (k := fun h₄ tk₄ c₄ => ?_)
    have c₅ := c₄.give
    have f' := fx.get c'
    have f₅ : ∀ p ∈ [(l, o)], h₄.get? p.1 = some p.2 := Fx.get (σ := { σ with m := put (put σ.m x (.int i t)) y v }) fx c₅
    refine k _ h₄ tk₄ ⟨t, v, hv, rfl⟩ rfl (W.frame _ _ _ st' fun b hb ob eb => ?_) c₅ ⟨of.n, of.c, of.L, of.h⟩
    have : b ∈ [e, it] ∨ b = l := by simpa [or_assoc] using hb
    rcases this with hb | rfl
    · exact (c₄.N (b, ob) (List.mem_append_left _ (List.mem_append_left _ (ownAt_mem hb eb)))).1
    · rw [f' _ (.head _)] at eb; cases eb; exact f₅ _ (.head _)
  · exact W.done s _ E st fun h' tk kp => k h' tk (c.but of kp)
theorem none_above {h : Heap} {b : Addr} (hb : h.objs.size ≤ b) : h.get? b = none := by
  cases e : h.get? b with
  | none => rfl
  | some o => exact absurd (Heap.lt_size e) (Nat.not_lt.mpr hb)
theorem enum_made (O : Ok G d) {np pos : Pos} {el : Expr} {l : Addr} {o : Obj} {its : Array Value} (hn : nsIn G.K mainGlobals "enumerate" = some none) (hg : G.env.kindOf "enumerate" = some .globalImplicit) (he : Tr G σ (eval el G.env) (IsV (.ref l))) (hl : Fx G σ [(l, o)]) (ho : Obj.lst o its)
    (hs : starEach [el] G.env = [(false, eval el G.env)]) {own : Led} {s : Shared} {Q : Value → Shared → Prop} {E : Value → Shared → Prop} (c : Cx G own σ s.heap)
    (k : ∀ h₂ h₃ tk, Cx G own σ h₂ → (∀ b o, h₂.get? b = some o → h₃.get? b = some o) → h₃.objs.size = h₂.objs.size + 2 → h₂.get? l = some o → l < h₂.objs.size → IsEnum h₃ (h₂.objs.size + 1) h₂.objs.size 0 .none → h₃.IsListIter h₂.objs.size l 0 → h₃.IsList l its → Q (.ref (h₂.objs.size + 1)) { s with heap := h₃, toks := tk }) :
    wpAny (model G.prog G.w) G.A (eval (.Call (.Name "enumerate" np) [el] [] pos) G.env) (fun xv s₁ => wpAny (model G.prog G.w) G.A (pyIter xv) Q E s₁) E s :=
  wpAny_Call_NameR ((tr_blt O (v := .type "enumerate") hn (by decide +kernel) (by decide) hg) own s _ E c fun v h₁ t₁ pv c₁ => by
    subst pv
    refine Pv.callWith_type1 (tr_arg1 he hs own _ _ E c₁ fun vs h₂ t₂ ⟨v, e, pv⟩ c₂ => ?_) (by rw [hs]; rfl) rfl
    subst e; subst pv
    have gl := hl.get c₂ _ (.head _)
    have il : h₂.IsList l its := ⟨o, gl, ho.1, ho.2⟩
    refine call_enumerate_list (s := { s with heap := h₂, toks := t₂ }) il fun h₃ en it hz kp => ?_
    exact wpAny_pyIter_enum en (k h₂ h₃ t₂ c₂ kp hz gl (Heap.lt_size gl) en it (il.at fun o e => kp _ _ e)))
theorem src_enum (O : Ok G d) {x y : Str} {p q tp np pos : Pos} {n : Nat} {el : Expr} {l : Addr} {o : Obj} {its : Array Value} (hn : nsIn G.K mainGlobals "enumerate" = some none) (hg : G.env.kindOf "enumerate" = some .globalImplicit) (he : Tr G σ (eval el G.env) (IsV (.ref l))) (hl : Fx G σ [(l, o)]) (ho : Obj.lst o its)
    (hx : G.env.kindOf x = some .local) (hy : G.env.kindOf y = some .local) (hs : starEach [el] G.env = [(false, eval el G.env)] := by rfl) :
    Src G σ (.Tuple [.Name x p, .Name y q] n tp) (.Call (.Name "enumerate" np) [el] [] pos) its.size (toE x y its) (fun σ₁ fix => σ₁ = σ ∧ fix = [(l, o)]) := fun own s Q E c k =>
  enum_made O hn hg he hl ho hs c fun h₂ h₃ tk c₂ kp hz gl ll en it il =>
    k _ [h₂.objs.size + 1, h₂.objs.size] _ h₃ tk σ _ ⟨rfl, rfl⟩ (drv_enum O (Nat.succ_ne_self _) (Nat.ne_of_lt (Nat.lt_succ_of_lt ll)) (Nat.ne_of_lt ll) hx hy) ⟨⟨_, by simpa using en⟩, it, il⟩ (c₂.keep kp) (off2 c₂ (none_above (Nat.le_succ _)) (none_above (Nat.le_refl _)))
end
end Mine
open PySem PySem.W PySem.Calls PyProof.Rows
set_option Elab.async false
set_option maxRecDepth 100000
set_option maxHeartbeats 4000000
set_option linter.unusedVariables false
namespace Mine

abbrev Tests (ifs : List Expr) (env : Env) : Sem Bool := forIn ifs true fun c r => if r = true then do let ok ← PySem.isTrue c env (eval c env); pure (ForInStep.yield ok) else pure (ForInStep.yield r)

theorem comp_loop {prog : Program} {w : World} {A : Around} {s : Shared} {R : Result → Shared → Prop} {elt target iter : Expr} {ifs : List Expr} {scope : Scope} {pos : Pos} {it acc : Value} {env : Env} (I : Nat → Shared → Prop)
    (turn : ∀ n s, I n s → wpAny (model prog w) A (pyNext it) (fun r s₁ => match r with
      | none => R (.ok .next) s₁
      | some v => wpAny (model prog w) A (letOwnedTupleGo target it v) (fun _ s₀ => wpAny (model prog w) A (assign target env v) (fun _ s₂ =>
          wpAny (model prog w) A (Tests ifs env) (fun ok s₃ =>
            if ok = true then wpAny (model prog w) A (eval elt env) (fun x s₄ =>
              wpAny (model prog w) A (call (.builtin "list.append") [acc, x]) (fun _ s₅ => ∃ m, m < n ∧ I m s₅) (notedBy (model prog w) A env fun e s' => R (.error e) s') s₄) (notedBy (model prog w) A env fun e s' => R (.error e) s') s₃
            else ∃ m, m < n ∧ I m s₃) (notedBy (model prog w) A env fun e s' => R (.error e) s') s₂) (notedBy (model prog w) A env fun e s' => R (.error e) s') s₀) (notedBy (model prog w) A env fun e s' => R (.error e) s') s₁) (notedBy (model prog w) A env fun e s' => R (.error e) s') s)
    (n : Nat) (h : I n s) :
    codeAny (model prog w) A (.compLoop (.ListComp elt [⟨target, iter, ifs, 0⟩] scope pos) 0 it acc env) R s := by
  refine codeAny_loop rfl I (fun k s₀ inv => ?_) n h
  show wpAny _ A ((compTurn (.ListComp elt [⟨target, iter, ifs, 0⟩] scope pos) 0 it acc env).onRaise (fun x => do noteFrame x env; theTreesLotGoes x)) _ _ s₀
  refine wpAny_noted ?_
  rw [compTurn_list]
  refine wpAny_bind (wpAny_standAt (wpAny_bind (wpAny_mono (turn k s₀ inv) (fun r s₁ hr => ?_) fun _ _ y => y)))
  cases r with
  | none => exact wpAny_pure hr
  | some v =>
    refine wpAny_bind (wpAny_mono hr (fun _ s₂ h₂ => ?_) fun _ _ y => y)
    refine wpAny_bind (wpAny_mono h₂ (fun _ s₃ h₃ => wpAny_bind (wpAny_mono h₃ (fun ok s₄ h₄ => ?_) fun _ _ y => y)) fun _ _ y => y)
    cases ok with
    | false => exact wpAny_pure ⟨rfl, h₄⟩
    | true => exact wpAny_bind (wpAny_bind (wpAny_mono h₄ (fun x s₅ h₅ => wpAny_bind (wpAny_mono h₅ (fun _ s₆ h₆ => wpAny_pure (wpAny_pure ⟨rfl, h₆⟩)) fun _ _ y => y)) fun _ _ y => y))

section
variable {G : Gx} {σ : Sg} {d : Nat}

theorem Cx.updOwn {own : Led} {h h' : Heap} {a : Addr} {o o' : Obj} (x : Cx G ((a, o) :: own) σ h) (hs : Heap.SameBut a h h') (ho : h'.get? a = some o') (hown : ∀ p ∈ own, p.1 ≠ a) : Cx G ((a, o') :: own) σ h' := by
  have ha := x.N (a, o) (.head _)
  have off : ∀ q ∈ σ.n, q.1 ≠ a := fun q hq e => x.offO (a, o) (.head _) q hq e.symm
  refine ⟨⟨x.F.ns.sameBut hs (Ne.symm ha.2.1), fun b ob e => (hs.2 b fun q => ?_).trans (x.F.keep b ob e), x.F.above⟩, fun p hp => ?_, fun y b hb => (x.C y b hb).sameBut hs fun e => ?_, fun p hp q hq => ?_, fun p hp y b hb => ?_⟩
  · rw [q, ha.2.2] at e; cases e
  · rcases List.mem_cons.mp hp with rfl | hp
    · exact ⟨ho, ha.2⟩
    · have := x.N p (.tail _ hp)
      refine ⟨(hs.2 _ ?_).trans this.1, this.2⟩
      rcases List.mem_append.mp hp with q | q
      · exact hown p q
      · exact off p q
  · exact x.offC (a, o) (.head _) y b hb e.symm
  · rcases List.mem_cons.mp hp with rfl | hp
    · exact x.offO (a, o) (.head _) q hq
    · exact x.offO p (.tail _ hp) q hq
  · rcases List.mem_cons.mp hp with rfl | hp
    · exact x.offC (a, o) (.head _) y b hb
    · exact x.offC p (.tail _ hp) y b hb

/-- a comprehension's own context -/
def CG (G : Gx) (h₁ : Heap) (env' : Env) : Gx := { G with h₀ := h₁, env := env' }

def CSrc (G : Gx) (σ : Sg) (target iter : Expr) (n : Nat) (Pm : Nat → Sg → Sg → Prop) (T : Env → Prop) : Prop :=
  ∀ own (s : Shared) (Q : Value → Shared → Prop) (E : Value → Shared → Prop), Cx G own σ s.heap →
    (∀ it its St h₁ h₂ tk fix, Cx G own σ h₁ → (∀ b o, h₁.get? b = some o → h₂.get? b = some o) → (∀ b ∈ its, h₁.get? b = none ∧ b < h₂.objs.size) → h₁.objs.size ≤ h₂.objs.size → (∀ p ∈ fix, h₁.get? p.1 = some p.2) →
      (∀ env' d, T env' → Ok (CG G h₁ env') d → Drv (CG G h₁ env') target it its fix n Pm St) → St 0 h₂ → Q it { s with heap := h₂, toks := tk }) →
    wpAny (model G.prog G.w) G.A (eval iter G.env) (fun xv s₁ => wpAny (model G.prog G.w) G.A (pyIter xv) Q E s₁) E s

theorem Ok.comp {own : Led} {h₁ : Heap} {scope : Scope} {cl : List (Str × Addr)} {C : Addr} (O : Ok G d) (c : Cx G own σ h₁) (hk : scope.kind = .function) (hcl : ∀ x a, cl.lookup x = some a → G.env.cells.lookup x = some a) (hC : h₁.get? C = none) : Ok (CG G h₁ (compEnvC scope cl C G.env)) d where
  X := O.X.keeps c.F.keep
  T := let ⟨p, lo, mg, mb, T⟩ := O.T; ⟨p, lo, mg, mb, T.keeps c.F.keep⟩
  B := by
    obtain ⟨base, outer, hb, B⟩ := O.B
    refine ⟨base, outer, hb, fun h m F => ?_⟩
    have b := B h₁ _ c.F
    exact ⟨b.stack, fun x o e => F.keep _ _ (b.stays x o e), b.frames.of_keeps fun x o e _ => ⟨o, F.keep _ _ e, rfl⟩⟩
  kind := hk
  glob := O.glob
  blt := O.blt
  hh := O.hh
  depth := O.depth
  units := O.units
  cpw := fun x y a hx hy => O.cpw x y a (hcl x a hx) (hcl y a hy)
  cL := fun x a hx e => by
    obtain ⟨o, ho, _⟩ := c.C x a (hcl x a hx)
    change a = C at e
    rw [e, hC] at ho; cases ho

/-- what a turn of a comprehension does to the list and to what its elements make -/
def CTurn (G : Gx) (elt : Expr) (ifs : List Expr) (σ : Sg) (Yes : Value → Led → Prop) (No : Led → Prop) : Prop :=
  Tm G σ (Tests ifs G.env) (fun ok σ' => if ok = true then Tm G σ' (eval elt G.env) (fun y σ'' => Yes y σ''.n) else No σ'.n)

theorem comp_core (O : Ok G d) {elt target iter : Expr} {ifs : List Expr} {scope : Scope} {cl : List (Str × Addr)} {pos pos' : Pos} {n : Nat} {Pm : Nat → Sg → Sg → Prop} {T : Env → Prop} {use : Option (Value → Sem Unit)} {own : Led} {s : Shared} {Q : Value → Shared → Prop} {E : Value → Shared → Prop} (c₀ : Cx G own σ s.heap)
    (hsrc : CSrc G σ target iter n Pm T) (hT : ∀ C, T (compEnvC scope cl C G.env)) (hclos : closureFor scope G.env = pure cl) (hcl : ∀ x a, cl.lookup x = some a → G.env.cells.lookup x = some a) (hcell : ∀ y ∈ scope.names, y.2 ≠ .cell) (hkind : scope.kind = .function)
    (hnames : ∀ x ∈ scope.names, x.2 = .local → scope.names.lookup x.1 = some .local) (hs : ∀ x, foldedSetIterable iter G.env x = pure x)
    (Inv : Nat → List Value → Led → Prop) (h0 : Inv 0 [] [])
    (turn : ∀ i ys m₁ σ₁ h₁ C, i < n → ys.length ≤ i → Inv i ys σ₁.n → (∀ x a, cl.lookup x = some a → σ₁.c x = σ.c x) → Cx G own σ h₁ → Ok (CG G h₁ (compEnvC scope cl C G.env)) d → Pm i m₁ σ₁ → CTurn (CG G h₁ (compEnvC scope cl C G.env)) elt ifs σ₁ (fun y l => Inv (i + 1) (ys ++ [y]) l) (fun l => Inv (i + 1) ys l))
    (hz : n ≤ 1000000)
    (k : ∀ D C ys n' led h₁ h₂ tk m, Inv n ys led → ys.length ≤ n → Cx G own σ h₁ → (∀ b o, h₁.get? b = some o → h₂.get? b = some o) → (∀ p ∈ (D, listOf ys.toArray n') :: led, h₂.get? p.1 = some p.2 ∧ h₁.get? p.1 = none ∧ p.1 ≠ C) → h₁.get? C = none → h₂.Ns C m → compPost (model G.prog G.w) G.A E use Q (.ref D) C (.ok .next) { s with heap := h₂, toks := tk }) :
    wpAny (model G.prog G.w) G.A (comprehension (.ListComp elt [⟨target, iter, ifs, 0⟩] scope pos) scope G.env pos' (newList []) false (eval iter G.env) use) Q E s := by
  refine wpAny_comprehension_free rfl hs hclos hkind hnames (hsrc own s _ E c₀ fun it its St h₁ h₂ tk fix c₁ kp hits hle hfix mk st => ?_)
  refine wpAny_newObj_type (wpAny_newFunctionEnv hcell (by intro y hy; simp at hy) (fun h₃ hns hsb => ?_) hkind)
  dsimp only at hns hsb ⊢
  generalize hH : h₂.push { cls := .type "list", dict := none, data := .seq ([] : List Value).toArray } = H at hns hsb ⊢
  have hC : H.objs.size = h₂.objs.size + 1 := by rw [← hH, Heap.size_push]
  have le₂ : h₁.objs.size ≤ H.objs.size := by rw [hC]; exact Nat.le_succ_of_le hle
  have nC : h₁.get? H.objs.size = none := none_above le₂
  have nD : h₁.get? h₂.objs.size = none := none_above hle
  have DC : h₂.objs.size ≠ H.objs.size := by rw [hC]; exact Nat.ne_of_lt (Nat.lt_succ_self _)
  have up : ∀ b o, h₂.get? b = some o → h₃.get? b = some o := fun b o e => hsb.extBut b o (fun q => absurd (Heap.lt_size e) (by rw [q, hC]; exact Nat.not_lt.mpr (Nat.le_succ _))) (Heap.get?_push_of_some _ (hH ▸ Heap.get?_push_of_some _ e))
  have gD : h₃.get? h₂.objs.size = some (listOf #[] 0) := hsb.extBut _ _ DC (Heap.get?_push_of_some _ (hH ▸ Heap.get?_push_size _ rfl))
  have O' : Ok (CG G h₁ (compEnvC scope cl H.objs.size G.env)) d := O.comp c₁ hkind hcl nC
  have D' := mk _ d (hT H.objs.size) O'
  have F₃ : Fr h₁ H.objs.size h₃ (fun x => List.lookup x ([] : List (Str × Value)).reverse) := ⟨hns, fun b o e => up _ _ (kp _ _ e), le₂⟩
  have c₃ : Cx (CG G h₁ (compEnvC scope cl H.objs.size G.env)) [(h₂.objs.size, listOf #[] 0)] ⟨fun x => List.lookup x ([] : List (Str × Value)).reverse, σ.c, []⟩ h₃ := by
    refine ⟨F₃, fun p hp => ?_, fun x a ha => ?_, (fun _ _ _ h => nomatch h), fun p hp x a ha => ?_⟩
    · obtain rfl := List.mem_singleton.mp hp
      exact ⟨gD, DC, nD⟩
    · exact ((c₁.C x a (hcl x a ha)).keeps kp).keeps up
    · obtain rfl := List.mem_singleton.mp hp
      intro e
      obtain ⟨o, ho, _⟩ := c₁.C x a (hcl x a ha)
      change h₂.objs.size = a at e
      rw [← e, nD] at ho; cases ho
  have of₃ : Off (CG G h₁ (compEnvC scope cl H.objs.size G.env)) [(h₂.objs.size, listOf #[] 0)] ⟨fun x => List.lookup x ([] : List (Str × Value)).reverse, σ.c, []⟩ its := by
    refine ⟨fun p hp hb => ?_, fun x a ha hb => ?_, fun hb => ?_, fun b hb => (hits b hb).1⟩
    · obtain rfl := List.mem_singleton.mp hp
      exact Nat.lt_irrefl _ (hits _ hb).2
    · obtain ⟨o, ho, _⟩ := c₁.C x a (hcl x a ha)
      rw [(hits _ hb).1] at ho; cases ho
    · have := (hits _ hb).2
      change H.objs.size < h₂.objs.size at this
      omega
  have st₃ : St 0 h₃ := D'.frame _ _ _ st fun b _ o e => up _ _ e
  have fx : Fx (CG G h₁ (compEnvC scope cl H.objs.size G.env)) ⟨fun x => List.lookup x ([] : List (Str × Value)).reverse, σ.c, []⟩ fix := fun p hp => .inr (hfix p hp)
  have loop : ∀ s₃ : Shared, s₃ = { s with heap := h₃, toks := tk + ([] : List (Str × Value)).length } → codeAny (model G.prog G.w) G.A (.compLoop (.ListComp elt [⟨target, iter, ifs, 0⟩] scope pos) 0 it (.ref h₂.objs.size) (compEnvC scope cl H.objs.size G.env)) (compPost (model G.prog G.w) G.A E use Q (.ref h₂.objs.size) H.objs.size) s₃ := by
    rintro s₃ rfl
    refine comp_loop (fun m s' => ∃ h' tk' σ' ys n' i, s' = { s with heap := h', toks := tk' } ∧ St i h' ∧ Cx (CG G h₁ (compEnvC scope cl H.objs.size G.env)) [(h₂.objs.size, listOf (List.toArray ys) n')] σ' h' ∧ Off (CG G h₁ (compEnvC scope cl H.objs.size G.env)) [(h₂.objs.size, listOf (List.toArray ys) n')] σ' its ∧
      Inv i ys σ'.n ∧ ys.length ≤ i ∧ i ≤ n ∧ m = n + 1 - i) ?_ (n + 1)
      ⟨h₃, _, _, [], 0, 0, rfl, st₃, c₃, of₃, h0, Nat.le_refl _, Nat.zero_le _, rfl⟩
    rintro m s' ⟨h', tk', σ', ys, n', i, rfl, st', c', of', inv, hl, hi, rfl⟩
    have fx' : Fx (CG G h₁ (compEnvC scope cl H.objs.size G.env)) σ' fix := fun p hp => .inr (hfix p hp)
    by_cases hlt : i < n
    · refine wpAny_mono (D'.step i _ σ' { s with heap := h', toks := tk' } (fun _ s₃ => wpAny (model G.prog G.w) G.A (Tests ifs (compEnvC scope cl H.objs.size G.env)) (fun ok s₃ =>
            if ok = true then wpAny (model G.prog G.w) G.A (eval elt (compEnvC scope cl H.objs.size G.env)) (fun x s₄ =>
              wpAny (model G.prog G.w) G.A (call (.builtin "list.append") [.ref h₂.objs.size, x]) (fun _ s₅ => ∃ m, m < n + 1 - i ∧ ∃ h' tk' σ' ys n' i, s₅ = { s with heap := h', toks := tk' } ∧ St i h' ∧ Cx (CG G h₁ (compEnvC scope cl H.objs.size G.env)) [(h₂.objs.size, listOf (List.toArray ys) n')] σ' h' ∧ Off (CG G h₁ (compEnvC scope cl H.objs.size G.env)) [(h₂.objs.size, listOf (List.toArray ys) n')] σ' its ∧
      Inv i ys σ'.n ∧ ys.length ≤ i ∧ i ≤ n ∧ m = n + 1 - i) (notedBy (model G.prog G.w) G.A (compEnvC scope cl H.objs.size G.env) fun e s' => compPost (model G.prog G.w) G.A E use Q (.ref h₂.objs.size) H.objs.size (.error e) s') s₄) (notedBy (model G.prog G.w) G.A (compEnvC scope cl H.objs.size G.env) fun e s' => compPost (model G.prog G.w) G.A E use Q (.ref h₂.objs.size) H.objs.size (.error e) s') s₃
            else ∃ m, m < n + 1 - i ∧ ∃ h' tk' σ' ys n' i, s₃ = { s with heap := h', toks := tk' } ∧ St i h' ∧ Cx (CG G h₁ (compEnvC scope cl H.objs.size G.env)) [(h₂.objs.size, listOf (List.toArray ys) n')] σ' h' ∧ Off (CG G h₁ (compEnvC scope cl H.objs.size G.env)) [(h₂.objs.size, listOf (List.toArray ys) n')] σ' its ∧
      Inv i ys σ'.n ∧ ys.length ≤ i ∧ i ≤ n ∧ m = n + 1 - i) (notedBy (model G.prog G.w) G.A (compEnvC scope cl H.objs.size G.env) fun e s' => compPost (model G.prog G.w) G.A E use Q (.ref h₂.objs.size) H.objs.size (.error e) s') s₃) _ hlt st' c' of' fx' fun σ₂ hb tkb pm en stb cb ofb => ?_) (fun r s₁ hr => ?_) fun _ _ e => e
      · have hc : ∀ x a, cl.lookup x = some a → σ₂.c x = σ.c x := fun x a ha => by
          obtain ⟨o, ho, e⟩ := cb.C x a ha
          obtain ⟨o', ho', e'⟩ := (c₁.C x a (hcl x a ha)).keeps cb.F.keep
          rw [ho] at ho'; cases ho'
          rw [e] at e'; exact Data.cell.inj e'
        have frame' : ∀ {σ₄ : Sg} {own' : Led} {h₄ : Heap}, Cx (CG G h₁ (compEnvC scope cl H.objs.size G.env)) (ownAt hb its ++ own') σ₄ h₄ → St (i + 1) h₄ := fun {σ₄ own' h₄} c₄ => D'.frame _ _ _ stb fun b hb' o e => by
          rcases hb' with hb' | hb'
          · exact (c₄.N (b, o) (List.mem_append_left _ (List.mem_append_left _ (ownAt_mem hb' e)))).1
          · obtain ⟨p, hp, rfl⟩ := List.mem_map.mp hb'
            have e₁ := cb.F.keep _ _ (hfix p hp)
            rw [e₁] at e; cases e
            exact c₄.F.keep _ _ (hfix p hp)
        have off' : ∀ {σ₄ : Sg} {h₄ : Heap}, Cx (CG G h₁ (compEnvC scope cl H.objs.size G.env)) (ownAt hb its ++ [(h₂.objs.size, listOf (List.toArray ys) n')]) σ₄ h₄ → Off (CG G h₁ (compEnvC scope cl H.objs.size G.env)) [(h₂.objs.size, listOf (List.toArray ys) n')] σ₄ its := fun {σ₄ h₄} c₄ =>
          Off.of_take c₄ (fun b hb' => by obtain ⟨o, e⟩ := D'.live _ _ stb b hb'; exact ⟨o, ownAt_mem hb' e⟩) fun p hp => ofb.n p (List.mem_append_left _ hp)
        refine turn i ys σ' σ₂ h₁ H.objs.size hlt hl (by rw [en]; exact inv) hc c₁ O' pm (ownAt hb its ++ [(h₂.objs.size, listOf (List.toArray ys) n')]) _ _ _ (cb.take ofb) fun ok σ₄ h₄ tk₄ p₄ c₄ => ?_
        cases ok with
        | false => exact ⟨n + 1 - (i + 1), by omega, h₄, tk₄, σ₄, ys, n', i + 1, rfl, frame' c₄, c₄.give, off' c₄, p₄, Nat.le_succ_of_le hl, hlt, rfl⟩
        | true =>
          refine p₄ (ownAt hb its ++ [(h₂.objs.size, listOf (List.toArray ys) n')]) _ _ _ c₄ fun y σ₅ h₅ tk₅ p₅ c₅ => ?_
          have gD₅ : h₅.get? h₂.objs.size = some (listOf (List.toArray ys) n') := (c₅.give.N (h₂.objs.size, listOf (List.toArray ys) n') (.head _)).1
          refine wpAny_list_append_plain (s := { s with heap := h₅, toks := tk₅ }) ⟨n', gD₅⟩ (fun h₆ ⟨n₆, e₆⟩ hs₆ => ?_) (by rw [List.size_toArray, sizeLine_eq]; omega)
          have e₆' : h₆.get? h₂.objs.size = some (listOf (List.toArray (ys ++ [y])) n₆) := by rw [e₆]; simp
          have o₅ := off' c₅
          have Dn : h₂.objs.size ∉ its := o₅.n (h₂.objs.size, listOf (List.toArray ys) n') (.head _)
          refine ⟨n + 1 - (i + 1), by omega, h₆, tk₅, σ₅, ys ++ [y], n₆, i + 1, rfl, D'.frame _ _ _ (frame' c₅) fun b hb' o e => ?_, c₅.give.updOwn hs₆ e₆' (fun _ h => nomatch h), ⟨fun p hp hb' => ?_, o₅.c, o₅.L, o₅.h⟩, p₅, by simp; omega, hlt, rfl⟩
          · refine (hs₆.2 b fun q => ?_).trans e
            rcases hb' with hb' | hb'
            · exact Dn (q ▸ hb')
            · obtain ⟨p, hp, e'⟩ := List.mem_map.mp hb'
              have := hfix p hp
              rw [e', q, nD] at this; cases this
          · rcases List.mem_cons.mp hp with rfl | hp
            · exact Dn hb'
            · exact o₅.n p (.tail _ hp) hb'
      · cases r with
        | none => exact hr.elim
        | some v => exact hr
    · have hin : i = n := by omega
      subst hin
      refine wpAny_mono (D'.done _ σ' { s with heap := h', toks := tk' } (fun s₁ => compPost (model G.prog G.w) G.A E use Q (.ref h₂.objs.size) H.objs.size (.ok .next) s₁) _ st' c' of' fun h'' tk'' c'' => ?_) (fun r s₁ hr => ?_) fun _ _ e => e
      · refine k h₂.objs.size H.objs.size ys n' σ'.n h₁ h'' tk'' σ'.m inv hl c₁ c''.F.keep (fun p hp => ?_) nC c''.F.ns
        have := c''.N p (by simpa using hp)
        exact ⟨this.1, this.2.2, this.2.1⟩
      · cases r with
        | none => exact hr
        | some v => exact hr.elim
  exact codeAny_compStart_list (loop _ rfl) (D'.self 0 { s with heap := h₃, toks := tk + ([] : List (Str × Value)).length } _ _ st₃ (loop _ rfl))

theorem Cx.compEnd {own : Led} {h₁ h₂ h₃ : Heap} {C : Addr} {nw : Led} (c : Cx G own σ h₁) (kp : ∀ b o, h₁.get? b = some o → h₂.get? b = some o) (hC : h₁.get? C = none) (hs : Heap.SameBut C h₂ h₃) (hn : ∀ p ∈ nw, h₂.get? p.1 = some p.2 ∧ h₁.get? p.1 = none ∧ p.1 ≠ C) : Cx G own { σ with n := nw ++ σ.n } h₃ :=
  c.fresh (fun b o e => (hs.2 b fun q => by rw [q, hC] at e; cases e).trans (kp _ _ e)) fun p hp => ⟨(hs.2 _ (hn p hp).2.2).trans (hn p hp).1, (hn p hp).2.1⟩

/-- [elt for target in iter if ..] -/
theorem tm_comp (O : Ok G d) {elt target iter : Expr} {ifs : List Expr} {scope : Scope} {cl : List (Str × Addr)} {pos : Pos} {n : Nat} {Pm : Nat → Sg → Sg → Prop} {T : Env → Prop}
    (hsrc : CSrc G σ target iter n Pm T) (hT : ∀ C, T (compEnvC scope cl C G.env)) (hclos : closureFor scope G.env = pure cl) (hcl : ∀ x a, cl.lookup x = some a → G.env.cells.lookup x = some a) (hcell : ∀ y ∈ scope.names, y.2 ≠ .cell) (hkind : scope.kind = .function)
    (hnames : ∀ x ∈ scope.names, x.2 = .local → scope.names.lookup x.1 = some .local) (hs : ∀ x, foldedSetIterable iter G.env x = pure x)
    (Inv : Nat → List Value → Led → Prop) (h0 : Inv 0 [] [])
    (turn : ∀ i ys m₁ σ₁ own h₁ C, i < n → ys.length ≤ i → Inv i ys σ₁.n → (∀ x a, cl.lookup x = some a → σ₁.c x = σ.c x) → Cx G own σ h₁ → Ok (CG G h₁ (compEnvC scope cl C G.env)) d → Pm i m₁ σ₁ → CTurn (CG G h₁ (compEnvC scope cl C G.env)) elt ifs σ₁ (fun y l => Inv (i + 1) (ys ++ [y]) l) (fun l => Inv (i + 1) ys l))
    (hz : n ≤ 1000000) :
    Tm G σ (eval (.ListComp elt [⟨target, iter, ifs, 0⟩] scope pos) G.env) (fun v σ' => ∃ D ys n' led, v = .ref D ∧ Inv n ys led ∧ ys.length ≤ n ∧ σ' = { σ with n := (D, listOf ys.toArray n') :: (led ++ σ.n) } ∧ ∀ p ∈ (D, listOf ys.toArray n') :: led, ∀ q ∈ σ.n, p.1 ≠ q.1) := fun own s Q E c k => by
  rw [eval_ListComp]
  refine comp_core O (use := none) c hsrc hT hclos hcl hcell hkind hnames hs Inv h0 (fun i ys m₁ σ₁ h₁ C a b e f g o p => turn i ys m₁ σ₁ own h₁ C a b e f g o p) hz fun D C ys n' led h₁ h₂ tk m inv hl c₁ kp hn hC ns => ⟨m, ns, fun h₃ hs₃ => ?_⟩
  exact k (.ref D) _ h₃ tk ⟨D, ys, n', led, rfl, inv, hl, rfl, fun p hp q hq e => by have := (hn p hp).2.1; rw [e, c₁.get hq] at this; cases this⟩ (c₁.compEnd (nw := (D, listOf ys.toArray n') :: led) kp hC hs₃ hn)

/-- y = [elt for target in iter if ..] -/
theorem tm_assignComp (O : Ok G d) {y : Str} {py spos : Pos} {elt target iter : Expr} {ifs : List Expr} {scope : Scope} {cl : List (Str × Addr)} {pos : Pos} {n : Nat} {Pm : Nat → Sg → Sg → Prop} {T : Env → Prop}
    (hsrc : CSrc G σ target iter n Pm T) (hT : ∀ C, T (compEnvC scope cl C G.env)) (hclos : closureFor scope G.env = pure cl) (hcl : ∀ x a, cl.lookup x = some a → G.env.cells.lookup x = some a) (hcell : ∀ y ∈ scope.names, y.2 ≠ .cell) (hkind : scope.kind = .function)
    (hnames : ∀ x ∈ scope.names, x.2 = .local → scope.names.lookup x.1 = some .local) (hs : ∀ x, foldedSetIterable iter G.env x = pure x)
    (Inv : Nat → List Value → Led → Prop) (h0 : Inv 0 [] [])
    (turn : ∀ i ys m₁ σ₁ own h₁ C, i < n → ys.length ≤ i → Inv i ys σ₁.n → (∀ x a, cl.lookup x = some a → σ₁.c x = σ.c x) → Cx G own σ h₁ → Ok (CG G h₁ (compEnvC scope cl C G.env)) d → Pm i m₁ σ₁ → CTurn (CG G h₁ (compEnvC scope cl C G.env)) elt ifs σ₁ (fun y l => Inv (i + 1) (ys ++ [y]) l) (fun l => Inv (i + 1) ys l))
    (hz : n ≤ 1000000) (hy : G.env.kindOf y = some .local) (hsw : swapsWith (.ListComp elt [⟨target, iter, ifs, 0⟩] scope pos) (some (.Name y py)) spos.line G.env = pure true) :
    Tm G σ (exec (.Assign [.Name y py] (.ListComp elt [⟨target, iter, ifs, 0⟩] scope pos) spos) G.env) (fun f σ' => f = .next ∧ ∃ D ys n' led, Inv n ys led ∧ ys.length ≤ n ∧ σ' = { σ with m := put σ.m y (.ref D), n := (D, listOf ys.toArray n') :: (led ++ σ.n) } ∧ ∀ p ∈ (D, listOf ys.toArray n') :: led, ∀ q ∈ σ.n, p.1 ≠ q.1) := fun own s Q E c k => by
  rw [exec_Assign_Name_used _ _ _ _ hsw]
  refine wpAny_bind (wpAny_standAt (wpAny_bind ?_))
  show wpAny _ _ (do let _ ← comprehension (.ListComp elt [⟨target, iter, ifs, 0⟩] scope pos) scope G.env _ (newList []) false (eval iter G.env) (some (assign (.Name y py) G.env))) _ _ s
  refine wpAny_bind (comp_core O (use := some (assign (.Name y py) G.env)) c hsrc hT hclos hcl hcell hkind hnames hs Inv h0 (fun i ys m₁ σ₁ h₁ C a b e f g o p => turn i ys m₁ σ₁ own h₁ C a b e f g o p) hz fun D C ys n' led h₁ h₂ tk m inv hl c₁ kp hn hC ns => ?_)
  have c₂ : Cx G own { σ with n := ((D, listOf ys.toArray n') :: led) ++ σ.n } h₂ := c₁.fresh kp fun p hp => ⟨(hn p hp).1, (hn p hp).2.1⟩
  obtain ⟨oC, eC, pC, gC, r⟩ := ns
  have c₃ : Cx G ((C, oC) :: own) { σ with n := ((D, listOf ys.toArray n') :: led) ++ σ.n } h₂ := by
    have f := Off.fresh (c := c₁) hC
    have off : ∀ p ∈ ((D, listOf ys.toArray n') :: led) ++ σ.n, p.1 ≠ C := fun p hp e => by
      rcases List.mem_append.mp hp with q | q
      · exact (hn p q).2.2 e
      · exact f.n p (List.mem_append_right _ q) (by simp [e])
    refine ⟨c₂.F, fun p hp => ?_, c₂.C, fun p hp q hq e => ?_, fun p hp x a ha e => ?_⟩
    · rcases List.mem_cons.mp hp with rfl | hp
      · exact ⟨gC, fun e => f.L (by simp [← e]), f.h C (by simp)⟩
      · exact c₂.N p hp
    · rcases List.mem_cons.mp hp with rfl | hp
      · exact off q hq e.symm
      · exact c₂.offO p hp q hq e
    · rcases List.mem_cons.mp hp with rfl | hp
      · exact f.c x a ha (by simp [← e])
      · exact c₂.offC p hp x a ha e
  refine tm_toName O hy ((C, oC) :: own) { s with heap := h₂, toks := tk } _ E c₃ fun u σ₄ h₄ tk₄ e₄ c₄ => ?_
  obtain ⟨e₄, _⟩ := e₄
  subst e₄
  have gC₄ := (c₄.N (C, oC) (.head _)).1
  refine ⟨m, ⟨oC, eC, pC, gC₄, r⟩, fun h₅ hs₅ => wpAny_pure (wpAny_pure (k .next _ h₅ tk₄ ⟨rfl, D, ys, n', led, inv, hl, rfl, fun p hp q hq e => by have := (hn p hp).2.1; rw [e, c₁.get hq] at this; cases this⟩ ?_))⟩
  have f := c₄.N (C, oC) (.head _)
  refine ⟨⟨c₄.F.ns.sameBut hs₅ (Ne.symm f.2.1), fun b o e => (hs₅.2 b fun q => ?_).trans (c₄.F.keep b o e), c₄.F.above⟩, fun p hp => ?_, fun x a ha => (c₄.C x a ha).sameBut hs₅ fun e => ?_, fun p hp => c₄.offO p (.tail _ hp), fun p hp => c₄.offC p (.tail _ hp)⟩
  · rw [q, f.2.2] at e; cases e
  · have := c₄.N p (.tail _ hp)
    refine ⟨(hs₅.2 _ fun q => ?_).trans this.1, this.2⟩
    rcases List.mem_append.mp hp with r | r
    · have fr := Off.fresh (c := c₁) hC
      exact fr.n p (List.mem_append_left _ r) (by simp [q])
    · exact c₄.offO (C, oC) (.head _) p r q.symm
  · exact c₄.offC (C, oC) (.head _) x a ha e.symm

/-- tests -/
theorem ct_none {elt : Expr} {Yes : Value → Led → Prop} {No : Led → Prop} (h : Tm G σ (eval elt G.env) (fun y σ'' => Yes y σ''.n)) : CTurn G elt [] σ Yes No := fun own s Q E c k =>
  wpAny_tests_nil (k true σ s.heap s.toks h c)
theorem ct_one {elt t : Expr} {b : Bool} {Yes : Value → Led → Prop} {No : Led → Prop} (ht : Tr G σ (PySem.isTrue t G.env (eval t G.env)) (fun x => x = b)) (hy : b = true → Tm G σ (eval elt G.env) (fun y σ'' => Yes y σ''.n)) (hn : b = false → No σ.n) : CTurn G elt [t] σ Yes No := fun own s Q E c k =>
  wpAny_tests_one (ht own s _ E c fun ok h₁ t₁ e c₁ => by
    subst e
    refine k ok σ h₁ t₁ ?_ c₁
    cases ok with
    | true => exact hy rfl
    | false => exact hn rfl)

/-- sources of comprehensions -/
theorem csrc_range (O : Ok G d) {x : Str} {p : Pos} {iter : Expr} {a b : Int} (he : Tm G σ (eval iter G.env) (fun v σ₁ => ∃ r t u w, v = .ref r ∧ σ₁ = { σ with n := (r, { cls := .type "range", data := .fields #[.int a t, .int b u, .int 1 w] }) :: σ.n }))
    (ha : -1000 ≤ a) (ha' : a ≤ 100000000) (hb : b ≤ 100000000) (hb' : -1000 ≤ b) :
    CSrc G σ (.Name x p) iter (b - a).toNat (toN x (fun i v => IsI (a + (i : Int)) v)) (fun env => env.kindOf x = some .local) := fun own s Q E c k =>
  he own s _ E c fun v σ₁ h₁ t₁ ⟨r, t, u, w, e, e₁⟩ c₁ => by
    subst e; subst e₁
    refine wpAny_pyIter_range (s := { s with heap := h₁, toks := t₁ }) (c₁.get (.head _)) (range_small ha ha' hb hb') ?_
    exact k (.ref h₁.objs.size) [h₁.objs.size] _ h₁ _ t₁ [] (Cx.drop (nw := [_]) c₁) (fun b o e => Heap.get?_push_of_some _ e) (fun b hb => by obtain rfl := List.mem_singleton.mp hb; exact ⟨get_size _, by rw [Heap.size_push]; exact Nat.lt_succ_self _⟩) (by rw [Heap.size_push]; exact Nat.le_succ _) (fun _ h => nomatch h)
      (fun env' d' hx O' => drv_range O' hx) range_iter0
theorem csrc_list (O : Ok G d) {target iter : Expr} {its : Array Value} {Pm : Nat → Sg → Sg → Prop} {T : Env → Prop} (he : Tm G σ (eval iter G.env) (fun v σ₁ => (∃ nw, σ₁ = { σ with n := nw ++ σ.n }) ∧ ∃ l o, v = .ref l ∧ Fx G σ₁ [(l, o)] ∧ Obj.lst o its))
    (hgo : ∀ (I l : Addr) i (s : Shared) v (Q : Unit → Shared → Prop) (E : Value → Shared → Prop), s.heap.IsListIter I l i → its[i - 1]? = some v → Q () s → wpAny (model G.prog G.w) G.A (letOwnedTupleGo target (.ref I) v) Q E s)
    (has : ∀ own h₁ env' d l o i v σ₁ nw, Cx G own { σ with n := nw ++ σ.n } h₁ → T env' → Ok (CG G h₁ env') d → its[i]? = some v → Fx (CG G h₁ env') σ₁ [(l, o)] → Tm (CG G h₁ env') σ₁ (assign target env' v) (fun _ σ' => Pm i σ₁ σ' ∧ σ'.n = σ₁.n)) : CSrc G σ target iter its.size Pm T := fun own s Q E c k =>
  he own s _ E c fun v σ₁ h₁ t₁ ⟨⟨nw, e₁⟩, l, o, e, fx, ho⟩ c₁ => by
    subst e; subst e₁
    have gl := fx.get c₁ _ (.head _)
    have il : h₁.IsList l its := ⟨o, gl, ho.1, ho.2⟩
    refine wpAny_pyIter_list (s := { s with heap := h₁, toks := t₁ }) il ?_
    exact k (.ref h₁.objs.size) [h₁.objs.size] _ h₁ _ t₁ [(l, o)] (Cx.drop c₁) (fun b o e => Heap.get?_push_of_some _ e) (fun b hb => by obtain rfl := List.mem_singleton.mp hb; exact ⟨get_size _, by rw [Heap.size_push]; exact Nat.lt_succ_self _⟩) (by rw [Heap.size_push]; exact Nat.le_succ _) (fun p hp => by obtain rfl := List.mem_singleton.mp hp; exact gl)
      (fun env' d' hx O' => drv_list O' (Nat.ne_of_lt (Heap.lt_size gl)) (hgo _ _) (fun i v σ hv hf => has own h₁ env' d' l o i v σ nw c₁ hx O' hv hf)) ⟨⟨_, Heap.get?_push_size _ rfl, rfl, rfl⟩, il.push _⟩
theorem csrc_enum (O : Ok G d) {x y : Str} {p q tp np pos : Pos} {n : Nat} {el : Expr} {l : Addr} {o : Obj} {its : Array Value} (hn : nsIn G.K mainGlobals "enumerate" = some none) (hg : G.env.kindOf "enumerate" = some .globalImplicit) (he : Tr G σ (eval el G.env) (IsV (.ref l))) (hl : Fx G σ [(l, o)]) (ho : Obj.lst o its)
    (hs : starEach [el] G.env = [(false, eval el G.env)] := by rfl) :
    CSrc G σ (.Tuple [.Name x p, .Name y q] n tp) (.Call (.Name "enumerate" np) [el] [] pos) its.size (toE x y its) (fun env => env.kindOf x = some .local ∧ env.kindOf y = some .local) := fun own s Q E c k =>
  enum_made O hn hg he hl ho hs c fun h₂ h₃ tk c₂ kp hz gl ll en it il =>
    k _ [h₂.objs.size + 1, h₂.objs.size] _ h₂ h₃ tk [(l, o)] c₂ kp (fun b hb => by rcases List.mem_cons.mp hb with rfl | hb; exact ⟨none_above (Nat.le_succ _), by rw [hz]; exact Nat.lt_succ_self _⟩; obtain rfl := List.mem_singleton.mp hb; exact ⟨none_above (Nat.le_refl _), by rw [hz]; exact Nat.lt_succ_of_lt (Nat.lt_succ_self _)⟩) (by rw [hz]; exact Nat.le_add_right _ 2) (fun p hp => by obtain rfl := List.mem_singleton.mp hp; exact gl)
      (fun env' d' hx O' => drv_enum O' (Nat.succ_ne_self _) (Nat.ne_of_lt (Nat.lt_succ_of_lt ll)) (Nat.ne_of_lt ll) hx.1 hx.2) ⟨⟨_, by simpa using en⟩, it, il⟩
end
end Mine
open PySem PySem.W PySem.Calls PyProof.Rows
set_option Elab.async false
set_option maxRecDepth 100000
set_option maxHeartbeats 4000000
set_option linter.unusedVariables false
namespace Mine
section
variable {G : Gx} {σ : Sg} {d : Nat}

theorem Tm.tr {α : Type} {t : Sem α} {P : α → Prop} (h : Tm G σ t (fun v σ' => ∃ nw, σ' = { σ with n := nw ++ σ.n } ∧ P v)) : Tr G σ t P := fun own s Q E c k =>
  h own s Q E c fun v σ' h' tk' ⟨nw, e, p⟩ c' => by subst e; exact k v h' tk' p c'.drop

theorem tm_list {elts : List Expr} {pos : Pos} {P : List Value → Sg → Prop} {R : Value → Sg → Prop} (ha : Tm G σ (spliced (backTo pos (starEach elts G.env))) P) (hr : ∀ vs σ' l, P vs σ' → (∀ p ∈ σ'.n, p.1 ≠ l) → R (.ref l) { σ' with n := (l, listOf vs.toArray 0) :: σ'.n }) (hl : elts.length ≤ 100) (hp : ∀ vs σ', P vs σ' → vs.length ≤ 100) :
    Tm G σ (eval (.List elts pos) G.env) R := fun own s Q E c k =>
  List_ (ha own s _ E c fun vs σ₁ h₁ t₁ p c₁ => wpAny_newObj_type (k _ _ _ _ (hr vs σ₁ h₁.objs.size p fun q hq e => by have := c₁.get hq; rw [e, get_size] at this; cases this) (c₁.pushN _)) (by show vs.toArray.size ≤ sizeLine; rw [List.size_toArray, sizeLine_eq]; have := hp vs σ₁ p; omega))
theorem tm_tuple {elts : List Expr} {m : Nat} {pos : Pos} {P : List Value → Sg → Prop} {R : Value → Sg → Prop} (ha : Tm G σ (spliced (backTo pos (starEach elts G.env))) P) (hr : ∀ vs σ' l, P vs σ' → (∀ p ∈ σ'.n, p.1 ≠ l) → R (.ref l) { σ' with n := (l, { cls := .type "tuple", data := .seq vs.toArray }) :: σ'.n }) (hp : ∀ vs σ', P vs σ' → vs.length ≤ 100) :
    Tm G σ (eval (.Tuple elts m pos) G.env) R := fun own s Q E c k =>
  Tuple_ (ha own s _ E c fun vs σ₁ h₁ t₁ p c₁ => wpAny_newObj_type (k _ _ _ _ (hr vs σ₁ h₁.objs.size p fun q hq e => by have := c₁.get hq; rw [e, get_size] at this; cases this) (c₁.pushN _)) (by show vs.toArray.size ≤ sizeLine; rw [List.size_toArray, sizeLine_eq]; have := hp vs σ₁ p; omega))
theorem tm_dict0 (O : Ok G d) {pos : Pos} {R : Value → Sg → Prop} (hr : ∀ a o, o.IsDictOf (SK G) [] → (a == sysModules) = false → (∀ p ∈ σ.n, p.1 ≠ a) → R (.ref a) { σ with n := (a, o) :: σ.n }) : Tm G σ (eval (.Dict [] [] pos) G.env) R := fun own s Q E c k => by
  refine wpAny_Dict_empty ?_
  have hd : (s.heap.push { cls := .type "dict", data := .dict #[] }).DictOf (SK G) s.heap.objs.size [] := ⟨_, #[], 0, Heap.get?_push_size _ rfl, ⟨rfl, rfl, rfl⟩, rfl, fun e he => by simp at he, by exact .nil, by simp⟩
  obtain ⟨o, ho, hod⟩ := Heap.dictOf_iff.mp hd
  obtain ⟨p, lo, mg, mb, T⟩ := O.T
  have big : sysModules < s.heap.objs.size := modules_low (T.nolimit.keeps c.F.keep)
  have e : o = { cls := .type "dict", data := .dict #[] } := by
    have := Heap.get?_push_size s.heap (o := { cls := .type "dict", data := .dict #[] }) rfl
    rw [ho] at this; exact Option.some.inj this
  subst e
  exact k _ _ _ _ (hr _ _ hod (by simp only [beq_eq_false_iff_ne, ne_eq]; exact Nat.ne_of_gt big) fun q hq e => by have := c.get hq; rw [e, get_size] at this; cases this) (c.pushN _)

theorem tr_len_list {a : Addr} {its : Array Value} (hl : Ent G σ (fun h => h.IsList a its)) (hz : its.size ≤ 16777216) : Tr G σ (call (.builtin "len") [.ref a]) (IsI its.size) := fun own s Q E c k =>
  call_len_list (hl own _ c) (by omega) (k _ s.heap _ ⟨_, rfl⟩ c)
theorem tr_len_dict {a : Addr} {kvs : List (Str × Value)} (hl : Ent G σ (fun h => h.DictOf (SK G) a kvs)) (hlo : (a == sysModules) = false) (hz : kvs.length ≤ 16777216) : Tr G σ (call (.builtin "len") [.ref a]) (IsI kvs.length) := fun own s Q E c k =>
  call_len_dict (knd := SK G) hlo (hl own _ c) (by omega) (k _ s.heap _ ⟨_, rfl⟩ c)
theorem tr_len_str {x : Str} {v : Value} (hv : IsS x v) (hz : x.length ≤ 16777216) : Tr G σ (call (.builtin "len") [v]) (IsI x.length) := by
  obtain ⟨t, rfl⟩ := hv
  exact fun own s Q E c k => SBL.len (by omega) (k _ s.heap _ ⟨_, rfl⟩ c)
theorem tr_chr {i : Int} {v : Value} (hv : IsI i v) (h0 : 0 ≤ i) (h1 : i ≤ 1114111) : Tr G σ (call (.builtin "chr") [v]) (IsS ⟨#[i.toNat]⟩) := by
  obtain ⟨t, rfl⟩ := hv
  exact fun own s Q E c k => chr_of_range h0 h1 (k _ s.heap _ ⟨_, rfl⟩ c)

/-- f(x) of a built-in function upon what changes nothing -/
theorem tr_fn1 (O : Ok G d) {x : Str} {np pos : Pos} {id : String} {e : Expr} {P : Value → Prop} {R : Value → Prop} (hn : nsIn G.K mainGlobals x = some none) (hb : bootBuiltins x = some (.builtin id)) (hg : G.env.kindOf x = some .globalImplicit) (he : Tr G σ (eval e G.env) P) (hc : ∀ v, P v → Tr G σ (call (.builtin id) [v]) R)
    (hs : starEach [e] G.env = [(false, eval e G.env)] := by rfl) (hx : x ≠ "__name__" := by decide) (hd : (x == ("__debug__" : Str)) = false := by decide) : Tr G σ (eval (.Call (.Name x np) [e] [] pos) G.env) R :=
  Tm.r (tm_callB (tr_blt O hn hb hx hg hd) (tr_arg1 he hs).m (fun vs σ' p => by obtain ⟨rfl, v, rfl, pv⟩ := p; exact (hc v pv).m) (by rw [hs]; rfl) rfl)

theorem tr_nameP (O : Ok G d) {x : Str} {pos : Pos} {v : Value} {P : Value → Prop} (hv : σ.m x = some v) (hp : P v) (hx : G.env.kindOf x = some .local := by rfl) (hd : (x == ("__debug__" : Str)) = false := by decide) : Tr G σ (eval (.Name x pos) G.env) P :=
  Tr.mono (tr_name O hv hx hd) fun u e => by subst e; exact hp
theorem tr_nameI (O : Ok G d) {x : Str} {pos : Pos} {a : Int} {t : Tok} (hv : σ.m x = some (.int a t)) (hx : G.env.kindOf x = some .local := by rfl) (hd : (x == ("__debug__" : Str)) = false := by decide) : Tr G σ (eval (.Name x pos) G.env) (IsI a) := tr_nameP O hv ⟨t, rfl⟩ hx hd
theorem tr_nameS (O : Ok G d) {x : Str} {pos : Pos} {a : Str} {t : Tok} (hv : σ.m x = some (.str a t)) (hx : G.env.kindOf x = some .local := by rfl) (hd : (x == ("__debug__" : Str)) = false := by decide) : Tr G σ (eval (.Name x pos) G.env) (IsS a) := tr_nameP O hv ⟨t, rfl⟩ hx hd
theorem tr_nameCP (O : Ok G d) {x : Str} {pos : Pos} {v : Value} {a : Addr} {P : Value → Prop} (ha : G.env.cells.lookup x = some a) (hv : σ.c x = some v) (hp : P v) (hx : G.env.kindOf x = some .cell := by rfl) (hd : (x == ("__debug__" : Str)) = false := by decide) : Tr G σ (eval (.Name x pos) G.env) P :=
  Tr.mono (tr_nameC O ha hv hx hd) fun u e => by subst e; exact hp

/-- what is wanted behind a statement -/
def Cont (G : Gx) (rest : List Stmt) (R : Flow → Sg → Prop) (f : Flow) (σ' : Sg) : Prop := match f with
  | .next => Tm G σ' (execs rest G.env) R
  | .brk => R .brk σ'
  | .cont => R .cont σ'
  | .ret v => R (.ret v) σ'
theorem seq {st : Stmt} {rest : List Stmt} {R : Flow → Sg → Prop} (h : Tm G σ (exec st G.env) (Cont G rest R)) : Tm G σ (execs (st :: rest) G.env) R :=
  tm_cons h (fun σ' p => p) fun f σ' hf p => by
    cases f with
    | next => exact absurd rfl (hf ())
    | brk => exact p
    | cont => exact p
    | ret v => exact p
theorem seq_assign (O : Ok G d) {x : Str} {p pos : Pos} {e : Expr} {rest : List Stmt} {P : Value → Sg → Prop} {R : Flow → Sg → Prop} (he : Tm G σ (eval e G.env) P) (hr : ∀ v σ', P v σ' → Tm G { σ' with m := put σ'.m x v } (execs rest G.env) R)
    (hx : G.env.kindOf x = some .local := by rfl) (hw : swapsWith e (some (.Name x p)) pos.line G.env = pure false := by rfl) : Tm G σ (execs (.Assign [.Name x p] e pos :: rest) G.env) R := seq (tm_assign O he hr hx hw)
theorem seq_assignC (O : Ok G d) {x : Str} {p pos : Pos} {e : Expr} {a : Addr} {rest : List Stmt} {P : Value → Sg → Prop} {R : Flow → Sg → Prop} (ha : G.env.cells.lookup x = some a) (a0 : G.h₀.get? a = none) (he : Tm G σ (eval e G.env) P) (hr : ∀ v σ', P v σ' → Tm G { σ' with c := put σ'.c x v } (execs rest G.env) R)
    (hx : G.env.kindOf x = some .cell := by rfl) (hw : swapsWith e (some (.Name x p)) pos.line G.env = pure false := by rfl) : Tm G σ (execs (.Assign [.Name x p] e pos :: rest) G.env) R := seq (tm_assignC O ha a0 he hr hx hw)
theorem seq_ret {e : Expr} {pos : Pos} {rest : List Stmt} {R : Flow → Sg → Prop} (he : Tm G σ (eval e G.env) (fun v σ' => R (.ret v) σ')) : Tm G σ (execs (.Return (some e) pos :: rest) G.env) R := seq (tm_ret he fun v σ' p => p)
theorem seq_if {t : Expr} {a b rest : List Stmt} {pos : Pos} {x : Bool} {R : Flow → Sg → Prop} (ht : Tr G σ (PySem.isTrue t G.env (eval t G.env)) (fun y => y = x)) (hy : x = true → Tm G σ (execs a G.env) (Cont G rest R)) (hn : x = false → Tm G σ (execs b G.env) (Cont G rest R)) : Tm G σ (execs (.If t a b pos :: rest) G.env) R :=
  seq (tm_if ht (by cases x; exact hn rfl; exact hy rfl))
theorem seq_ifRet {t e : Expr} {rest : List Stmt} {pos p' : Pos} {x : Bool} {R : Flow → Sg → Prop} (ht : Tr G σ (PySem.isTrue t G.env (eval t G.env)) (fun y => y = x)) (hy : x = true → Tm G σ (eval e G.env) (fun v σ' => R (.ret v) σ')) (hn : x = false → Tm G σ (execs rest G.env) R) : Tm G σ (execs (.If t [.Return (some e) p'] [] pos :: rest) G.env) R :=
  seq_if ht (fun h => seq_ret (hy h)) fun h => tm_nil (hn h)
theorem seq_nil {R : Flow → Sg → Prop} (h : R .next σ) : Tm G σ (execs [] G.env) R := tm_nil h

/-- an item of what is just made -/
theorem tr_itemA {ve ie : Expr} {pos : Pos} {k : Int} {R : Value → Prop} (hv : Tm G σ (eval ve G.env) (fun v σ' => ∃ nw l n' vs, v = .ref l ∧ σ' = { σ with n := nw ++ σ.n } ∧ (l, listOf (List.toArray vs) n') ∈ nw ∧ ∃ x, vs[k.toNat]? = some x ∧ R x)) (hi : ∀ nw, Tr G { σ with n := nw ++ σ.n } (eval ie G.env) (IsI k)) (h0 : 0 ≤ k) (hk : k < 2 ^ 63)
    (hs : ∀ l t, subscripted ie false (.ref l) (.int k t) = operate [.ref l, .int k t] (getItem (.ref l) (.int k t)) := by intro _ _; with_unfolding_all rfl) : Tr G σ (eval (.Subscript ve ie pos) G.env) R :=
  Tm.tr (tm_sub_ hv (Pb := fun a b σ' => ∃ nw l n' vs, a = .ref l ∧ σ' = { σ with n := nw ++ σ.n } ∧ (l, listOf (List.toArray vs) n') ∈ nw ∧ (∃ x, vs[k.toNat]? = some x ∧ R x) ∧ IsI k b)
    (fun a σ' ⟨nw, l, n', vs, e, e', hm, x⟩ => by subst e; subst e'; exact Tm.mono (hi nw).m fun b σ'' p => ⟨nw, l, n', vs, rfl, p.1, hm, x, p.2⟩)
    fun a b σ' ⟨nw, l, n', vs, e, e', hm, ⟨x, hx, r⟩, hb⟩ => by
      subst e; subst e'
      exact Tm.mono (tr_item (ent_list (List.mem_append_left _ hm)) rfl hb h0 hk (by simpa using hx) (hs l)).m fun v σ'' p => ⟨nw, p.1, by rw [p.2]; exact r⟩)
theorem tr_display {elts : List Expr} {ie : Expr} {lp pos : Pos} {k : Int} {P : List Value → Prop} {R : Value → Prop} (ha : Tr G σ (spliced (backTo lp (starEach elts G.env))) P) (hp : ∀ vs, P vs → vs.length ≤ 100 ∧ ∃ x, vs[k.toNat]? = some x ∧ R x) (hi : ∀ nw, Tr G { σ with n := nw ++ σ.n } (eval ie G.env) (IsI k)) (h0 : 0 ≤ k) (hk : k < 2 ^ 63) (hl : elts.length ≤ 100)
    (hs : ∀ l t, subscripted ie false (.ref l) (.int k t) = operate [.ref l, .int k t] (getItem (.ref l) (.int k t)) := by intro _ _; with_unfolding_all rfl) : Tr G σ (eval (.Subscript (.List elts lp) ie pos) G.env) R :=
  tr_itemA (tm_list ha.m (fun vs σ' l p _ => by obtain ⟨e, p⟩ := p; subst e; exact ⟨[(l, listOf (List.toArray vs) 0)], l, 0, vs, rfl, rfl, .head _, (hp vs p).2⟩) hl fun vs σ' p => (hp vs p.2).1) hi h0 hk hs

theorem tr_arg3 {e f g : Expr} {pos : Pos} {P R S : Value → Prop} (he : Tr G σ (eval e G.env) P) (hf : Tr G σ (eval f G.env) R) (hg : Tr G σ (eval g G.env) S) (hs : starEach [e, f, g] G.env = [(false, eval e G.env), (false, eval f G.env), (false, eval g G.env)] := by rfl) (hs1 : starEach [f, g] G.env = [(false, eval f G.env), (false, eval g G.env)] := by rfl) (hs2 : starEach [g] G.env = [(false, eval g G.env)] := by rfl) :
    Tr G σ (spliced (backTo pos (starEach [e, f, g] G.env))) (fun vs => ∃ v u w, vs = [v, u, w] ∧ P v ∧ R u ∧ S w) :=
  tr_arg (R := fun vs => ∃ v u w, vs = [v, u, w] ∧ P v ∧ R u ∧ S w) he (fun v pv => Tr.mono (tr_arg2 hf hg hs1 hs2) fun vs ⟨u, w, e, pu, pw⟩ => by subst e; exact ⟨v, u, w, rfl, pv, pu, pw⟩) (by rw [hs, hs1])
theorem tr_arg4 {e f g h : Expr} {pos : Pos} {P R S T : Value → Prop} (he : Tr G σ (eval e G.env) P) (hf : Tr G σ (eval f G.env) R) (hg : Tr G σ (eval g G.env) S) (hh : Tr G σ (eval h G.env) T) (hs : starEach [e, f, g, h] G.env = [(false, eval e G.env), (false, eval f G.env), (false, eval g G.env), (false, eval h G.env)] := by rfl) (hs1 : starEach [f, g, h] G.env = [(false, eval f G.env), (false, eval g G.env), (false, eval h G.env)] := by rfl) (hs2 : starEach [g, h] G.env = [(false, eval g G.env), (false, eval h G.env)] := by rfl) (hs3 : starEach [h] G.env = [(false, eval h G.env)] := by rfl) :
    Tr G σ (spliced (backTo pos (starEach [e, f, g, h] G.env))) (fun vs => ∃ v u w x, vs = [v, u, w, x] ∧ P v ∧ R u ∧ S w ∧ T x) :=
  tr_arg (R := fun vs => ∃ v u w x, vs = [v, u, w, x] ∧ P v ∧ R u ∧ S w ∧ T x) he (fun v pv => Tr.mono (tr_arg3 hf hg hh hs1 hs2 hs3) fun vs ⟨u, w, x, e, pu, pw, px⟩ => by subst e; exact ⟨v, u, w, x, rfl, pv, pu, pw, px⟩) (by rw [hs, hs1])
end
end Mine
open PySem PySem.W PySem.Calls PyProof.Rows
set_option Elab.async false
set_option maxRecDepth 100000
set_option maxHeartbeats 4000000
set_option linter.unusedVariables false
namespace Mine

theorem strs_of_items {kvs : List (Str × Value)} : ∀ {vs : List Value}, vs.length = kvs.length → (∀ (j : Nat) (v : Value), vs[j]? = some v → ∃ k x, kvs[j]? = some (k, x) ∧ Value.isStrOf k v = true) → StrsAre vs (kvs.map (·.1)) := by
  induction kvs with
  | nil => intro vs h _; cases vs with
    | nil => exact .nil
    | cons v r => simp at h
  | cons p r ih =>
    intro vs h hv
    cases vs with
    | nil => simp at h
    | cons v vs =>
      obtain ⟨k, x, e, hs⟩ := hv 0 v rfl
      simp only [List.getElem?_cons_zero, Option.some.injEq] at e
      obtain ⟨t, rfl⟩ := Value.isStrOf_shape hs
      subst e
      exact .cons k t (ih (by simpa using h) fun j u hu => by simpa using hv (j + 1) u (by simpa using hu))

section
variable {G : Gx} {σ : Sg} {d : Nat}

theorem sortedHeap_old {h : Heap} {a b : Addr} {vs : List Value} {out : Array Value} {o : Obj} (hb : b ≠ a) (e : h.get? b = some o) : (sortedHeap h a vs out).get? b = some o := by
  have hlt := Heap.lt_size e
  unfold sortedHeap
  rw [Heap.get?_update_other _ _ (Ne.symm hb)]
  exact Heap.get?_push_of_some _ (Heap.get?_push_of_some _ ((Heap.get?_update_other _ _ (Ne.symm hb)).trans e))

/-- sorted(d) or sorted(d.keys()) over texts -/
theorem tm_sortedSrc (O : Ok G d) {T : String} {r a : Addr} {kvs : List (Str × Value)} {OK : Heap → Prop} (K : KdlSrc G.prog G.w T r a kvs.length (fun i v => ∃ k x, kvs[i]? = some (k, x) ∧ (SK G).is k v = true) OK) (hok : Ent G σ OK) (hz : kvs.length < 64) :
    Tm G σ (call (.builtin "sorted") [.ref r]) (fun v σ' => ∃ l n' vs ss, v = .ref l ∧ σ' = { σ with n := (l, listOf (List.toArray vs) n') :: σ.n } ∧ StrsAre vs ss ∧ ss.Perm (kvs.map (·.1)) ∧ sortedS ss = true ∧ ∀ p ∈ σ.n, p.1 ≠ l) := fun own s Q E c k => by
  refine Calls.call_function_entry kind_sorted plain_sorted entry_sorted (args_sorted1 _) ?_
  unfold Builtin.«sorted»
  refine wpAny_bind (m := checkCount "sorted" 1 1 _) (wpAny_pure ?_)
  refine wpAny_bind (kdu_collect (A := G.A.in1) K O.hh (hok own _ c) (by rw [sizeLine_eq]; omega) fun h' tk acc hk hacc => ?_)
  have hl : acc.toList.length = kvs.length := by rw [Array.length_toList]; exact hacc.1
  have hS : StrsAre acc.toList (kvs.map (·.1)) := strs_of_items hl fun j v e => hacc.2 j v (by rw [← Array.getElem?_toList]; exact e)
  refine wpAny_bind (wpAny_newList ?_ (by rw [hl, sizeLine_eq]; omega))
  have hoL : (h'.push (seqObj "list" acc.toList.toArray 0)).get? h'.objs.size = some (seqObj "list" acc.toList.toArray 0) := Heap.get?_push_size _ rfl
  refine wpAny_bind (wpAny_holding (wpAny_call_entry slot_list_sort ⟨_, hoL, rfl⟩ entry_list_sort (list_sort_treeK strKind_oneLt hoL hS.keysOf (fun v₁ v₂ rest e => keyKind_strs (by rw [← e]; exact hS)) (by omega) fun st' a1 a2 => ⟨_, rfl, ?_⟩) (args_list_sort _)))
  obtain ⟨ss, h1, h2, h3⟩ := sorted_out_str hS a1 a2
  refine wpAny_pure ⟨_, rfl, ?_⟩
  obtain ⟨e, he⟩ := sortedHeap_at (h := h'.push (seqObj "list" acc.toList.toArray 0)) (a := h'.objs.size) (vs := acc.toList) (out := (arrOf st').map (·.2)) hoL
  have nn : s.heap.get? h'.objs.size = none := by
    cases q : s.heap.get? h'.objs.size with
    | none => rfl
    | some o => exact absurd (Heap.lt_size (hk _ _ q)) (Nat.lt_irrefl _)
  refine k (.ref h'.objs.size) _ _ tk ⟨h'.objs.size, e, ((arrOf st').map (·.2)).toList, ss, rfl, rfl, h1, h2, h3, fun p hp q => by have := c.get hp; rw [q, nn] at this; cases this⟩ ?_
  refine c.fresh (nw := [(h'.objs.size, listOf ((arrOf st').map (·.2)).toList.toArray e)]) (fun b o q => sortedHeap_old (fun e => by rw [e, nn] at q; cases q) (Heap.get?_push_of_some _ (hk _ _ q))) fun p hp => ?_
  obtain rfl := List.mem_singleton.mp hp
  refine ⟨?_, nn⟩
  have eo : listOf ((arrOf st').map (·.2)).toList.toArray e = seqObj "list" ((arrOf st').map (·.2)) e := by rw [Array.toArray_toList]
  show _ = some (listOf _ e)
  rw [eo]; exact he

theorem tm_keysView {a : Addr} {kvs : List (Str × Value)} (hd : Ent G σ (fun h => h.DictOf (SK G) a kvs)) (hlo : (a == sysModules) = false) :
    Tm G σ (call (.builtin "dict.keys") [.ref a]) (fun v σ' => ∃ r, v = .ref r ∧ σ' = { σ with n := (r, { cls := .type "dict_keys", data := .fields #[.ref a] }) :: σ.n } ∧ ∀ p ∈ σ.n, p.1 ≠ r) := fun own s Q E c k =>
  call_meetsIn PySem.F.slot_dict_keys (hd own _ c).typeIs PySem.F.entry_dict_keys (PySem.F.args_dict_keys_1 _) (kdl_meets_keys (SK G) a hlo) ⟨⟨kvs, hd own _ c⟩, k _ _ _ _ ⟨_, rfl, rfl, fun q hq e => by have := c.get hq; rw [e, get_size] at this; cases this⟩ (c.pushN _)⟩

theorem ent_dictAt {a : Addr} {o : Obj} {kvs : List (Str × Value)} (hl : Fx G σ [(a, o)]) (ho : o.IsDictOf (SK G) kvs) : ∃ ep, Ent G σ (fun h => h.DictAt (SK G) a kvs ep) := by
  obtain ⟨es, ep, h⟩ : ∃ es ep, o.data = .dict es ep := by
    obtain ⟨es, ep, _, h, _⟩ := ho
    exact ⟨es, ep, h⟩
  refine ⟨ep, fun own hp c => ?_⟩
  have g := hl.get c _ (.head _)
  obtain ⟨es', ep', h1, h2, h3⟩ := ho
  rw [h] at h2; cases h2
  exact ⟨o, es, g, h1, h, h3⟩

/-- sorted(d.keys()) -/
theorem tm_sortedKeys (O : Ok G d) {a : Addr} {o : Obj} {kvs : List (Str × Value)} {r : Addr} (hl : Fx G σ [(a, o)]) (ho : o.IsDictOf (SK G) kvs) (hv : (r, { cls := .type "dict_keys", data := .fields #[.ref a] }) ∈ σ.n) (hz : kvs.length < 64) :
    Tm G σ (call (.builtin "sorted") [.ref r]) (fun v σ' => ∃ l n' vs ss, v = .ref l ∧ σ' = { σ with n := (l, listOf (List.toArray vs) n') :: σ.n } ∧ StrsAre vs ss ∧ ss.Perm (kvs.map (·.1)) ∧ sortedS ss = true ∧ ∀ p ∈ σ.n, p.1 ≠ l) := by
  obtain ⟨ep, he⟩ := ent_dictAt hl ho
  exact tm_sortedSrc O (kdl_keys (knd := SK G) (r := r) (d := a) (kvs := kvs) (ep := ep)) (fun own h c => ⟨⟨_, c.get hv, rfl, rfl⟩, he own h c⟩) hz
/-- sorted(d) -/
theorem tm_sortedDict (O : Ok G d) {a : Addr} {o : Obj} {kvs : List (Str × Value)} (hl : Fx G σ [(a, o)]) (ho : o.IsDictOf (SK G) kvs) (hlo : (a == sysModules) = false) (hz : kvs.length < 64) :
    Tm G σ (call (.builtin "sorted") [.ref a]) (fun v σ' => ∃ l n' vs ss, v = .ref l ∧ σ' = { σ with n := (l, listOf (List.toArray vs) n') :: σ.n } ∧ StrsAre vs ss ∧ ss.Perm (kvs.map (·.1)) ∧ sortedS ss = true ∧ ∀ p ∈ σ.n, p.1 ≠ l) := by
  obtain ⟨ep, he⟩ := ent_dictAt hl ho
  exact tm_sortedSrc O (kdl_dict (knd := SK G) (d := a) (kvs := kvs) (ep := ep) hlo) (fun own h c => he own h c) hz
/-- list(d) -/
theorem tm_listDict (O : Ok G d) {a : Addr} {o : Obj} {kvs : List (Str × Value)} (hl : Fx G σ [(a, o)]) (ho : o.IsDictOf (SK G) kvs) (hlo : (a == sysModules) = false) (hz : kvs.length ≤ 1000000) :
    Tm G σ (call (.type "list") [.ref a]) (fun v σ' => ∃ l n' vs, v = .ref l ∧ σ' = { σ with n := (l, listOf (List.toArray vs) n') :: σ.n } ∧ StrsAre vs (kvs.map (·.1)) ∧ ∀ p ∈ σ.n, p.1 ≠ l) := fun own s Q E c k => by
  obtain ⟨ep, he⟩ := ent_dictAt hl ho
  refine kdl_call (kdl_dict (knd := SK G) (d := a) (kvs := kvs) (ep := ep) hlo) O.hh (he own _ c) (by rw [sizeLine_eq]; omega) fun h' tk acc c' hk hD hacc => ?_
  have hl : acc.toList.length = kvs.length := by rw [Array.length_toList]; exact hacc.1
  have hS : StrsAre acc.toList (kvs.map (·.1)) := strs_of_items hl fun j v e => hacc.2 j v (by rw [← Array.getElem?_toList]; exact e)
  refine k (.ref s.heap.objs.size) _ h' tk ⟨_, c', acc.toList, rfl, rfl, hS, fun p hp q => by have := c.get hp; rw [q, get_size] at this; cases this⟩ ?_
  refine c.fresh (nw := [(s.heap.objs.size, listOf acc.toList.toArray c')]) hk fun p hp => ?_
  obtain rfl := List.mem_singleton.mp hp
  exact ⟨by rw [Array.toArray_toList]; exact hD, get_size _⟩
end
end Mine
open PySem PySem.W PySem.Calls PyProof.Rows
set_option Elab.async false
set_option maxRecDepth 100000
set_option maxHeartbeats 4000000
set_option linter.unusedVariables false
namespace Mine

/-- a tree that may raise -/
def Tq {α : Type} (G : Gx) (σ : Sg) (X : Led → Addr → Heap → Prop) (t : Sem α) (P : α → Sg → Prop) : Prop :=
  ∀ (own : Led) (s : Shared) (Q : α → Shared → Prop) (E : Value → Shared → Prop), Cx G own σ s.heap →
    (∀ v σ' h' tk', P v σ' → Cx G own σ' h' → Q v { s with heap := h', toks := tk' }) →
    (∀ e h' tk', X own e h' → E (.ref e) { s with heap := h', toks := tk' }) → wpAny (model G.prog G.w) G.A t Q E s
/-- raised here and now -/
def Xn (G : Gx) (N : Prop) (own : Led) (e : Addr) (h' : Heap) : Prop := N ∧ ∃ σ h, Cx G own σ h ∧ Heap.NewExc h h' e "KeyError"
abbrev framesOf (l : List Env) : List Addr := l.filterMap (·.frame)
/-- come out of a call -/
def Xc (G : Gx) (σ : Sg) (N : Prop) (own : Led) (e : Addr) (h' : Heap) : Prop := N ∧ ∃ g B a0 base outer, Cx G own σ g ∧ Below G.A base outer g ∧ (G.K.In base ∧ ∃ p loose mg mb, TopRead p loose mg mb base) ∧
  (∀ b o, g.get? b = some o → b ∉ framesOf outer → B.get? b = some o) ∧ Heap.FlyingW B outer e (.type "KeyError") a0 h' ∧ g.UpToSlots h'

section
variable {α β : Type} {G : Gx} {σ : Sg} {d : Nat} {X : Led → Addr → Heap → Prop}
theorem Tm.q {t : Sem α} {P : α → Sg → Prop} (h : Tm G σ t P) : Tq G σ X t P := fun own s Q E c k _ => h own s Q E c k
theorem Tq.mono {t : Sem α} {P R : α → Sg → Prop} (h : Tq G σ X t P) (k : ∀ v σ', P v σ' → R v σ') : Tq G σ X t R := fun own s Q E c q x => h own s Q E c (fun v σ' h' tk' p c' => q v σ' h' tk' (k v σ' p) c') x

theorem leave_at {M : Model} {A : Around} {E : Value → Shared → Prop} {s' : Shared} {base g h : Heap} {outer : List Env} {env : Env} {L e : Addr} {m : Str → Option Value} {cls : String} {Q : Unit → Shared → Prop} (K : Below A base outer g) (hf : env.frame = some L) (hk : env.scope.kind = .function)
    (hx : Heap.NewExc h s'.heap e cls) (F : Fr g L h m)
    (hQ : ∀ B a0 h', (∀ b o, g.get? b = some o → b ∉ framesOf outer → B.get? b = some o) → Heap.FlyingW B outer e (.type cls) a0 h' → g.UpToSlots h' → Q () { s' with heap := h' }) : wpAny M (A.deeper env) (leaving env (.ref e)) Q E s' := by
  have fg : g.FunFrames (hideAll g (framesOf outer)) outer := funFrames_hide K.frames fun env he a ha => List.mem_filterMap.mpr ⟨env, he, ha⟩
  have fL : (hideAll g (framesOf outer)).get? L = none := by
    cases q : (hideAll g (framesOf outer)).get? L with
    | none => rfl
    | some o => exact absurd (Heap.lt_size (of_hideAll _ q)) (Nat.not_lt.mpr F.above)
  have fh : h.FunFrames (hideAll g (framesOf outer)) (env :: outer) := Heap.FunFrames.cons (by rw [hk]; decide) hf F.ns fL (fg.of_keeps fun b o q _ => ⟨o, F.keep b o q, rfl⟩)
  obtain ⟨ob, tp, he, hcls, hd⟩ := hx.there
  have hen : (hideAll g (framesOf outer)).get? e = none := by
    cases q : (hideAll g (framesOf outer)).get? e with
    | none => rfl
    | some o => have := F.keep _ _ (of_hideAll _ q); rw [hx.new] at this; cases this
  refine wpAny_leaving_firstW (a0 := tp) (Around.frames_deeper K.stack) (fh.of_keeps fun b o q _ => ⟨o, hx.keeps b o q, rfl⟩) hf he (fun b o q => hx.keeps b o (F.keep b o (of_hideAll _ q))) hen hd rfl rfl fun h' hL => ?_
  obtain ⟨k1, ⟨_, _, k2⟩, k3, k4⟩ := hL
  refine hQ _ tp h' (fun b o q n => hideAll_get _ q n) ⟨k1, hen, k2, by rw [← hcls]; exact k3⟩ (((Heap.UpToSlots.of_keeps F.keep).trans (Heap.UpToSlots.of_keeps hx.keeps)).trans k4)

/-- a call of a plain def that may raise -/
theorem tq_fn {N : Prop} {f : Addr} {fd : FuncData} {oc : Value} {od : Option Addr} {osl : Array (Option Value)} {body : List Stmt} {args : List Value} {binds : List (Str × Value)} {R : Value → Led → Prop}
    (O : Ok G (d + 1)) (hK : G.K.lookup f = some ⟨oc, od, .func fd, osl⟩) (hbody : fd.body = .stmts body) (hcode : codeIn G.K fd.code fd.qualname = true)
    (hk : fd.scope.kind = .function) (hg : fd.globals = mainGlobals) (hb : fd.builtins = builtinsNs) (hc : fd.closure = []) (hco : fd.scope.isCoroutine = false) (hgen : fd.scope.isGenerator = false)
    (hcell : ∀ x ∈ fd.scope.names, x.2 ≠ .cell) (hbind : ∀ s : Shared, G.K.In s.heap → BindsTo s fd ⟨args, []⟩ binds) (hloc : ∀ x ∈ binds, fd.scope.names.lookup x.1 = some .local)
    (hw : ∀ own h L, Cx G own σ h → Ok (Cal G h fd L f) d → Tq (Cal G h fd L f) ⟨fun x => binds.reverse.lookup x, fun _ => none, []⟩ (Xn (Cal G h fd L f) N) (execs body (Cal G h fd L f).env) (fun fl σ' => R (retOf fl) σ'.n)) :
    Tq G σ (Xc G σ N) (call (.ref f) args []) (fun v σ' => ∃ nw, σ' = { σ with n := nw ++ σ.n } ∧ R v nw ∧ ∀ p ∈ nw, ∀ q ∈ σ.n, p.1 ≠ q.1) := fun own s Q E c k kx => by
  obtain ⟨p, lo, mg, mb, T⟩ := O.T
  have XX := O.X.keeps c.F.keep
  refine wpAny_call (codeAny_call_def (by have := O.depth; omega) (XX _ _ hK) rfl (T.nolimit.keeps c.F.keep) (codeRec_of XX hcode) hbody (hbind s XX) hcell hloc (fun h₁ hns hk₁ => ?_) hco hgen hk)
  have F₁ : Fr s.heap s.heap.objs.size h₁ (fun x => binds.reverse.lookup x) := ⟨hns, hk₁, Nat.le_refl _⟩
  have c₁ : Cx (Cal G s.heap fd s.heap.objs.size f) [] ⟨fun x => binds.reverse.lookup x, fun _ => none, []⟩ h₁ :=
    ⟨F₁, News.nil, (fun x a e => by
      have : (callEnv fd s.heap.objs.size f).cells = [] := hc
      change (callEnv fd s.heap.objs.size f).cells.lookup x = some a at e
      rw [this] at e; cases e), (fun _ h => nomatch h), fun _ h => nomatch h⟩
  refine hw own s.heap s.heap.objs.size c (O.cal c hk hg hb hc) [] _ _ _ c₁ (fun fl σ' h' tk' pr c' => ?_) fun e h' tk' hx => ?_
  · have := k (retOf fl) { σ with n := σ'.n ++ σ.n } h' tk' ⟨σ'.n, rfl, pr, fun p hp q hq e => by have := (c'.N p (List.mem_append_right _ hp)).2.2; rw [e] at this; have h2 := c.get hq; change s.heap.get? q.1 = none at this; rw [h2] at this; cases this⟩
      (c.fresh c'.F.keep fun q hq => ⟨c'.get hq, (c'.N q (List.mem_append_right _ hq)).2.2⟩)
    cases fl <;> exact this
  · obtain ⟨pN, σ', h, c', hn⟩ := hx
    obtain ⟨base, outer, hbase, B⟩ := O.B
    have K := B _ _ c.F
    refine leave_at (s' := { s with heap := h', toks := tk' }) K (env := callEnv fd s.heap.objs.size f) rfl hk hn c'.F fun B' a0 h'' hB hfl hup => ?_
    exact kx e h'' tk' ⟨pN, s.heap, B', a0, base, outer, c, K, hbase, hB, hfl, hup⟩

theorem tq_ret {e : Expr} {pos : Pos} {P : Value → Sg → Prop} {R : Flow → Sg → Prop} (he : Tq G σ X (eval e G.env) P) (hr : ∀ v σ', P v σ' → R (.ret v) σ') : Tq G σ X (exec (.Return (some e) pos) G.env) R := fun own s Q E c k x =>
  wpAny_Return_some (he own s _ E c (fun v σ₁ h₁ t₁ pv c₁ => k (.ret v) σ₁ h₁ t₁ (hr v σ₁ pv) c₁) x)
def ContQ (G : Gx) (X : Led → Addr → Heap → Prop) (rest : List Stmt) (R : Flow → Sg → Prop) (f : Flow) (σ' : Sg) : Prop := match f with
  | .next => Tq G σ' X (execs rest G.env) R
  | .brk => R .brk σ'
  | .cont => R .cont σ'
  | .ret v => R (.ret v) σ'
theorem tq_seq {st : Stmt} {rest : List Stmt} {R : Flow → Sg → Prop} (h : Tq G σ X (exec st G.env) (ContQ G X rest R)) : Tq G σ X (execs (st :: rest) G.env) R := fun own s Q E c k x =>
  wpAny_execs_cons (h own s _ E c (fun f σ₁ h₁ t₁ p c₁ => by
    cases f with
    | next => exact p own _ Q E c₁ (fun v σ₂ h₂ t₂ p₂ c₂ => k v σ₂ h₂ t₂ p₂ c₂) fun e h' tk' => x e h' tk'
    | brk => exact k _ σ₁ h₁ t₁ p c₁
    | cont => exact k _ σ₁ h₁ t₁ p c₁
    | ret v => exact k _ σ₁ h₁ t₁ p c₁) x)
theorem tq_nil {R : Flow → Sg → Prop} (h : R .next σ) : Tq G σ X (execs [] G.env) R := (tm_nil h).q
theorem tq_if {t : Expr} {a b : List Stmt} {pos : Pos} {y : Bool} {R : Flow → Sg → Prop} (ht : Tr G σ (PySem.isTrue t G.env (eval t G.env)) (fun z => z = y)) (h1 : y = true → Tq G σ X (execs a G.env) R) (h0 : y = false → Tq G σ X (execs b G.env) R) : Tq G σ X (exec (.If t a b pos) G.env) R := fun own s Q E c k x =>
  wpAny_If (ht own s _ E c fun v h₁ t₁ pv c₁ => by subst pv; cases v; exact h0 rfl own _ Q E c₁ (fun v σ₂ h₂ t₂ pv c₂ => k v σ₂ h₂ t₂ pv c₂) fun e h' tk' => x e h' tk'; exact h1 rfl own _ Q E c₁ (fun v σ₂ h₂ t₂ pv c₂ => k v σ₂ h₂ t₂ pv c₂) fun e h' tk' => x e h' tk')
theorem tq_ifRet {t e : Expr} {rest : List Stmt} {pos p' : Pos} {y : Bool} {R : Flow → Sg → Prop} (ht : Tr G σ (PySem.isTrue t G.env (eval t G.env)) (fun z => z = y)) (h1 : y = true → Tq G σ X (eval e G.env) (fun v σ' => R (.ret v) σ')) (h0 : y = false → Tq G σ X (execs rest G.env) R) : Tq G σ X (execs (.If t [.Return (some e) p'] [] pos :: rest) G.env) R :=
  tq_seq (tq_if ht (fun h => tq_seq (tq_ret (h1 h) fun v σ' p => p)) fun h => tq_nil (h0 h))
theorem tq_assign (O : Ok G d) {x : Str} {p pos : Pos} {e : Expr} {P : Value → Sg → Prop} {R : Flow → Sg → Prop} (he : Tq G σ X (eval e G.env) P) (hr : ∀ v σ', P v σ' → R .next { σ' with m := put σ'.m x v })
    (hx : G.env.kindOf x = some .local := by rfl) (hw : swapsWith e (some (.Name x p)) pos.line G.env = pure false := by rfl) : Tq G σ X (exec (.Assign [.Name x p] e pos) G.env) R := fun own s Q E c k kx =>
  wpAny_Assign_Name (he own s _ E c (fun v σ₁ h₁ t₁ pv c₁ => wpAny_storeName_local hx c₁.F.ns (fun h' hn hs => k .next _ h' _ (hr v σ₁ pv) (c₁.store hn hs O.cL)) (by rw [O.kind]; rfl)) kx) hw
theorem tq_sub {v i : Expr} {pos : Pos} {Pa : Value → Prop} {Pb : Value → Value → Sg → Prop} {R : Value → Sg → Prop} (hl : Tr G σ (eval v G.env) Pa) (hr : ∀ a, Pa a → Tq G σ X (eval i G.env) (Pb a)) (ho : ∀ a b σ', Pb a b σ' → Tq G σ' X (subscriptTail v i a b) R) : Tq G σ X (eval (.Subscript v i pos) G.env) R := fun own s Q E c k x =>
  Subscript_ (hl own s _ E c fun a h₁ t₁ pa c₁ => hr a pa own _ _ E c₁ (fun b σ₂ h₂ t₂ pb c₂ => ho a b σ₂ pb own _ Q E c₂ (fun v σ₃ h₃ t₃ pv c₃ => k v σ₃ h₃ t₃ pv c₃) fun e h' tk' => x e h' tk') fun e h' tk' => x e h' tk')
theorem tq_list1 {e : Expr} {pos : Pos} {P : Value → Sg → Prop} {R : Value → Sg → Prop} (he : Tq G σ X (eval e G.env) P) (hr : ∀ v σ' l, P v σ' → (∀ p ∈ σ'.n, p.1 ≠ l) → R (.ref l) { σ' with n := (l, listOf #[v] 0) :: σ'.n }) (hs : starEach [e] G.env = (false, eval e G.env) :: starEach [] G.env := by rfl) :
    Tq G σ X (eval (.List [e] pos) G.env) R := fun own s Q E c k x =>
  List_ (spliced_more (he own s _ E c (fun v σ₁ h₁ t₁ p c₁ => spliced_none (wpAny_newObj_type (k _ _ _ _ (hr v σ₁ h₁.objs.size p fun q hq e => by have := c₁.get hq; rw [e, get_size] at this; cases this) (c₁.pushN _)) (by show [v].toArray.size ≤ sizeLine; rw [List.size_toArray, sizeLine_eq]; simp))) x) hs)
theorem tq_methI (O : Ok G d) {pl : Sem Bool} {o : Expr} {name : Str} {apos pos : Pos} {e : Expr} {rest : List Expr} {x C dx f : Addr} {es : List DictEntry} {n : Nat} {P : List Value → Prop} {R : Value → Sg → Prop} (ho : Tr G σ (eval o G.env) (IsV (.ref x))) (hi : Ent G σ (fun h => InstIn h x C dx es n))
    (hg : plainGet G.K C name = true) (hf : findIn G.K (.ref C) name = some (some (.ref f))) (ht : isFn G.K (.ref f) = true) (hl : getL name es = some none) (hk : keepIn G.K (.ref f) = true)
    (ha : Tr G σ (spliced (backTo pos (starEach (e :: rest) G.env))) P) (hc : ∀ vs, P vs → Tq G σ X (call (.ref f) (.ref x :: vs)) R)
    (hq : eval (.Call (.Attribute o name apos) (e :: rest) [] pos) G.env = (do
          let ov ← eval o G.env
          standAt apos.atName
          let (f, first) ← holding [ov] (getMethod ov name pl)
          callWith pos f first (backTo pos (starEach (e :: rest) G.env)) []) := by rfl)
    (he : starEach (e :: rest) G.env = (false, eval e G.env) :: starEach rest G.env := by rfl) (hp : (backTo pos (starEach rest G.env)).any (·.1) = false := by rfl) :
    Tq G σ X (eval (.Call (.Attribute o name apos) (e :: rest) [] pos) G.env) R := fun own s Q E c k kx =>
  MethodCall_ (pl := pl) (ho own s _ E c fun v h₁ t₁ pv c₁ => by
    subst pv
    refine method_inst (L := G.env.locals) (m := σ.m) (s := { s with heap := h₁, toks := t₁ }) c₁.F O.X (hi own _ c₁).at hg hf ht hl ?_
    exact callWith_K (first := [.ref x]) O.X hk (ha own _ _ E c₁ fun vs h₂ t₂ pa c₂ => ⟨O.X.keeps c₂.F.keep, hc vs pa own _ Q E c₂ (fun v σ₃ h₃ t₃ pv c₃ => k v σ₃ h₃ t₃ pv c₃) fun e h' tk' => kx e h' tk'⟩) he hp) hq
/-- raise KeyError(x) -/
theorem tq_raise {N : Prop} (hN : N) (O : Ok G d) {np cpos pos : Pos} {e : Expr} {P : Value → Prop} {R : Flow → Sg → Prop} (hn : nsIn G.K mainGlobals "KeyError" = some none) (hg : G.env.kindOf "KeyError" = some .globalImplicit) (he : Tr G σ (eval e G.env) P)
    (hs : starEach [e] G.env = [(false, eval e G.env)] := by rfl) : Tq G σ (Xn G N) (exec (.Raise (some (.Call (.Name "KeyError" np) [e] [] cpos)) none pos) G.env) R := fun own s Q E c k kx =>
  Raise_new O.hh (wpAny_Call_NameR ((tr_blt O (v := .type "KeyError") hn (ExcClass.boot excClass_KeyError) (by decide) hg) own s _ E c fun v h₁ t₁ pv c₁ => by
    subst pv
    refine Pv.callWith_type1 (tr_arg1 he hs own _ _ E c₁ fun vs h₂ t₂ ⟨v, ev, pv⟩ c₂ => ?_) (by rw [hs]; rfl) rfl
    subst ev
    exact call_exc_raise (s := { s with heap := h₂, toks := t₂ }) excClass_KeyError (fun h' x hx => kx x h' t₂ ⟨hN, σ, h₂, c₂, hx⟩) (by rw [sizeLine_eq]; simp)))

/-- a clause takes what came out of a call -/
theorem caught {N : Prop} {own : Led} {s : Shared} {e : Addr} {outer₀ : List Env} {np hp : Pos} {b₀ : Stmt} {suite : List Stmt} {Q : Flow → Shared → Prop} {E : Value → Shared → Prop} (O : Ok G d) (hfr : G.A.frames = some (G.env :: outer₀)) (hf : G.env.frame = some G.env.locals) (x : Xc G σ N own e s.heap)
    (ex : nsIn G.K mainGlobals "KeyError" = some none) (hx : G.env.kindOf "KeyError" = some .globalImplicit)
    (k : N → ∀ g h₆ E', Cx G own σ g → g.UpToSlots h₆ → (∀ b o, g.get? b = some o → b ∉ framesOf (G.env :: outer₀) → h₆.get? b = some o) → wpAny (model G.prog G.w) (G.A.mark (some (.ref e))) (execs (b₀ :: suite) G.env) Q E' { s with heap := h₆ }) :
    wpAny (model G.prog G.w) G.A (noteFrame (.ref e) G.env) (fun _ s₂ => wpAny (model G.prog G.w) G.A (setFlight (.ref e) none) (fun _ s₃ => wpAny (model G.prog G.w) G.A (handleBy (.ref e) G.env [.ExceptHandler (some (.Name "KeyError" np)) none (b₀ :: suite) hp]) Q E s₃) E s₂) E s := by
  obtain ⟨pN, g, B, a0, base, outer, c, K, ⟨XB, p, lo, mg, mb, TB⟩, hB, hfl, hup⟩ := x
  have eo : outer = G.env :: outer₀ := by have := K.stack; rw [hfr] at this; exact (Option.some.inj this).symm
  subst eo
  have bB : ∀ b o, base.get? b = some o → B.get? b = some o := fun b o q => hB b o (K.stays b o q) fun hm => by rw [(K.frames.mem hm).1] at q; cases q
  refine wpAny_looks_onW hfr hf hfl fun h₄ hheld₄ hsm₄ => ?_
  refine wpAny_landsW hheld₄ fun h₅ hheld hsm₅ => ?_
  obtain ⟨ob, hob, hobc⟩ := hheld.there
  have k5 : ∀ b o, base.get? b = some o → h₅.get? b = some o := fun b o q => hheld.1 b o (bB b o q)
  refine wpAny_handleBy_builtin (X := "KeyError") (T := "KeyError") (b := true) kr_isExc_KeyError kr_notTuple_KeyError (by rw [isSubtype_type]; kernel_rfl) ?_
  refine Calls.Name_function_global O.kind hx (Calls.loadGlobal_builtin (by rw [O.glob]; exact TB.g.keeps k5) (mg_none_of XB TB.g ex) (by rw [O.blt]; exact TB.b.keeps k5) ((TB.builtins "KeyError" (by decide)).trans (ExcClass.boot excClass_KeyError)) ?_) (by decide)
  refine ⟨rfl, ⟨ob, hob, hobc⟩, ?_⟩
  rw [if_pos rfl]
  refine lands_againW hheld fun h₆ hfl₆ hsm₆ => ?_
  exact k pN g h₆ _ c (((hup.trans hsm₄).trans hsm₅).trans hsm₆) fun b o q n => hfl₆.1 b o (hB b o q n)

theorem Cx.back {own : Led} {g h' : Heap} (O : Ok G d) (c : Cx G own σ g) (up : g.UpToSlots h') (kp : ∀ b o, g.get? b = some o → b ≠ G.env.locals → h'.get? b = some o) : Cx G own σ h' := by
  refine ⟨⟨up.ns c.F.ns, fun b o q => kp b o (c.F.keep b o q) (Nat.ne_of_lt (Nat.lt_of_lt_of_le (Heap.lt_size q) c.F.above)), c.F.above⟩, fun p hp => ⟨kp _ _ (c.N p hp).1 (c.N p hp).2.1, (c.N p hp).2⟩, fun x a ha => ?_, c.offO, c.offC⟩
  obtain ⟨o, ho, r⟩ := c.C x a ha
  exact ⟨o, kp _ _ ho (O.cL x a ha), r⟩

/-- try: body; except KeyError: break -/
theorem tm_tryBrk {N : Prop} (O : Ok G d) {body : List Stmt} {np hp bp pos : Pos} {R : Flow → Sg → Prop} (hfr : G.A.frames = some [G.env]) (hf : G.env.frame = some G.env.locals) (ex : nsIn G.K mainGlobals "KeyError" = some none) (hx : G.env.kindOf "KeyError" = some .globalImplicit)
    (hb : Tq G σ (Xc G σ N) (execs body G.env) R) (hr : N → R .brk σ) : Tm G σ (exec (.Try body [.ExceptHandler (some (.Name "KeyError" np)) none [.Break bp] hp] [] [] pos) G.env) R := fun own s Q E c k => by
  refine wpAny_Try_except (hb own s _ _ c (fun f σ' h' tk' p c' => ?_) fun e h' tk' x => ?_)
  · cases f with
    | next => exact wpAny_execs_nil (k .next σ' h' tk' p c')
    | brk => exact k .brk σ' h' tk' p c'
    | cont => exact k .cont σ' h' tk' p c'
    | ret v => exact k (.ret v) σ' h' tk' p c'
  · refine caught (s := { s with heap := h', toks := tk' }) O hfr hf x ex hx fun pN g h₆ E' cg up kp => ?_
    refine wpAny_execs_cons (wpAny_Break ?_)
    exact k .brk σ h₆ tk' (hr pN) (cg.back O up fun b o q n => kp b o q fun hm => by
      simp only [framesOf, List.filterMap_cons, hf, List.filterMap_nil, List.mem_singleton] at hm
      exact n hm)

/-- the frame of a clause: it knows nothing of the old -/
def Cau (G : Gx) (e : Addr) : Gx := { G with h₀ := {}, A := G.A.mark (some (.ref e)) }

/-- a def whose body is one try statement, called from the first frame -/
theorem tm_fnTry {N : Prop} {f : Addr} {fd : FuncData} {oc : Value} {od : Option Addr} {osl : Array (Option Value)} {tb : List Stmt} {np hp tp : Pos} {b₀ : Stmt} {suite : List Stmt} {args : List Value} {binds : List (Str × Value)} {R : Value → Led → Prop}
    (O : Ok G (d + 1)) (hfr : G.A.frames = some [G.env]) (hf : G.env.frame = some G.env.locals) (hK : G.K.lookup f = some ⟨oc, od, .func fd, osl⟩) (hbody : fd.body = .stmts [.Try tb [.ExceptHandler (some (.Name "KeyError" np)) none (b₀ :: suite) hp] [] [] tp]) (hcode : codeIn G.K fd.code fd.qualname = true)
    (hk : fd.scope.kind = .function) (hg : fd.globals = mainGlobals) (hb : fd.builtins = builtinsNs) (hc : fd.closure = []) (hco : fd.scope.isCoroutine = false) (hgen : fd.scope.isGenerator = false)
    (hcell : ∀ x ∈ fd.scope.names, x.2 ≠ .cell) (hbind : ∀ s : Shared, G.K.In s.heap → BindsTo s fd ⟨args, []⟩ binds) (hloc : ∀ x ∈ binds, fd.scope.names.lookup x.1 = some .local)
    (ex : nsIn G.K mainGlobals "KeyError" = some none) (hx : ∀ L, (callEnv fd L f).kindOf "KeyError" = some .globalImplicit)
    (hw : ∀ own h L, Cx G own σ h → Ok (Cal G h fd L f) d → Tq (Cal G h fd L f) ⟨fun x => binds.reverse.lookup x, fun _ => none, []⟩ (Xc (Cal G h fd L f) ⟨fun x => binds.reverse.lookup x, fun _ => none, []⟩ N) (execs tb (Cal G h fd L f).env) (fun fl σ' => R (retOf fl) σ'.n))
    (hh : N → ∀ h L e, Tm (Cau (Cal G h fd L f) e) ⟨fun x => binds.reverse.lookup x, fun _ => none, []⟩ (execs (b₀ :: suite) (Cal G h fd L f).env) (fun fl σ' => R (retOf fl) σ'.n)) :
    Tm G σ (call (.ref f) args []) (fun v σ' => ∃ nw, σ' = { σ with n := nw ++ σ.n } ∧ R v nw ∧ ∀ p ∈ nw, ∀ q ∈ σ.n, p.1 ≠ q.1) := fun own s Q E c k => by
  obtain ⟨p, lo, mg, mb, T⟩ := O.T
  have XX := O.X.keeps c.F.keep
  refine wpAny_call (codeAny_call_def (by have := O.depth; omega) (XX _ _ hK) rfl (T.nolimit.keeps c.F.keep) (codeRec_of XX hcode) hbody (hbind s XX) hcell hloc (fun h₁ hns hk₁ => ?_) hco hgen hk)
  have F₁ : Fr s.heap s.heap.objs.size h₁ (fun x => binds.reverse.lookup x) := ⟨hns, hk₁, Nat.le_refl _⟩
  have c₁ : Cx (Cal G s.heap fd s.heap.objs.size f) [] ⟨fun x => binds.reverse.lookup x, fun _ => none, []⟩ h₁ :=
    ⟨F₁, News.nil, (fun x a e => by
      have : (callEnv fd s.heap.objs.size f).cells = [] := hc
      change (callEnv fd s.heap.objs.size f).cells.lookup x = some a at e
      rw [this] at e; cases e), (fun _ h => nomatch h), fun _ h => nomatch h⟩
  have O₁ := O.cal c hk hg hb hc (L := s.heap.objs.size) (f := f)
  have fin : ∀ fl σ' h' tk', R (retOf fl) σ'.n → Cx (Cal G s.heap fd s.heap.objs.size f) [] σ' h' → Q (retOf fl) { s with heap := h', toks := tk' } := fun fl σ' h' tk' pr c' =>
    k (retOf fl) { σ with n := σ'.n ++ σ.n } h' tk' ⟨σ'.n, rfl, pr, fun p hp q hq e => by have := (c'.N p (List.mem_append_right _ hp)).2.2; rw [e] at this; have h2 := c.get hq; change s.heap.get? q.1 = none at this; rw [h2] at this; cases this⟩
      (c.fresh c'.F.keep fun q hq => ⟨c'.get hq, (c'.N q (List.mem_append_right _ hq)).2.2⟩)
  refine wpAny_execs_cons (wpAny_Try_except (hw own s.heap s.heap.objs.size c O₁ [] _ _ _ c₁ (fun fl σ' h' tk' pr c' => ?_) fun e h' tk' hx' => ?_))
  · have := fin fl σ' h' tk' pr c'
    cases fl with
    | next => exact wpAny_execs_nil (wpAny_execs_nil this)
    | brk => exact this
    | cont => exact this
    | ret v => exact this
  · have hfr₁ : (Cal G s.heap fd s.heap.objs.size f).A.frames = some ((Cal G s.heap fd s.heap.objs.size f).env :: [G.env]) := Around.frames_deeper hfr
    refine caught (s := { s with heap := h', toks := tk' }) (outer₀ := [G.env]) O₁ hfr₁ rfl hx' ex (hx _) fun pN g h₆ E' cg up kp => ?_
    -- all that lived at the call
    have al : ∀ b o, s.heap.get? b = some o → b ≠ G.env.locals → h₆.get? b = some o := fun b o q n => kp b o (cg.F.keep b o q) fun hm => by
      simp only [framesOf, List.filterMap_cons, hf, List.filterMap_nil] at hm
      rcases List.mem_cons.mp hm with e' | hm
      · have := Heap.lt_size q; rw [e'] at this; exact absurd this (Nat.lt_irrefl _)
      · exact n (List.mem_singleton.mp hm)
    have upS : s.heap.UpToSlots h₆ := (Heap.UpToSlots.of_keeps cg.F.keep).trans up
    obtain ⟨oL, _, _, hoL, hdL, _⟩ := c.F.ns
    obtain ⟨slL, hL6⟩ := upS _ _ hoL fun vs q => by rw [hdL] at q; cases q
    have al6 : ∀ b o, s.heap.get? b = some o → ∃ o', h₆.get? b = some o' := fun b o q => by
      by_cases e' : b = G.env.locals
      · subst e'; exact ⟨_, hL6⟩
      · exact ⟨o, al b o q e'⟩
    let its := (List.range s.heap.objs.size).filter fun b => (s.heap.get? b).isSome
    have mi : ∀ b o, s.heap.get? b = some o → b ∈ its := fun b o q => List.mem_filter.mpr ⟨List.mem_range.mpr (Heap.lt_size q), by rw [q]; rfl⟩
    have im : ∀ b ∈ its, b < s.heap.objs.size := fun b hb => List.mem_range.mp (List.mem_filter.mp hb).1
    have c₃ : Cx (Cau (Cal G s.heap fd s.heap.objs.size f) e) (ownAt h₆ its) ⟨fun x => binds.reverse.lookup x, fun _ => none, []⟩ h₆ := by
      have gn : ∀ b, (({} : Heap)).get? b = none := fun b => rfl
      refine ⟨⟨up.ns cg.F.ns, fun b o q => (by rw [show (Cau (Cal G s.heap fd s.heap.objs.size f) e).h₀ = {} from rfl, gn] at q; cases q), Nat.zero_le _⟩, fun p hp => ?_, fun x a q => ?_, (fun p hp q hq => nomatch hq), fun p hp x a q => ?_⟩
      · have hp' := mem_ownAt (by simpa using hp)
        exact ⟨hp'.2, Nat.ne_of_lt (im _ hp'.1), gn _⟩
      · have : (callEnv fd s.heap.objs.size f).cells = [] := hc
        change (callEnv fd s.heap.objs.size f).cells.lookup x = some a at q
        rw [this] at q; cases q
      · have : (callEnv fd s.heap.objs.size f).cells = [] := hc
        change (callEnv fd s.heap.objs.size f).cells.lookup x = some a at q
        rw [this] at q; cases q
    refine hh pN s.heap s.heap.objs.size e (ownAt h₆ its) { s with heap := h₆, toks := tk' } _ _ c₃ fun fl σ' h₇ tk₇ pr c₇ => ?_
    have kp7 : ∀ b o o', s.heap.get? b = some o → h₆.get? b = some o' → h₇.get? b = some o' := fun b o o' q q' => (c₇.N (b, o') (List.mem_append_left _ (ownAt_mem (mi b o q) q'))).1
    have ap7 : ∀ p ∈ σ'.n, ∀ o, s.heap.get? p.1 = some o → False := fun p hp o q => by
      obtain ⟨o', q'⟩ := al6 _ _ q
      exact c₇.offO (p.1, o') (ownAt_mem (mi _ o q) q') p hp rfl
    have cb : Cx G own σ h₇ := c.back O (fun b o q n => by
      obtain ⟨sl, q'⟩ := upS b o q n
      exact ⟨sl, kp7 b o _ q q'⟩) fun b o q n => kp7 b o o q (al b o q n)
    have cf : Cx G own { σ with n := σ'.n ++ σ.n } h₇ := cb.more (fun p hp => ⟨c₇.get hp, fun e' => ap7 p hp oL (by rw [e']; exact hoL), by
      cases q : G.h₀.get? p.1 with
      | none => rfl
      | some o => exact (ap7 p hp o (c.F.keep _ _ q)).elim⟩) (fun p hp q hq e' => ap7 q hq p.2 (by rw [← e']; exact (c.N p (List.mem_append_left _ hp)).1)) fun p hp x a ha e' => by
      obtain ⟨o, ho, _⟩ := c.C x a ha
      exact ap7 p hp o (by rw [e']; exact ho)
    have := k (retOf fl) _ h₇ tk₇ ⟨σ'.n, rfl, pr, fun p hp q hq e' => ap7 p hp q.2 (by rw [e']; exact c.get hq)⟩ cf
    cases fl with
    | next => exact wpAny_execs_nil this
    | brk => exact this
    | cont => exact this
    | ret v => exact this
end
end Mine
open PySem PySem.W PySem.Calls PyProof.Rows
set_option Elab.async false
set_option maxRecDepth 100000
set_option maxHeartbeats 4000000
set_option linter.unusedVariables false
namespace Mine
section
variable {G : Gx} {σ : Sg} {d : Nat} {X : Led → Addr → Heap → Prop}

theorem tm_while {t : Expr} {body : List Stmt} {pos : Pos} {R : Flow → Sg → Prop} (Inv : Nat → Sg → Prop) (n₀ : Nat) (h0 : Inv n₀ σ)
    (turn : ∀ n σ₁, Inv n σ₁ → ∃ b, Tr G σ₁ (PySem.isTrue t G.env (eval t G.env)) (fun x => x = b) ∧ (b = true → Tm G σ₁ (execs body G.env) (fun f σ₂ => match f with
      | .next => ∃ m, m < n ∧ Inv m σ₂
      | .cont => ∃ m, m < n ∧ Inv m σ₂
      | .brk => R .next σ₂
      | .ret v => R (.ret v) σ₂)) ∧ (b = false → R .next σ₁)) : Tm G σ (exec (.While t body [] pos) G.env) R := fun own s Q E c k => by
  refine wpAny_While (codeAny_whileLoop (fun n s' => ∃ σ' h' tk', s' = { s with heap := h', toks := tk' } ∧ Cx G own σ' h' ∧ Inv n σ') ?_ n₀ ⟨σ, s.heap, s.toks, rfl, c, h0⟩)
  rintro n s' ⟨σ', h', tk', rfl, c', inv⟩
  obtain ⟨b, ht, h1, h2⟩ := turn n σ' inv
  refine ht own _ _ _ c' fun v h₁ t₁ e c₁ => ?_
  subst e
  cases v with
  | false => exact wpAny_execs_nil (k .next σ' h₁ t₁ (h2 rfl) c₁)
  | true =>
    refine h1 rfl own _ _ _ c₁ fun f σ₂ h₂ t₂ p c₂ => ?_
    cases f with
    | next => obtain ⟨m, hm, i⟩ := p; exact ⟨m, hm, σ₂, h₂, t₂, rfl, c₂, i⟩
    | cont => obtain ⟨m, hm, i⟩ := p; exact ⟨m, hm, σ₂, h₂, t₂, rfl, c₂, i⟩
    | brk => exact k .next σ₂ h₂ t₂ p c₂
    | ret v => exact k (.ret v) σ₂ h₂ t₂ p c₂

/-- x, y = a tuple -/
theorem tm_assign2 (O : Ok G d) {x y : Str} {p q tp pos : Pos} {n : Nat} {e : Expr} {T : Addr} {a b : Value} {R : Flow → Sg → Prop} (he : Tr G σ (eval e G.env) (IsV (.ref T))) (hT : Ent G σ (fun h => h.IsTuple T #[a, b])) (hr : R .next { σ with m := put (put σ.m x a) y b })
    (hx : G.env.kindOf x = some .local := by rfl) (hy : G.env.kindOf y = some .local := by rfl)
    (hs : swapsWithSole [.Tuple [.Name x p, .Name y q] n tp] e pos.line G.env = pure false := by rfl) (hw : swappedStores [.Tuple [.Name x p, .Name y q] n tp] e G.env = pure none := by rfl) :
    Tm G σ (exec (.Assign [.Tuple [.Name x p, .Name y q] n tp] e pos) G.env) R := fun own s Q E c k =>
  Assign_Tuple (he own s _ E c fun v h₁ t₁ ev c₁ => by
    subst ev
    exact to_tuple2 O (s := { s with heap := h₁, toks := t₁ }) c₁ (hT own _ c₁) hx hy (k := fun h' tk' c' => k .next _ h' tk' hr c')) hs hw

theorem tr_isNone {v u : Value} (hu : u = .none) (hp : plainIs v .none = true) : Tr G σ (compareOp .Is v u) (IsB (v == .none)) := by
  subst hu; exact fun _ s _ _ c k => wpAny_is_plain hp (k _ s.heap s.toks rfl c)

/-- t.startswith(x) -/
theorem tr_starts {pl : Sem Bool} {o e : Expr} {apos pos : Pos} {x y : Str} (ho : Tr G σ (eval o G.env) (IsS x)) (he : Tr G σ (eval e G.env) (IsS y))
    (hq : eval (.Call (.Attribute o "startswith" apos) [e] [] pos) G.env = (do
          let ov ← eval o G.env
          standAt apos.atName
          let (f, first) ← holding [ov] (getMethod ov "startswith" pl)
          callWith pos f first (backTo pos (starEach [e] G.env)) []) := by rfl)
    (hs : starEach [e] G.env = [(false, eval e G.env)] := by rfl) : Tr G σ (eval (.Call (.Attribute o "startswith" apos) [e] [] pos) G.env) (IsB (decide (lw y <+: lw x))) :=
  Tm.r (tm_methB (P₂ := fun v vs σ' => σ' = σ ∧ (∃ t, v = .str x t) ∧ ∃ u, vs = [u] ∧ IsS y u) F.plainAttrs_str F.slot_str_startswith F.type_str_startswith ho.m
    (fun v σ' own s pv c => by obtain ⟨rfl, t, rfl⟩ := pv; exact ⟨typeIs_str _ _ _, fun a e => nomatch e⟩)
    (fun v σ' pv => by obtain ⟨rfl, t, rfl⟩ := pv; exact (tr_arg1 he hs).m.mono fun vs σ' p => ⟨p.1, ⟨t, rfl⟩, p.2⟩)
    (fun v vs σ' p => by
      obtain ⟨rfl, ⟨t, rfl⟩, u, rfl, ⟨t', rfl⟩⟩ := p
      exact fun own s Q E c k => SC.startswith (k _ _ s.heap s.toks ⟨rfl, by rw [starts_iff]⟩ c)) hq (by rw [hs]; rfl) rfl)

/-- v in x, x[i], len(x) of an instance -/
theorem tr_inK (O : Ok G d) {x C dx f : Addr} {es : List DictEntry} {n : Nat} {v u : Value} {b : Bool} (hi : Ent G σ (fun h => InstIn h x C dx es n)) (hs : findIn G.K (.ref C) "__contains__" = some (some (.ref f))) (hf : isFn G.K (.ref f) = true)
    (hu : u = .ref x) (hc : Tr G σ (call (.ref f) [.ref x, v]) (IsB b)) : Tr G σ (compareOp .In v u) (IsB b) := by
  subst hu
  exact fun own s Q E c k => in_K (L := G.env.locals) (m := σ.m) c.F O.X (hi own _ c).at hs hf (hc own s _ E c fun r h₁ t₁ e c₁ => by subst e; exact wpAny_truthy_bool (k _ h₁ t₁ rfl c₁))
theorem Xc.un {N : Prop} {A : Around} {own : Led} {e : Addr} {h : Heap} (hf : A.frames = G.A.frames) (x : Xc (G.at A) σ N own e h) : Xc G σ N own e h := by
  obtain ⟨pN, g, B, a0, base, outer, c, K, r⟩ := x
  exact ⟨pN, g, B, a0, base, outer, c.un, ⟨hf.symm.trans K.stack, K.stays, K.frames⟩, r⟩
theorem tq_subK {N : Prop} (O : Ok G d) {ve ie : Expr} {x C dx f : Addr} {es : List DictEntry} {n : Nat} {v i : Value} {R : Value → Sg → Prop} (hi : Ent G σ (fun h => InstIn h x C dx es n)) (hs : findIn G.K (.ref C) "__getitem__" = some (some (.ref f))) (hf : fnIn G.K f = true) (hfn : isFn G.K (.ref f) = true)
    (hv : v = .ref x) (hc : Tq (G.at G.A.in1) σ (Xc (G.at G.A.in1) σ N) (call (.ref f) [.ref x, i]) R) (hsl : subscripted ie true (.ref x) i = runValue (.builtin "lifetime.subscript" ⟨[.ref x, i], []⟩) := by with_unfolding_all rfl) : Tq G σ (Xc G σ N) (subscriptTail ve ie v i) R := by
  subst hv
  exact fun own s Q E c k kx => sub_K (L := G.env.locals) (m := σ.m) c.F O.X (hi own _ c).at hs hf hfn (hc own s Q E (c.at _) (fun v σ' h' tk' p c' => k v σ' h' tk' p c'.un) fun e h' tk' x => kx e h' tk' (Xc.un (by rfl) x)) hsl
theorem tm_subK (O : Ok G d) {ve ie : Expr} {x C dx f : Addr} {es : List DictEntry} {n : Nat} {v i : Value} {R : Value → Sg → Prop} (hi : Ent G σ (fun h => InstIn h x C dx es n)) (hs : findIn G.K (.ref C) "__getitem__" = some (some (.ref f))) (hf : fnIn G.K f = true) (hfn : isFn G.K (.ref f) = true)
    (hv : v = .ref x) (hc : Tm (G.at G.A.in1) σ (call (.ref f) [.ref x, i]) R) (hsl : subscripted ie true (.ref x) i = runValue (.builtin "lifetime.subscript" ⟨[.ref x, i], []⟩) := by with_unfolding_all rfl) : Tm G σ (subscriptTail ve ie v i) R := by
  subst hv
  exact fun own s Q E c k => sub_K (L := G.env.locals) (m := σ.m) c.F O.X (hi own _ c).at hs hf hfn (hc own s Q E (c.at _) (fun v σ' h' tk' p c' => k v σ' h' tk' p c'.un)) hsl
theorem tr_lenK (O : Ok G d) {x C dx f : Addr} {es : List DictEntry} {n : Nat} {m : Nat} (hi : Ent G σ (fun h => InstIn h x C dx es n)) (hs : findIn G.K (.ref C) "__len__" = some (some (.ref f))) (hf : isFn G.K (.ref f) = true)
    (hc : Tr (G.at G.A.in1) σ (call (.ref f) [.ref x]) (IsI m)) (hm : (m : Int) < 2 ^ 63) : Tr G σ (call (.builtin "len") [.ref x]) (IsI m) := fun own s Q E c k =>
  len_K (L := G.env.locals) (m := σ.m) c.F O.X (hi own _ c).at hs hf (hc own s _ E (c.at _) fun r h₁ t₁ ⟨t, e⟩ c₁ => by subst e; exact ⟨⟨by omega, hm⟩, k _ h₁ _ ⟨_, rfl⟩ c₁.un⟩)

/-- what a call made, and no one wants -/
theorem Tq.tr {α : Type} {t : Sem α} {P : α → Prop} (h : Tq G σ X t (fun v σ' => ∃ nw, σ' = { σ with n := nw ++ σ.n } ∧ P v)) : Tq G σ X t (fun v σ' => σ' = σ ∧ P v) := fun own s Q E c k x =>
  h own s Q E c (fun v σ' h' tk' ⟨nw, e, p⟩ c' => by subst e; exact k v σ h' tk' ⟨rfl, p⟩ c'.drop) x
theorem tr_callK (O : Ok G d) {x : Str} {np pos : Pos} {f : Addr} {e : Expr} {rest : List Expr} {P : List Value → Prop} {R : Value → Prop} (hf : Tr G σ (eval (.Name x np) G.env) (IsV (.ref f))) (hk : keepIn G.K (.ref f) = true)
    (ha : Tr G σ (spliced (backTo pos (starEach (e :: rest) G.env))) P) (hc : ∀ vs, P vs → Tr G σ (call (.ref f) vs) R)
    (he : starEach (e :: rest) G.env = (false, eval e G.env) :: starEach rest G.env := by rfl) (hp : (backTo pos (starEach rest G.env)).any (·.1) = false := by rfl) : Tr G σ (eval (.Call (.Name x np) (e :: rest) [] pos) G.env) R :=
  Tm.r (tm_callK O hf hk ha.m (fun vs σ' p => by obtain ⟨rfl, p⟩ := p; exact (hc vs p).m) he hp)
theorem tr_methI {pl : Sem Bool} (O : Ok G d) {o : Expr} {name : Str} {apos pos : Pos} {e : Expr} {rest : List Expr} {x C dx f : Addr} {es : List DictEntry} {n : Nat} {P : List Value → Prop} {R : Value → Prop} (ho : Tr G σ (eval o G.env) (IsV (.ref x))) (hi : Ent G σ (fun h => InstIn h x C dx es n))
    (hg : plainGet G.K C name = true) (hf : findIn G.K (.ref C) name = some (some (.ref f))) (ht : isFn G.K (.ref f) = true) (hl : getL name es = some none) (hk : keepIn G.K (.ref f) = true)
    (ha : Tr G σ (spliced (backTo pos (starEach (e :: rest) G.env))) P) (hc : ∀ vs, P vs → Tr G σ (call (.ref f) (.ref x :: vs)) R)
    (hq : eval (.Call (.Attribute o name apos) (e :: rest) [] pos) G.env = (do
          let ov ← eval o G.env
          standAt apos.atName
          let (f, first) ← holding [ov] (getMethod ov name pl)
          callWith pos f first (backTo pos (starEach (e :: rest) G.env)) []) := by rfl)
    (he : starEach (e :: rest) G.env = (false, eval e G.env) :: starEach rest G.env := by rfl) (hp : (backTo pos (starEach rest G.env)).any (·.1) = false := by rfl) :
    Tr G σ (eval (.Call (.Attribute o name apos) (e :: rest) [] pos) G.env) R :=
  Tm.r (tm_methI O ho hi hg hf ht hl hk ha.m (fun vs σ' p => by obtain ⟨rfl, p⟩ := p; exact (hc vs p).m) hq he hp)
end
end Mine
open PySem PySem.W PySem.Calls PyProof.Rows
set_option Elab.async false
set_option maxRecDepth 100000
set_option maxHeartbeats 4000000
set_option linter.unusedVariables false
namespace Mine
section
variable {G : Gx} {σ : Sg} {d : Nat} {X : Led → Addr → Heap → Prop}

/-- xs[:k] -/
theorem tm_cutList {ve e : Expr} {p pos : Pos} {l : Addr} {vs : List Value} {k : Nat} (hv : Tr G σ (eval ve G.env) (IsV (.ref l))) (hl : Ent G σ (fun h => h.IsList l vs.toArray)) (he : Tr G σ (eval e G.env) (IsI k)) (hz : vs.length ≤ 1000000)
    (ht : ∀ o r, letTemporaryGo ve o r = pure () := by intro _ _; rfl) :
    Tm G σ (eval (.Subscript ve (.Slice none (some e) none p) pos) G.env) (fun v σ' => ∃ l', v = .ref l' ∧ σ' = { σ with n := (l', listOf (vs.take k).toArray 0) :: σ.n } ∧ ∀ p ∈ σ.n, p.1 ≠ l') := fun own s Q E c q => by
  refine wpAny_Subscript_list_slice (hv own s _ E c fun v h₁ t₁ ev c₁ => evalPart_none_step (evalPart_some_step (he own _ _ E c₁ fun u h₂ t₂ ⟨t, eu⟩ c₂ => ?_))) ht
  subst ev; subst eu
  refine ⟨l, vs.toArray, none, some (k : Int), rfl, hl own _ c₂, by rw [sizeLine_eq]; simp; omega, .none, .int _ t, ?_⟩
  have e1 : slicePick vs.toArray none (some (k : Int)) none = (vs.take k).toArray := slicePick_upto' vs.toArray k
  rw [e1]
  have c₃ := (c₂.push { cls := .type "slice", data := .fields #[.none, .int k t, .none] }).pushN (listOf (vs.take k).toArray 0)
  rw [Heap.size_push] at c₃
  refine q _ _ _ _ ⟨_, rfl, rfl, fun p hp e => ?_⟩ c₃
  have := c₂.get hp
  rw [e, none_above (Nat.le_succ _)] at this
  cases this

/-- xs + ys -/
theorem tm_addList {l b : Addr} {vs us : List Value} {n n' : Nat} {u v : Value} (h1 : Ent G σ (fun h => h.get? l = some (listOf vs.toArray n))) (h2 : Ent G σ (fun h => h.get? b = some (listOf us.toArray n'))) (hu : u = .ref l) (hv : v = .ref b) (hz : vs.length + us.length ≤ 1000000) :
    Tm G σ (binaryOp .Add u v) (fun r σ' => ∃ l', r = .ref l' ∧ σ' = { σ with n := (l', listOf (vs ++ us).toArray 0) :: σ.n } ∧ ∀ p ∈ σ.n, p.1 ≠ l') := fun own s Q E c q => by
  subst hu; subst hv
  have e1 : vs.toArray ++ us.toArray = (vs ++ us).toArray := by simp
  refine PySem.P.add_list (h1 own _ c) (h2 own _ c) ?_ (by rw [sizeLine_eq]; simp; omega)
  rw [e1]
  exact q _ _ _ _ ⟨_, rfl, rfl, fun p hp e => by have := c.get hp; rw [e, get_size] at this; cases this⟩ (c.pushN (listOf (vs ++ us).toArray 0))

theorem tr_eqInts {a b : Addr} {vs us : List Value} {ns ms : List Int} {u v : Value} (hl : Ent G σ (fun h => h.IsList a vs.toArray)) (hi : IntsAre vs ns) (hl' : Ent G σ (fun h => h.IsList b us.toArray)) (hi' : IntsAre us ms) (hu : G.A.units + 64 < cLine) (e1 : u = .ref a) (e2 : v = .ref b) : Tr G σ (compareOp .Eq u v) (IsB (decide (ns = ms))) := by
  subst e1; subst e2
  exact fun own s Q E c k => eq_intsK (hl own _ c) hi (hl' own _ c) hi' hu (k _ s.heap s.toks rfl c)
theorem tr_neInts {a b : Addr} {vs us : List Value} {ns ms : List Int} {u v : Value} (hl : Ent G σ (fun h => h.IsList a vs.toArray)) (hi : IntsAre vs ns) (hl' : Ent G σ (fun h => h.IsList b us.toArray)) (hi' : IntsAre us ms) (hu : G.A.units + 64 < cLine) (e1 : u = .ref a) (e2 : v = .ref b) : Tr G σ (compareOp .NotEq u v) (IsB (!decide (ns = ms))) := by
  subst e1; subst e2
  exact fun own s Q E c k => ne_intsK (hl own _ c) hi (hl' own _ c) hi' hu (k _ s.heap s.toks rfl c)
theorem tr_sumInts (O : Ok G d) {l : Addr} {vs : List Value} {ns : List Int} (hl : Ent G σ (fun h => h.IsList l vs.toArray)) (hi : IntsAre vs ns) : Tr G σ (call (.builtin "sum") [.ref l]) (fun v => ∃ z, IsI z v) := fun own s Q E c k => by
  obtain ⟨xs, hx⟩ := hi.allInts.items
  have hl' : s.heap.IsList l (intItems xs) := hx ▸ hl own _ c
  exact sum_intListG O.hh hl' fun h' tk t' hk => k _ h' _ ⟨_, t', rfl⟩ (c.keep hk)
theorem tr_truthyList {l : Addr} {its : Array Value} {v : Value} (hl : Ent G σ (fun h => h.IsList l its)) (hz : its.size ≤ 1000000) (e : v = .ref l) : Tr G σ (truthy v) (fun x => x = !its.isEmpty) := by
  subst e
  exact fun own s Q E c k => wpAny_truthy_list (hl own _ c) (by omega) (k _ s.heap _ rfl c)

/-- d.get(k, e) -/
theorem tm_dictGet2 {pl : Sem Bool} {o e f : Expr} {apos pos : Pos} {D : Addr} {kvs : List (Str × Value)} {x : Str} {P : Value → Sg → Prop} {R : Value → Sg → Prop} (ho : Tr G σ (eval o G.env) (IsV (.ref D))) (he : Tr G σ (eval e G.env) (IsS x)) (hf : Tm G σ (eval f G.env) P)
    (hd : ∀ v σ', P v σ' → Ent G σ' (fun h => h.DictOf (SK G) D kvs)) (hd₀ : Ent G σ (fun h => h.DictOf (SK G) D kvs)) (hlo : (D == sysModules) = false) (hr : ∀ v σ', P v σ' → R ((valueAt kvs x).getD v) σ')
    (hq : eval (.Call (.Attribute o "get" apos) [e, f] [] pos) G.env = (do
          let ov ← eval o G.env
          standAt apos.atName
          let (f', first) ← holding [ov] (getMethod ov "get" pl)
          callWith pos f' first (backTo pos (starEach [e, f] G.env)) []) := by rfl)
    (hs : starEach [e, f] G.env = (false, eval e G.env) :: starEach [f] G.env := by rfl) (hs1 : starEach [f] G.env = (false, eval f G.env) :: starEach [] G.env := by rfl) :
    Tm G σ (eval (.Call (.Attribute o "get" apos) [e, f] [] pos) G.env) R :=
  tm_methB (P₂ := fun v vs σ' => v = .ref D ∧ ∃ t u, vs = [.str x t, u] ∧ P u σ') F.plainAttrs_dict F.slot_dict_get F.type_dict_get ho.m
    (fun v σ' own s p c => by obtain ⟨rfl, rfl⟩ := p; exact ⟨(hd₀ own _ c).typeIs, (hd₀ own _ c).mapOf.noDict⟩)
    (fun v σ' p => by
      obtain ⟨rfl, rfl⟩ := p
      refine tm_arg he.m (fun v σ' p => ?_) hs
      obtain ⟨rfl, t, rfl⟩ := p
      refine tm_arg hf (fun u σ' pu => ?_) hs1
      exact Tm.mono tr_args0.m fun vs σ'' q => by obtain ⟨rfl, rfl⟩ := q; exact ⟨rfl, t, u, rfl, pu⟩)
    (fun v vs σ' p => by
      obtain ⟨rfl, t, u, rfl, pu⟩ := p
      exact fun own s Q E c k => by
        have hD := hd u σ' pu own _ c
        exact call_meetsIn PySem.F.slot_dict_get hD.typeIs PySem.F.entry_dict_get (PySem.F.args_dict_get_3 _ _ _) (meets_dict_get_default (SK G) D (k := x) (strKind_is _ _ x t) hlo u) ⟨_, hD.mapOf, k _ _ s.heap _ (hr u σ' pu) c⟩) hq hs (by rw [hs1]; rfl)

theorem strs_values {vs : List Value} {ss : List Str} (h : StrsAre vs ss) : ∃ l : List (Str × Tok), vs = strValues l ∧ l.map (·.1) = ss := by
  induction h with
  | nil => exact ⟨[], rfl, rfl⟩
  | cons k t _ ih => obtain ⟨l, e1, e2⟩ := ih; exact ⟨(k, t) :: l, by rw [e1]; rfl, by rw [List.map_cons, e2]⟩
theorem joinOk_small {ss : List Str} (h : (ss.map (·.length)).sum ≤ 1000000) : JoinOk "" ss = true := by
  unfold JoinOk
  rw [StrLaws.joinTotal]
  have e0 : (Str.length ("" : Str)) = 0 := by decide
  rw [e0, Nat.mul_zero, Nat.add_zero, Bool.not_eq_true']
  exact decide_eq_false (by rw [sizeLine_eq]; omega)
theorem lw_join : ∀ ss : List Str, lw (Str.join "" ss) = (ss.map lw).flatten
  | [] => rfl
  | [x] => by simp [Str.join]
  | x :: y :: r => by
    have := lw_join (y :: r)
    show lw (x ++ "" ++ Str.join "" (y :: r)) = _
    rw [lw_append, lw_append, this, show lw ("" : Str) = [] from by decide]
    simp
theorem lw_tjoin (ss : List Str) : lw (Txt.join "" ss) = (ss.map lw).flatten := by
  unfold Txt.join
  rw [StrLaws.glued_eq_join]
  exact lw_join ss
/-- ''.join(xs) -/
theorem tr_join {pl : Sem Bool} {o e : Expr} {apos pos : Pos} {l : Addr} {vs : List Value} {ss : List Str} (ho : Tr G σ (eval o G.env) (IsS "")) (he : Tr G σ (eval e G.env) (IsV (.ref l))) (hl : Ent G σ (fun h => h.IsList l vs.toArray)) (hs' : StrsAre vs ss) (hz : (ss.map (·.length)).sum ≤ 1000000)
    (hq : eval (.Call (.Attribute o "join" apos) [e] [] pos) G.env = (do
          let ov ← eval o G.env
          standAt apos.atName
          let (f, first) ← holding [ov] (getMethod ov "join" pl)
          callWith pos f first (backTo pos (starEach [e] G.env)) []) := by rfl)
    (hs : starEach [e] G.env = [(false, eval e G.env)] := by rfl) : Tr G σ (eval (.Call (.Attribute o "join" apos) [e] [] pos) G.env) (IsS (Txt.join "" ss)) :=
  Tm.r (tm_methB (P₂ := fun v vs' σ' => σ' = σ ∧ (∃ t, v = .str "" t) ∧ vs' = [.ref l]) F.plainAttrs_str F.slot_str_join F.type_str_join ho.m
    (fun v σ' own s pv c => by obtain ⟨rfl, t, rfl⟩ := pv; exact ⟨typeIs_str _ _ _, fun a e => nomatch e⟩)
    (fun v σ' pv => by obtain ⟨rfl, t, rfl⟩ := pv; exact (tr_arg1 he hs).m.mono fun vs σ' p => by obtain ⟨rfl, u, rfl, rfl⟩ := p; exact ⟨rfl, ⟨t, rfl⟩, rfl⟩)
    (fun v vs' σ' p => by
      obtain ⟨rfl, ⟨t, rfl⟩, rfl⟩ := p
      obtain ⟨lt, e1, e2⟩ := strs_values hs'
      exact fun own s Q E c k => SC.join (l := lt) (by rw [← e1]; exact hl own _ c) e2 (joinOk_small hz) fun t' k' => k _ _ s.heap _ ⟨rfl, t', rfl⟩ c) hq (by rw [hs]; rfl) rfl)

theorem tm_list1 {e : Expr} {pos : Pos} {P : Value → Prop} (he : Tr G σ (eval e G.env) P) (hs : starEach [e] G.env = [(false, eval e G.env)] := by rfl) :
    Tm G σ (eval (.List [e] pos) G.env) (fun v σ' => ∃ l x, v = .ref l ∧ P x ∧ σ' = { σ with n := (l, listOf [x].toArray 0) :: σ.n } ∧ ∀ p ∈ σ.n, p.1 ≠ l) :=
  tm_list (tr_arg1 he hs).m (fun vs σ' l p ap => by obtain ⟨rfl, x, rfl, px⟩ := p; exact ⟨l, x, rfl, px, rfl, ap⟩) (by simp) fun vs σ' p => by obtain ⟨rfl, x, rfl, px⟩ := p; simp
theorem tm_list0 {pos : Pos} : Tm G σ (eval (.List [] pos) G.env) (fun v σ' => ∃ l, v = .ref l ∧ σ' = { σ with n := (l, listOf ([] : List Value).toArray 0) :: σ.n } ∧ ∀ p ∈ σ.n, p.1 ≠ l) :=
  tm_list tr_args0.m (fun vs σ' l p ap => by obtain ⟨rfl, rfl⟩ := p; exact ⟨l, rfl, rfl, ap⟩) (by simp) fun vs σ' p => by obtain ⟨rfl, rfl⟩ := p; simp
theorem tm_dictNew (O : Ok G d) {pos : Pos} : Tm G σ (eval (.Dict [] [] pos) G.env) (fun v σ' => ∃ a o, v = .ref a ∧ σ' = { σ with n := (a, o) :: σ.n } ∧ o.IsDictOf (SK G) [] ∧ (a == sysModules) = false ∧ ∀ p ∈ σ.n, p.1 ≠ a) :=
  tm_dict0 O fun a o h1 h2 ap => ⟨a, o, rfl, rfl, h1, h2, ap⟩
end
end Mine
open PySem PySem.W PySem.Calls PyProof.Rows
set_option Elab.async false
set_option maxRecDepth 100000
set_option maxHeartbeats 4000000
set_option linter.unusedVariables false
namespace Mine
section
variable {G : Gx} {σ : Sg} {d : Nat}
theorem tr_testNot {e : Expr} {pos : Pos} {whole : Sem Value} {b : Bool} (h : Tr G σ (PySem.isTrue e G.env (eval e G.env)) (fun x => x = b)) : Tr G σ (PySem.isTrue (.UnaryOp .Not e pos) G.env whole) (fun x => x = !b) := fun own s Q E c k =>
  wpAny_isTrue_Not (h own s _ E c fun v h₁ t₁ e c₁ => by subst e; exact k _ h₁ t₁ rfl c₁)
theorem tr_testCmpN {l r : Expr} {op : CmpOp} {pos : Pos} {whole : Sem Value} {Pa : Value → Led → Prop} {Pb : Value → Value → Led → Prop} {b : Bool} (hl : Tm G σ (eval l G.env) (fun v σ' => ∃ nw, σ' = { σ with n := nw ++ σ.n } ∧ Pa v nw))
    (hr : ∀ a nw, Pa a nw → Tm G { σ with n := nw ++ σ.n } (eval r G.env) (fun v σ' => ∃ nw2, σ' = { σ with n := nw2 ++ σ.n } ∧ Pb a v nw2))
    (ho : ∀ x y nw, Pb x y nw → Tr G { σ with n := nw ++ σ.n } (compareOp op x y) (IsB b)) (hm : behindInMarks op r = false := by rfl) : Tr G σ (PySem.isTrue (.Compare l [op] [r] pos) G.env whole) (fun x => x = b) := fun own s Q E c k =>
  wpAny_isTrue_Compare1 (hl own s _ E c fun a σ₁ h₁ t₁ ⟨nw, e, pa⟩ c₁ => by
    subst e
    exact hr a nw pa own _ _ E c₁ fun y σ₂ h₂ t₂ ⟨nw2, e2, pb⟩ c₂ => by
      subst e2
      exact ho a y nw2 pb own _ _ E c₂ fun v h₃ t₃ pv c₃ => by subst pv; exact wpAny_truthy_bool (k _ h₃ t₃ rfl c₃.drop)) hm
theorem lookup_all {cl : List (Str × Addr)} {f : Str → Option Addr} (h : ∀ p ∈ cl, f p.1 = some p.2) : ∀ x a, cl.lookup x = some a → f x = some a := by
  intro x a e
  induction cl with
  | nil => cases e
  | cons p r ih =>
    rw [List.lookup_cons] at e
    split at e
    · rename_i hb
      cases e
      rw [eq_of_beq hb]
      exact h p (.head _)
    · exact ih (fun q hq => h q (.tail _ hq)) e
def szs (pr : Nat → Bool) (j : Nat) : List Int := ((List.range j).filter fun i => pr (i + 1)).map fun i => ((i + 1 : Nat) : Int)
theorem szs_succ (pr : Nat → Bool) (j : Nat) : szs pr (j + 1) = szs pr j ++ if pr (j + 1) = true then [((j + 1 : Nat) : Int)] else [] := by
  unfold szs
  rw [List.range_succ, List.filter_append, List.map_append]
  congr 1
  by_cases h : pr (j + 1) = true
  · rw [if_pos h, List.filter_cons_of_pos (p := fun i => pr (i + 1)) h]; rfl
  · rw [if_neg h, List.filter_cons_of_neg (p := fun i => pr (i + 1)) h]; rfl
theorem szs_congr {pr pr' : Nat → Bool} {j : Nat} (h : ∀ s, 1 ≤ s → s ≤ j → pr s = pr' s) : szs pr j = szs pr' j := by
  induction j with
  | zero => rfl
  | succ j ih => rw [szs_succ, szs_succ, ih (fun s a b => h s a (by omega)), h (j + 1) (by omega) (Nat.le_refl _)]
theorem szs_len (pr : Nat → Bool) (j : Nat) : (szs pr j).length ≤ j := by
  unfold szs
  rw [List.length_map]
  exact Nat.le_trans (List.length_filter_le _ _) (by simp)
theorem tr_lenGet {pl : Sem Bool} (O : Ok G d) {np pos apos p₁ lp : Pos} {o e : Expr} {D : Addr} {kvs : List (Str × Value)} {x : Str} {m : Nat} (hn : nsIn G.K mainGlobals "len" = some none) (hg : G.env.kindOf "len" = some .globalImplicit) (ho : Tr G σ (eval o G.env) (IsV (.ref D))) (he : Tr G σ (eval e G.env) (IsS x)) (hd : Ent G σ (fun h => h.DictOf (SK G) D kvs)) (hd' : ∀ nw, Ent G { σ with n := nw ++ σ.n } (fun h => h.DictOf (SK G) D kvs)) (hlo : (D == sysModules) = false) (hm : m ≤ 1000000)
    (h0 : valueAt kvs x = none → m = 0) (h1 : ∀ v, valueAt kvs x = some v → ∃ l us, v = .ref l ∧ us.length = m ∧ ∀ nw, Ent G { σ with n := nw ++ σ.n } (fun h => h.IsList l (List.toArray us)))
    (hq : eval (.Call (.Attribute o "get" apos) [e, .List [] lp] [] p₁) G.env = (do
          let ov ← eval o G.env
          standAt apos.atName
          let (f', first) ← holding [ov] (getMethod ov "get" pl)
          callWith p₁ f' first (backTo p₁ (starEach [e, .List [] lp] G.env)) []) := by rfl)
    (hs : starEach [e, .List [] lp] G.env = (false, eval e G.env) :: starEach [.List [] lp] G.env := by rfl) (hs1 : starEach [.List [] lp] G.env = (false, eval (.List [] lp) G.env) :: starEach [] G.env := by rfl)
    (hs2 : starEach [.Call (.Attribute o "get" apos) [e, .List [] lp] [] p₁] G.env = (false, eval (.Call (.Attribute o "get" apos) [e, .List [] lp] [] p₁) G.env) :: starEach [] G.env := by rfl) :
    Tr G σ (eval (.Call (.Name "len" np) [.Call (.Attribute o "get" apos) [e, .List [] lp] [] p₁] [] pos) G.env) (IsI m) := by
  refine Tm.tr (tm_callB (P := fun vs σ' => ∃ nw l us, vs = [.ref l] ∧ σ' = { σ with n := nw ++ σ.n } ∧ Ent G σ' (fun h => h.IsList l (List.toArray us)) ∧ us.length = m) (tr_blt O (v := .builtin "len") hn (by decide +kernel) (by decide) hg)
    (tm_arg (P := fun v σ' => ∃ nw l us, v = .ref l ∧ σ' = { σ with n := nw ++ σ.n } ∧ Ent G σ' (fun h => h.IsList l (List.toArray us)) ∧ us.length = m)
      (tm_dictGet2 (P := fun v σ' => ∃ l, v = .ref l ∧ σ' = { σ with n := [(l, listOf ([] : List Value).toArray 0)] ++ σ.n }) ho he (Tm.mono tm_list0 fun v σ' ⟨l, h1, h2, _⟩ => ⟨l, h1, h2⟩) (fun v σ' p => ?_) hd hlo (fun v σ' p => ?_) hq hs hs1) (fun v σ' p => ?_) hs2) (fun vs σ' p => ?_) hs2 rfl)
  · obtain ⟨l, rfl, rfl⟩ := p
    exact hd' _
  · obtain ⟨l, rfl, rfl⟩ := p
    cases hv : valueAt kvs x with
    | none => exact ⟨_, l, [], rfl, rfl, ent_list (.head _), (h0 hv).symm⟩
    | some u =>
      obtain ⟨l', us, rfl, hl, hE⟩ := h1 u hv
      exact ⟨_, l', us, rfl, rfl, hE _, hl⟩
  · obtain ⟨nw, l, us, rfl, rfl, hE, hl⟩ := p
    exact Tm.mono (Tr.m tr_args0) fun vs σ'' q => by obtain ⟨rfl, rfl⟩ := q; exact ⟨nw, l, us, rfl, rfl, hE, hl⟩
  · obtain ⟨nw, l, us, rfl, rfl, hE, hl⟩ := p
    refine Tm.mono (Tr.m (tr_len_list hE (by simp; omega))) fun v σ'' q => ?_
    obtain ⟨rfl, q⟩ := q
    refine ⟨nw, rfl, ?_⟩
    rw [← hl]; simpa using q
end
end Mine
open PySem PySem.W PySem.Calls PyProof.Rows
set_option Elab.async false
set_option maxRecDepth 100000
set_option maxHeartbeats 4000000
set_option linter.unusedVariables false
namespace Mine
section
variable {G : Gx} {σ : Sg} {d : Nat}
theorem tr_cmpN {l r : Expr} {op : CmpOp} {pos : Pos} {Pa : Value → Led → Prop} {Pb : Value → Value → Led → Prop} {R : Value → Prop} (hl : Tm G σ (eval l G.env) (fun v σ' => ∃ nw, σ' = { σ with n := nw ++ σ.n } ∧ Pa v nw))
    (hr : ∀ a nw, Pa a nw → Tm G { σ with n := nw ++ σ.n } (eval r G.env) (fun v σ' => ∃ nw2, σ' = { σ with n := nw2 ++ σ.n } ∧ Pb a v nw2))
    (ho : ∀ x y nw, Pb x y nw → Tr G { σ with n := nw ++ σ.n } (compareOp op x y) R) (hm : behindInMarks op r = false := by rfl) : Tr G σ (eval (.Compare l [op] [r] pos) G.env) R := fun own s Q E c k =>
  wpAny_Compare1 (hl own s _ E c fun a σ₁ h₁ t₁ ⟨nw, e, pa⟩ c₁ => by
    subst e
    exact hr a nw pa own _ _ E c₁ fun y σ₂ h₂ t₂ ⟨nw2, e2, pb⟩ c₂ => by
      subst e2
      exact ho a y nw2 pb own _ _ E c₂ fun v h₃ t₃ pv c₃ => k v h₃ t₃ pv c₃.drop) hm
/-- sum(xs[:k]) -/
theorem tr_sumCut (O : Ok G d) {np pos p q : Pos} {ve e : Expr} {l : Addr} {vs : List Value} {ns : List Int} {k : Nat} (hn : nsIn G.K mainGlobals "sum" = some none) (hg : G.env.kindOf "sum" = some .globalImplicit) (hv : Tr G σ (eval ve G.env) (IsV (.ref l))) (hl : Ent G σ (fun h => h.IsList l vs.toArray)) (hi : IntsAre vs ns) (he : Tr G σ (eval e G.env) (IsI k)) (hz : vs.length ≤ 1000000)
    (ht : ∀ o r, letTemporaryGo ve o r = pure () := by intro _ _; rfl)
    (hs : starEach [.Subscript ve (.Slice none (some e) none p) q] G.env = (false, eval (.Subscript ve (.Slice none (some e) none p) q) G.env) :: starEach [] G.env := by rfl) :
    Tr G σ (eval (.Call (.Name "sum" np) [.Subscript ve (.Slice none (some e) none p) q] [] pos) G.env) (fun v => ∃ z, IsI z v) := by
  refine Tm.tr (tm_callB (P := fun vs' σ' => ∃ l', vs' = [.ref l'] ∧ σ' = { σ with n := [(l', listOf (vs.take k).toArray 0)] ++ σ.n }) (tr_blt O (v := .builtin "sum") hn (by decide +kernel) (by decide) hg)
    (tm_arg (tm_cutList hv hl he hz ht) (fun v σ' p => ?_) hs) (fun vs' σ' p => ?_) hs rfl)
  · obtain ⟨l', rfl, rfl, _⟩ := p
    exact Tm.mono (Tr.m tr_args0) fun vs σ'' q => by obtain ⟨rfl, rfl⟩ := q; exact ⟨l', rfl, rfl⟩
  · obtain ⟨l', rfl, rfl⟩ := p
    exact Tm.mono (Tr.m (tr_sumInts O (ent_list (.head _)) (hi.take k))) fun v σ'' q => ⟨_, q.1, q.2⟩
end
end Mine
open PySem PySem.W PySem.Calls PyProof.Rows
set_option Elab.async false
set_option maxRecDepth 100000
set_option maxHeartbeats 4000000
set_option linter.unusedVariables false
namespace Mine
noncomputable abbrev KK (w : World) : Frag := hd2.heap_39 w.params
theorem kk_blt (w : World) : nsIn (KK w) mainGlobals "chr" = some none := by rfl
theorem kk_sign (w : World) : nsIn (KK w) mainGlobals "_law_sign" = some (some (.ref 92)) := by rfl

def chrPt (n : Int) : Int := if (n.fdiv 4).fmod 1112064 < 55296 then (n.fdiv 4).fmod 1112064 else (n.fdiv 4).fmod 1112064 + 2048
def sign (n : Int) : Str := if n.fmod 4 < 3 then ([(Str.ofString "a"), Str.ofString "b", Str.ofString ""].getD (n.fmod 4).toNat (Str.ofString "")) else ⟨#[(chrPt n).toNat]⟩


theorem fmod4 (n : Int) : 0 ≤ n.fmod 4 ∧ n.fmod 4 < 4 := by
  rw [Int.fmod_eq_emod_of_nonneg _ (by decide)]; omega
section
variable {G : Gx} {σ : Sg} {d : Nat}
theorem sign_fn (hK : G.K = KK G.w) (O : Ok G (d + 1)) (n : Int) (t : Tok) : Tr G σ (call (.ref 92) [.int n t] []) (IsS (sign n)) := by
  refine' Tm.tr (Tm.mono (tm_fn (R := fun v _ => IsS (sign n) v) (body := ?body) (binds := [("n", .int n t)]) O (hK := ?hK) ?hb ?hc ?h1 ?h2 ?h3 ?h4 ?h5 ?h6 ?h7 ?h8 ?h9 ?hw) fun v σ' h => ?_)
  case hK => rw [hK]; rfl
  case hb => rfl
  case hc => rw [hK]; rfl
  case h1 => rfl
  case h2 => rfl
  case h3 => rfl
  case h4 => rfl
  case h5 => rfl
  case h6 => rfl
  case h7 => decide
  case h8 => exact fun s X => BindsTo.of_eq rfl
  case h9 => exact locs rfl
  case hw =>
    intro own h L c O'
    have m4 := fmod4 n
    have kb : nsIn G.K mainGlobals "chr" = some none := by rw [hK]; rfl
    refine seq_ifRet (x := decide (n.fmod 4 < 3)) (tr_testCmp (tr_mod (tr_nameI O' rfl) tr_int (by decide)) tr_int fun _ _ a b => tr_lt_int a b) (fun h3 => ?_) (fun h3 => ?_)
    · have h3' : n.fmod 4 < 3 := by simpa using h3
      refine Tm.mono (tr_display (k := n.fmod 4) (R := IsS (sign n)) (tr_arg3 tr_str tr_str tr_str) (fun vs p => ?_) (fun nw => tr_mod (tr_nameI O' rfl) tr_int (by decide)) m4.1 (by omega) (by decide)).m fun v σ' p => p.2
      obtain ⟨v, u, w, e, ⟨t1, h1⟩, ⟨t2, h2⟩, ⟨t3, h3⟩⟩ := p
      subst e; subst h1; subst h2; subst h3
      refine ⟨by simp, ?_⟩
      have hc : n.fmod 4 = 0 ∨ n.fmod 4 = 1 ∨ n.fmod 4 = 2 := by omega
      rcases hc with h | h | h <;> exact ⟨_, by rw [h]; rfl, _, by unfold sign; rw [h]; rfl⟩
    · have h3' : ¬ n.fmod 4 < 3 := by simpa using h3
      refine seq_assign O' (tr_mod (tr_div (tr_nameI O' rfl) tr_int (by decide) (PyProof.noPylong_small (by decide))) tr_int (by decide)).m fun v σ' pv => ?_
      obtain ⟨e, t, ev⟩ := pv
      subst e; subst ev
      have hq : 0 ≤ (n.fdiv 4).fmod 1112064 ∧ (n.fdiv 4).fmod 1112064 < 1112064 := by
        rw [Int.fmod_eq_emod_of_nonneg _ (by decide)]; omega
      refine seq_ret (Tm.mono (tr_fn1 O' kb (id := "chr") (by decide +kernel) rfl (P := IsI (chrPt n)) (R := IsS (sign n)) ?_ ?_).m fun v σ' p => p.2)
      · refine tr_ifexp (x := decide ((n.fdiv 4).fmod 1112064 < 55296)) (tr_testCmp (tr_nameI O' rfl) tr_int fun _ _ a b => tr_lt_int a b) ?_
        by_cases hlt : (n.fdiv 4).fmod 1112064 < 55296
        · rw [if_pos (by simpa using hlt)]
          exact tr_nameP O' rfl ⟨t, by unfold chrPt; rw [if_pos hlt]⟩
        · rw [if_neg (by simpa using hlt)]
          exact Tr.mono (tr_add (tr_nameI O' rfl) tr_int) fun v ⟨t', e⟩ => ⟨t', by unfold chrPt; rw [if_neg hlt]; exact e⟩
      · intro v hv
        refine Tr.mono (tr_chr hv ?_ ?_) fun v ⟨t', e⟩ => ⟨t', by unfold sign; rw [if_neg h3']; exact e⟩
        · unfold chrPt; split <;> omega
        · unfold chrPt; split <;> omega
  obtain ⟨nw, e, p, _⟩ := h
  exact ⟨nw, e, p⟩
end
end Mine
open PySem PySem.W PySem.Calls PyProof.Rows
set_option Elab.async false
set_option maxRecDepth 100000
set_option maxHeartbeats 4000000
set_option linter.unusedVariables false
namespace Mine

theorem SK_at (G : Gx) (A : Around) : SK (G.at A) = SK G := rfl
abbrev tupObj (vs : List Value) : Obj := { cls := .type "tuple", data := .seq vs.toArray }

/-- the words between -/
def LB (ss : List Str) (p : Str) (lo hi r : Nat) : Prop := lo ≤ r ∧ r ≤ hi ∧ (∀ i s, lo ≤ i → i < r → ss[i]? = some s → lw s < lw p) ∧ ∀ i s, r ≤ i → i < hi → ss[i]? = some s → ¬ lw s < lw p

theorem sorted_le : ∀ {ss : List Str}, sortedS ss = true → ∀ (i j : Nat) (a b : Str), i ≤ j → ss[i]? = some a → ss[j]? = some b → ¬ lw b < lw a := by
  have rising : ∀ (ss : List Str) (p : Str), risingS p ss = true → ∀ (j : Nat) (b : Str), ss[j]? = some b → ¬ lw b < lw p := by
    intro ss
    induction ss with
    | nil => intro p _ j b h; simp at h
    | cons x r ih =>
      intro p h j b hj
      simp only [risingS, Bool.and_eq_true, Bool.not_eq_true'] at h
      rw [ltCps_eq, decide_eq_false_iff_not] at h
      cases j with
      | zero => simp at hj; subst hj; exact h.1
      | succ j => 
        have := ih x h.2 j b (by simpa using hj)
        exact List.not_lt.mpr (List.le_trans (List.not_lt.mp h.1) (List.not_lt.mp this))
  intro ss
  induction ss with
  | nil => intro _ i j a b _ h; simp at h
  | cons x r ih =>
    intro h i j a b hij ha hb
    cases i with
    | zero =>
      simp at ha; subst ha
      cases j with
      | zero => simp at hb; subst hb; exact List.lt_irrefl _
      | succ j => exact rising r x h j b (by simpa using hb)
    | succ i =>
      cases j with
      | zero => omega
      | succ j =>
        refine ih ?_ i j a b (by omega) (by simpa using ha) (by simpa using hb)
        cases r with
        | nil => rfl
        | cons y r => simp only [sortedS, risingS, Bool.and_eq_true] at h ⊢; exact h.2

section
variable {G : Gx} {σ : Sg} {d : Nat}

/-- the walk of bisect_left behind its first statement -/
theorem strs_get {vs : List Value} {ss : List Str} (h : StrsAre vs ss) : ∀ (i : Nat) s, ss[i]? = some s → ∃ t, vs[i]? = some (.str s t) := by
  induction h with
  | nil => intro i s e; simp at e
  | cons k t _ ih =>
    intro i s e
    cases i with
    | zero => simp at e; subst e; exact ⟨t, rfl⟩
    | succ i => simpa using ih i s (by simpa using e)
theorem strs_len {vs : List Value} {ss : List Str} (h : StrsAre vs ss) : vs.length = ss.length := by
  induction h with
  | nil => rfl
  | cons k t _ ih => simp [ih]

noncomputable def fdOf (K : Frag) (f : Addr) : FuncData := match K.lookup f with | some ⟨_, _, .func fd, _⟩ => fd | _ => default

theorem bs4 {s : Shared} {w : World} {a b c d : Value} (X : (KK w).In s.heap) : BindsTo s (fdOf (KK w) 22) ⟨[a, b, c, d], []⟩ [("rows", a), ("key", b), ("low", c), ("high", d)] := by
  refine binds_K (K := KK w) X (by rfl) (by rfl) (by rfl) (by rfl) (by rfl)

theorem bisect_gen (hK : G.K = KK G.w) (O : Ok G (d + 1)) {l : Addr} {vs : List Value} {ss : List Str} {p : Str} {tp : Tok} {lo hi : Nat} {args : List Value} {a b : Value} (hl : Ent G σ (fun h => h.IsList l vs.toArray)) (hs : StrsAre vs ss) (hz : ss.length < 1000) (hlo : lo ≤ hi) (hhi : hi ≤ ss.length)
    (hbd : ∀ s : Shared, G.K.In s.heap → BindsTo s (fdOf (KK G.w) 22) ⟨args, []⟩ [("rows", .ref l), ("key", .str p tp), ("low", a), ("high", b)]) (ha : IsI lo a) (hb : IsI hi b ∨ b = .none ∧ hi = ss.length) (hso : sortedS ss = true) : Tr G σ (call (.ref 22) args []) (fun v => ∃ r, LB ss p lo hi r ∧ IsI r v) := by
  refine' Tm.tr (Tm.mono (tm_fn (R := fun v _ => ∃ r, LB ss p lo hi r ∧ IsI r v) (body := ?body) (binds := [("rows", .ref l), ("key", .str p tp), ("low", a), ("high", b)]) O (hK := ?hK) ?hb ?hc ?h1 ?h2 ?h3 ?h4 ?h5 ?h6 ?h7 ?h8 ?h9 ?hw) fun v σ' h => ?_)
  case hK => rw [hK]; rfl
  case hb => rfl
  case hc => rw [hK]; rfl
  case h1 => rfl
  case h2 => rfl
  case h3 => rfl
  case h4 => rfl
  case h5 => rfl
  case h6 => rfl
  case h7 => decide
  case h8 => exact hbd
  case h9 => exact locs rfl
  case hw =>
    intro own h L c O'
    have kb : nsIn G.K mainGlobals "len" = some none := by rw [hK]; rfl
    have hl₀ : h.IsList l vs.toArray := hl own h c
    have hv := strs_len hs
    obtain ⟨ta, rfl⟩ := ha
    refine tm_next (P₁ := fun σ' => (∃ t, σ'.m "low" = some (.int lo t)) ∧ (∃ t, σ'.m "high" = some (.int hi t)) ∧ σ'.m "rows" = some (.ref l) ∧ σ'.m "key" = some (.str p tp)) (tm_if (x := b == .none) (tr_testCmp (tr_name O' rfl) tr_none fun _ _ e1 e2 => ?_) ?_) fun σ' ⟨h1, h2, h3, h4⟩ => ?_
    · subst e1
      refine tr_isNone e2 ?_
      rcases hb with ⟨t, rfl⟩ | ⟨rfl, _⟩ <;> rfl
    · rcases hb with ⟨t, rfl⟩ | ⟨rfl, rfl⟩
      · rw [show (Value.int (hi : Int) t == Value.none) = false from rfl, if_neg (by decide)]
        exact tm_nil ⟨rfl, ⟨ta, rfl⟩, ⟨t, rfl⟩, rfl, rfl⟩
      · rw [if_pos (by decide)]
        refine seq_assign O' (tr_fn1 O' kb (id := "len") (by decide +kernel) rfl (tr_name O' rfl) (R := IsI vs.toArray.size) fun v e => by subst e; exact tr_len_list (ent_list₀ hl₀) (by simp; omega)).m fun v σ₂ pv => ?_
        obtain ⟨e', t3, ev⟩ := pv
        subst e'; subst ev
        exact tm_nil ⟨rfl, ⟨ta, rfl⟩, ⟨t3, by simp [put, hv]⟩, rfl, rfl⟩
    refine seq (tm_while (fun n σ₁ => ∃ a b t u, σ₁.m "low" = some (.int (a : Nat) t) ∧ σ₁.m "high" = some (.int (b : Nat) u) ∧ σ₁.m "rows" = some (.ref l) ∧ σ₁.m "key" = some (.str p tp) ∧ n = b - a ∧ lo ≤ a ∧ a ≤ b ∧ b ≤ hi ∧ (∀ i s, lo ≤ i → i < a → ss[i]? = some s → lw s < lw p) ∧ ∀ i s, b ≤ i → i < hi → ss[i]? = some s → ¬ lw s < lw p) (hi - lo) ?_ ?_)
    · obtain ⟨t, h1⟩ := h1
      obtain ⟨u, h2⟩ := h2
      exact ⟨lo, hi, t, u, h1, h2, h3, h4, rfl, Nat.le_refl _, hlo, Nat.le_refl _, fun i s a b => absurd a (by omega), fun i s a b => absurd a (by omega)⟩
    · rintro n σ₁ ⟨a, b, t, u, ma, mb, mr, mk, rfl, q1, q2, q3, q4, q5⟩
      refine ⟨decide ((a : Int) < b), tr_testCmp (tr_nameI O' ma) (tr_nameI O' mb) fun _ _ e1 e2 => tr_lt_int e1 e2, fun hlt => ?_, fun hge => ?_⟩
      · have hab : a < b := by simpa using hlt
        refine seq_assign O' (tr_div (tr_add (tr_nameI O' ma) (tr_nameI O' mb)) tr_int (by decide) (PyProof.noPylong_small (by decide))).m fun v σ₂ pv => ?_
        obtain ⟨e, t2, ev⟩ := pv
        subst e; subst ev
        have em : ((a : Int) + (b : Int)).fdiv 2 = (((a + b) / 2 : Nat) : Int) := by rw [Int.fdiv_eq_ediv_of_nonneg _ (by decide)]; omega
        rw [em]
        generalize hc : (a + b) / 2 = c'
        have hmid : a ≤ c' ∧ c' < b := by omega
        obtain ⟨sm, hsm⟩ : ∃ s, ss[c']? = some s := ⟨_, List.getElem?_eq_getElem (by omega)⟩
        obtain ⟨tm, htm⟩ := strs_get hs c' sm hsm
        refine seq_if (x := decide (sm.cps.toList < p.cps.toList)) (tr_testCmp (Pa := IsS sm) (tr_sub_ (tr_name O' mr) (tr_nameI O' rfl) fun x y e1 e2 => Tr.mono (tr_item (x := .str sm tm) (ent_list₀ hl₀) e1 e2 (by omega) (by omega) (by simpa using htm)) fun v e => ⟨tm, e⟩) (tr_nameP O' mk ⟨tp, rfl⟩) fun _ _ e1 e2 => tr_lt_str e1 e2) (fun e => ?_) (fun e => ?_)
        · refine seq_assign O' (tr_add (tr_nameI O' rfl) tr_int).m fun v σ₂ pv => ?_
          obtain ⟨e', t3, ev⟩ := pv
          subst e'; subst ev
          refine tm_nil (tm_nil ?_)
          have hs' : lw sm < lw p := by simpa using e
          refine ⟨b - (c' + 1), by omega, c' + 1, b, t3, u, by simp [put], mb, mr, mk, rfl, by omega, by omega, q3, fun i s h1 h2 h3 => ?_, q5⟩
          have := sorted_le hso i c' s sm (by omega) h3 hsm
          exact List.lt_of_le_of_lt (List.not_lt.mp this) hs'
        · refine seq_assign O' (tr_nameI O' rfl).m fun v σ₂ pv => ?_
          obtain ⟨e', t3, ev⟩ := pv
          subst e'; subst ev
          refine tm_nil (tm_nil ?_)
          have hs' : ¬ lw sm < lw p := by simpa using e
          refine ⟨c' - a, by omega, a, c', t, t3, ma, rfl, mr, mk, rfl, q1, by omega, by omega, q4, fun i s h1 h2 h3 => ?_⟩
          have := sorted_le hso c' i sm s h1 hsm h3
          exact List.not_lt.mpr (List.le_trans (List.not_lt.mp hs') (List.not_lt.mp this))
      · have hab : ¬ a < b := by simpa using hge
        refine seq_ret (Tm.mono (tr_nameI O' ma).m fun v σ₂ pv => ⟨a, ⟨q1, by omega, q4, fun i s h1 => q5 i s (by omega)⟩, pv.2⟩)
  obtain ⟨nw, e, p, _⟩ := h
  exact ⟨nw, e, p⟩

/-- a trie in the heap -/
def TrieH {prog : Program} {w : World} (knd : KeyKind prog w Str) (h : Heap) (x D : Addr) (kvs : List (Str × Value)) : Prop := ∃ dx es n l vs ss t u v tk, InstIn h x 74 dx es n ∧ getL "_data" es = some (some (.ref D)) ∧ getL "_keys" es = some (some (.ref l)) ∧ getL "_cachestr" es = some (some (.str "" tk)) ∧ getL "_cachepoints" es = some (some (.ref t)) ∧
  getL "has_keys_with_prefix" es = some none ∧ getL "longest_prefix" es = some none ∧ h.IsList l (List.toArray vs) ∧ StrsAre vs ss ∧ sortedS ss = true ∧ ss.Perm (kvs.map (·.1)) ∧ h.IsTuple t #[.int 0 u, .int kvs.length v] ∧ h.DictOf knd D kvs ∧ (D == sysModules) = false
theorem TrieH.keep {prog : Program} {w : World} {knd : KeyKind prog w Str} {h h' : Heap} {x D : Addr} {kvs : List (Str × Value)} (T : TrieH knd h x D kvs) (k : ∀ b o, h.get? b = some o → h'.get? b = some o) : TrieH knd h' x D kvs := by
  obtain ⟨dx, es, n, l, vs, ss, t, u, v, tk, h1, h2, h3, h4, h5, h6, h7, h8, h9, h10, h11, h12, h13, h14⟩ := T
  obtain ⟨o, ho, r⟩ := h12
  exact ⟨dx, es, n, l, vs, ss, t, u, v, tk, h1.keep k, h2, h3, h4, h5, h6, h7, h8.at fun o e => k _ _ e, h9, h10, h11, ⟨o, k _ _ ho, r⟩, h13.at fun o e => k _ _ e, h14⟩
/-- what its making leaves -/
def TrieN (x D : Addr) (kvs : List (Str × Value)) (nw : Led) : Prop := ∃ dx es n l m vs ss t u v tk, (x, instObj 74 dx) ∈ nw ∧ (dx, dictOf es n) ∈ nw ∧ getL "_data" es = some (some (.ref D)) ∧ getL "_keys" es = some (some (.ref l)) ∧ getL "_cachestr" es = some (some (.str "" tk)) ∧ getL "_cachepoints" es = some (some (.ref t)) ∧
  getL "has_keys_with_prefix" es = some none ∧ getL "longest_prefix" es = some none ∧ (l, listOf (List.toArray vs) m) ∈ nw ∧ StrsAre vs ss ∧ sortedS ss = true ∧ ss.Perm (kvs.map (·.1)) ∧ (t, tupObj [.int 0 u, .int kvs.length v]) ∈ nw
theorem TrieN.ent {x D : Addr} {kvs : List (Str × Value)} {nw : Led} (T : TrieN x D kvs nw) (hn : ∀ p ∈ nw, p ∈ σ.n) (hd : Ent G σ (fun h => h.DictOf (SK G) D kvs)) (hlo : (D == sysModules) = false) : Ent G σ (fun h => TrieH (SK G) h x D kvs) := fun own h c => by
  obtain ⟨dx, es, n, l, m, vs, ss, t, u, v, tk, h1, h1', h2, h3, h4, h5, h6, h7, h8, h9, h10, h11, h12⟩ := T
  exact ⟨dx, es, n, l, vs, ss, t, u, v, tk, ⟨c.get (hn _ h1), c.get (hn _ h1')⟩, h2, h3, h4, h5, h6, h7, ⟨_, c.get (hn _ h8), rfl, m, rfl⟩, h9, h10, h11, ⟨_, c.get (hn _ h12), rfl, 0, rfl⟩, hd own h c, hlo⟩

theorem tm_selfAttr (O : Ok G d) {e : Expr} {name y : Str} {np p pos : Pos} {x : Addr} {P : Value → Sg → Prop} {R : Flow → Sg → Prop} (he : Tm G σ (eval e G.env) P) (hself : ∀ v σ', P v σ' → σ'.m y = some (.ref x)) (hs : ∀ v σ', P v σ' → Tm G σ' (setAttr (.ref x) name v) (fun _ σ₂ => R .next σ₂))
    (hx : G.env.kindOf y = some .local := by rfl) (hd : (y == ("__debug__" : Str)) = false := by decide) (hw : swapsWith e (some (.Attribute (.Name y np) name p)) pos.line G.env = pure false := by rfl) :
    Tm G σ (exec (.Assign [.Attribute (.Name y np) name p] e pos) G.env) R :=
  tm_assignAttr (P₂ := fun v u σ' => P v σ' ∧ u = .ref x) he (fun v σ' pv => Tm.mono (Tr.m (tr_name O (hself v σ' pv) hx hd)) fun u σ'' q => by obtain ⟨rfl, rfl⟩ := q; exact ⟨pv, rfl⟩) (fun v u σ' q => by obtain ⟨pv, rfl⟩ := q; exact hs v σ' pv) hw

theorem tm_keysCall {pl : Sem Bool} {o : Expr} {apos pos : Pos} {D : Addr} {kvs : List (Str × Value)} (ho : Tr G σ (eval o G.env) (IsV (.ref D))) (hd : Ent G σ (fun h => h.DictOf (SK G) D kvs)) (hlo : (D == sysModules) = false)
    (hq : eval (.Call (.Attribute o "keys" apos) [] [] pos) G.env = (do
          let ov ← eval o G.env
          standAt apos.atName
          let (f, first) ← holding [ov] (getMethod ov "keys" pl)
          callWith pos f first (backTo pos (starEach [] G.env)) []) := by rfl) :
    Tm G σ (eval (.Call (.Attribute o "keys" apos) [] [] pos) G.env) (fun v σ' => ∃ r, v = .ref r ∧ σ' = { σ with n := (r, { cls := .type "dict_keys", data := .fields #[.ref D] }) :: σ.n } ∧ ∀ p ∈ σ.n, p.1 ≠ r) :=
  tm_methB0 F.plainAttrs_dict F.slot_dict_keys F.type_dict_keys ho.m (fun v σ' own s p c => by obtain ⟨rfl, rfl⟩ := p; exact ⟨(hd own _ c).typeIs, (hd own _ c).mapOf.noDict⟩) (fun v σ' p => by obtain ⟨rfl, rfl⟩ := p; exact tm_keysView hd hlo) hq
theorem tm_sortedKeysCall (O : Ok G d) {pl : Sem Bool} {np pos p₁ apos : Pos} {o : Expr} {D : Addr} {oD : Obj} {kvs : List (Str × Value)} (hs : nsIn G.K mainGlobals "sorted" = some none) (hg : G.env.kindOf "sorted" = some .globalImplicit) (ho : Tr G σ (eval o G.env) (IsV (.ref D))) (hl : Fx G σ [(D, oD)]) (hd : oD.IsDictOf (SK G) kvs) (hlo : (D == sysModules) = false) (hz : kvs.length < 64)
    (hq : eval (.Call (.Attribute o "keys" apos) [] [] p₁) G.env = (do
          let ov ← eval o G.env
          standAt apos.atName
          let (f, first) ← holding [ov] (getMethod ov "keys" pl)
          callWith p₁ f first (backTo p₁ (starEach [] G.env)) []) := by rfl)
    (hss : starEach [(.Call (.Attribute o "keys" apos) [] [] p₁)] G.env = [(false, eval (.Call (.Attribute o "keys" apos) [] [] p₁) G.env)] := by rfl) :
    Tm G σ (eval (.Call (.Name "sorted" np) [.Call (.Attribute o "keys" apos) [] [] p₁] [] pos) G.env) (fun v σ' => ∃ l r m vs ss, v = .ref l ∧ σ' = { σ with n := (l, listOf (List.toArray vs) m) :: (r, { cls := .type "dict_keys", data := .fields #[.ref D] }) :: σ.n } ∧ StrsAre vs ss ∧ ss.Perm (kvs.map (·.1)) ∧ sortedS ss = true ∧ (∀ p ∈ σ.n, p.1 ≠ l) ∧ ∀ p ∈ σ.n, p.1 ≠ r) :=
  tm_callB (tr_blt O (v := .builtin "sorted") hs (by decide +kernel) (by decide) hg) (P := fun vs σ' => ∃ r, vs = [.ref r] ∧ σ' = { σ with n := (r, { cls := .type "dict_keys", data := .fields #[.ref D] }) :: σ.n } ∧ ∀ p ∈ σ.n, p.1 ≠ r)
    (tm_arg (tm_keysCall ho (fun own h c => Heap.dictOf_iff.mpr ⟨oD, hl.get c _ (.head _), hd⟩) hlo hq) (fun v σ' ⟨r, e, e', hr⟩ => Tm.mono tr_args0.m fun vs σ'' ⟨q1, q2⟩ => by subst e; subst q1; subst q2; exact ⟨r, rfl, e', hr⟩) hss)
    (fun vs σ' ⟨r, e, e', hr⟩ => by
      subst e; subst e'
      exact Tm.mono (tm_sortedKeys O (r := r) (fun p hp => (hl p hp).imp (fun q => List.mem_cons_of_mem _ q) id) hd (.head _) hz) fun v σ' ⟨l, m, vs, ss, e1, e2, e3, e4, e5, e6⟩ => ⟨l, r, m, vs, ss, e1, e2, e3, e4, e5, fun p hp => e6 p (.tail _ hp), hr⟩) hss rfl

theorem tm_pair {e f : Expr} {m : Nat} {pos : Pos} {P R : Value → Prop} (he : Tr G σ (eval e G.env) P) (hf : Tr G σ (eval f G.env) R) (hs : starEach [e, f] G.env = [(false, eval e G.env), (false, eval f G.env)] := by rfl) (hs' : starEach [f] G.env = [(false, eval f G.env)] := by rfl) :
    Tm G σ (eval (.Tuple [e, f] m pos) G.env) (fun v σ' => ∃ t a b, v = .ref t ∧ σ' = { σ with n := (t, tupObj [a, b]) :: σ.n } ∧ P a ∧ R b ∧ ∀ p ∈ σ.n, p.1 ≠ t) :=
  tm_tuple (tr_arg2 he hf hs hs').m (fun vs σ' l p ap => by obtain ⟨rfl, a, b, rfl, pa, pb⟩ := p; exact ⟨l, a, b, rfl, rfl, pa, pb, ap⟩) fun vs σ' p => by obtain ⟨rfl, a, b, rfl, _⟩ := p; simp

theorem trie_make (hK : G.K = KK G.w) (O : Ok G (d + 3)) {D : Addr} {kvs : List (Str × Value)} (hd : Ent G σ (fun h => h.DictOf (SK G) D kvs)) (hlo : (D == sysModules) = false) (hz : kvs.length < 64) :
    Tm G σ (call (.ref 74) [.ref D] []) (fun v σ' => ∃ x nw, v = .ref x ∧ σ' = { σ with n := nw ++ σ.n } ∧ TrieN x D kvs nw ∧ ∀ p ∈ nw, ∀ q ∈ σ.n, p.1 ≠ q.1) := by
  refine' tm_make (R := fun x nw => TrieN x D kvs nw) (body := ?body) (fI := 36) (binds := fun x => [("self", .ref x), ("data", .ref D)]) O ?ha ?hb (by rw [hK]; rfl) (hK := ?hK) ?hbo ?hc ?h1 ?h2 ?h3 ?h4 ?h5 ?h6 ?h7 ?h8 ?h9 ?hw
  case ha => rw [hK]; rfl
  case hb => rw [hK]; rfl
  case hK => rw [hK]; rfl
  case hbo => rfl
  case hc => rw [hK]; rfl
  case h1 => rfl
  case h2 => rfl
  case h3 => rfl
  case h4 => rfl
  case h5 => rfl
  case h6 => rfl
  case h7 => decide
  case h8 => exact fun x s X => BindsTo.of_eq rfl
  case h9 => exact fun x => locs rfl
  case hw =>
    intro own h L A x dx c hne O'
    have ks : nsIn G.K mainGlobals "sorted" = some none := by rw [hK]; rfl
    have kl : nsIn G.K mainGlobals "len" = some none := by rw [hK]; rfl
    have f1 : findIn G.K (.ref 74) "__setattr__" = some (some (.builtin "object.__setattr__")) := by rw [hK]; rfl
    have f2 : plainOver G.K 74 = true := by rw [hK]; rfl
    have f31 : takerIn G.K 74 "_data" = some none := by rw [hK]; rfl
    have f32 : takerIn G.K 74 "_keys" = some none := by rw [hK]; rfl
    have f33 : takerIn G.K 74 "_cachestr" = some none := by rw [hK]; rfl
    have f34 : takerIn G.K 74 "_cachepoints" = some none := by rw [hK]; rfl
    have f4 : hasDictIn G.K 74 = true := by rw [hK]; rfl
    have hd₀ : h.DictOf (SK G) D kvs := hd own h c
    obtain ⟨oD, gD, iD⟩ := Heap.dictOf_iff.mp hd₀
    -- self._data = data
    refine seq (tm_selfAttr O' (x := x) (P := fun v σ' => σ' = _ ∧ v = .ref D) (Tr.m (tr_name O' rfl)) (fun v σ' p => by rw [p.1]; rfl) fun v σ' p => ?_)
    obtain ⟨rfl, rfl⟩ := p
    refine Tm.mono (tm_setAttr O' (name := "_data") (C := 74) (dx := dx) (es := []) (n := 0) (pre := [(x, instObj 74 dx)]) (post := []) (fun z => rfl) f1 f2 f31 f4 rfl rfl (fun p hp => by obtain rfl := List.mem_singleton.mp hp; exact hne) (fun p hp => nomatch hp) (.head _) (by simp)) fun _ σ₂ p => ?_
    obtain ⟨h1, t1, rfl⟩ := p
    -- self._keys = sorted(data.keys())
    refine seq (tm_selfAttr O' (x := x) (tm_sortedKeysCall O' ks rfl (tr_name O' rfl) (Fx.old gD) iD hlo hz) (fun v σ' p => by obtain ⟨l, r, m, vs, ss, e1, rfl, _⟩ := p; rfl) fun v σ' p => ?_)
    obtain ⟨l, r, m, vs, ss, rfl, rfl, hss, hpm, hso, hal, har⟩ := p
    have lx : l ≠ dx := fun e => hal _ (.tail _ (.head _)) e.symm
    have rx : r ≠ dx := fun e => har _ (.tail _ (.head _)) e.symm
    refine Tm.mono (tm_setAttr O' (name := "_keys") (C := 74) (dx := dx) (pre := [(l, listOf (List.toArray vs) m), (r, { cls := .type "dict_keys", data := .fields #[.ref D] }), (x, instObj 74 dx)]) (post := []) (fun z => rfl) f1 f2 f32 f4 rfl rfl (fun p hp => by simp only [List.mem_cons, List.mem_nil_iff, or_false] at hp; rcases hp with rfl | rfl | rfl; exact lx; exact rx; exact hne) (fun p hp => nomatch hp) (.tail _ (.tail _ (.head _))) (by exact Nat.le_trans (putL_length _ _ _ _ _) (by simp))) fun _ σ₂ p => ?_
    obtain ⟨h2, t2, rfl⟩ := p
    -- self._cachestr = ''
    refine seq (tm_selfAttr O' (x := x) (Tr.m tr_str) (fun v σ' p => by rw [p.1]; rfl) fun v σ' p => ?_)
    obtain ⟨rfl, tk, rfl⟩ := p
    refine Tm.mono (tm_setAttr O' (name := "_cachestr") (C := 74) (dx := dx) (pre := [(l, listOf (List.toArray vs) m), (r, { cls := .type "dict_keys", data := .fields #[.ref D] }), (x, instObj 74 dx)]) (post := []) (fun z => rfl) f1 f2 f33 f4 rfl rfl (fun p hp => by simp only [List.mem_cons, List.mem_nil_iff, or_false] at hp; rcases hp with rfl | rfl | rfl; exact lx; exact rx; exact hne) (fun p hp => nomatch hp) (.tail _ (.tail _ (.head _))) (by exact Nat.le_trans (putL_length _ _ _ _ _) (by simp [putL]))) fun _ σ₂ p => ?_
    obtain ⟨h3, t3, rfl⟩ := p
    -- self._cachepoints = (0, len(data))
    refine seq (tm_selfAttr O' (x := x) (tm_pair tr_int (tr_fn1 O' kl (id := "len") (by decide +kernel) rfl (tr_name O' rfl) (R := IsI kvs.length) fun v e => by subst e; exact tr_len_dict (ent_dict₀ hd₀) hlo (by omega))) (fun v σ' p => by obtain ⟨t, a, b, _, rfl, _⟩ := p; rfl) fun v σ' p => ?_)
    obtain ⟨t, a', b', rfl, rfl, ⟨a, rfl⟩, ⟨b, rfl⟩, ap⟩ := p
    have tx : t ≠ dx := fun e => ap (dx, _) (.tail _ (.tail _ (.tail _ (.head _)))) e.symm
    refine Tm.mono (tm_setAttr O' (name := "_cachepoints") (C := 74) (dx := dx) (pre := [(t, tupObj [.int 0 a, .int kvs.length b]), (l, listOf (List.toArray vs) m), (r, { cls := .type "dict_keys", data := .fields #[.ref D] }), (x, instObj 74 dx)]) (post := []) (fun z => rfl) f1 f2 f34 f4 rfl rfl (fun p hp => by simp only [List.mem_cons, List.mem_nil_iff, or_false] at hp; rcases hp with rfl | rfl | rfl | rfl; exact tx; exact lx; exact rx; exact hne) (fun p hp => nomatch hp) (.tail _ (.tail _ (.tail _ (.head _)))) (by show (3 : Nat) ≤ 900; decide)) fun _ σ₂ p => ?_
    obtain ⟨h4, t4, rfl⟩ := p
    refine tm_nil ⟨rfl, ?_⟩
    exact ⟨dx, _, _, l, m, vs, ss, t, a, b, tk, .tail _ (.tail _ (.tail _ (.head _))), .tail _ (.tail _ (.tail _ (.tail _ (.head _)))), rfl, rfl, rfl, rfl, rfl, rfl, .tail _ (.head _), hss, hso, hpm, .head _⟩

theorem tr_ta (hK : G.K = KK G.w) (O : Ok G d) {y name : Str} {np pos : Pos} {x dx : Addr} {es : List DictEntry} {n : Nat} {v : Value} (hx : σ.m y = some (.ref x)) (hi : Ent G σ (fun h => InstIn h x 74 dx es n)) (hl : getL name es = some (some v)) (hv : handedIn v = true)
    (hn : plainGet (KK G.w) 74 name = true ∧ findIn (KK G.w) (.ref 74) name = some none := by exact ⟨rfl, rfl⟩) (hk : G.env.kindOf y = some .local := by rfl) (hd : (y == ("__debug__" : Str)) = false := by decide) : Tr G σ (eval (.Attribute (.Name y np) name pos) G.env) (IsV v) :=
  tr_attr O (tr_name O hx hk hd) hi (by rw [hK]; exact hn.1) (by rw [hK]; rfl) (by rw [hK]; exact hn.2) (by rw [hK]; rfl) hl hv

theorem contains_fn (hK : G.K = KK G.w) (O : Ok G (d + 1)) {x D : Addr} {kvs : List (Str × Value)} {p : Str} {tp : Tok} (hT : Ent G σ (fun h => TrieH (SK G) h x D kvs)) : Tr G σ (call (.ref 43) [.ref x, .str p tp] []) (IsB (valueAt kvs p).isSome) := by
  refine' Tm.tr (Tm.mono (tm_fn (R := fun v _ => IsB (valueAt kvs p).isSome v) (body := ?body) (binds := [("self", .ref x), ("key", .str p tp)]) O (hK := ?hK) ?hb ?hc ?h1 ?h2 ?h3 ?h4 ?h5 ?h6 ?h7 ?h8 ?h9 ?hw) fun v σ' h => ?_)
  case hK => rw [hK]; rfl
  case hb => rfl
  case hc => rw [hK]; rfl
  case h1 => rfl
  case h2 => rfl
  case h3 => rfl
  case h4 => rfl
  case h5 => rfl
  case h6 => rfl
  case h7 => decide
  case h8 => exact fun s X => BindsTo.of_eq rfl
  case h9 => exact locs rfl
  case hw =>
    intro own h L c O'
    obtain ⟨dx, es, n, l, vs, ss, t, u, v, tk, i1, i2, i3, i4, i5, i6, i7, i8, i9, i10, i11, i12, i13, i14⟩ := hT own h c
    exact seq_ret (Tm.mono (Tr.m (tr_cmp (tr_nameP O' rfl ⟨tp, rfl⟩) (tr_ta (by exact hK) O' rfl (ent_old i1 fun _ _ k z => z.keep k) i2 rfl) fun a b ha hb => tr_dIn (ent_dict₀ i13) i14 hb ha)) fun v σ' p => p.2)
  obtain ⟨nw, e, p, _⟩ := h
  exact ⟨nw, e, p⟩

theorem len_fn (hK : G.K = KK G.w) (O : Ok G (d + 1)) {x D : Addr} {kvs : List (Str × Value)} (hT : Ent G σ (fun h => TrieH (SK G) h x D kvs)) (hz : kvs.length < 64) : Tr G σ (call (.ref 50) [.ref x] []) (IsI kvs.length) := by
  refine' Tm.tr (Tm.mono (tm_fn (R := fun v _ => IsI kvs.length v) (body := ?body) (binds := [("self", .ref x)]) O (hK := ?hK) ?hb ?hc ?h1 ?h2 ?h3 ?h4 ?h5 ?h6 ?h7 ?h8 ?h9 ?hw) fun v σ' h => ?_)
  case hK => rw [hK]; rfl
  case hb => rfl
  case hc => rw [hK]; rfl
  case h1 => rfl
  case h2 => rfl
  case h3 => rfl
  case h4 => rfl
  case h5 => rfl
  case h6 => rfl
  case h7 => decide
  case h8 => exact fun s X => BindsTo.of_eq rfl
  case h9 => exact locs rfl
  case hw =>
    intro own h L c O'
    have kl : nsIn G.K mainGlobals "len" = some none := by rw [hK]; rfl
    obtain ⟨dx, es, n, l, vs, ss, t, u, v, tk, i1, i2, i3, i4, i5, i6, i7, i8, i9, i10, i11, i12, i13, i14⟩ := hT own h c
    exact seq_ret (Tm.mono (Tr.m (tr_fn1 O' kl (id := "len") (by decide +kernel) rfl (tr_ta (by exact hK) O' rfl (ent_old i1 fun _ _ k z => z.keep k) i2 rfl) (R := IsI kvs.length) fun v e => by subst e; exact tr_len_dict (ent_dict₀ i13) i14 (by omega))) fun v σ' p => p.2)
  obtain ⟨nw, e, p, _⟩ := h
  exact ⟨nw, e, p⟩

theorem getitem_fn (hK : G.K = KK G.w) (O : Ok G (d + 1)) {x D : Addr} {kvs : List (Str × Value)} {p : Str} {tp : Tok} {y : Value} (hT : Ent G σ (fun h => TrieH (SK G) h x D kvs)) (hy : valueAt kvs p = some y) : Tr G σ (call (.ref 57) [.ref x, .str p tp] []) (IsV y) := by
  refine' Tm.tr (Tm.mono (tm_fn (R := fun v _ => IsV y v) (body := ?body) (binds := [("self", .ref x), ("key", .str p tp)]) O (hK := ?hK) ?hb ?hc ?h1 ?h2 ?h3 ?h4 ?h5 ?h6 ?h7 ?h8 ?h9 ?hw) fun v σ' h => ?_)
  case hK => rw [hK]; rfl
  case hb => rfl
  case hc => rw [hK]; rfl
  case h1 => rfl
  case h2 => rfl
  case h3 => rfl
  case h4 => rfl
  case h5 => rfl
  case h6 => rfl
  case h7 => decide
  case h8 => exact fun s X => BindsTo.of_eq rfl
  case h9 => exact locs rfl
  case hw =>
    intro own h L c O'
    obtain ⟨dx, es, n, l, vs, ss, t, u, v, tk, i1, i2, i3, i4, i5, i6, i7, i8, i9, i10, i11, i12, i13, i14⟩ := hT own h c
    exact seq_ret (Tm.mono (Tr.m (tr_sub_ (tr_ta (by exact hK) O' rfl (ent_old i1 fun _ _ k z => z.keep k) i2 rfl) (tr_nameP (P := IsS p) O' rfl ⟨tp, rfl⟩) fun a b ha hb => tr_dItem (ent_dict₀ i13) ha hb hy)) fun v σ' p => p.2)
  obtain ⟨nw, e, p, _⟩ := h
  exact ⟨nw, e, p⟩

theorem lb_any {kvs : List (Str × Value)} {ss : List Str} {p : Str} {r : Nat} (hp : ss.Perm (kvs.map (·.1))) (hs : sortedS ss = true) (h : LB ss p 0 ss.length r) :
    (r = ss.length → (kvs.any fun q => decide (lw p <+: lw q.1)) = false) ∧ ∀ s, ss[r]? = some s → (kvs.any fun q => decide (lw p <+: lw q.1)) = decide (lw p <+: lw s) := by
  obtain ⟨_, hr, h1, h2⟩ := h
  have key : ∀ q ∈ kvs, lw p <+: lw q.1 → ∃ j : Nat, ss[j]? = some q.1 ∧ r ≤ j := by
    intro q hq hpq
    have : q.1 ∈ ss := hp.mem_iff.mpr (List.mem_map.mpr ⟨q, hq, rfl⟩)
    obtain ⟨j, hj⟩ := List.mem_iff_getElem?.mp this
    refine ⟨j, hj, Nat.le_of_not_lt fun hlt => ?_⟩
    exact le_of_prefix hpq (h1 j q.1 (Nat.zero_le _) hlt hj)
  refine ⟨fun e => ?_, fun s hs' => ?_⟩
  · rw [List.any_eq_false]
    intro q hq hd
    obtain ⟨j, hj, hle⟩ := key q hq (by simpa using hd)
    have := (List.getElem?_eq_some_iff.mp hj).1
    omega
  · rw [Bool.eq_iff_iff, List.any_eq_true]
    simp only [decide_eq_true_eq]
    constructor
    · rintro ⟨q, hq, hpq⟩
      obtain ⟨j, hj, hle⟩ := key q hq hpq
      exact prefix_between (h2 r s (Nat.le_refl _) (List.getElem?_eq_some_iff.mp hs').1 hs') (sorted_le hs r j s q.1 hle hs' hj) hpq
    · intro hps
      have : s ∈ kvs.map (·.1) := hp.mem_iff.mp (List.mem_of_getElem? hs')
      obtain ⟨q, hq, rfl⟩ := List.mem_map.mp this
      exact ⟨q, hq, hps⟩

theorem valueAt_mem {kvs : List (Str × Value)} {p : Str} (h : (valueAt kvs p).isSome = true) : p ∈ kvs.map (·.1) := by
  unfold valueAt at h
  cases q : kvs.find? (fun e => e.1 = p) with
  | none => rw [q] at h; simp at h
  | some e => 
    have := List.find?_some q
    have h2 := List.mem_of_find?_eq_some q
    simp at this
    exact List.mem_map.mpr ⟨e, h2, this⟩

theorem hkwp_fn (hK : G.K = KK G.w) (O : Ok G (d + 2)) {x D : Addr} {kvs : List (Str × Value)} {p : Str} {tp : Tok} (hT : Ent G σ (fun h => TrieH (SK G) h x D kvs)) (hz : kvs.length < 64) : Tr G σ (call (.ref 64) [.ref x, .str p tp] []) (IsB (kvs.any fun q => decide (lw p <+: lw q.1))) := by
  refine' Tm.tr (Tm.mono (tm_fn (d := d + 1) (R := fun v _ => IsB (kvs.any fun q => decide (lw p <+: lw q.1)) v) (body := ?body) (binds := [("self", .ref x), ("prefix", .str p tp)]) O (hK := ?hK) ?hb ?hc ?h1 ?h2 ?h3 ?h4 ?h5 ?h6 ?h7 ?h8 ?h9 ?hw) fun v σ' h => ?_)
  case hK => rw [hK]; rfl
  case hb => rfl
  case hc => rw [hK]; rfl
  case h1 => rfl
  case h2 => rfl
  case h3 => rfl
  case h4 => rfl
  case h5 => rfl
  case h6 => rfl
  case h7 => decide
  case h8 => exact fun s X => BindsTo.of_eq rfl
  case h9 => exact locs rfl
  case hw =>
    intro own h L c O'
    have kl : nsIn G.K mainGlobals "len" = some none := by rw [hK]; rfl
    have kb : nsIn G.K mainGlobals "bisect_left" = some (some (.ref 22)) := by rw [hK]; rfl
    have kk : keepIn G.K (.ref 22) = true := by rw [hK]; rfl
    obtain ⟨dx, es, n, l, vs, ss, t, u, v, tk, i1, i2, i3, i4, i5, i6, i7, i8, i9, i10, i11, i12, i13, i14⟩ := hT own h c
    have hlen : ss.length = kvs.length := by rw [i11.length_eq, List.length_map]
    have hvl := strs_len i9
    refine seq_ifRet (x := (valueAt kvs p).isSome) (tr_testCmp (tr_nameP O' rfl ⟨tp, rfl⟩) (tr_ta (by exact hK) O' rfl (ent_old i1 fun _ _ k z => z.keep k) i2 rfl) fun a b ha hb => tr_dIn (ent_dict₀ i13) i14 hb ha) (fun h1 => ?_) (fun h1 => ?_)
    · refine Tm.mono (Tr.m tr_bool) fun v σ' pv => ?_
      obtain ⟨q, hq, e⟩ := List.mem_map.mp (valueAt_mem h1)
      show v = _
      rw [pv.2]
      congr 1
      symm
      exact List.any_eq_true.mpr ⟨q, hq, by rw [e]; simp⟩
    · refine tm_next (P₁ := fun σ' => (∃ r t, LB ss p 0 ss.length r ∧ σ'.m "i" = some (.int (r : Nat) t)) ∧ σ'.m "self" = some (.ref x) ∧ σ'.m "prefix" = some (.str p tp)) (tm_if (x := decide (lw ("" : Str) <+: lw p)) (tr_test (P := IsB (decide (lw ("" : Str) <+: lw p))) (tr_starts (x := p) (y := "") (tr_nameP O' rfl ⟨tp, rfl⟩) (Tr.mono (tr_ta (by exact hK) O' rfl (ent_old i1 fun _ _ k z => z.keep k) i4 rfl) fun v e => ⟨tk, e⟩)) fun v hv => tr_truthyB hv) ?_) fun σ' ⟨⟨r, ti, lb, m1⟩, m2, m3⟩ => ?_
      · rw [if_pos (decide_eq_true (by rw [show lw ("" : Str) = [] from by decide]; exact List.nil_prefix))]
        refine seq (tm_assign2 O' (tr_ta (by exact hK) O' rfl (ent_old i1 fun _ _ k z => z.keep k) i5 rfl) (ent_old i12 fun _ _ k z => z.at fun o e => k _ _ e) ?_)
        refine seq_assign O' (Tr.m (tr_callK O' (tr_glob O' kb) kk (tr_arg4 (tr_ta (by exact hK) O' rfl (ent_old i1 fun _ _ k z => z.keep k) i3 rfl) (tr_nameP (P := IsS p) O' rfl ⟨tp, rfl⟩) (tr_nameI (a := 0) (t := u) O' rfl) (tr_nameI (a := kvs.length) (t := v) O' rfl)) (R := fun v => ∃ r, LB ss p 0 ss.length r ∧ IsI r v) fun vs' pv => ?_)) fun v' σ' pv => ?_
        · obtain ⟨a1, a2, a3, a4, rfl, rfl, ⟨t2, rfl⟩, ⟨t3, rfl⟩, ⟨t4, rfl⟩⟩ := pv
          exact bisect_gen (lo := 0) (hi := ss.length) (a := .int 0 t3) (b := .int kvs.length t4) (by exact hK) O' (ent_list₀ i8) i9 (by omega) (Nat.zero_le _) (Nat.le_refl _) (fun s X => by have X' : G.K.In s.heap := X; rw [hK] at X'; exact bs4 X') ⟨t3, rfl⟩ (.inl ⟨t4, by rw [hlen]⟩) i10
        · obtain ⟨rfl, r, lb, t5, rfl⟩ := pv
          exact tm_nil ⟨rfl, ⟨r, t5, lb, rfl⟩, rfl, rfl⟩
      · refine seq_ifRet (x := ((r : Int) == (vs.toArray.size : Int))) (tr_testCmp (tr_nameI O' m1) (tr_fn1 O' kl (id := "len") (by decide +kernel) rfl (tr_ta (by exact hK) O' m2 (ent_old i1 fun _ _ k z => z.keep k) i3 rfl) (R := IsI vs.toArray.size) fun v e => by subst e; exact tr_len_list (ent_list₀ i8) (by simp; omega)) fun a b ha hb => tr_eq_int ha hb) (fun h2 => ?_) (fun h2 => ?_)
        · refine Tm.mono (Tr.m tr_bool) fun v σ' pv => ?_
          show v = _
          rw [pv.2, (lb_any i11 i10 lb).1 (by simp at h2; omega)]
        · have hr : r < ss.length := by
            have := lb.2.1
            simp at h2
            omega
          obtain ⟨s, hs⟩ : ∃ s, ss[r]? = some s := ⟨_, List.getElem?_eq_getElem hr⟩
          obtain ⟨tv, hv⟩ := strs_get i9 r s hs
          refine seq_ret (Tm.mono (Tr.m (tr_starts (x := s) (y := p) (Tr.mono (tr_sub_ (tr_ta (by exact hK) O' m2 (ent_old i1 fun _ _ k z => z.keep k) i3 rfl) (tr_nameI O' m1) fun a b ha hb => tr_item (x := .str s tv) (ent_list₀ i8) ha hb (by omega) (by omega) (by simpa using hv)) fun v e => ⟨tv, e⟩) (tr_nameP O' m3 ⟨tp, rfl⟩))) fun v σ' pv => ?_)
          show v = _
          rw [pv.2, (lb_any i11 i10 lb).2 s hs]
  obtain ⟨nw, e, p, _⟩ := h
  exact ⟨nw, e, p⟩

def tk (p : Str) (k : Nat) : Str := ⟨((lw p).take k).toArray⟩
theorem lw_tk (p : Str) (k : Nat) : lw (tk p k) = (lw p).take k := by simp [tk, lw]
theorem tk_all {p : Str} {k : Nat} (h : p.length ≤ k) : tk p k = p := str_ext (by rw [lw_tk, List.take_of_length_le (by rw [lw_length]; exact h)])

theorem longest_fn (hK : G.K = KK G.w) (O : Ok G (d + 2)) {x D : Addr} {kvs : List (Str × Value)} {p : Str} {tp : Tok} (hT : Ent G σ (fun h => TrieH (SK G) h x D kvs)) (hz : p.length ≤ 1000) :
    Tq G σ (Xc G σ (∀ k, k ≤ p.length → valueAt kvs (tk p k) = none)) (call (.ref 71) [.ref x, .str p tp] []) (fun v σ' => σ' = σ ∧ ∃ k, k ≤ p.length ∧ (valueAt kvs (tk p k)).isSome = true ∧ (∀ j, k < j → j ≤ p.length → valueAt kvs (tk p j) = none) ∧ IsS (tk p k) v) := by
  refine' Tq.tr (Tq.mono (tq_fn (d := d + 1) (R := fun v _ => ∃ k, k ≤ p.length ∧ (valueAt kvs (tk p k)).isSome = true ∧ (∀ j, k < j → j ≤ p.length → valueAt kvs (tk p j) = none) ∧ IsS (tk p k) v) (body := ?body) (binds := [("self", .ref x), ("prefix", .str p tp)]) O (hK := ?hK) ?hb ?hc ?h1 ?h2 ?h3 ?h4 ?h5 ?h6 ?h7 ?h8 ?h9 ?hw) fun v σ' h => ?_)
  case hK => rw [hK]; rfl
  case hb => rfl
  case hc => rw [hK]; rfl
  case h1 => rfl
  case h2 => rfl
  case h3 => rfl
  case h4 => rfl
  case h5 => rfl
  case h6 => rfl
  case h7 => decide
  case h8 => exact fun s X => BindsTo.of_eq rfl
  case h9 => exact locs rfl
  case hw =>
    intro own h L c O'
    have kl : nsIn G.K mainGlobals "len" = some none := by rw [hK]; rfl
    have kr : nsIn G.K mainGlobals "range" = some none := by rw [hK]; rfl
    have ke : nsIn G.K mainGlobals "KeyError" = some none := by rw [hK]; rfl
    have f1 : findIn G.K (.ref 74) "__contains__" = some (some (.ref 43)) := by rw [hK]; rfl
    have f2 : isFn G.K (.ref 43) = true := by rw [hK]; rfl
    have T := hT own h c
    obtain ⟨dx, es, n, l, vs, ss, t, u, v, tk', i1, _⟩ := hT own h c
    have z : p.length ≤ sizeLine := by rw [sizeLine_eq]; omega
    refine tq_ifRet (y := (valueAt kvs p).isSome) (tr_testCmp (Pa := IsS p) (tr_nameP O' rfl ⟨tp, rfl⟩) (tr_name O' rfl) fun a b ha hb => ?_) (fun h1 => ?_) (fun h1 => ?_)
    · obtain ⟨t', rfl⟩ := ha
      exact tr_inK O' (ent_old i1 fun _ _ k z => z.keep k) f1 f2 hb (contains_fn (by exact hK) O' (ent_old T fun _ _ k z => z.keep k))
    · refine Tm.q (Tm.mono (Tr.m (tr_nameP (P := IsS p) O' rfl ⟨tp, rfl⟩)) fun v σ' pv => ⟨p.length, Nat.le_refl _, ?_, fun j a b => absurd a (by omega), ?_⟩)
      · rw [tk_all (Nat.le_refl _)]; exact h1
      · rw [tk_all (Nat.le_refl _)]; exact pv.2
    · have e1 : valueAt kvs p = none := by simpa using h1
      refine tq_seq (Tm.q (tm_for (src_range O' (range2_made O' kr rfl tr_int (tr_add (tr_fn1 O' kl (id := "len") (by decide +kernel) rfl (tr_nameP (P := IsS p) O' rfl ⟨tp, rfl⟩) (R := IsI p.length) fun v hv => tr_len_str hv (by omega)) tr_int) rfl rfl) (by omega) (by omega) (by omega) (by omega) rfl)
        (fun fix i σ' => fix = [] ∧ σ'.m "self" = some (.ref x) ∧ σ'.m "prefix" = some (.str p tp) ∧ ∀ j, p.length - i ≤ j → j ≤ p.length → valueAt kvs (tk p j) = none) ?_ ?_ ?_ ?_))
      · rintro σ₁ fix ⟨rfl, rfl⟩
        refine ⟨rfl, rfl, rfl, fun j h1 h2 => ?_⟩
        rw [tk_all (by omega)]; exact e1
      · rintro fix i σ' ⟨rfl, _⟩; exact Fx.nil
      · rintro fix i σ₁ σ₂ hi ⟨rfl, m1, m2, hn⟩ ⟨v, ⟨ti, rfl⟩, rfl⟩ _
        have hi' : i < p.length := by omega
        have es : Txt.slice p none (some (-(1 + (i : Int)))) = tk p (p.length - 1 - i) := str_ext (by
          have := slice_neg (x := p) (k := 1 + i) (by omega) (by omega)
          rw [lw_tk, show p.length - 1 - i = p.length - (1 + i) from by omega, ← this]
          congr 3)
        refine seq_ifRet (x := (valueAt kvs (tk p (p.length - 1 - i))).isSome) (tr_testCmp (Pa := IsS (tk p (p.length - 1 - i))) (Tr.mono (tr_cutTo (x := p) (tr_nameP O' m2 ⟨tp, rfl⟩) (tr_neg (tr_nameI O' rfl)) z) fun v hv => by rw [← es]; exact hv) (tr_name O' m1) fun a b ha hb => ?_) (fun h1 => ?_) (fun h1 => ?_)
        · obtain ⟨t', rfl⟩ := ha
          exact tr_inK O' (ent_old i1 fun _ _ k z => z.keep k) f1 f2 hb (contains_fn (by exact hK) O' (ent_old T fun _ _ k z => z.keep k))
        · refine Tm.mono (Tr.m (tr_cutTo (x := p) (tr_nameP O' m2 ⟨tp, rfl⟩) (tr_neg (tr_nameI O' rfl)) z)) fun v σ' pv => ?_
          exact ⟨p.length - 1 - i, by omega, h1, fun j a b => hn j (by omega) b, by rw [← es]; exact pv.2⟩
        · refine tm_nil ⟨rfl, m1, m2, fun j a b => ?_⟩
          by_cases hj : j = p.length - 1 - i
          · subst hj; simpa using h1
          · exact hn j (by omega) b
      · rintro fix σ₁ ⟨rfl, m1, m2, hn⟩
        refine tq_seq (tq_raise (fun k hk => hn k (by omega) hk) O' ke rfl (tr_nameP (P := IsS p) O' m2 ⟨tp, rfl⟩))
  obtain ⟨nw, e, p, _⟩ := h
  exact ⟨nw, e, p⟩
end
end Mine
open PySem PySem.W PySem.Calls PyProof.Rows
set_option Elab.async false
set_option maxRecDepth 100000
set_option maxHeartbeats 4000000
set_option linter.unusedVariables false
namespace Mine
section
variable {G : Gx} {σ : Sg} {d : Nat}

def endsL : List Str := ["", "a", "b", "ab"]
theorem ends_fn (hK : G.K = KK G.w) (O : Ok G (d + 1)) : Tm G σ (call (.ref 85) [] []) (fun v σ' => ∃ nw l n' vs, v = .ref l ∧ σ' = { σ with n := nw ++ σ.n } ∧ (l, listOf (List.toArray vs) n') ∈ nw ∧ StrsAre vs endsL) := by
  refine' Tm.mono (tm_fn (R := fun v nw => ∃ l n' vs, v = .ref l ∧ (l, listOf (List.toArray vs) n') ∈ nw ∧ StrsAre vs endsL) (body := ?body) (binds := []) O (hK := ?hK) ?hb ?hc ?h1 ?h2 ?h3 ?h4 ?h5 ?h6 ?h7 ?h8 ?h9 ?hw) fun v σ' h => ?_
  case hK => rw [hK]; rfl
  case hb => rfl
  case hc => rw [hK]; rfl
  case h1 => rfl
  case h2 => rfl
  case h3 => rfl
  case h4 => rfl
  case h5 => rfl
  case h6 => rfl
  case h7 => decide
  case h8 => exact fun s X => BindsTo.of_eq rfl
  case h9 => exact locs rfl
  case hw =>
    intro own h L c O'
    refine seq_ret (tm_list (Tr.m (tr_arg4 tr_str tr_str tr_str tr_str)) (fun vs σ' l p _ => ?_) (by decide) fun vs σ' p => ?_)
    · obtain ⟨rfl, a, b, c', e, rfl, ⟨t1, rfl⟩, ⟨t2, rfl⟩, ⟨t3, rfl⟩, ⟨t4, rfl⟩⟩ := p
      exact ⟨l, 0, _, rfl, .head _, .cons _ _ (.cons _ _ (.cons _ _ (.cons _ _ .nil)))⟩
    · obtain ⟨rfl, a, b, c', e, rfl, _⟩ := p
      simp
  obtain ⟨nw, e, ⟨l, n', vs, h1, h2, h3⟩, _⟩ := h
  exact ⟨nw, l, n', vs, h1, e, h2, h3⟩

theorem stored_new {kvs : List (Str × Value)} {k : Str} {v : Value} (h : k ∉ kvs.map (·.1)) : stored kvs k v = kvs ++ [(k, v)] := by
  unfold stored
  rw [if_neg]
  rw [List.any_eq_true]
  rintro ⟨q, hq, e⟩
  exact h (List.mem_map.mpr ⟨q, hq, by simpa using e⟩)

theorem valueAt_get {kvs : List (Str × Value)} (hn : (kvs.map (·.1)).Nodup) {i : Nat} {k : Str} {v : Value} (hx : kvs[i]? = some (k, v)) : valueAt kvs k = some v := valueAt_of_get hn hx

/-- a dict made and filled in this frame -/
theorem others_fn (hK : G.K = KK G.w) (O : Ok G (d + 2)) {D : Addr} {kvs : List (Str × Value)} {key : Str} {tk : Tok} (hd : Ent G σ (fun h => h.DictOf (SK G) D kvs)) (hlo : (D == sysModules) = false) (hn : (kvs.map (·.1)).Nodup) (hz : kvs.length < 64) :
    Tm G σ (call (.ref 99) [.ref D, .str key tk] []) (fun v σ' => ∃ nw D' o', v = .ref D' ∧ σ' = { σ with n := nw ++ σ.n } ∧ (D', o') ∈ nw ∧ o'.IsDictOf (SK G) (kvs.filter fun q => q.1 != key) ∧ (D' == sysModules) = false ∧ ∀ p ∈ nw, ∀ q ∈ σ.n, p.1 ≠ q.1) := by
  refine' Tm.mono (tm_fn (d := d + 1) (R := fun v nw => ∃ D' o', v = .ref D' ∧ (D', o') ∈ nw ∧ o'.IsDictOf (SK G) (kvs.filter fun q => q.1 != key) ∧ (D' == sysModules) = false) (body := ?body) (binds := [("data", .ref D), ("key", .str key tk)]) O (hK := ?hK) ?hb ?hc ?h1 ?h2 ?h3 ?h4 ?h5 ?h6 ?h7 ?h8 ?h9 ?hw) fun v σ' h => ?_
  case hK => rw [hK]; rfl
  case hb => rfl
  case hc => rw [hK]; rfl
  case h1 => rfl
  case h2 => rfl
  case h3 => rfl
  case h4 => rfl
  case h5 => rfl
  case h6 => rfl
  case h7 => decide
  case h8 => exact fun s X => BindsTo.of_eq rfl
  case h9 => exact locs rfl
  case hw =>
    intro own h L c O'
    have hd₀ : h.DictOf (SK G) D kvs := hd own h c
    obtain ⟨oD, gD, iD⟩ := Heap.dictOf_iff.mp hd₀
    refine seq_assign O' (tm_dict0 O' (R := fun v σ' => ∃ a o, v = .ref a ∧ σ' = Sg.mk _ _ [(a, o)] ∧ o.IsDictOf (SK G) [] ∧ (a == sysModules) = false) fun a o h1 h2 _ => ⟨a, o, rfl, rfl, h1, h2⟩) fun v σ' p => ?_
    obtain ⟨a, o, rfl, rfl, h1, h2⟩ := p
    refine seq (tm_for (src_dict O' (tr_name O' rfl) (Fx.old gD) iD hlo (has_toN O' rfl (P := fun i v => ∃ k y, kvs[i]? = some (k, y) ∧ Value.isStrOf k v = true)))
      (fun fix i σ' => fix = [(D, oD)] ∧ σ'.m "data" = some (.ref D) ∧ σ'.m "key" = some (.str key tk) ∧ σ'.m "others" = some (.ref a) ∧ ∃ o', (a, o') ∈ σ'.n ∧ o'.IsDictOf (SK G) ((kvs.take i).filter fun q => q.1 != key)) ?_ ?_ ?_ ?_)
    · rintro σ₁ fix ⟨rfl, rfl⟩
      exact ⟨rfl, rfl, rfl, rfl, o, .head _, h1⟩
    · rintro fix i σ' ⟨rfl, _⟩; exact Fx.old gD
    · rintro fix i σ₁ σ₂ hi ⟨rfl, m1, m2, m3, o', hm, ho'⟩ ⟨v, ⟨k, y, hk, hv⟩, rfl⟩ _
      obtain ⟨tv, rfl⟩ := Value.isStrOf_shape hv
      have ht : kvs.take (i + 1) = kvs.take i ++ [(k, y)] := by rw [List.take_add_one, hk]; rfl
      refine seq_if (x := !(k == key)) (tr_testCmp (Pa := IsS k) (Pb := IsS key) (tr_nameP O' rfl ⟨tv, rfl⟩) (tr_nameP O' m2 ⟨tk, rfl⟩) fun u w hu hw => ?_) (fun hx => ?_) (fun hx => ?_)
      · obtain ⟨_, rfl⟩ := hu; obtain ⟨_, rfl⟩ := hw
        exact fun _ s _ _ c k => PyProof.Rows.ne_str (k _ s.heap s.toks rfl c)
      · have hx' : (k != key) = true := hx
        refine seq (tm_assignSub (P := fun v σ' => σ' = _ ∧ v = y) (P₂ := fun v u σ' => σ' = _ ∧ v = y ∧ u = .ref a) (P₃ := fun v u w σ' => σ' = _ ∧ v = y ∧ u = .ref a ∧ IsS k w) (Tr.m (tr_sub_ (tr_name O' m1) (tr_nameP (P := IsS k) O' rfl ⟨tv, rfl⟩) fun u w hu hw => tr_dItem (ent_dict₀ hd₀) hu hw (valueAt_get hn hk)))
          (fun v σ' p => by obtain ⟨rfl, p⟩ := p; exact Tm.mono (Tr.m (tr_name O' m3)) fun u σ'' q => ⟨q.1, p, q.2⟩) (fun v u σ' p => by obtain ⟨rfl, p1, p2⟩ := p; exact Tm.mono (Tr.m (tr_nameP (P := IsS k) O' rfl ⟨tv, rfl⟩)) fun w σ'' q => ⟨q.1, p1, p2, q.2⟩) fun v u w σ' p => ?_)
        obtain ⟨rfl, rfl, p2, p3⟩ := p
        refine Tm.mono (tm_dictSet hm ho' p2 p3 ?_) fun _ σ₃ p => ?_
        · rw [sizeLine_eq]
          have := List.length_filter_le (fun q : Str × Value => q.1 != key) (kvs.take i)
          rw [List.length_take] at this
          omega
        · obtain ⟨o'', ho'', rfl⟩ := p
          refine tm_nil (tm_nil ⟨rfl, m1, m2, m3, o'', updL_self hm, ?_⟩)
          rw [ht, List.filter_append]
          rw [stored_new] at ho''
          · rw [show List.filter (fun q : Str × Value => q.1 != key) [(k, v)] = [(k, v)] from List.filter_cons_of_pos (p := fun q : Str × Value => q.1 != key) (a := (k, v)) (l := []) hx']
            exact ho''
          · intro hmem
            obtain ⟨q, hq, e⟩ := List.mem_map.mp hmem
            have hq' := (List.mem_filter.mp hq).1
            obtain ⟨j, hj⟩ := List.mem_iff_getElem?.mp hq'
            have hj2 := hj
            rw [List.getElem?_take] at hj2
            split at hj2
            · rename_i hlt
              have h1 := List.getElem?_map (f := (·.1)) (l := kvs) (i := j)
              have e1 : (kvs.map (·.1))[j]? = some k := by rw [List.getElem?_map, hj2]; simp [e]
              have e2 : (kvs.map (·.1))[i]? = some k := by rw [List.getElem?_map, hk]; rfl
              have := (List.getElem?_inj (by rw [List.length_map]; exact Nat.lt_trans hlt hi) hn).mp (e1.trans e2.symm)
              omega
            · cases hj2
      · have hx' : (k != key) = false := hx
        refine tm_nil (tm_nil ⟨rfl, m1, m2, m3, o', hm, ?_⟩)
        rw [ht, List.filter_append]
        rw [show List.filter (fun q : Str × Value => q.1 != key) [(k, y)] = [] from List.filter_cons_of_neg (p := fun q : Str × Value => q.1 != key) (a := (k, y)) (l := []) (by simp only [hx']; decide), List.append_nil]
        exact ho'
    · rintro fix σ₁ ⟨rfl, m1, m2, m3, o', hm, ho'⟩
      refine seq_ret (Tm.mono (Tr.m (tr_name O' m3)) fun v σ' p => ?_)
      obtain ⟨rfl, rfl⟩ := p
      rw [List.take_length] at ho'
      exact ⟨a, o', rfl, hm, ho', h2⟩
  obtain ⟨nw, e, ⟨D', o', h1, h2, h3, h4⟩, h5⟩ := h
  exact ⟨nw, D', o', h1, e, h2, h3, h4, h5⟩

def NumR (kvs : List (Str × Value)) (p : Str) (vs : Array Value) : Prop := (∃ k y, k ≤ p.length ∧ valueAt kvs (tk p k) = some y ∧ (∀ j, k < j → j ≤ p.length → valueAt kvs (tk p j) = none) ∧ vs = #[y]) ∨ ((∀ k, k ≤ p.length → valueAt kvs (tk p k) = none) ∧ vs = #[])


theorem tq_longest (hK : G.K = KK G.w) (O : Ok G (d + 2)) {pl : Sem Bool} {o e : Expr} {apos pos : Pos} {x D dx : Addr} {es : List DictEntry} {n : Nat} {kvs : List (Str × Value)} {p : Str} (ho : Tr G σ (eval o G.env) (IsV (.ref x))) (he : Tr G σ (eval e G.env) (IsS p)) (hi : Ent G σ (fun h => InstIn h x 74 dx es n)) (hl : getL "longest_prefix" es = some none) (hT : Ent G σ (fun h => TrieH (SK G) h x D kvs)) (hz : p.length ≤ 1000)
    (hq : eval (.Call (.Attribute o "longest_prefix" apos) [e] [] pos) G.env = (do
          let ov ← eval o G.env
          standAt apos.atName
          let (f, first) ← holding [ov] (getMethod ov "longest_prefix" pl)
          callWith pos f first (backTo pos (starEach [e] G.env)) []) := by rfl)
    (hs : starEach [e] G.env = [(false, eval e G.env)] := by rfl) :
    Tq G σ (Xc G σ (∀ k, k ≤ p.length → valueAt kvs (tk p k) = none)) (eval (.Call (.Attribute o "longest_prefix" apos) [e] [] pos) G.env) (fun v σ' => σ' = σ ∧ ∃ k, k ≤ p.length ∧ (valueAt kvs (tk p k)).isSome = true ∧ (∀ j, k < j → j ≤ p.length → valueAt kvs (tk p j) = none) ∧ IsS (tk p k) v) :=
  tq_methI O ho hi (by rw [hK]; rfl) (f := 71) (by rw [hK]; rfl) (by rw [hK]; rfl) hl (by rw [hK]; rfl) (tr_arg1 he hs) (fun vs ⟨v, e, ⟨t, hv⟩⟩ => by subst e; subst hv; exact longest_fn hK O hT hz) hq (by rw [hs]; rfl) rfl

theorem number_fn (hK : G.K = KK G.w) (O : Ok G (d + 4)) (hfr : G.A.frames = some [G.env]) (hf : G.env.frame = some G.env.locals) {x D : Addr} {kvs : List (Str × Value)} {p : Str} {tp : Tok} (hT : Ent G σ (fun h => TrieH (SK G) h x D kvs)) (hz : p.length ≤ 1000) :
    Tm G σ (call (.ref 106) [.ref x, .str p tp] []) (fun v σ' => ∃ nw l n' vs, v = .ref l ∧ σ' = { σ with n := nw ++ σ.n } ∧ (l, listOf vs n') ∈ nw ∧ NumR kvs p vs ∧ ∀ p ∈ nw, ∀ q ∈ σ.n, p.1 ≠ q.1) := by
  refine' Tm.mono (tm_fnTry (d := d + 3) (N := ∀ k, k ≤ p.length → valueAt kvs (tk p k) = none) (R := fun v nw => ∃ l n' vs, v = .ref l ∧ (l, listOf vs n') ∈ nw ∧ NumR kvs p vs) (tb := ?tb) (binds := [("trie", .ref x), ("word", .str p tp)]) O hfr hf (hK := ?hK) ?hb ?hc ?h1 ?h2 ?h3 ?h4 ?h5 ?h6 ?h7 ?h8 ?h9 ?hE ?hx ?hw ?hh) fun v σ' h => ?_
  case hK => rw [hK]; rfl
  case hb => rfl
  case hc => rw [hK]; rfl
  case h1 => rfl
  case h2 => rfl
  case h3 => rfl
  case h4 => rfl
  case h5 => rfl
  case h6 => rfl
  case h7 => decide
  case h8 => exact fun s X => BindsTo.of_eq rfl
  case h9 => exact locs rfl
  case hE => rw [hK]; rfl
  case hx => exact fun L => rfl
  case hw =>
    intro own h L c O'
    have T := hT own h c
    obtain ⟨dx, es, n, l, vs, ss, t, u, v, tk', i1, i2, i3, i4, i5, i6, i7, i8⟩ := hT own h c
    have f1 : findIn G.K (.ref 74) "__getitem__" = some (some (.ref 57)) := by rw [hK]; rfl
    have f2 : fnIn G.K 57 = true := by rw [hK]; rfl
    have f3 : isFn G.K (.ref 57) = true := by rw [hK]; rfl
    refine tq_seq (tq_ret (tq_list1 (tq_sub (Pa := IsV (.ref x)) (Pb := fun a b σ' => a = .ref x ∧ σ' = _ ∧ ∃ k, k ≤ p.length ∧ (valueAt kvs (tk p k)).isSome = true ∧ (∀ j, k < j → j ≤ p.length → valueAt kvs (tk p j) = none) ∧ IsS (tk p k) b) (R := fun v σ' => ∃ k, k ≤ p.length ∧ valueAt kvs (tk p k) = some v ∧ ∀ j, k < j → j ≤ p.length → valueAt kvs (tk p j) = none) (tr_name O' rfl) (fun a ha => Tq.mono (tq_longest (by exact hK) O' (tr_name O' rfl) (tr_nameP (P := IsS p) O' rfl ⟨tp, rfl⟩) (ent_old i1 fun _ _ k z => z.keep k) i7 (ent_old T fun _ _ k z => z.keep k) hz) fun v σ' q => ⟨ha, q⟩) fun a b σ' q => ?_) fun v σ' l q ap => ?_) fun v σ' q => q)
    · obtain ⟨rfl, rfl, k, hk, hs, hj, tb, rfl⟩ := q
      obtain ⟨y, hy⟩ := Option.isSome_iff_exists.mp hs
      exact Tm.q (tm_subK O' (ent_old i1 fun _ _ k z => z.keep k) f1 f2 f3 rfl (Tm.mono (Tr.m (getitem_fn (by exact hK) O'.in1 (ent_old T fun _ _ k z => z.keep k) hy)) fun v σ' q => ⟨k, hk, by rw [hy, q.2], hj⟩))
    · obtain ⟨k, hk, hy, hj⟩ := q
      exact ⟨l, 0, _, rfl, .head _, .inl ⟨k, v, hk, hy, hj, rfl⟩⟩
  case hh =>
    intro hN h L e
    refine seq_ret (tm_list (P := fun vs σ' => vs = []) (Tm.mono (Tr.m tr_args0) fun vs σ' q => q.2) (fun vs σ' l q ap => ?_) (by decide) fun vs σ' q => by subst q; simp)
    subst q
    exact ⟨l, 0, _, rfl, .head _, .inr ⟨hN, rfl⟩⟩
  obtain ⟨nw, e, ⟨l, n', vs, h1, h2, h3⟩, h5⟩ := h
  exact ⟨nw, l, n', vs, h1, e, h2, h3, h5⟩
end
end Mine
open PySem PySem.W PySem.Calls PyProof.Rows
set_option Elab.async false
set_option maxRecDepth 100000
set_option maxHeartbeats 4000000
set_option linter.unusedVariables false
namespace Mine

noncomputable def lawEnv (w : World) (L fa : Addr) (cd : Value) : Env := envOfC "law" (fdOf (KK w) 111).scope L fa cd
noncomputable def lawB (w : World) : List Stmt := match (fdOf (KK w) 111).body with | .stmts b => b | _ => []
noncomputable def LG (prog : Program) (w : World) (h₀ : Heap) (fa : Addr) (cd : Value) : Gx := ⟨prog, w, KK w, callerA.deeper (lawEnv w h₀.objs.size fa cd), lawEnv w h₀.objs.size fa cd, h₀⟩

def iv : Value → Int
  | .int n _ => n
  | _ => 0
def DK (kvs : List (Str × Value)) : Prop := kvs.length ≤ 8 ∧ (∀ q ∈ kvs, q.1.length ≤ 4 ∧ ∃ n t, q.2 = .int n t) ∧ (kvs.map fun q => iv q.2).Nodup
structure D1 where
  nl : Addr
  nv : List Value
  nn : Nat
  ms : List Int
  wl : Addr
  wv : List Value
  wn : Nat
  ws : List Str
  D : Addr
  oD : Obj
  kvs : List (Str × Value)
structure St1 (G : Gx) (x : D1) (σ : Sg) : Prop where
  m1 : σ.m "numbers" = some (.ref x.nl)
  n1 : (x.nl, listOf x.nv.toArray x.nn) ∈ σ.n
  i1 : IntsAre x.nv x.ms
  l1 : x.ms.length ≤ 8
  m2 : σ.m "words" = some (.ref x.wl)
  n2 : (x.wl, listOf x.wv.toArray x.wn) ∈ σ.n
  i2 : StrsAre x.wv x.ws
  l2 : x.ws.length ≤ 9 ∧ 0 < x.ws.length ∧ ∀ s ∈ x.ws, s.length ≤ 4
  c3 : σ.c "data" = some (.ref x.D)
  n3 : (x.D, x.oD) ∈ σ.n
  i3 : x.oD.IsDictOf (SK G) x.kvs
  s3 : (x.D == sysModules) = false
  k3 : DK x.kvs

section
variable {prog : Program} {w : World} {h₀ : Heap} {fa : Addr} {cd : Value} {σ : Sg} {R : Flow → Sg → Prop}

theorem sign_len (n : Int) : (sign n).length ≤ 1 := by
  unfold sign
  split
  · rename_i h
    have m4 := fmod4 n
    have hc : n.fmod 4 = 0 ∨ n.fmod 4 = 1 ∨ n.fmod 4 = 2 := by omega
    rcases hc with h | h | h <;> rw [h] <;> decide
  · exact Nat.le_refl 1

theorem ints_get {vs : List Value} {ns : List Int} (h : IntsAre vs ns) : ∀ (i : Nat) v, vs[i]? = some v → ∃ n t, v = .int n t ∧ ns[i]? = some n := by
  induction h with
  | nil => intro i v e; simp at e
  | cons n t _ ih =>
    intro i v e
    cases i with
    | zero => simp at e; subst e; exact ⟨n, t, rfl, rfl⟩
    | succ i => simpa using ih i v (by simpa using e)
theorem StrsAre.snoc {vs : List Value} {ss : List Str} (h : StrsAre vs ss) (x : Str) (t : Tok) : StrsAre (vs ++ [.str x t]) (ss ++ [x]) := by
  induction h with
  | nil => exact .cons x t .nil
  | cons y u _ ih => exact .cons y u ih
theorem mem_stored {kvs : List (Str × Value)} {k : Str} {v : Value} {q : Str × Value} (h : q ∈ stored kvs k v) : q = (k, v) ∨ q ∈ kvs ∧ q.1 ≠ k := by
  unfold stored at h
  split at h
  · obtain ⟨p, hp, rfl⟩ := List.mem_map.mp h
    by_cases e : p.1 = k
    · simp [e]
    · simp [e, hp]
  · rename_i hn
    rcases List.mem_append.mp h with h | h
    · refine .inr ⟨h, fun e => hn ?_⟩
      exact List.any_eq_true.mpr ⟨q, h, by simp [e]⟩
    · exact .inl (List.mem_singleton.mp h)
theorem stored_vals {kvs : List (Str × Value)} {k : Str} {v : Value} {i : Int} (hn : (kvs.map (·.1)).Nodup) (hv : (kvs.map fun q => iv q.2).Nodup) (hl : ∀ q ∈ kvs, iv q.2 < i) (e : iv v = i) : ((stored kvs k v).map fun q => iv q.2).Nodup := by
  unfold stored
  split
  · unfold List.Nodup at hn hv ⊢
    rw [List.pairwise_map] at hn hv
    rw [List.map_map, List.pairwise_map]
    refine (hn.and hv).imp_of_mem fun {a b} ha hb hab => ?_
    simp only [Function.comp]
    by_cases ea : a.1 = k
    · have eb : b.1 ≠ k := fun q => hab.1 (ea.trans q.symm)
      simp only [ea, eb, if_true, if_false]
      have := hl b hb
      omega
    · by_cases eb : b.1 = k
      · simp only [ea, eb, if_true, if_false]
        have := hl a ha
        omega
      · simp only [ea, eb, if_false]
        exact hab.2
  · rw [List.map_append]
    refine List.nodup_append.mpr ⟨hv, by simp, fun a ha b hb => ?_⟩
    obtain ⟨q, hq, rfl⟩ := List.mem_map.mp ha
    simp at hb
    subst hb
    have := hl q hq
    omega

theorem ph1 (O : Ok (LG prog w h₀ fa cd) 8) {sl : Addr} {sv : List Value} {ns : List Int} (hs : h₀.IsList sl sv.toArray) (hi : IntsAre sv ns) (hz : ns.length ≤ 63) (hm : σ.m "script" = some (.ref sl))
    (k : ∀ σ x, St1 (LG prog w h₀ fa cd) x σ → Tm (LG prog w h₀ fa cd) σ (execs ((lawB w).drop 4) (LG prog w h₀ fa cd).env) R) : Tm (LG prog w h₀ fa cd) σ (execs (lawB w) (LG prog w h₀ fa cd).env) R := by
  have hvl : sv.length = ns.length := hi.length
  refine seq_assign O (tm_cutList (k := 8) (tr_name O hm) (ent_list₀ hs) tr_int (by omega)) fun v σ₁ p => ?_
  obtain ⟨nl, rfl, rfl, apn⟩ := p
  refine seq_assign O (tm_list1 tr_str) fun v σ₂ p => ?_
  obtain ⟨wl, sv0, rfl, ⟨t0, rfl⟩, rfl, apw⟩ := p
  refine seq_assignC O (a := h₀.objs.size + 1) rfl (none_above (Nat.le_succ _)) (tm_dictNew O) fun v σ₃ p => ?_
  obtain ⟨D, oD, rfl, rfl, iD, sD, apD⟩ := p
  have wn : wl ≠ nl := fun e => apw (nl, _) (.head _) e.symm
  have Dw : D ≠ wl := fun e => apD (wl, _) (.head _) e.symm
  have Dn : D ≠ nl := fun e => apD (nl, _) (.tail _ (.head _)) e.symm
  have ke : nsIn (KK w) mainGlobals "enumerate" = some none := by rfl
  have kl : nsIn (KK w) mainGlobals "len" = some none := by rfl
  have ks : nsIn (KK w) mainGlobals "_law_sign" = some (some (.ref 92)) := by rfl
  have kk : keepIn (KK w) (.ref 92) = true := by rfl
  have itk : IntsAre (sv.take 8) (ns.take 8) := hi.take 8
  have ltk : (sv.take 8).length ≤ 8 := by rw [List.length_take]; omega
  refine seq (tm_for (src_enum O ke rfl (tr_name O rfl) (Fx.one (.tail _ (.tail _ (.head _)))) (lst_of (its := (sv.take 8).toArray) (n := 0)) rfl rfl)
    (fun fix i σ' => ∃ x : D1, St1 (LG prog w h₀ fa cd) x σ' ∧ fix = [(nl, listOf (sv.take 8).toArray 0)] ∧ x.nl = nl ∧ x.nv = sv.take 8 ∧ x.nn = 0 ∧ x.wl = wl ∧ x.D = D ∧ x.ws.length = i + 1 ∧ (∀ q ∈ x.kvs, 0 ≤ iv q.2 ∧ iv q.2 < i) ∧ x.kvs.length ≤ i) ?_ ?_ ?_ ?_)
  · rintro σ₁ fix ⟨rfl, rfl⟩
    exact ⟨⟨nl, sv.take 8, 0, ns.take 8, wl, [.str "" t0], 0, [""], D, oD, []⟩, ⟨rfl, .tail _ (.tail _ (.head _)), itk, by rw [List.length_take]; omega, rfl, .tail _ (.head _), .cons _ _ .nil, ⟨by simp, by simp, fun s hs => by obtain rfl := List.mem_singleton.mp hs; decide⟩, rfl, .head _, iD, sD, ⟨by simp, by simp, by simp⟩⟩, rfl, rfl, rfl, rfl, rfl, rfl, rfl, by simp, by simp⟩
  · rintro fix i σ' ⟨x, S, rfl, e1, e2, e3, _⟩
    have := S.n1
    rw [e1, e2, e3] at this
    exact Fx.one this
  · rintro fix i σ₁ σ₂ hi' ⟨x, S, rfl, e1, e2, e3, e4, e5, hwl, hval, hkl⟩ ⟨ti, vn, hvn, rfl⟩ _
    obtain ⟨n, tn, rfl, hn⟩ := ints_get itk i vn (by simpa using hvn)
    have hi8 : i < 8 := by
      have : i < (sv.take 8).length := by simpa using hi'
      omega
    have hwv := strs_len S.i2
    have m2' : σ₁.m "words" = some (.ref x.wl) := S.m2
    have nwl : (x.wl, listOf x.wv.toArray x.wn) ∈ σ₁.n := S.n2
    -- the word that is cut
    have hq0 : 0 ≤ (n.fdiv 48).fmod (x.wv.toArray.size : Int) := Int.fmod_nonneg_of_pos _ (by simp; omega)
    have hq1 : (n.fdiv 48).fmod (x.wv.toArray.size : Int) < x.wv.toArray.size := Int.fmod_lt_of_pos _ (by simp; omega)
    generalize hq : (n.fdiv 48).fmod (x.wv.toArray.size : Int) = q at hq0 hq1
    have hsz : x.wv.toArray.size = x.ws.length := by simp [hwv]
    obtain ⟨sw, hsw⟩ : ∃ s, x.ws[((-1 - q) + (x.wv.toArray.size : Int)).toNat]? = some s := ⟨_, List.getElem?_eq_getElem (by omega)⟩
    obtain ⟨tw, htw⟩ := strs_get S.i2 _ sw hsw
    have lsw : sw.length ≤ 4 := S.l2.2.2 sw (List.mem_of_getElem? hsw)
    have hj0 : 0 ≤ (n.fdiv 12).fmod 4 := Int.fmod_nonneg_of_pos _ (by decide)
    have hj1 : (n.fdiv 12).fmod 4 < 4 := Int.fmod_lt_of_pos _ (by decide)
    generalize hj : (n.fdiv 12).fmod 4 = j at hj0 hj1
    have lcut : (Txt.slice sw none (some j)).length ≤ 3 := by
      rw [← lw_length, slice_to hj0, List.length_take]
      omega
    have lsg := sign_len n
    have lnew : (Txt.slice sw none (some j) ++ sign n).length ≤ 4 := by
      rw [← lw_length, lw_append, List.length_append, lw_length, lw_length]; omega
    refine seq (tm_appendStmt (v := .none) (P := IsS (Txt.slice sw none (some j) ++ sign n)) (tr_name O m2') nwl (by rw [sizeLine_eq]; omega)
      (tr_cat (tr_cutTo (x := sw) (j := j) (tr_sub_ (tr_name O m2') (tr_sub (a := -1) (b := q) tr_neg1 (by
          rw [← hq]
          exact tr_mod (tr_div (tr_nameI O rfl) tr_int (by decide) (PyProof.noPylong_small (by decide))) (tr_fn1 O kl (id := "len") (by decide +kernel) rfl (tr_name O m2') (R := IsI x.wv.toArray.size) fun v e => by subst e; exact tr_len_list (ent_list nwl) (by omega)) (by omega))) fun a b ha hb => Tr.mono (tr_itemN (x := .str sw tw) (ent_list nwl) ha hb (by omega) (by omega) (by omega) (by simpa using htw)) fun v e => ⟨tw, e⟩)
        (by
          rw [← hj]
          exact tr_mod (tr_div (tr_nameI O rfl) tr_int (by decide) (PyProof.noPylong_small (by decide))) tr_int (by decide)) (by rw [sizeLine_eq]; omega))
        (tr_callK O (tr_glob O ks) kk (tr_arg1 (tr_nameP (P := fun v => v = .int n tn) O rfl rfl)) fun vs ⟨v, e, ev⟩ => by subst e; subst ev; exact sign_fn rfl O n tn) (by rw [sizeLine_eq]; omega)) fun v n' pv => ?_)
    obtain ⟨t', rfl⟩ := pv
    have nw' : x.wl ≠ x.nl := by rw [e1, e4]; exact wn
    have nD : x.D ≠ x.nl := by rw [e1, e5]; exact Dn
    have wD : x.D ≠ x.wl := by rw [e4, e5]; exact Dw
    have hpush : x.wv.toArray.push (.str (Txt.slice sw none (some j) ++ sign n) t') = (x.wv ++ [Value.str (Txt.slice sw none (some j) ++ sign n) t']).toArray := by simp
    rw [hpush]
    generalize hw' : Txt.slice sw none (some j) ++ sign n = w' at *
    have nwl' := updL_self (o' := listOf (x.wv ++ [Value.str w' t']).toArray n') nwl
    have hlast : (x.wv ++ [Value.str w' t']).toArray[((-1 : Int) + ((x.wv ++ [Value.str w' t']).toArray.size : Int)).toNat]? = some (.str w' t') := by
      have : ((-1 : Int) + ((x.wv ++ [Value.str w' t']).toArray.size : Int)).toNat = x.wv.length := by simp; omega
      rw [this]; simp
    refine seq (tm_assignSub (P := fun v σ' => σ' = _ ∧ v = .int i ti) (P₂ := fun v u σ' => σ' = _ ∧ v = .int i ti ∧ u = .ref x.D) (P₃ := fun v u y σ' => σ' = _ ∧ v = .int i ti ∧ u = .ref x.D ∧ IsS w' y) (tr_name O rfl).m
      (fun v σ' p => by obtain ⟨rfl, p⟩ := p; exact Tm.mono (Tr.m (tr_nameC O rfl S.c3)) fun u σ'' q => ⟨q.1, p, q.2⟩)
      (fun v u σ' p => by
        obtain ⟨rfl, p1, p2⟩ := p
        exact Tm.mono (Tr.m (tr_sub_ (tr_name O m2') (tr_neg1 (i := 1)) fun a b ha hb => Tr.mono (tr_itemN (x := .str w' t') (ent_list nwl') ha hb (by decide) (by simp; omega) (by decide) hlast) fun v e => (⟨t', e⟩ : IsS w' v))) fun y σ'' q => ⟨q.1, p1, p2, q.2⟩)
      fun v u y σ' p => ?_)
    obtain ⟨rfl, rfl, p2, p3⟩ := p
    refine Tm.mono (tm_dictSet (updL_ne S.n3 wD) S.i3 p2 p3 (by rw [sizeLine_eq]; omega)) fun _ σ₃ p => ?_
    obtain ⟨o', ho', rfl⟩ := p
    obtain ⟨_, _, _, _, _, _, hnd⟩ := id S.i3
    refine tm_nil ⟨⟨x.nl, x.nv, x.nn, x.ms, x.wl, x.wv ++ [Value.str w' t'], n', x.ws ++ [w'], x.D, o', stored x.kvs w' (.int i ti)⟩, ⟨S.m1, updL_ne (updL_ne S.n1 nw'.symm) nD.symm, S.i1, S.l1, m2', updL_ne nwl' wD.symm, StrsAre.snoc S.i2 w' t', ⟨?_, ?_, ?_⟩, S.c3, updL_self (updL_ne S.n3 wD), ho', S.s3, ⟨?_, ?_, ?_⟩⟩, ?_, e1, e2, e3, e4, e5, ?_, ?_, ?_⟩
    · simp; omega
    · simp
    · intro s hs
      rcases List.mem_append.mp hs with hs | hs
      · exact S.l2.2.2 s hs
      · obtain rfl := List.mem_singleton.mp hs; exact lnew
    · have := stored_length_le x.kvs w' (.int i ti)
      show (stored x.kvs w' (.int i ti)).length ≤ 8
      omega
    · intro q hq
      rcases mem_stored hq with rfl | ⟨hq, _⟩
      · exact ⟨lnew, _, _, rfl⟩
      · exact S.k3.2.1 q hq
    · exact stored_vals hnd S.k3.2.2 (fun q hq => (hval q hq).2) rfl
    · rfl
    · simp [hwl]
    · intro q hq
      rcases mem_stored hq with rfl | ⟨hq, _⟩
      · show 0 ≤ (i : Int) ∧ (i : Int) < ((i + 1 : Nat) : Int); omega
      · have := hval q hq; push_cast; omega
    · have := stored_length_le x.kvs w' (.int i ti)
      show (stored x.kvs w' (.int i ti)).length ≤ i + 1
      omega
  · rintro fix σ₁ ⟨x, S, _⟩
    exact k σ₁ x S
end
end Mine
open PySem PySem.W PySem.Calls PyProof.Rows
set_option Elab.async false
set_option maxRecDepth 100000
set_option maxHeartbeats 4000000
set_option linter.unusedVariables false
namespace Mine

theorem valueAt_stored (kvs : List (Str × Value)) (k b : Str) (v : Value) : valueAt (stored kvs k v) b = if b = k then some v else valueAt kvs b := by
  unfold stored valueAt
  split
  · rename_i h
    induction kvs with
    | nil => simp at h
    | cons q r ih =>
      by_cases e : q.1 = k
      · by_cases e2 : b = k
        · subst e2; simp [e]
        · have h1 : ¬ k = b := fun z => e2 z.symm
          have h2 : ¬ q.1 = b := by rw [e]; exact h1
          simp only [List.map_cons, e, if_true, List.find?_cons, h1, h2, e2, if_false, decide_false, cond_false]
          by_cases hr : r.any (fun kv => decide (kv.1 = k)) = true
          · have := ih hr
            simp only [e2, if_false] at this
            exact this
          · have : r.map (fun kv => if kv.1 = k then (kv.1, v) else kv) = r := by
              conv => rhs; rw [← List.map_id r]
              refine List.map_congr_left fun q hq => ?_
              rw [if_neg]; rfl
              intro z; exact hr (List.any_eq_true.mpr ⟨q, hq, by simp [z]⟩)
            rw [this]
      · have hr : r.any (fun kv => decide (kv.1 = k)) = true := by simpa [e] using h
        have := ih hr
        simp only [List.map_cons, e, if_false, List.find?_cons]
        by_cases e3 : q.1 = b
        · have : ¬ b = k := fun z => e (e3.trans z)
          simp [e3, this]
        · simp only [e3, decide_false, cond_false]; exact this
  · rename_i h
    rw [List.find?_append]
    by_cases e2 : b = k
    · subst e2
      have : kvs.find? (fun kv => decide (kv.1 = b)) = none := by
        rw [List.find?_eq_none]
        intro q hq z
        exact h (List.any_eq_true.mpr ⟨q, hq, z⟩)
      simp [this]
    · have h1 : ¬ k = b := fun z => e2 z.symm
      simp [h1, e2]

def beh (kvs : List (Str × Value)) (b : Str) : List Int := (kvs.filter fun q => decide (lw b <+: lw q.1)).map fun q => iv q.2
structure BehF (n : Led) (B : Addr) (bf : Str → List Int) (bkv : List (Str × Value)) : Prop where
  no : ∀ b, valueAt bkv b = none → b.length = 0 ∨ bf b = []
  yes : ∀ b v, valueAt bkv b = some v → 1 ≤ b.length ∧ bf b ≠ [] ∧ ∃ l vs k, v = .ref l ∧ l ≠ B ∧ (l, listOf (List.toArray vs) k) ∈ n ∧ IntsAre vs (bf b)
theorem BehF.congr {n : Led} {B : Addr} {bf bf' : Str → List Int} {bkv : List (Str × Value)} (h : BehF n B bf bkv) (e : ∀ b, 1 ≤ b.length → bf b = bf' b) : BehF n B bf' bkv := by
  refine ⟨fun b hb => ?_, fun b v hb => ?_⟩
  · rcases h.no b hb with h | h
    · exact .inl h
    · by_cases hl : b.length = 0
      · exact .inl hl
      · exact .inr (by rw [← e b (by omega)]; exact h)
  · have := h.yes b v hb
    rw [← e b this.1]
    exact this
theorem BehF.mono {n n' : Led} {B : Addr} {bf : Str → List Int} {bkv : List (Str × Value)} (h : BehF n B bf bkv) (k : ∀ l o, l ≠ B → (l, o) ∈ n → (l, o) ∈ n') : BehF n' B bf bkv :=
  ⟨h.no, fun b v hb => by obtain ⟨h1, h2, l, vs, j, h3, h4, h5, h6⟩ := h.yes b v hb; exact ⟨h1, h2, l, vs, j, h3, h4, k _ _ h4 h5, h6⟩⟩
theorem BehF.store {n : Led} {B l' : Addr} {bf : Str → List Int} {bkv : List (Str × Value)} {p : Str} {v : Int} {vs : List Value} {k : Nat} (h : BehF n B bf bkv) (hp : 1 ≤ p.length) (hl : l' ≠ B) (hm : (l', listOf (List.toArray vs) k) ∈ n) (hi : IntsAre vs (bf p ++ [v])) :
    BehF n B (fun b => bf b ++ if b = p then [v] else []) (stored bkv p (.ref l')) := by
  refine ⟨fun b hb => ?_, fun b u hb => ?_⟩
  · rw [valueAt_stored] at hb
    by_cases e : b = p
    · rw [if_pos e] at hb; cases hb
    · rw [if_neg e] at hb
      rcases h.no b hb with q | q
      · exact .inl q
      · right; simp [q, e]
  · rw [valueAt_stored] at hb
    by_cases e : b = p
    · rw [if_pos e] at hb
      cases hb
      subst e
      simp only [if_true]
      exact ⟨hp, by simp, l', vs, k, rfl, hl, hm, hi⟩
    · rw [if_neg e] at hb
      simp only [e, if_false, List.append_nil]
      exact h.yes b u hb

theorem ite_cases {a b c : Prop} [Decidable a] [Decidable b] [Decidable c] {z : Int} (h : c ↔ (a ∨ b)) (hx : ¬ (a ∧ b)) : (if c then [z] else []) = (if a then [z] else []) ++ if b then [z] else [] := by
  by_cases ha : a <;> by_cases hb : b <;> simp_all
theorem St1.mono {G : Gx} {x : D1} {σ σ' : Sg} (S : St1 G x σ) (h1 : σ'.m "numbers" = σ.m "numbers") (h2 : σ'.m "words" = σ.m "words") (h3 : σ'.c "data" = σ.c "data") (h : ∀ a o, a = x.nl ∨ a = x.wl ∨ a = x.D → (a, o) ∈ σ.n → (a, o) ∈ σ'.n) : St1 G x σ' :=
  ⟨h1.trans S.m1, h _ _ (.inl rfl) S.n1, S.i1, S.l1, h2.trans S.m2, h _ _ (.inr (.inl rfl)) S.n2, S.i2, S.l2, h3.trans S.c3, h _ _ (.inr (.inr rfl)) S.n3, S.i3, S.s3, S.k3⟩

structure DB where
  B : Addr
  oB : Obj
  bkv : List (Str × Value)
structure St2 (G : Gx) (x : D1) (y : DB) (σ : Sg) : Prop extends St1 G x σ where
  c4 : σ.c "behind" = some (.ref y.B)
  n4 : (y.B, y.oB) ∈ σ.n
  i4 : y.oB.IsDictOf (SK G) y.bkv
  s4 : (y.B == sysModules) = false
  b4 : BehF σ.n y.B (beh x.kvs) y.bkv
  l4 : y.bkv.length ≤ 32

section
variable {prog : Program} {w : World} {h₀ : Heap} {fa : Addr} {cd : Value} {σ : Sg} {R : Flow → Sg → Prop}

theorem ph2 (O : Ok (LG prog w h₀ fa cd) 8) {x : D1} (S : St1 (LG prog w h₀ fa cd) x σ)
    (k : ∀ σ y, St2 (LG prog w h₀ fa cd) x y σ → Tm (LG prog w h₀ fa cd) σ (execs ((lawB w).drop 6) (LG prog w h₀ fa cd).env) R) : Tm (LG prog w h₀ fa cd) σ (execs ((lawB w).drop 4) (LG prog w h₀ fa cd).env) R := by
  have kr : nsIn (KK w) mainGlobals "range" = some none := by rfl
  have kl : nsIn (KK w) mainGlobals "len" = some none := by rfl
  refine seq_assignC O (a := h₀.objs.size + 2) rfl (none_above (Nat.le_add_right _ _)) (tm_dictNew O) fun v σ₃ p => ?_
  obtain ⟨B, oB, rfl, rfl, iB, sB, apB⟩ := p
  have offB : ∀ a o, (a, o) ∈ σ.n → a ≠ B := fun a o h => apB (a, o) h
  obtain ⟨_, _, _, _, _, _, hnd⟩ := id S.i3
  refine seq (tm_for (src_dict O (tr_nameC O rfl S.c3) (Fx.one (.tail _ S.n3)) S.i3 S.s3 (has_toC O (a := h₀.objs.size + 3) rfl (none_above (Nat.le_add_right _ _)) rfl (P := fun i v => ∃ k y, x.kvs[i]? = some (k, y) ∧ Value.isStrOf k v = true)))
    (fun fix i σ' => St1 (LG prog w h₀ fa cd) x σ' ∧ fix = [(x.D, x.oD)] ∧ σ'.c "behind" = some (.ref B) ∧ ∃ oB bkv, (B, oB) ∈ σ'.n ∧ oB.IsDictOf (SK (LG prog w h₀ fa cd)) bkv ∧ BehF σ'.n B (beh (x.kvs.take i)) bkv ∧ bkv.length ≤ 4 * i) ?_ ?_ ?_ ?_)
  · rintro σ₁ fix ⟨rfl, rfl⟩
    refine ⟨S.mono rfl rfl rfl fun a o _ h => .tail _ h, rfl, rfl, oB, [], .head _, iB, ⟨fun b _ => .inr rfl, fun b v h => nomatch h⟩, Nat.zero_le _⟩
  · rintro fix i σ' ⟨S', rfl, _⟩; exact Fx.one S'.n3
  · rintro fix i σ₁ σ₂ hi ⟨S', rfl, cB, oB, bkv, mB, iB', hB, lB⟩ ⟨v, ⟨k, y, hk, hv⟩, rfl⟩ _
    obtain ⟨tv, rfl⟩ := Value.isStrOf_shape hv
    obtain ⟨lk, z, tz, rfl⟩ := S.k3.2.1 (k, y) (List.mem_of_getElem? hk)
    have lk' : k.length ≤ 4 := lk
    have zk : k.length ≤ sizeLine := by rw [sizeLine_eq]; omega
    refine seq (tm_for (src_range O (range2_made O kr rfl tr_int (tr_add (tr_fn1 O kl (id := "len") (by decide +kernel) rfl (tr_nameCP (P := IsS k) O rfl rfl ⟨tv, rfl⟩) (R := IsI k.length) fun v hv => tr_len_str hv (by omega)) tr_int) rfl rfl) (by omega) (by omega) (by omega) (by omega) rfl)
      (fun fix j σ' => fix = [] ∧ St1 (LG prog w h₀ fa cd) x σ' ∧ σ'.c "key" = some (.str k tv) ∧ σ'.c "behind" = some (.ref B) ∧ ∃ oB bkv, (B, oB) ∈ σ'.n ∧ oB.IsDictOf (SK (LG prog w h₀ fa cd)) bkv ∧ BehF σ'.n B (fun b => beh (x.kvs.take i) b ++ if 1 ≤ b.length ∧ b.length ≤ j ∧ lw b <+: lw k then [z] else []) bkv ∧ bkv.length ≤ 4 * i + j) ?_ ?_ ?_ ?_)
    · rintro σ₁ fix ⟨rfl, rfl⟩
      refine ⟨rfl, S'.mono rfl rfl rfl fun a o _ h => h, rfl, cB, oB, bkv, mB, iB', hB.congr fun b hb => ?_, lB⟩
      rw [if_neg (by omega), List.append_nil]
    · rintro fix i σ' ⟨rfl, _⟩; exact Fx.nil
    · rintro fix j σ₃ σ₄ hj ⟨rfl, S₃, ck, cB₃, oB₃, bkv₃, mB₃, iB₃, hB₃, lB₃⟩ ⟨v, ⟨tj, rfl⟩, rfl⟩ _
      have hj' : j < k.length := by omega
      have lp : (tk k (j + 1)).length = j + 1 := by rw [← lw_length, lw_tk, List.length_take, lw_length]; omega
      have esl : Txt.slice k none (some (1 + (j : Int))) = tk k (j + 1) := str_ext (by rw [slice_to (by omega), lw_tk]; congr 1; omega)
      have cut : ∀ {σ' : Sg} {ve e : Expr} {p pos : Pos}, Tr (LG prog w h₀ fa cd) σ' (eval ve (LG prog w h₀ fa cd).env) (IsS k) → Tr (LG prog w h₀ fa cd) σ' (eval e (LG prog w h₀ fa cd).env) (IsI (1 + (j : Int))) → (∀ t a, subscripted (.Slice none (some e) none p) false (.str k t) (.ref a) = operate [.ref a, .str k t] (getItem (.str k t) (.ref a))) → (∀ t r, letTemporaryGo ve (.str k t) r = pure ()) →
          Tr (LG prog w h₀ fa cd) σ' (eval (.Subscript ve (.Slice none (some e) none p) pos) (LG prog w h₀ fa cd).env) (IsS (tk k (j + 1))) := fun h1 h2 h3 h4 => by rw [← esl]; exact tr_cutTo h1 h2 zk h3 h4
      generalize hbf : (fun b : Str => beh (x.kvs.take i) b ++ if 1 ≤ b.length ∧ b.length ≤ j ∧ lw b <+: lw k then [z] else []) = bf at hB₃
      have ne₁ : ∀ a o, a = x.nl ∨ a = x.wl ∨ a = x.D → (a, o) ∈ σ₃.n → a ≠ B := by
        rintro a o (rfl | rfl | rfl) _
        · exact offB _ _ S.n1
        · exact offB _ _ S.n2
        · exact offB _ _ S.n3
      refine seq (tm_assignSub (P := fun v σ' => ∃ l0 l1 l' vs', v = .ref l' ∧ l' ≠ B ∧ σ' = Sg.mk (put σ₃.m "size" (.int (1 + (j : Int)) tj)) σ₃.c ((l', listOf (List.toArray vs') 0) :: (l1, listOf [Value.int z tz].toArray 0) :: (l0, listOf ([] : List Value).toArray 0) :: σ₃.n) ∧ IntsAre vs' (bf (tk k (j + 1)) ++ [z]))
        (P₂ := fun v u σ' => (∃ l0 l1 l' vs', v = .ref l' ∧ l' ≠ B ∧ σ' = Sg.mk (put σ₃.m "size" (.int (1 + (j : Int)) tj)) σ₃.c ((l', listOf (List.toArray vs') 0) :: (l1, listOf [Value.int z tz].toArray 0) :: (l0, listOf ([] : List Value).toArray 0) :: σ₃.n) ∧ IntsAre vs' (bf (tk k (j + 1)) ++ [z])) ∧ u = .ref B)
        (P₃ := fun v u y σ' => (∃ l0 l1 l' vs', v = .ref l' ∧ l' ≠ B ∧ σ' = Sg.mk (put σ₃.m "size" (.int (1 + (j : Int)) tj)) σ₃.c ((l', listOf (List.toArray vs') 0) :: (l1, listOf [Value.int z tz].toArray 0) :: (l0, listOf ([] : List Value).toArray 0) :: σ₃.n) ∧ IntsAre vs' (bf (tk k (j + 1)) ++ [z])) ∧ u = .ref B ∧ IsS (tk k (j + 1)) y)
        (tm_binop (Pa := fun a σ' => ∃ l0 l vs n0, a = .ref l ∧ σ' = Sg.mk (put σ₃.m "size" (.int (1 + (j : Int)) tj)) σ₃.c ((l0, listOf ([] : List Value).toArray 0) :: σ₃.n) ∧ (l, listOf (List.toArray vs) n0) ∈ (l0, listOf ([] : List Value).toArray 0) :: σ₃.n ∧ IntsAre vs (bf (tk k (j + 1))))
          (Pb := fun a b σ' => ∃ l0 l1 l vs n0, a = .ref l ∧ b = .ref l1 ∧ σ' = Sg.mk (put σ₃.m "size" (.int (1 + (j : Int)) tj)) σ₃.c ((l1, listOf [Value.int z tz].toArray 0) :: (l0, listOf ([] : List Value).toArray 0) :: σ₃.n) ∧ (l, listOf (List.toArray vs) n0) ∈ (l0, listOf ([] : List Value).toArray 0) :: σ₃.n ∧ IntsAre vs (bf (tk k (j + 1))))
          (tm_dictGet2 (x := tk k (j + 1)) (tr_nameC O rfl cB₃) (cut (tr_nameCP O rfl ck ⟨tv, rfl⟩) (tr_nameI O rfl) (by intro _ _; with_unfolding_all rfl) (by intro _ _; with_unfolding_all rfl)) tm_list0 (fun v σ' p => ?_) (ent_dict mB₃ iB₃) sB fun v σ' p => ?_)
          (fun a σ' p => ?_) fun a b σ' p => ?_) (fun v σ' p => ?_) (fun v u σ' p => ?_) fun v u y σ' p => ?_)
      · obtain ⟨l, _, rfl, _⟩ := p
        exact ent_dict (.tail _ mB₃) iB₃
      · obtain ⟨l, rfl, rfl, _⟩ := p
        cases hv : valueAt bkv₃ (tk k (j + 1)) with
        | none =>
          rcases hB₃.no _ hv with q | q
          · omega
          · exact ⟨l, l, [], 0, rfl, rfl, .head _, by rw [q]; exact .nil⟩
        | some u =>
          obtain ⟨_, _, l', vs, n0, rfl, _, hm, hint⟩ := hB₃.yes _ _ hv
          exact ⟨l, l', vs, n0, rfl, rfl, .tail _ hm, hint⟩
      · obtain ⟨l0, l, vs, n0, rfl, rfl, hm, hint⟩ := p
        refine Tm.mono (tm_list1 (P := IsV (.int z tz)) (tr_sub_ (tr_nameC O rfl S₃.c3) (tr_nameCP (P := IsS k) O rfl ck ⟨tv, rfl⟩) fun u y hu hy => tr_dItem (ent_dict (.tail _ S₃.n3) S.i3) hu hy (valueAt_get hnd hk))) fun v σ' q => ?_
        obtain ⟨l1, y, rfl, rfl, rfl, _⟩ := q
        exact ⟨l0, l1, l, vs, n0, rfl, rfl, rfl, hm, hint⟩
      · obtain ⟨l0, l1, l, vs, n0, rfl, rfl, rfl, hm, hint⟩ := p
        refine Tm.mono (tm_addList (vs := vs) (us := [.int z tz]) (fun own h c => c.get (.tail _ hm)) (fun own h c => c.get (.head _)) rfl rfl ?_) fun v σ' q => ?_
        · have : vs.length = (bf (tk k (j + 1))).length := hint.length
          have h1 : (beh (x.kvs.take i) (tk k (j + 1))).length ≤ 8 := by
            unfold beh
            rw [List.length_map]
            have := List.length_filter_le (fun q : Str × Value => decide (lw (tk k (j + 1)) <+: lw q.1)) (x.kvs.take i)
            rw [List.length_take] at this
            have := S.k3.1
            omega
          rw [← hbf] at this
          simp only [List.length_append] at this
          have h2 : ∀ c : Prop, ∀ d : Decidable c, (if c then [z] else []).length ≤ 1 := fun c d => by split <;> simp
          have h3 := h2 (1 ≤ (tk k (j + 1)).length ∧ (tk k (j + 1)).length ≤ j ∧ lw (tk k (j + 1)) <+: lw k) inferInstance
          show vs.length + 1 ≤ 1000000
          omega
        · obtain ⟨l', rfl, rfl, ap⟩ := q
          exact ⟨l0, l1, l', _, rfl, fun e => ap (B, oB₃) (.tail _ (.tail _ mB₃)) e.symm, rfl, hint.append (.cons z tz .nil)⟩
      · obtain ⟨l0, l1, l', vs', rfl, hl', rfl, hint⟩ := p
        exact Tm.mono (Tr.m (tr_nameC O rfl cB₃)) fun u σ'' q => by obtain ⟨rfl, q⟩ := q; exact ⟨⟨l0, l1, l', vs', rfl, hl', rfl, hint⟩, q⟩
      · obtain ⟨⟨l0, l1, l', vs', rfl, hl', rfl, hint⟩, q⟩ := p
        exact Tm.mono (Tr.m (cut (tr_nameCP O rfl ck ⟨tv, rfl⟩) (tr_nameI O rfl) (by intro _ _; with_unfolding_all rfl) (by intro _ _; with_unfolding_all rfl))) fun y σ'' r => by obtain ⟨rfl, r⟩ := r; exact ⟨⟨l0, l1, l', vs', rfl, hl', rfl, hint⟩, q, r⟩
      · obtain ⟨⟨l0, l1, l', vs', rfl, hl', rfl, hint⟩, q, r⟩ := p
        refine Tm.mono (tm_dictSet (.tail _ (.tail _ (.tail _ mB₃))) iB₃ q r (by have := S.k3.1; rw [sizeLine_eq]; omega)) fun _ σ₅ pp => ?_
        obtain ⟨o', ho', rfl⟩ := pp
        refine tm_nil ⟨rfl, S₃.mono rfl rfl rfl fun a o ha h => updL_ne (.tail _ (.tail _ (.tail _ h))) (ne₁ a o ha h), ck, cB₃, o', _, updL_self (.tail _ (.tail _ (.tail _ mB₃))), ho', ?_, ?_⟩
        · have hst := (hB₃.mono (n' := updL B o' ((l', listOf (List.toArray vs') 0) :: (l1, listOf [Value.int z tz].toArray 0) :: (l0, listOf ([] : List Value).toArray 0) :: σ₃.n)) fun l o hl h => updL_ne (.tail _ (.tail _ (.tail _ h))) hl).store (p := tk k (j + 1)) (v := z) (by omega) hl' (updL_ne (.head _) hl') hint
          refine hst.congr fun b hb => ?_
          rw [← hbf]
          simp only [List.append_assoc]
          congr 1
          refine (ite_cases ?_ ?_).symm
          · constructor
            · rintro ⟨h1, h2, h3⟩
              by_cases hbj : b.length ≤ j
              · exact .inl ⟨h1, hbj, h3⟩
              · right
                refine str_ext ?_
                rw [lw_tk, List.prefix_iff_eq_take.mp h3]
                congr 1
                rw [lw_length]; omega
            · rintro (⟨h1, h2, h3⟩ | rfl)
              · exact ⟨h1, by omega, h3⟩
              · exact ⟨by omega, by omega, by rw [lw_tk]; exact List.take_prefix _ _⟩
          · rintro ⟨⟨h1, h2, h3⟩, rfl⟩
            omega
        · have := stored_length_le bkv₃ (tk k (j + 1)) (.ref l')
          omega
    · rintro fix σ₃ ⟨rfl, S₃, ck, cB₃, oB₃, bkv₃, mB₃, iB₃, hB₃, lB₃⟩
      refine tm_nil ⟨S₃, rfl, cB₃, oB₃, bkv₃, mB₃, iB₃, hB₃.congr fun b hb => ?_, by omega⟩
      have ht : x.kvs.take (i + 1) = x.kvs.take i ++ [(k, .int z tz)] := by rw [List.take_add_one, hk]; rfl
      unfold beh
      rw [ht, List.filter_append, List.map_append]
      congr 1
      by_cases hp : lw b <+: lw k
      · have := hp.length_le
        rw [lw_length, lw_length] at this
        rw [if_pos ⟨hb, by omega, hp⟩, List.filter_cons_of_pos (by simpa using hp)]
        rfl
      · rw [if_neg (fun h => hp h.2.2), List.filter_cons_of_neg (by simpa using hp)]
        rfl
  · rintro fix σ₁ ⟨S', rfl, cB, oB, bkv, mB, iB', hB, lB⟩
    refine k σ₁ ⟨B, oB, bkv⟩ ⟨S', cB, mB, iB', sB, ?_, ?_⟩
    · rw [List.take_length] at hB; exact hB
    · have := S.k3.1; show bkv.length ≤ 32; omega
end
end Mine
open PySem PySem.W PySem.Calls PyProof.Rows
set_option Elab.async false
set_option maxRecDepth 100000
set_option maxHeartbeats 4000000
set_option linter.unusedVariables false
namespace Mine

theorem fpos {α : Type} (f : α → Bool) (a : α) (l : List α) (h : f a = true) : (a :: l).filter f = a :: l.filter f := List.filter_cons_of_pos h
theorem fneg {α : Type} (f : α → Bool) (a : α) (l : List α) (h : ¬ f a = true) : (a :: l).filter f = l.filter f := List.filter_cons_of_neg h
def alone (kvs : List (Str × Value)) (q : Str × Value) (s : Nat) : Bool := decide (beh kvs (tk q.1 s) = [iv q.2])
def firstAl (kvs : List (Str × Value)) (q : Str × Value) : Option Nat := ((List.range q.1.length).filter fun i => alone kvs q (i + 1)).head?.map (· + 1)
def shortL (kvs l : List (Str × Value)) : List (Str × Value) := l.filterMap fun q => (firstAl kvs q).map fun s => (tk q.1 s, q.2)

theorem beh_mem {kvs : List (Str × Value)} {b : Str} {q : Str × Value} (hq : q ∈ kvs) (h : lw b <+: lw q.1) : iv q.2 ∈ beh kvs b := List.mem_map.mpr ⟨q, List.mem_filter.mpr ⟨hq, by simpa using h⟩, rfl⟩
theorem alone_others {kvs : List (Str × Value)} (hk : (kvs.map (·.1)).Nodup) {q : Str × Value} (hq : q ∈ kvs) {b : Str} (hb : lw b <+: lw q.1) :
    (!((kvs.filter fun p => p.1 != q.1).any fun p => decide (lw b <+: lw p.1))) = decide (beh kvs b = [iv q.2]) := by
  have key : ∀ l : List (Str × Value), (l.map (·.1)).Nodup → (q ∉ l → (∀ p ∈ l, p.1 ≠ q.1) → (beh l b = [] ↔ ((l.filter fun p => p.1 != q.1).any fun p => decide (lw b <+: lw p.1)) = false)) ∧ (q ∈ l → (beh l b = [iv q.2] ↔ ((l.filter fun p => p.1 != q.1).any fun p => decide (lw b <+: lw p.1)) = false)) := by
    intro l
    induction l with
    | nil => intro _; simp [beh]
    | cons p r ih =>
      intro hn
      rw [List.map_cons, List.nodup_cons] at hn
      have ih := ih hn.2
      refine ⟨fun hm hne => ?_, fun hm => ?_⟩
      · have hp : p.1 ≠ q.1 := hne p (.head _)
        have := ih.1 (fun h => hm (.tail _ h)) fun p' h => hne p' (.tail _ h)
        have e1 : (p.1 != q.1) = true := by simpa using hp
        rw [fpos (fun p : Str × Value => p.1 != q.1) _ _ e1, List.any_cons, Bool.or_eq_false_iff, ← this]
        unfold beh
        by_cases hb' : lw b <+: lw p.1
        · rw [List.filter_cons_of_pos (by simpa using hb')]; simp [hb']
        · rw [List.filter_cons_of_neg (by simpa using hb')]; simp [hb']
      · by_cases e : p = q
        · subst e
          have hr : ∀ p' ∈ r, p'.1 ≠ p.1 := fun p' h z => hn.1 (List.mem_map.mpr ⟨p', h, z⟩)
          have hmr : p ∉ r := fun h => hr p h rfl
          have := ih.1 hmr hr
          have e1 : ¬ ((p.1 != p.1) = true) := by simp
          rw [fneg (fun p' : Str × Value => p'.1 != p.1) _ _ e1, ← this]
          unfold beh
          rw [List.filter_cons_of_pos (by simpa using hb)]
          simp
        · have hmr : q ∈ r := by
            rcases List.mem_cons.mp hm with h | h
            · exact absurd h.symm e
            · exact h
          have hp : p.1 ≠ q.1 := fun z => hn.1 (List.mem_map.mpr ⟨q, hmr, z.symm⟩)
          have := ih.2 hmr
          have e1 : (p.1 != q.1) = true := by simpa using hp
          rw [fpos (fun p : Str × Value => p.1 != q.1) _ _ e1, List.any_cons, Bool.or_eq_false_iff, ← this]
          have hmem := beh_mem hmr hb
          by_cases hb' : lw b <+: lw p.1
          · have e2 : beh (p :: r) b = iv p.2 :: beh r b := by
              unfold beh; rw [List.filter_cons_of_pos (by simpa using hb')]; rfl
            rw [e2]
            constructor
            · intro h
              rw [List.cons.injEq] at h
              rw [h.2] at hmem; cases hmem
            · rintro ⟨h, _⟩; simp [hb'] at h
          · have e2 : beh (p :: r) b = beh r b := by
              unfold beh; rw [List.filter_cons_of_neg (by simpa using hb')]
            rw [e2]; simp [hb']
  have := (key kvs hk).2 hq
  by_cases h : beh kvs b = [iv q.2]
  · rw [this.mp h, decide_eq_true h]; rfl
  · rw [decide_eq_false h]
    cases hc : ((kvs.filter fun p => p.1 != q.1).any fun p => decide (lw b <+: lw p.1)) with
    | true => rfl
    | false => exact absurd (this.mpr hc) h

theorem firstAl_some {kvs : List (Str × Value)} {q : Str × Value} {s : Nat} (h : firstAl kvs q = some s) : 1 ≤ s ∧ s ≤ q.1.length ∧ beh kvs (tk q.1 s) = [iv q.2] ∧ ∀ j, 1 ≤ j → j < s → beh kvs (tk q.1 j) ≠ [iv q.2] := by
  unfold firstAl at h
  generalize q.1.length = n at h
  induction n generalizing s with
  | zero => simp at h
  | succ n ih =>
    rw [List.range_succ, List.filter_append] at h
    cases hq : ((List.range n).filter fun i => alone kvs q (i + 1)).head? with
    | some i =>
      have : ((List.range n).filter (fun i => alone kvs q (i + 1)) ++ [n].filter (fun i => alone kvs q (i + 1))).head? = some i := by rw [List.head?_append, hq]; rfl
      rw [this] at h
      have := ih (by rw [hq]; exact h)
      exact ⟨this.1, by omega, this.2.2⟩
    | none =>
      rw [List.head?_append, hq] at h
      rw [List.head?_eq_none_iff] at hq
      by_cases ha : alone kvs q (n + 1) = true
      · rw [fpos (fun i => alone kvs q (i + 1)) _ _ ha] at h
        simp at h
        subst h
        refine ⟨by omega, Nat.le_refl _, of_decide_eq_true ha, fun j h1 h2 e => ?_⟩
        have : j - 1 ∈ (List.range n).filter fun i => alone kvs q (i + 1) := List.mem_filter.mpr ⟨List.mem_range.mpr (by omega), by
          have : j - 1 + 1 = j := by omega
          rw [this]; exact decide_eq_true e⟩
        rw [hq] at this; cases this
      · rw [fneg (fun i => alone kvs q (i + 1)) _ _ ha] at h
        simp at h
theorem firstAl_none {kvs : List (Str × Value)} {q : Str × Value} (h : firstAl kvs q = none) : ∀ j, 1 ≤ j → j ≤ q.1.length → beh kvs (tk q.1 j) ≠ [iv q.2] := by
  unfold firstAl at h
  intro j h1 h2 e
  rw [Option.map_eq_none_iff, List.head?_eq_none_iff] at h
  have : j - 1 ∈ (List.range q.1.length).filter fun i => alone kvs q (i + 1) := List.mem_filter.mpr ⟨List.mem_range.mpr (by omega), by
    have : j - 1 + 1 = j := by omega
    rw [this]; exact decide_eq_true e⟩
  rw [h] at this; cases this
theorem mem_shortL {kvs l : List (Str × Value)} {p : Str × Value} (h : p ∈ shortL kvs l) : ∃ q ∈ l, ∃ s, firstAl kvs q = some s ∧ p = (tk q.1 s, q.2) := by
  obtain ⟨q, hq, e⟩ := List.mem_filterMap.mp h
  cases hf : firstAl kvs q with
  | none => rw [hf] at e; cases e
  | some s => rw [hf] at e; cases e; exact ⟨q, hq, s, hf, rfl⟩
end Mine
open PySem PySem.W PySem.Calls PyProof.Rows
set_option Elab.async false
set_option maxRecDepth 100000
set_option maxHeartbeats 4000000
set_option linter.unusedVariables false
namespace Mine

theorem St2.mono {G : Gx} {x : D1} {y : DB} {σ σ' : Sg} (S : St2 G x y σ) (h1 : σ'.m "numbers" = σ.m "numbers") (h2 : σ'.m "words" = σ.m "words") (h3 : σ'.c "data" = σ.c "data") (h4 : σ'.c "behind" = σ.c "behind") {n₀ : Led} (T : St2 G x y { σ with n := n₀ }) (h : ∀ p ∈ n₀, p ∈ σ'.n) : St2 G x y σ' :=
  ⟨T.toSt1.mono h1 h2 h3 fun a o _ z => h _ z, h4.trans S.c4, h _ T.n4, S.i4, S.s4, T.b4.mono fun l o _ z => h _ z, S.l4⟩

structure DS where
  S : Addr
  oS : Obj
structure St3 (G : Gx) (x : D1) (y : DB) (z : DS) (σ : Sg) : Prop extends St2 G x y σ where
  c5 : σ.c "short" = some (.ref z.S)
  n5 : (z.S, z.oS) ∈ σ.n
  i5 : z.oS.IsDictOf (SK G) (shortL x.kvs x.kvs)
  s5 : (z.S == sysModules) = false

theorem shortL_snoc (kvs l : List (Str × Value)) (q : Str × Value) : shortL kvs (l ++ [q]) = shortL kvs l ++ ((firstAl kvs q).map fun s => (tk q.1 s, q.2)).toList := by
  unfold shortL
  rw [List.filterMap_append]
  congr 1
theorem firstAl_szs {kvs : List (Str × Value)} {q : Str × Value} : (szs (alone kvs q) q.1.length).head? = (firstAl kvs q).map fun s => ((s : Nat) : Int) := by
  unfold szs firstAl
  rw [List.head?_map]
  cases ((List.range q.1.length).filter fun i => alone kvs q (i + 1)).head? <;> rfl

section
variable {prog : Program} {w : World} {h₀ : Heap} {fa : Addr} {cd : Value} {σ : Sg} {R : Flow → Sg → Prop}

theorem short_fresh {kvs : List (Str × Value)} (hv : (kvs.map fun q => iv q.2).Nodup) {i s : Nat} {k : Str} {y : Value} (hk : kvs[i]? = some (k, y)) (hs : firstAl kvs (k, y) = some s) : tk k s ∉ (shortL kvs (kvs.take i)).map (·.1) := by
  intro hm
  obtain ⟨p, hp, e⟩ := List.mem_map.mp hm
  obtain ⟨q, hq, s', hs', rfl⟩ := mem_shortL hp
  have h1 := (firstAl_some hs).2.2.1
  have h2 := (firstAl_some hs').2.2.1
  change tk q.1 s' = tk k s at e
  rw [e, h1] at h2
  have e2 : iv y = iv q.2 := by simpa using h2
  obtain ⟨j, hj⟩ := List.mem_iff_getElem?.mp hq
  rw [List.getElem?_take] at hj
  split at hj
  · rename_i hlt
    have e3 : (kvs.map fun q => iv q.2)[j]? = some (iv y) := by rw [List.getElem?_map, hj, e2]; rfl
    have e4 : (kvs.map fun q => iv q.2)[i]? = some (iv y) := by rw [List.getElem?_map, hk]; rfl
    have hi := (List.getElem?_eq_some_iff.mp hk).1
    have := (List.getElem?_inj (by rw [List.length_map]; omega) hv).mp (e3.trans e4.symm)
    omega
  · cases hj

theorem ph3 (O : Ok (LG prog w h₀ fa cd) 8) {x : D1} {y : DB} (S : St2 (LG prog w h₀ fa cd) x y σ)
    (k : ∀ σ z, St3 (LG prog w h₀ fa cd) x y z σ → Tm (LG prog w h₀ fa cd) σ (execs ((lawB w).drop 8) (LG prog w h₀ fa cd).env) R) : Tm (LG prog w h₀ fa cd) σ (execs ((lawB w).drop 6) (LG prog w h₀ fa cd).env) R := by
  have kr : nsIn (KK w) mainGlobals "range" = some none := by rfl
  have kl : nsIn (KK w) mainGlobals "len" = some none := by rfl
  have kT : nsIn (KK w) mainGlobals "Trie" = some (some (.ref 74)) := by rfl
  have ko : nsIn (KK w) mainGlobals "_law_others" = some (some (.ref 99)) := by rfl
  have kkT : keepIn (KK w) (.ref 74) = true := by rfl
  have kko : keepIn (KK w) (.ref 99) = true := by rfl
  refine seq_assignC O (a := h₀.objs.size + 4) rfl (none_above (Nat.le_add_right _ _)) (tm_dictNew O) fun v σ₃ p => ?_
  obtain ⟨SA, oS, rfl, rfl, iS, sS, apS⟩ := p
  obtain ⟨_, _, _, _, _, _, hnd⟩ := id S.i3
  refine seq (tm_for (src_dict O (tr_nameC O rfl S.c3) (Fx.one (.tail _ S.n3)) S.i3 S.s3 (has_toC O (a := h₀.objs.size + 3) rfl (none_above (Nat.le_add_right _ _)) rfl (P := fun i v => ∃ k y, x.kvs[i]? = some (k, y) ∧ Value.isStrOf k v = true)))
    (fun fix i σ' => St2 (LG prog w h₀ fa cd) x y σ' ∧ fix = [(x.D, x.oD)] ∧ (∀ p ∈ σ.n, p ∈ σ'.n) ∧ σ'.c "short" = some (.ref SA) ∧ ∃ oS, (SA, oS) ∈ σ'.n ∧ oS.IsDictOf (SK (LG prog w h₀ fa cd)) (shortL x.kvs (x.kvs.take i))) ?_ ?_ ?_ ?_)
  · rintro σ₁ fix ⟨rfl, rfl⟩
    exact ⟨S.mono rfl rfl rfl rfl S fun p hp => .tail _ hp, rfl, fun p hp => .tail _ hp, rfl, oS, .head _, iS⟩
  · rintro fix i σ' ⟨S', rfl, _⟩; exact Fx.one S'.n3
  · rintro fix i σ₁ σ₂ hi ⟨S', rfl, hsub, cS, oS, mS, iS'⟩ ⟨v, ⟨k, y', hk, hv⟩, rfl⟩ _
    obtain ⟨tv, rfl⟩ := Value.isStrOf_shape hv
    have hkm := List.mem_of_getElem? hk
    obtain ⟨lk, z, tz, rfl⟩ := S.k3.2.1 (k, y') hkm
    have lk' : k.length ≤ 4 := lk
    have zk : k.length ≤ sizeLine := by rw [sizeLine_eq]; omega
    -- trie = Trie(_law_others(data, key))
    refine seq_assignC O (a := h₀.objs.size + 5) (P := fun v σ' => ∃ xt nw D' o', v = .ref xt ∧ σ' = Sg.mk σ₁.m (put σ₁.c "key" (.str k tv)) (nw ++ σ₁.n) ∧ TrieN xt D' (x.kvs.filter fun q => q.1 != k) nw ∧ (D', o') ∈ nw ∧ o'.IsDictOf (SK (LG prog w h₀ fa cd)) (x.kvs.filter fun q => q.1 != k) ∧ (D' == sysModules) = false) rfl (none_above (Nat.le_add_right _ _))
      (tm_callK O (tr_glob O kT) kkT (P := fun vs σ' => ∃ nw D' o', vs = [.ref D'] ∧ σ' = Sg.mk σ₁.m (put σ₁.c "key" (.str k tv)) (nw ++ σ₁.n) ∧ (D', o') ∈ nw ∧ o'.IsDictOf (SK (LG prog w h₀ fa cd)) (x.kvs.filter fun q => q.1 != k) ∧ (D' == sysModules) = false)
        (tm_arg (P := fun v σ' => ∃ nw D' o', v = .ref D' ∧ σ' = Sg.mk σ₁.m (put σ₁.c "key" (.str k tv)) (nw ++ σ₁.n) ∧ (D', o') ∈ nw ∧ o'.IsDictOf (SK (LG prog w h₀ fa cd)) (x.kvs.filter fun q => q.1 != k) ∧ (D' == sysModules) = false) (tm_callK O (tr_glob O ko) kko (Tr.m (tr_arg2 (tr_nameC O rfl S'.c3) (tr_nameCP (P := IsV (.str k tv)) O rfl rfl rfl))) fun vs σ' p => ?_) fun v σ' p => ?_) fun vs σ' p => ?_) fun v σ' p => ?_
    · obtain ⟨rfl, a, b, rfl, rfl, rfl⟩ := p
      exact Tm.mono (others_fn rfl O (ent_dict S'.n3 S.i3) S.s3 hnd (by have := S.k3.1; omega)) fun v σ' ⟨nw, D', o', h1, h2, h3, h4, h5, _⟩ => ⟨nw, D', o', h1, h2, h3, h4, h5⟩
    · obtain ⟨nw, D', o', rfl, rfl, h1, h2, h3⟩ := p
      exact Tm.mono (Tr.m tr_args0) fun vs σ'' q => by obtain ⟨rfl, rfl⟩ := q; exact ⟨nw, D', o', rfl, rfl, h1, h2, h3⟩
    · obtain ⟨nw, D', o', rfl, rfl, h1, h2, h3⟩ := p
      refine Tm.mono (trie_make rfl O (ent_dict (List.mem_append_left _ h1) h2) h3 ?_) fun v σ'' q => ?_
      · have := List.length_filter_le (fun q : Str × Value => q.1 != k) x.kvs
        have := S.k3.1; omega
      · obtain ⟨xt, nw', rfl, rfl, hT, _⟩ := q
        refine ⟨xt, nw' ++ nw, D', o', rfl, by rw [List.append_assoc], ?_, List.mem_append_right _ h1, h2, h3⟩
        obtain ⟨dx, es, n, l, m, vs, ss, t, u, v, tk, q1, q1', q2, q3, q4, q5, q6, q7, q8, q9, q10, q11, q12⟩ := hT
        exact ⟨dx, es, n, l, m, vs, ss, t, u, v, tk, List.mem_append_left _ q1, List.mem_append_left _ q1', q2, q3, q4, q5, q6, q7, List.mem_append_left _ q8, q9, q10, q11, List.mem_append_left _ q12⟩
    · obtain ⟨xt, nw, D', o', rfl, rfl, hT, hD', iD', sD'⟩ := p
      have lfil : (x.kvs.filter fun q => q.1 != k).length < 64 := by
        have := List.length_filter_le (fun q : Str × Value => q.1 != k) x.kvs
        have := S.k3.1; omega
      have eT : Ent (LG prog w h₀ fa cd) (Sg.mk σ₁.m (put (put σ₁.c "key" (.str k tv)) "trie" (.ref xt)) (nw ++ σ₁.n)) (fun h => TrieH (SK (LG prog w h₀ fa cd)) h xt D' (x.kvs.filter fun q => q.1 != k)) := hT.ent (fun p hp => List.mem_append_left _ hp) (ent_dict (List.mem_append_left _ hD') iD') sD'
      obtain ⟨dx, es, nx, _, _, _, _, _, _, _, _, q1, q1', _, _, _, _, q6, _⟩ := id hT
      have pre : ∀ s, lw (tk k s) <+: lw k := fun s => by rw [lw_tk]; exact List.take_prefix _ _
      have cutE : ∀ j : Nat, Txt.slice k none (some (1 + (j : Int))) = tk k (j + 1) := fun j => str_ext (by rw [slice_to (by omega), lw_tk]; congr 1; omega)
      have hlen : ((k.length : Int) + 1 - 1).toNat = k.length := by omega
      -- sizes = [..]
      refine tm_next (tm_assignComp O (csrc_range O (range2_made O kr rfl tr_int (tr_add (tr_fn1 O kl (id := "len") (by decide +kernel) rfl (tr_nameCP (P := IsS k) O rfl rfl ⟨tv, rfl⟩) (R := IsI k.length) fun v hv => tr_len_str hv (by omega)) tr_int) rfl rfl) (by omega) (by omega) (by omega) (by omega))
        (fun C => rfl) rfl (lookup_all fun p hp => ?_) (by decide) rfl (by decide) (fun _ => rfl) (fun j ys led => IntsAre ys (szs (alone x.kvs (k, .int z tz)) j)) .nil (fun j ys m₁ σ₅ own h₁ C hj hys inv hcells c₁ O' pm => ?_) (by rw [hlen]; omega) rfl rfl) fun σ₄ p => ?_
      · rcases List.mem_cons.mp hp with rfl | hp
        · rfl
        · obtain rfl := List.mem_singleton.mp hp; rfl
      · obtain ⟨v, ⟨ts, rfl⟩, rfl⟩ := pm
        have ck := (hcells "key" _ rfl).trans (rfl : _ = some (Value.str k tv))
        have ct := (hcells "trie" _ rfl).trans (rfl : _ = some (Value.ref xt))
        have TH := eT own h₁ c₁
        refine ct_one (b := alone x.kvs (k, .int z tz) (j + 1)) (Tr.mono (tr_testNot (tr_test (P := IsB ((x.kvs.filter fun q => q.1 != k).any fun q => decide (lw (tk k (j + 1)) <+: lw q.1))) (tr_methI O' (x := xt) (C := 74) (f := 64) (tr_nameC O' rfl ct) (ent_old (φ := fun h => InstIn h xt 74 dx es nx) ⟨c₁.get (List.mem_append_left _ q1), c₁.get (List.mem_append_left _ q1')⟩ fun _ _ k z => z.keep k) rfl rfl rfl q6 rfl
          (tr_arg1 (P := IsS (tk k (j + 1))) (by rw [← cutE j]; exact tr_cutTo (Tr.mono (tr_nameC O' rfl ck) fun v e => ⟨tv, e⟩) (tr_nameI O' rfl) zk)) fun vs p => ?_) fun v hv => tr_truthyB hv)) fun v e => ?_) (fun hy => ?_) (fun hn => ?_)
        · obtain ⟨v, rfl, tt, rfl⟩ := p
          exact hkwp_fn rfl O' (ent_old TH fun _ _ k z => z.keep k) lfil
        · rw [e]; exact alone_others hnd hkm (pre _)
        · refine Tm.mono (Tr.m (tr_nameI O' rfl)) fun y σ'' p => ?_
          obtain ⟨rfl, ty, rfl⟩ := p
          show IntsAre _ (szs _ (j + 1))
          rw [szs_succ, if_pos hy]
          have e1 : (1 + (j : Int)) = ((j + 1 : Nat) : Int) := by omega
          rw [e1]
          exact inv.append (.cons _ _ .nil)
        · show IntsAre _ (szs _ (j + 1))
          rw [szs_succ, if_neg (by rw [hn]; decide), List.append_nil]
          exact inv
      · obtain ⟨Dz, ys, n', led, hint, hys, rfl, _⟩ := p
        rw [hlen] at hint
        have hun : (LG prog w h₀ fa cd).A.units + 64 < cLine := by have := O.units; omega
        have sub₁ : ∀ p ∈ σ₁.n, p ∈ (Dz, listOf (List.toArray ys) n') :: (led ++ (nw ++ σ₁.n)) := fun p hp => .tail _ (List.mem_append_right _ (List.mem_append_right _ hp))
        refine seq_if (x := false) (Tr.mono (tr_testCmpN (b := !decide (szs (alone x.kvs (k, .int z tz)) k.length = szs (alone x.kvs (k, .int z tz)) k.length)) (Pa := fun v nw' => nw' = [] ∧ v = .ref Dz) (Pb := fun a v nw2 => a = .ref Dz ∧ ∃ D ys' n'', v = .ref D ∧ (D, listOf (List.toArray ys') n'') ∈ nw2 ∧ IntsAre ys' (szs (alone x.kvs (k, .int z tz)) k.length))
          (Tm.mono (Tr.m (tr_name O rfl)) fun v σ' p => ⟨[], p.1, rfl, p.2⟩) (fun a nw' p => ?_) fun a b nw' p => ?_) fun v e => by rw [e]; simp) (fun h => nomatch h) fun _ => tm_nil ?_
        · obtain ⟨rfl, rfl⟩ := p
          refine Tm.mono (tm_comp O (csrc_range O (range2_made O kr rfl tr_int (tr_add (tr_fn1 O kl (id := "len") (by decide +kernel) rfl (tr_nameCP (P := IsS k) O rfl rfl ⟨tv, rfl⟩) (R := IsI k.length) fun v hv => tr_len_str hv (by omega)) tr_int) rfl rfl) (by omega) (by omega) (by omega) (by omega))
            (fun C => rfl) rfl (lookup_all fun p hp => ?_) (by decide) rfl (by decide) (fun _ => rfl) (fun j ys led => IntsAre ys (szs (alone x.kvs (k, .int z tz)) j)) .nil (fun j ys m₁ σ₅ own h₁ C hj hys inv hcells c₁ O' pm => ?_) (by rw [hlen]; omega)) fun v σ' q => ?_
          · rcases List.mem_cons.mp hp with rfl | hp
            · rfl
            rcases List.mem_cons.mp hp with rfl | hp
            · rfl
            · obtain rfl := List.mem_singleton.mp hp; rfl
          · obtain ⟨v, ⟨ts, rfl⟩, rfl⟩ := pm
            rw [hlen] at hj
            have ck := (hcells "key" _ rfl).trans (rfl : _ = some (Value.str k tv))
            have cb := (hcells "behind" _ rfl).trans S'.c4
            have cda := (hcells "data" _ rfl).trans S'.c3
            have gD : h₁.DictOf (SK (LG prog w h₀ fa cd)) x.D x.kvs := Heap.dictOf_iff.mpr ⟨_, c₁.get (sub₁ _ S'.n3), S.i3⟩
            have gB : h₁.DictOf (SK (LG prog w h₀ fa cd)) y.B y.bkv := Heap.dictOf_iff.mpr ⟨_, c₁.get (sub₁ _ S'.n4), S.i4⟩
            have lp : (tk k (j + 1)).length = j + 1 := by rw [← lw_length, lw_tk, List.length_take, lw_length]; omega
            obtain ⟨l', vs', n'', hval, hm', hint'⟩ : ∃ l' vs' n'', valueAt y.bkv (tk k (j + 1)) = some (.ref l') ∧ (l', listOf (List.toArray vs') n'') ∈ σ₁.n ∧ IntsAre vs' (beh x.kvs (tk k (j + 1))) := by
              cases hv : valueAt y.bkv (tk k (j + 1)) with
              | none =>
                rcases S'.b4.no _ hv with q | q
                · omega
                · have := beh_mem hkm (pre (j + 1))
                  rw [q] at this; cases this
              | some u =>
                obtain ⟨_, _, l', vs', n'', rfl, _, h5, h6⟩ := S'.b4.yes _ _ hv
                exact ⟨l', vs', n'', rfl, h5, h6⟩
            have gl : h₁.IsList l' (List.toArray vs') := ⟨_, c₁.get (sub₁ _ hm'), rfl, _, rfl⟩
            refine ct_one (b := alone x.kvs (k, .int z tz) (j + 1)) (tr_testCmpN (Pa := fun v nw' => nw' = [] ∧ v = .ref l') (Pb := fun a v nw2 => a = .ref l' ∧ ∃ l₂, v = .ref l₂ ∧ (l₂, listOf [Value.int z tz].toArray 0) ∈ nw2)
              (Tm.mono (Tr.m (tr_sub_ (Pb := IsS (tk k (j + 1))) (tr_nameC O' rfl cb) (by rw [← cutE j]; exact tr_cutTo (Tr.mono (tr_nameC O' rfl ck) fun v e => ⟨tv, e⟩) (tr_nameI O' rfl) zk) fun u v hu hv => tr_dItem (ent_dict₀ gB) hu hv hval)) fun v σ' p => ⟨[], p.1, rfl, p.2⟩) (fun a nw' p => ?_) fun a b nw' p => ?_) (fun hy => ?_) (fun hn => ?_)
            · obtain ⟨rfl, rfl⟩ := p
              refine Tm.mono (tm_list1 (P := IsV (.int z tz)) (tr_sub_ (tr_nameC O' rfl cda) (Tr.mono (tr_nameC O' rfl ck) fun v e => (⟨tv, e⟩ : IsS k v)) fun u v hu hv => tr_dItem (ent_dict₀ gD) hu hv (valueAt_get hnd hk))) fun v σ' q => ?_
              obtain ⟨l₂, y', rfl, rfl, rfl, _⟩ := q
              exact ⟨[_], rfl, rfl, l₂, rfl, .head _⟩
            · obtain ⟨rfl, l₂, rfl, hm₂⟩ := p
              exact tr_eqInts (ent_list₀ gl) hint' (ent_list (List.mem_append_left _ hm₂)) (.cons z tz .nil) hun rfl rfl
            · refine Tm.mono (Tr.m (tr_nameI O' rfl)) fun y σ'' p => ?_
              obtain ⟨rfl, ty, rfl⟩ := p
              show IntsAre _ (szs _ (j + 1))
              rw [szs_succ, if_pos hy]
              have e1 : (1 + (j : Int)) = ((j + 1 : Nat) : Int) := by omega
              rw [e1]
              exact inv.append (.cons _ _ .nil)
            · show IntsAre _ (szs _ (j + 1))
              rw [szs_succ, if_neg (by rw [hn]; decide), List.append_nil]
              exact inv
          · obtain ⟨D₂, ys₂, n₂, led₂, rfl, hint₂, _, rfl, _⟩ := q
            rw [hlen] at hint₂
            exact ⟨(D₂, listOf (List.toArray ys₂) n₂) :: led₂, rfl, rfl, D₂, ys₂, n₂, rfl, .head _, hint₂⟩
        · obtain ⟨rfl, D₂, ys₂, n₂, rfl, hm₂, hint₂⟩ := p
          exact tr_neInts (ent_list (List.mem_append_right _ (.head _))) hint (ent_list (List.mem_append_left _ hm₂)) hint₂ hun rfl rfl
        -- if sizes: short[..] = ..
        have hoffS : ∀ p ∈ σ.n, p.1 ≠ SA := apS
        have lys : ys.length = (szs (alone x.kvs (k, .int z tz)) k.length).length := hint.length
        have lys8 := szs_len (alone x.kvs (k, .int z tz)) k.length
        have hh := firstAl_szs (kvs := x.kvs) (q := (k, .int z tz))
        have ht : x.kvs.take (i + 1) = x.kvs.take i ++ [(k, .int z tz)] := by rw [List.take_add_one, hk]; rfl
        refine seq_if (x := !(List.toArray ys).isEmpty) (tr_test (P := IsV (.ref Dz)) (tr_name O rfl) fun v hv => tr_truthyList (ent_list (.head _)) (by simp; omega) hv) (fun hne => ?_) (fun hem => ?_)
        · have hyne : ys ≠ [] := by rintro rfl; simp at hne
          obtain ⟨y0, yr, rfl⟩ := List.exists_cons_of_ne_nil hyne
          obtain ⟨n0, t0, rfl, hn0⟩ := ints_get hint 0 y0 rfl
          rw [← List.head?_eq_getElem?, hh] at hn0
          obtain ⟨s, hs, rfl⟩ := Option.map_eq_some_iff.mp hn0
          have hfs := firstAl_some hs
          have hs4 : s ≤ k.length := hfs.2.1
          have esl : Txt.slice k none (some ((s : Nat) : Int)) = tk k s := str_ext (by rw [slice_to (by omega), lw_tk]; rfl)
          refine seq (tm_assignSub (P := fun v σ' => σ' = _ ∧ v = .int z tz) (P₂ := fun v u σ' => σ' = _ ∧ v = .int z tz ∧ u = .ref SA) (P₃ := fun v u y σ' => σ' = _ ∧ v = .int z tz ∧ u = .ref SA ∧ IsS (tk k s) y)
            (Tr.m (tr_sub_ (Pb := IsS k) (tr_nameC O rfl S'.c3) (tr_nameCP O rfl rfl ⟨tv, rfl⟩) fun u v hu hv => tr_dItem (ent_dict (sub₁ _ S'.n3) S.i3) hu hv (valueAt_get hnd hk)))
            (fun v σ' p => by obtain ⟨rfl, p⟩ := p; exact Tm.mono (Tr.m (tr_nameC O rfl cS)) fun u σ'' q => ⟨q.1, p, q.2⟩)
            (fun v u σ' p => by
              obtain ⟨rfl, p1, p2⟩ := p
              exact Tm.mono (Tr.m (P := IsS (tk k s)) (by
                rw [← esl]
                exact tr_cutTo (tr_nameCP O rfl rfl ⟨tv, rfl⟩) (tr_sub_ (tr_name O rfl) (tr_int (i := 0)) fun a b ha hb => Tr.mono (tr_item (x := .int (s : Nat) t0) (ent_list (.head _)) ha hb (by decide) (by decide) rfl) fun v e => ⟨t0, e⟩) zk)) fun y σ'' q => ⟨q.1, p1, p2, q.2⟩)
            fun v u y σ' p => ?_)
          obtain ⟨rfl, rfl, p2, p3⟩ := p
          have lsh : (shortL x.kvs (x.kvs.take i)).length ≤ 8 := by
            have h1 : (shortL x.kvs (x.kvs.take i)).length ≤ (x.kvs.take i).length := List.length_filterMap_le ..
            rw [List.length_take] at h1
            have := S.k3.1
            omega
          refine Tm.mono (tm_dictSet (sub₁ _ mS) iS' p2 p3 (by rw [sizeLine_eq]; omega)) fun _ σ₇ p => ?_
          obtain ⟨o', ho', rfl⟩ := p
          have keep : ∀ p ∈ σ.n, p ∈ updL SA o' ((Dz, listOf (List.toArray (.int (s : Nat) t0 :: yr)) n') :: (led ++ (nw ++ σ₁.n))) := fun p hp => updL_ne (sub₁ _ (hsub p hp)) (hoffS p hp)
          refine tm_nil (tm_nil ⟨S.mono (S'.m1.trans S.m1.symm) (S'.m2.trans S.m2.symm) (S'.c3.trans S.c3.symm) (S'.c4.trans S.c4.symm) S keep, rfl, keep, cS, o', updL_self (sub₁ _ mS), ?_⟩)
          rw [ht, shortL_snoc, hs]
          rw [stored_new (short_fresh S.k3.2.2 hk hs)] at ho'
          exact ho'
        · have hyn : ys = [] := by
            cases ys with
            | nil => rfl
            | cons a b => simp at hem
          have hs : firstAl x.kvs (k, .int z tz) = none := by
            rw [hyn] at lys
            have : szs (alone x.kvs (k, .int z tz)) k.length = [] := List.eq_nil_of_length_eq_zero lys.symm
            rw [this] at hh
            simpa using hh.symm
          have keep : ∀ p ∈ σ.n, p ∈ (Dz, listOf (List.toArray ys) n') :: (led ++ (nw ++ σ₁.n)) := fun p hp => sub₁ _ (hsub p hp)
          refine tm_nil (tm_nil ⟨S.mono (S'.m1.trans S.m1.symm) (S'.m2.trans S.m2.symm) (S'.c3.trans S.c3.symm) (S'.c4.trans S.c4.symm) S keep, rfl, keep, cS, oS, sub₁ _ mS, ?_⟩)
          rw [ht, shortL_snoc, hs]
          simpa using iS'
  · rintro fix σ₁ ⟨S', rfl, hsub, cS, oS, mS, iS'⟩
    rw [List.take_length] at iS'
    exact k σ₁ ⟨SA, oS⟩ ⟨S', cS, mS, iS', sS⟩
end
end Mine
open PySem PySem.W PySem.Calls PyProof.Rows
set_option Elab.async false
set_option maxRecDepth 100000
set_option maxHeartbeats 4000000
set_option linter.unusedVariables false
namespace Mine

theorem St3.mono {G : Gx} {x : D1} {y : DB} {z : DS} {σ σ' : Sg} (S : St3 G x y z σ) (h1 : σ'.m "numbers" = σ.m "numbers") (h2 : σ'.m "words" = σ.m "words") (h3 : σ'.c "data" = σ.c "data") (h4 : σ'.c "behind" = σ.c "behind") (h5 : σ'.c "short" = σ.c "short") (h : ∀ p ∈ σ.n, p ∈ σ'.n) : St3 G x y z σ' :=
  ⟨S.toSt2.mono h1 h2 h3 h4 S.toSt2 h, h5.trans S.c5, h _ S.n5, S.i5, S.s5⟩

structure DN where
  xn : Addr
  nw : Led
structure St4 (G : Gx) (x : D1) (y : DB) (z : DS) (u : DN) (σ : Sg) : Prop extends St3 G x y z σ where
  m6 : σ.m "names" = some (.ref u.xn)
  t6 : TrieN u.xn z.S (shortL x.kvs x.kvs) u.nw
  n6 : ∀ p ∈ u.nw, p ∈ σ.n
theorem St4.mono {G : Gx} {x : D1} {y : DB} {z : DS} {u : DN} {σ σ' : Sg} (S : St4 G x y z u σ) (h1 : σ'.m "numbers" = σ.m "numbers") (h2 : σ'.m "words" = σ.m "words") (h3 : σ'.c "data" = σ.c "data") (h4 : σ'.c "behind" = σ.c "behind") (h5 : σ'.c "short" = σ.c "short") (h6 : σ'.m "names" = σ.m "names") (h : ∀ p ∈ σ.n, p ∈ σ'.n) : St4 G x y z u σ' :=
  ⟨S.toSt3.mono h1 h2 h3 h4 h5 h, h6.trans S.m6, S.t6, fun p hp => h _ (S.n6 p hp)⟩
theorem St4.trie {G : Gx} {x : D1} {y : DB} {z : DS} {u : DN} {σ : Sg} (S : St4 G x y z u σ) : Ent G σ (fun h => TrieH (SK G) h u.xn z.S (shortL x.kvs x.kvs)) := S.t6.ent S.n6 (ent_dict S.n5 S.i5) S.s5

structure DA where
  al : Addr
  av : List Value
  an : Nat
  ws : List Str
structure St5 (G : Gx) (x : D1) (y : DB) (z : DS) (u : DN) (a : DA) (σ : Sg) : Prop extends St4 G x y z u σ where
  m7 : σ.m "asked" = some (.ref a.al)
  n7 : (a.al, listOf a.av.toArray a.an) ∈ σ.n
  i7 : StrsAre a.av a.ws
  l7 : a.ws.length ≤ 100 ∧ ∀ s ∈ a.ws, s.length ≤ 10

section
variable {prog : Program} {w : World} {h₀ : Heap} {fa : Addr} {cd : Value} {σ : Sg} {R : Flow → Sg → Prop}

theorem shortL_len {kvs : List (Str × Value)} (h : kvs.length ≤ 8) : (shortL kvs kvs).length ≤ 8 := Nat.le_trans (List.length_filterMap_le ..) h

theorem ph4 (O : Ok (LG prog w h₀ fa cd) 8) {x : D1} {y : DB} {z : DS} (S : St3 (LG prog w h₀ fa cd) x y z σ)
    (k : ∀ σ u a, St5 (LG prog w h₀ fa cd) x y z u a σ → Tm (LG prog w h₀ fa cd) σ (execs ((lawB w).drop 11) (LG prog w h₀ fa cd).env) R) : Tm (LG prog w h₀ fa cd) σ (execs ((lawB w).drop 8) (LG prog w h₀ fa cd).env) R := by
  have kT : nsIn (KK w) mainGlobals "Trie" = some (some (.ref 74)) := by rfl
  have kl : nsIn (KK w) mainGlobals "len" = some none := by rfl
  have kli : nsIn (KK w) mainGlobals "list" = some none := by rfl
  have ke : nsIn (KK w) mainGlobals "enumerate" = some none := by rfl
  have kE : nsIn (KK w) mainGlobals "_law_ENDS" = some (some (.ref 85)) := by rfl
  have kkT : keepIn (KK w) (.ref 74) = true := by rfl
  have kkE : keepIn (KK w) (.ref 85) = true := by rfl
  -- names = Trie(short)
  refine seq_assign O (tm_callK O (tr_glob O kT) kkT (Tr.m (tr_arg1 (tr_nameC O rfl S.c5))) (R := fun v σ' => ∃ xn nw, v = .ref xn ∧ σ' = { σ with n := nw ++ σ.n } ∧ TrieN xn z.S (shortL x.kvs x.kvs) nw) fun vs σ' p => ?_) fun v σ' p => ?_
  · obtain ⟨rfl, v, rfl, rfl⟩ := p
    exact Tm.mono (trie_make rfl O (ent_dict S.n5 S.i5) S.s5 (by have := shortL_len S.k3.1; omega)) fun v σ' ⟨xn, nw, h1, h2, h3, _⟩ => ⟨xn, nw, h1, h2, h3⟩
  obtain ⟨xn, nw, rfl, rfl, hT⟩ := p
  have S4 : St4 (LG prog w h₀ fa cd) x y z ⟨xn, nw⟩ { σ with m := put σ.m "names" (.ref xn), n := nw ++ σ.n } := ⟨S.mono rfl rfl rfl rfl rfl fun p hp => List.mem_append_right _ hp, rfl, hT, fun p hp => List.mem_append_left _ hp⟩
  -- asked = list(behind)
  refine seq_assign O (tm_callT (tr_blt O (v := .type "list") kli (by decide +kernel)) (Tr.m (tr_arg1 (tr_nameC O rfl S4.c4))) (R := fun v σ' => ∃ al an av, v = .ref al ∧ σ' = Sg.mk (put σ.m "names" (.ref xn)) σ.c ((al, listOf (List.toArray av) an) :: (nw ++ σ.n)) ∧ StrsAre av (y.bkv.map (·.1)) ∧ ∀ p ∈ nw ++ σ.n, p.1 ≠ al) fun vs σ' p => ?_) fun v σ' p => ?_
  · obtain ⟨rfl, v, rfl, rfl⟩ := p
    exact tm_listDict O (Fx.one S4.n4) S.i4 S.s4 (by have := S.l4; omega)
  obtain ⟨al, an, av, rfl, rfl, hav, apa⟩ := p
  have S5 : St4 (LG prog w h₀ fa cd) x y z ⟨xn, nw⟩ (Sg.mk (put (put σ.m "names" (.ref xn)) "asked" (.ref al)) σ.c ((al, listOf (List.toArray av) an) :: (nw ++ σ.n))) := S4.mono rfl rfl rfl rfl rfl rfl fun p hp => .tail _ hp
  have hnum := strs_len S.i2
  refine seq (tm_for (src_enum O ke rfl (tr_name O S5.m1) (Fx.one S5.n1) (lst_of (its := x.nv.toArray) (n := x.nn)) rfl rfl)
    (fun fix i σ' => fix = [(x.nl, listOf x.nv.toArray x.nn)] ∧ St4 (LG prog w h₀ fa cd) x y z ⟨xn, nw⟩ σ' ∧ (∀ p ∈ nw ++ σ.n, p ∈ σ'.n) ∧ σ'.m "asked" = some (.ref al) ∧ ∃ av an ws, (al, listOf (List.toArray av) an) ∈ σ'.n ∧ StrsAre av ws ∧ ws.length ≤ 32 + i ∧ ∀ s ∈ ws, s.length ≤ 10) ?_ ?_ ?_ ?_)
  · rintro σ₁ fix ⟨rfl, rfl⟩
    refine ⟨rfl, S5, fun p hp => .tail _ hp, rfl, av, an, _, .head _, hav, by rw [List.length_map]; exact S.l4, fun s hs => ?_⟩
    obtain ⟨q, hq, rfl⟩ := List.mem_map.mp hs
    obtain ⟨_, _, _, _, _, _, hnb⟩ := id S.i4
    obtain ⟨j, hj⟩ := List.mem_iff_getElem?.mp hq
    have hv := valueAt_get hnb (k := q.1) (v := q.2) hj
    obtain ⟨_, hne, _⟩ := S.b4.yes _ _ hv
    unfold beh at hne
    obtain ⟨i', hi'⟩ := List.exists_mem_of_ne_nil _ hne
    obtain ⟨q', hq', _⟩ := List.mem_map.mp hi'
    have h1 := (List.mem_filter.mp hq')
    have h2 : lw q.1 <+: lw q'.1 := by simpa using h1.2
    have := h2.length_le
    rw [lw_length, lw_length] at this
    have := (S.k3.2.1 q' h1.1).1
    omega
  · rintro fix i σ' ⟨rfl, S', _⟩; exact Fx.one S'.n1
  · rintro fix i σ₁ σ₂ hi' ⟨rfl, S', hsub, m7, av, an, ws, n7, i7, l7, l7'⟩ ⟨ti, vn, hvn, rfl⟩ _
    obtain ⟨n, tn, rfl, hn⟩ := ints_get S.i1 i vn (by simpa using hvn)
    have hi8 : i < 8 := by
      have h1 : i < x.nv.length := by simpa using hi'
      have := S.i1.length
      have := S.l1
      omega
    have hsz : x.wv.toArray.size = x.ws.length := by simp [hnum]
    have hpos := S.l2.2.1
    have hw9 := S.l2.1
    have hq0 : 0 ≤ (n.fdiv 5 + (i : Int)).fmod (x.wv.toArray.size : Int) := Int.fmod_nonneg_of_pos _ (by omega)
    have hq1 : (n.fdiv 5 + (i : Int)).fmod (x.wv.toArray.size : Int) < x.wv.toArray.size := Int.fmod_lt_of_pos _ (by omega)
    generalize hq : (n.fdiv 5 + (i : Int)).fmod (x.wv.toArray.size : Int) = q at hq0 hq1
    obtain ⟨sw, hsw⟩ : ∃ s, x.ws[q.toNat]? = some s := ⟨_, List.getElem?_eq_getElem (by omega)⟩
    obtain ⟨tw, htw⟩ := strs_get S.i2 _ sw hsw
    have lsw : sw.length ≤ 4 := S.l2.2.2 sw (List.mem_of_getElem? hsw)
    have hj0 : 0 ≤ (n.fdiv 3).fmod 4 := Int.fmod_nonneg_of_pos _ (by decide)
    have hj1 : (n.fdiv 3).fmod 4 < 4 := Int.fmod_lt_of_pos _ (by decide)
    generalize hj : (n.fdiv 3).fmod 4 = j at hj0 hj1
    obtain ⟨se, hse⟩ : ∃ s, endsL[j.toNat]? = some s := ⟨_, List.getElem?_eq_getElem (by show j.toNat < 4; omega)⟩
    have lse : se.length ≤ 2 := by
      have := List.mem_of_getElem? hse
      revert this
      unfold endsL
      intro h
      simp only [List.mem_cons, List.mem_nil_iff, or_false] at h
      rcases h with rfl | rfl | rfl | rfl <;> decide
    refine seq (tm_appendStmt (v := .none) (P := IsS (sw ++ se)) (tr_name O m7) n7 (by rw [sizeLine_eq]; have := strs_len i7; simp; omega)
      (tr_cat (tr_sub_ (tr_name O S'.m2) (Pb := IsI q) (by
          rw [← hq]
          exact tr_mod (tr_add (tr_div (tr_nameI O rfl) tr_int (by decide) (PyProof.noPylong_small (by decide))) (tr_nameI O rfl)) (tr_fn1 O kl (id := "len") (by decide +kernel) rfl (tr_name O S'.m2) (R := IsI x.wv.toArray.size) fun v e => by subst e; exact tr_len_list (ent_list S'.n2) (by omega)) (by omega)) fun a b ha hb => Tr.mono (tr_item (x := .str sw tw) (ent_list S'.n2) ha hb (by omega) (by omega) (by simpa using htw)) fun v e => ⟨tw, e⟩)
        (tr_itemA (k := j) (tm_callK0 O (tr_glob O kE) kkE (Tm.mono (ends_fn rfl O) fun v σ' ⟨nw', l, n', vs, h1, h2, h3, h4⟩ => ?_)) (fun nw' => by
          rw [← hj]
          exact tr_mod (tr_div (tr_nameI O rfl) tr_int (by decide) (PyProof.noPylong_small (by decide))) tr_int (by decide)) hj0 (by omega)) (by rw [sizeLine_eq]; omega)) fun v n' pv => ?_)
    · obtain ⟨te, hte⟩ := strs_get h4 _ se hse
      exact ⟨nw', l, n', vs, h1, h2, h3, _, hte, te, rfl⟩
    · obtain ⟨t', rfl⟩ := pv
      have hpush : av.toArray.push (.str (sw ++ se) t') = (av ++ [Value.str (sw ++ se) t']).toArray := by simp
      rw [hpush]
      have keep : ∀ p ∈ nw ++ σ.n, p ∈ updL al (listOf (av ++ [Value.str (sw ++ se) t']).toArray n') σ₁.n := fun p hp => updL_ne (hsub p hp) (apa p hp)
      refine tm_nil ⟨rfl, S4.mono (S'.m1.trans S4.m1.symm) (S'.m2.trans S4.m2.symm) (S'.c3.trans S4.c3.symm) (S'.c4.trans S4.c4.symm) (S'.c5.trans S4.c5.symm) (S'.m6.trans S4.m6.symm) keep, keep, m7, _, n', ws ++ [sw ++ se], updL_self n7, StrsAre.snoc i7 _ t', by simp; omega, fun s hs => ?_⟩
      rcases List.mem_append.mp hs with hs | hs
      · exact l7' s hs
      · obtain rfl := List.mem_singleton.mp hs
        rw [← lw_length, lw_append, List.length_append, lw_length, lw_length]; omega
  · rintro fix σ₁ ⟨rfl, S', _, m7, av, an, ws, n7, i7, l7, l7'⟩
    refine k σ₁ ⟨xn, nw⟩ ⟨al, av, an, ws⟩ ⟨S', m7, n7, i7, ?_, l7'⟩
    have h1 := S.i1.length
    have h2 := S.l1
    have : x.nv.toArray.size = x.nv.length := by simp
    show ws.length ≤ 100
    omega
end
end Mine
open PySem PySem.W PySem.Calls PyProof.Rows
set_option Elab.async false
set_option maxRecDepth 100000
set_option maxHeartbeats 4000000
set_option linter.unusedVariables false
namespace Mine

theorem firstAl_eq {kvs : List (Str × Value)} {q : Str × Value} {s : Nat} (h1 : 1 ≤ s) (h2 : s ≤ q.1.length) (h3 : beh kvs (tk q.1 s) = [iv q.2]) (h4 : ∀ j, 1 ≤ j → j < s → beh kvs (tk q.1 j) ≠ [iv q.2]) : firstAl kvs q = some s := by
  cases h : firstAl kvs q with
  | none => exact absurd h3 (firstAl_none h s h1 h2)
  | some t =>
    obtain ⟨a, b, c, d⟩ := firstAl_some h
    by_cases e : t < s
    · exact absurd c (h4 t a e)
    · by_cases e2 : s < t
      · exact absurd h3 (d s h1 e2)
      · congr 1; omega
theorem short_at {kvs : List (Str × Value)} (hs : ((shortL kvs kvs).map (·.1)).Nodup) {q : Str × Value} {s : Nat} (hq : q ∈ kvs) (h : firstAl kvs q = some s) : valueAt (shortL kvs kvs) (tk q.1 s) = some q.2 := by
  have : (tk q.1 s, q.2) ∈ shortL kvs kvs := List.mem_filterMap.mpr ⟨q, hq, by rw [h]; rfl⟩
  obtain ⟨j, hj⟩ := List.mem_iff_getElem?.mp this
  exact valueAt_get hs hj
theorem valueAt_pair {kvs : List (Str × Value)} {b : Str} {y : Value} (h : valueAt kvs b = some y) : (b, y) ∈ kvs := by
  unfold valueAt at h
  obtain ⟨e, he, rfl⟩ := Option.map_eq_some_iff.mp h
  have h1 := List.find?_some he
  have h2 := List.mem_of_find?_eq_some he
  simp at h1
  rw [← h1]; exact h2
theorem at_short {kvs : List (Str × Value)} {b : Str} {y : Value} (h : valueAt (shortL kvs kvs) b = some y) : ∃ q ∈ kvs, ∃ s, firstAl kvs q = some s ∧ b = tk q.1 s ∧ y = q.2 := by
  obtain ⟨q, hq, s, hs, e⟩ := mem_shortL (valueAt_pair h)
  rw [Prod.mk.injEq] at e
  exact ⟨q, hq, s, hs, e.1, e.2⟩
theorem tk_len {p : Str} {k : Nat} (h : k ≤ p.length) : (tk p k).length = k := by rw [← lw_length, lw_tk, List.length_take, lw_length]; omega
theorem tk_tk {p : Str} {k s : Nat} (h : s ≤ k) : tk (tk p k) s = tk p s := str_ext (by rw [lw_tk, lw_tk, lw_tk, List.take_take]; congr 1; omega)

theorem number_some {kvs : List (Str × Value)} (hd : DK kvs) (hs : ((shortL kvs kvs).map (·.1)).Nodup) {w : Str} {s : Nat} {z : Int} (h1 : 1 ≤ s) (h2 : s ≤ w.length) (h3 : beh kvs (tk w s) = [z]) (h4 : ∀ j, 1 ≤ j → j < s → (beh kvs (tk w j)).length ≠ 1) {vs : Array Value} (hN : NumR (shortL kvs kvs) w vs) : ∃ y, vs = #[y] ∧ IsI z y := by
  -- the key
  obtain ⟨q, hq, hqb, hqz⟩ : ∃ q ∈ kvs, lw (tk w s) <+: lw q.1 ∧ iv q.2 = z := by
    have : z ∈ beh kvs (tk w s) := by rw [h3]; simp
    obtain ⟨q, hq, e⟩ := List.mem_map.mp this
    have := List.mem_filter.mp hq
    exact ⟨q, this.1, by simpa using this.2, e⟩
  have lts := tk_len h2
  have hql : s ≤ q.1.length := by have := hqb.length_le; rw [lw_length, lw_length, lts] at this; exact this
  have eq1 : ∀ j, j ≤ s → tk q.1 j = tk w j := fun j hj => by
    have e : tk q.1 s = tk w s := str_ext (by rw [List.prefix_iff_eq_take.mp hqb, lw_tk, lw_length, lts])
    rw [← tk_tk hj, e, tk_tk hj]
  have hfirst : firstAl kvs q = some s := firstAl_eq h1 hql (by rw [eq1 s (Nat.le_refl _), h3, hqz]) fun j a b e => h4 j a b (by rw [← eq1 j (by omega), e]; rfl)
  have hval := short_at hs hq hfirst
  rw [eq1 s (Nat.le_refl _)] at hval
  obtain ⟨_, n, t, hn⟩ := hd.2.1 q hq
  rcases hN with ⟨k, y, hk, hy, hj, rfl⟩ | ⟨hn', _⟩
  · have hks : k = s := by
      by_cases e : k < s
      · rw [hj s e h2] at hval; cases hval
      · by_cases e2 : s < k
        · obtain ⟨q', hq', s', hs', e3, _⟩ := at_short hy
          obtain ⟨a, b, c, dd⟩ := firstAl_some hs'
          have l1 := tk_len hk
          have l2 := tk_len b
          have : s' = k := by rw [← l2, ← e3, l1]
          subst this
          have e4 : tk q'.1 s = tk w s := by rw [← tk_tk (k := s') (by omega), ← e3, tk_tk (by omega)]
          have hmem := beh_mem (kvs := kvs) (b := tk q'.1 s) hq' (by rw [lw_tk]; exact List.take_prefix _ _)
          rw [e4, h3] at hmem
          have hz : iv q'.2 = z := by simpa using hmem
          exact absurd (by rw [e4, h3, hz]) (dd s h1 e2)
        · omega
    subst hks
    rw [hval] at hy
    cases hy
    refine ⟨q.2, rfl, t, ?_⟩
    rw [hn] at hqz ⊢
    rw [← hqz]; rfl
  · rw [hn' s h2] at hval; cases hval
theorem number_none {kvs : List (Str × Value)} {w : Str} (h : ∀ s, 1 ≤ s → s ≤ w.length → (beh kvs (tk w s)).length ≠ 1) {vs : Array Value} (hN : NumR (shortL kvs kvs) w vs) : vs = #[] := by
  rcases hN with ⟨k, y, hk, hy, _, _⟩ | ⟨_, e⟩
  · obtain ⟨q', hq', s', hs', e3, _⟩ := at_short hy
    obtain ⟨a, b, c, dd⟩ := firstAl_some hs'
    have l1 := tk_len hk
    have l2 := tk_len b
    have : s' = k := by rw [← l2, ← e3, l1]
    subst this
    exact absurd (by rw [e3, c]; rfl) (h s' a hk)
  · exact e

theorem St5.mono {G : Gx} {x : D1} {y : DB} {z : DS} {u : DN} {a : DA} {σ σ' : Sg} (S : St5 G x y z u a σ) (h1 : σ'.m "numbers" = σ.m "numbers") (h2 : σ'.m "words" = σ.m "words") (h3 : σ'.c "data" = σ.c "data") (h4 : σ'.c "behind" = σ.c "behind") (h5 : σ'.c "short" = σ.c "short") (h6 : σ'.m "names" = σ.m "names") (h7 : σ'.m "asked" = σ.m "asked") (h : ∀ p ∈ σ.n, p ∈ σ'.n) : St5 G x y z u a σ' :=
  ⟨S.toSt4.mono h1 h2 h3 h4 h5 h6 h, h7.trans S.m7, h _ S.n7, S.i7, S.l7⟩
theorem strs_item {vs : List Value} {ss : List Str} (h : StrsAre vs ss) : ∀ (i : Nat) v, vs[i]? = some v → ∃ s t, v = .str s t ∧ ss[i]? = some s := by
  induction h with
  | nil => intro i v e; simp at e
  | cons k t _ ih =>
    intro i v e
    cases i with
    | zero => simp at e; subst e; exact ⟨k, t, rfl, rfl⟩
    | succ i => simpa using ih i v (by simpa using e)

section
variable {prog : Program} {w : World} {h₀ : Heap} {fa : Addr} {cd : Value} {σ : Sg} {R : Flow → Sg → Prop}
theorem lg_frames : (LG prog w h₀ fa cd).A.frames = some [(LG prog w h₀ fa cd).env] := Around.frames_deeper rfl

theorem ph5 (O : Ok (LG prog w h₀ fa cd) 8) {x : D1} {y : DB} {z : DS} {u : DN} {a : DA} (S : St5 (LG prog w h₀ fa cd) x y z u a σ)
    (k : ∀ σ, St4 (LG prog w h₀ fa cd) x y z u σ → Tm (LG prog w h₀ fa cd) σ (execs ((lawB w).drop 12) (LG prog w h₀ fa cd).env) R) : Tm (LG prog w h₀ fa cd) σ (execs ((lawB w).drop 11) (LG prog w h₀ fa cd).env) R := by
  have kr : nsIn (KK w) mainGlobals "range" = some none := by rfl
  have kl : nsIn (KK w) mainGlobals "len" = some none := by rfl
  have kn : nsIn (KK w) mainGlobals "_law_number" = some (some (.ref 106)) := by rfl
  have kkn : keepIn (KK w) (.ref 106) = true := by rfl
  have hun : (LG prog w h₀ fa cd).A.units + 64 < cLine := by have := O.units; omega
  obtain ⟨_, _, _, _, _, _, hns⟩ := id S.i5
  refine seq (tm_for (src_list O (Pre := fun σ₁ fix => σ₁ = σ ∧ fix = [(a.al, listOf a.av.toArray a.an)]) (its := a.av.toArray) (Pm := toC "word" (fun i v => a.av.toArray[i]? = some v)) (Tm.mono (Tr.m (tr_name O S.m7)) fun v σ' p => ⟨a.al, _, p.2, ⟨p.1, rfl⟩, by rw [p.1]; exact Fx.one S.n7, lst_of⟩) (fun _ _ _ _ _ _ _ _ _ q => wpAny_pure q)
      fun l o i v σ₁ σ _ hv fx => has_toC O (a := h₀.objs.size + 6) rfl (none_above (Nat.le_add_right _ _)) rfl (P := fun i v => a.av.toArray[i]? = some v) i v σ hv fx)
    (fun fix i σ' => fix = [(a.al, listOf a.av.toArray a.an)] ∧ St5 (LG prog w h₀ fa cd) x y z u a σ') ?_ ?_ ?_ ?_)
  · rintro σ₁ fix ⟨rfl, rfl⟩
    exact ⟨rfl, S⟩
  · rintro fix i σ' ⟨rfl, S'⟩; exact Fx.one S'.n7
  · rintro fix i σ₁ σ₂ hi ⟨rfl, S'⟩ ⟨v, hv, rfl⟩ _
    obtain ⟨wd, tw, rfl, hwd⟩ := strs_item S.i7 i v (by simpa using hv)
    have lwd : wd.length ≤ 10 := S.l7.2 wd (List.mem_of_getElem? hwd)
    have zw : wd.length ≤ sizeLine := by rw [sizeLine_eq]; omega
    have hlen : ((wd.length : Int) + 1 - 1).toNat = wd.length := by omega
    have cutE : ∀ j : Nat, Txt.slice wd none (some (1 + (j : Int))) = tk wd (j + 1) := fun j => str_ext (by rw [slice_to (by omega), lw_tk]; congr 1; omega)
    refine tm_next (tm_assignComp O (csrc_range O (range2_made O kr rfl tr_int (tr_add (tr_fn1 O kl (id := "len") (by decide +kernel) rfl (tr_nameCP (P := IsS wd) O rfl rfl ⟨tw, rfl⟩) (R := IsI wd.length) fun v hv => tr_len_str hv (by omega)) tr_int) rfl rfl) (by omega) (by omega) (by omega) (by omega))
      (fun C => rfl) rfl (lookup_all fun p hp => ?_) (by decide) rfl (by decide) (fun _ => rfl)
      (fun j ys led => (ys = [] ∧ ∀ s, 1 ≤ s → s ≤ j → (beh x.kvs (tk wd s)).length ≠ 1) ∨ (∃ s l vs n rest, ys = .ref l :: rest ∧ 1 ≤ s ∧ s ≤ j ∧ (l, listOf (List.toArray vs) n) ∈ σ₁.n ∧ IntsAre vs (beh x.kvs (tk wd s)) ∧ (beh x.kvs (tk wd s)).length = 1 ∧ ∀ s', 1 ≤ s' → s' < s → (beh x.kvs (tk wd s')).length ≠ 1))
      (.inl ⟨rfl, fun s a b => absurd a (by omega)⟩) (fun j ys m₁ σ₅ own h₁ C hj hys inv hcells c₁ O' pm => ?_) (by rw [hlen]; omega) rfl rfl) fun σ₄ p => ?_
    · rcases List.mem_cons.mp hp with rfl | hp
      · rfl
      · obtain rfl := List.mem_singleton.mp hp; rfl
    · obtain ⟨v, ⟨ts, rfl⟩, rfl⟩ := pm
      rw [hlen] at hj
      have cw := (hcells "word" _ rfl).trans (rfl : _ = some (Value.str wd tw))
      have cb := (hcells "behind" _ rfl).trans S'.c4
      have gB : h₁.DictOf (SK (LG prog w h₀ fa cd)) y.B y.bkv := Heap.dictOf_iff.mpr ⟨_, c₁.get S'.n4, S.i4⟩
      have lp : (tk wd (j + 1)).length = j + 1 := tk_len (by omega)
      have hlb : (beh x.kvs (tk wd (j + 1))).length ≤ 8 := by
        unfold beh
        rw [List.length_map]
        exact Nat.le_trans (List.length_filter_le _ _) S.k3.1
      refine ct_one (b := (((beh x.kvs (tk wd (j + 1))).length : Int) == 1)) (tr_testCmp (Pa := IsI (beh x.kvs (tk wd (j + 1))).length) (Pb := IsI 1) (tr_lenGet (x := tk wd (j + 1)) (kvs := y.bkv) (D := y.B) O' kl rfl (tr_nameC O' rfl cb) (by rw [← cutE j]; exact tr_cutTo (Tr.mono (tr_nameC O' rfl cw) fun v e => ⟨tw, e⟩) (tr_nameI O' rfl) zw) (ent_dict₀ gB) (fun nw => ent_dict₀ gB) S.s4 (by omega) (fun hv => ?_) fun u hv => ?_) tr_int fun a b ha hb => tr_eq_int ha hb) (fun hy => ?_) (fun hn => ?_)
      · rcases S'.b4.no _ hv with q | q
        · omega
        · rw [q]; rfl
      · obtain ⟨_, _, l', vs, n0, rfl, _, hm, hint⟩ := S'.b4.yes _ _ hv
        exact ⟨l', vs, rfl, hint.length, fun nw => ent_list₀ ⟨_, c₁.get hm, rfl, _, rfl⟩⟩
      · have hone : (beh x.kvs (tk wd (j + 1))).length = 1 := by
          have : ((beh x.kvs (tk wd (j + 1))).length : Int) = 1 := by simpa using hy
          omega
        cases hv : valueAt y.bkv (tk wd (j + 1)) with
        | none =>
          rcases S'.b4.no _ hv with q | q
          · omega
          · rw [q] at hone; cases hone
        | some uu =>
          obtain ⟨_, _, l', vs, n0, rfl, _, hm, hint⟩ := S'.b4.yes _ _ hv
          refine Tm.mono (Tr.m (tr_sub_ (Pb := IsS (tk wd (j + 1))) (tr_nameC O' rfl cb) (by rw [← cutE j]; exact tr_cutTo (Tr.mono (tr_nameC O' rfl cw) fun v e => ⟨tw, e⟩) (tr_nameI O' rfl) zw) fun u v hu hw => tr_dItem (ent_dict₀ gB) hu hw hv)) fun v σ'' q => ?_
          obtain ⟨rfl, rfl⟩ := q
          rcases inv with ⟨rfl, hno⟩ | ⟨s, l, vs', n', rest, rfl, h1, h2, h3⟩
          · exact .inr ⟨j + 1, l', vs, n0, [], rfl, by omega, Nat.le_refl _, hm, hint, hone, fun s' a b => hno s' a (by omega)⟩
          · exact .inr ⟨s, l, vs', n', rest ++ [.ref l'], rfl, h1, by omega, h3⟩
      · have hone : (beh x.kvs (tk wd (j + 1))).length ≠ 1 := by
          intro h; rw [h] at hn; simp at hn
        rcases inv with ⟨rfl, hno⟩ | ⟨s, l, vs', n', rest, rfl, h1, h2, h3⟩
        · refine .inl ⟨rfl, fun s' a b => ?_⟩
          by_cases e : s' = j + 1
          · rw [e]; exact hone
          · exact hno s' a (by omega)
        · exact .inr ⟨s, l, vs', n', rest, rfl, h1, by omega, h3⟩
    · obtain ⟨Da, ys, n', led, hinv, hys, rfl, _⟩ := p
      rw [hlen] at hinv
      have S₆ : St5 (LG prog w h₀ fa cd) x y z u a { m := put σ₁.m "alone" (.ref Da), c := put σ₁.c "word" (.str wd tw), n := (Da, listOf (List.toArray ys) n') :: (led ++ σ₁.n) } := S'.mono rfl rfl rfl rfl rfl rfl rfl fun p hp => .tail _ (List.mem_append_right _ hp)
      refine seq_if (x := false) (tr_testCmpN (b := false) (Pa := fun v nw => ∃ l n' vs, v = .ref l ∧ (l, listOf vs n') ∈ nw ∧ NumR (shortL x.kvs x.kvs) wd vs)
        (Pb := fun a v nw => ∃ la va lb vb zs, a = .ref la ∧ v = .ref lb ∧ Ent (LG prog w h₀ fa cd) (Sg.mk (put σ₁.m "alone" (.ref Da)) (put σ₁.c "word" (.str wd tw)) (nw ++ ((Da, listOf (List.toArray ys) n') :: (led ++ σ₁.n)))) (fun h => h.IsList la (List.toArray va)) ∧ IntsAre va zs ∧ Ent (LG prog w h₀ fa cd) (Sg.mk (put σ₁.m "alone" (.ref Da)) (put σ₁.c "word" (.str wd tw)) (nw ++ ((Da, listOf (List.toArray ys) n') :: (led ++ σ₁.n)))) (fun h => h.IsList lb (List.toArray vb)) ∧ IntsAre vb zs)
        (tm_callK O (tr_glob O kn) kkn (Tr.m (tr_arg2 (tr_name O S₆.m6) (Tr.mono (tr_nameC O rfl rfl) fun v e => (e : IsV (.str wd tw) v)))) fun vs σ' p => ?_) (fun a' nw p => ?_) fun a' b nw p => ?_) (fun h => nomatch h) fun _ => tm_nil ?_
      · obtain ⟨rfl, b1, b2, rfl, rfl, rfl⟩ := p
        refine Tm.mono (number_fn rfl O lg_frames rfl S₆.trie (by omega)) fun v σ' p => ?_
        obtain ⟨nw, l, n'', vs, rfl, rfl, h1, h2, _⟩ := p
        exact ⟨nw, rfl, l, n'', vs, rfl, h1, h2⟩
      · obtain ⟨l, n'', vs, rfl, hm, hN⟩ := p
        refine tm_ifexp (x := !(List.toArray ys).isEmpty) (tr_test (P := IsV (.ref Da)) (tr_name O rfl) fun v hv => tr_truthyList (ent_list (List.mem_append_right _ (.head _))) (by simp; omega) hv) ?_
        rcases hinv with ⟨rfl, hno⟩ | ⟨s, l0, vs0, n0, rest, rfl, h1, h2, h3, h4, h5, h6⟩
        · rw [if_neg (by simp)]
          have := number_none hno hN
          subst this
          refine Tm.mono tm_list0 fun v σ' p => ?_
          obtain ⟨l2, rfl, rfl, _⟩ := p
          exact ⟨_ :: nw, rfl, l, [], l2, [], [], rfl, rfl, ent_list (List.mem_append_left _ (.tail _ hm)), .nil, ent_list (.head _), .nil⟩
        · rw [if_pos (by simp)]
          obtain ⟨z', hz'⟩ := List.length_eq_one_iff.mp h5
          obtain ⟨y1, rfl, hy1⟩ := number_some S.k3 hns h1 h2 hz' h6 hN
          obtain ⟨t1, rfl⟩ := hy1
          refine Tm.mono (Tr.m (tr_sub_ (tr_name O rfl) (tr_int (i := 0)) fun p q hp hq => tr_item (x := .ref l0) (ent_list (List.mem_append_right _ (.head _))) hp hq (by decide) (by decide) rfl)) fun v σ' p => ?_
          obtain ⟨rfl, rfl⟩ := p
          rw [hz'] at h4
          exact ⟨nw, rfl, l, [.int z' t1], l0, vs0, [z'], rfl, rfl, ent_list (List.mem_append_left _ hm), .cons _ _ .nil, ent_list (List.mem_append_right _ (.tail _ (List.mem_append_right _ h3))), h4⟩
      · obtain ⟨la, va, lb, vb, zs, rfl, rfl, e1, i1, e2, i2⟩ := p
        exact Tr.mono (tr_neInts e1 i1 e2 i2 hun rfl rfl) fun v e => by rw [e]; simp
      · exact tm_nil ⟨rfl, S₆⟩
  · rintro fix σ₁ ⟨rfl, S'⟩
    exact k σ₁ S'.toSt4
end
end Mine
open PySem PySem.W PySem.Calls PyProof.Rows
set_option Elab.async false
set_option maxRecDepth 100000
set_option maxHeartbeats 4000000
set_option linter.unusedVariables false
namespace Mine

theorem inj_map {α β : Type} {f : α → β} : ∀ {l : List α}, (l.map f).Nodup → ∀ {a b}, a ∈ l → b ∈ l → f a = f b → a = b
  | [], _, _, _, h, _, _ => nomatch h
  | x :: r, hn, a, b, ha, hb, e => by
    rw [List.map_cons, List.nodup_cons] at hn
    rcases List.mem_cons.mp ha with ea | ha
    · rcases List.mem_cons.mp hb with eb | hb
      · rw [ea, eb]
      · exact absurd (List.mem_map.mpr ⟨b, hb, by rw [← ea, e]⟩) hn.1
    · rcases List.mem_cons.mp hb with eb | hb
      · exact absurd (List.mem_map.mpr ⟨a, ha, by rw [← eb, e]⟩) hn.1
      · exact inj_map hn.2 ha hb e

/-- a code: no name begins another, none is empty -/
structure Code (sk : List (Str × Value)) : Prop where
  pf : ∀ a b, (valueAt sk a).isSome = true → (valueAt sk b).isSome = true → lw a <+: lw b → a = b
  ne : ∀ a, (valueAt sk a).isSome = true → 1 ≤ a.length

theorem code_short {kvs : List (Str × Value)} (hd : DK kvs) : Code (shortL kvs kvs) := by
  refine ⟨fun a b ha hb hp => ?_, fun a ha => ?_⟩
  · obtain ⟨y, hy⟩ := Option.isSome_iff_exists.mp ha
    obtain ⟨y', hy'⟩ := Option.isSome_iff_exists.mp hb
    obtain ⟨q, hq, s, hs, rfl, _⟩ := at_short hy
    obtain ⟨q', hq', s', hs', rfl, _⟩ := at_short hy'
    obtain ⟨_, _, h3, _⟩ := firstAl_some hs
    have hm := beh_mem (kvs := kvs) (b := tk q.1 s) hq' (hp.trans (by rw [lw_tk]; exact List.take_prefix _ _))
    rw [h3] at hm
    have e : q' = q := inj_map hd.2.2 hq' hq (by simpa using hm)
    subst e
    rw [hs] at hs'
    cases hs'; rfl
  · obtain ⟨y, hy⟩ := Option.isSome_iff_exists.mp ha
    obtain ⟨q, hq, s, hs, rfl, _⟩ := at_short hy
    obtain ⟨h1, h2, _⟩ := firstAl_some hs
    rw [tk_len h2]; exact h1

theorem Code.whole {sk : List (Str × Value)} (C : Code sk) {r a : Str} {t : List Nat} (ha : (valueAt sk a).isSome = true) (hr : lw r = lw a ++ t) {k : Nat} (hk : k ≤ r.length) (hs : (valueAt sk (tk r k)).isSome = true) : tk r k = a := by
  have h1 : lw (tk r k) <+: lw r := by rw [lw_tk]; exact List.take_prefix _ _
  have h2 : lw a <+: lw r := by rw [hr]; exact List.prefix_append _ _
  rcases List.prefix_or_prefix_of_prefix h1 h2 with h | h
  · exact C.pf _ _ hs ha h
  · exact (C.pf _ _ ha hs h).symm
theorem Code.some_ {sk : List (Str × Value)} {r a : Str} {t : List Nat} (ha : (valueAt sk a).isSome = true) (hr : lw r = lw a ++ t) : a.length ≤ r.length ∧ tk r a.length = a := by
  refine ⟨by rw [← lw_length, ← lw_length, hr, List.length_append]; omega, str_ext ?_⟩
  rw [lw_tk, hr, ← lw_length, List.take_left]
theorem Code.part {sk : List (Str × Value)} (C : Code sk) {r a : Str} (ha : (valueAt sk a).isSome = true) (hr : lw r <+: lw a) (hl : r.length < a.length) (k : Nat) (hk : k ≤ r.length) : valueAt sk (tk r k) = none := by
  cases h : valueAt sk (tk r k) with
  | none => rfl
  | some y =>
    have h1 : lw (tk r k) <+: lw r := by rw [lw_tk]; exact List.take_prefix _ _
    have := C.pf _ _ (by rw [h]; rfl) ha (h1.trans hr)
    have := congrArg Str.length this
    rw [tk_len hk] at this
    omega
theorem Code.void {sk : List (Str × Value)} (C : Code sk) {r : Str} (hr : r.length = 0) (k : Nat) (hk : k ≤ r.length) : valueAt sk (tk r k) = none := by
  cases h : valueAt sk (tk r k) with
  | none => rfl
  | some y =>
    have := C.ne _ (by rw [h]; rfl)
    rw [tk_len hk] at this
    omega

/-- the message that is left -/
def rs (ss : List Str) (c : Nat) : List Nat := (ss.map lw).flatten.take ((ss.map lw).flatten.length - c)
theorem flat_pos {sk : List (Str × Value)} (C : Code sk) {ss : List Str} (hs : ∀ s ∈ ss, (valueAt sk s).isSome = true) (h : ss ≠ []) : 1 ≤ (ss.map lw).flatten.length := by
  cases ss with
  | nil => exact absurd rfl h
  | cons a r =>
    have := C.ne a (hs a (.head _))
    rw [List.map_cons, List.flatten_cons, List.length_append, lw_length]; omega
theorem rs_step {sk : List (Str × Value)} (C : Code sk) {a : Str} {r : List Str} {c : Nat} (hs : ∀ s ∈ a :: r, (valueAt sk s).isSome = true) (hc : c ≤ 1) (h : c = 0 ∨ r ≠ []) : rs (a :: r) c = lw a ++ rs r c := by
  have hp : c ≤ (r.map lw).flatten.length := by
    rcases h with rfl | h
    · exact Nat.zero_le _
    · have := flat_pos C (fun s q => hs s (.tail _ q)) h
      omega
  unfold rs
  rw [List.map_cons, List.flatten_cons, List.length_append, List.take_append]
  rw [List.take_of_length_le (by omega)]
  congr 2
  omega
theorem rs_last {a : Str} : rs [a] 1 = (lw a).take (a.length - 1) := by
  unfold rs
  rw [List.map_cons, List.map_nil, List.flatten_cons, List.flatten_nil, List.append_nil, lw_length]
end Mine
open PySem PySem.W PySem.Calls PyProof.Rows
set_option Elab.async false
set_option maxRecDepth 100000
set_option maxHeartbeats 4000000
set_option linter.unusedVariables false
namespace Mine

structure DM where
  sl : Addr
  sv : List Value
  sn : Nat
  ss : List Str
  c : Nat
structure St6 (G : Gx) (x : D1) (y : DB) (z : DS) (u : DN) (e : DM) (σ : Sg) : Prop extends St4 G x y z u σ where
  m8 : σ.m "sent" = some (.ref e.sl)
  n8 : (e.sl, listOf e.sv.toArray e.sn) ∈ σ.n
  i8 : StrsAre e.sv e.ss
  k8 : ∀ s ∈ e.ss, (valueAt (shortL x.kvs x.kvs) s).isSome = true
  l8 : e.ss.length ≤ 8
  c8 : e.c ≤ 1 ∧ (e.ss = [] → e.c = 0)
  mc : ∃ t, σ.m "cut" = some (.int e.c t)

theorem short_len4 {kvs : List (Str × Value)} (hd : DK kvs) {a : Str} (h : (valueAt (shortL kvs kvs) a).isSome = true) : a.length ≤ 4 := by
  obtain ⟨y, hy⟩ := Option.isSome_iff_exists.mp h
  obtain ⟨q, hq, s, hs, rfl, _⟩ := at_short hy
  obtain ⟨h1, h2, _⟩ := firstAl_some hs
  rw [tk_len h2]
  have := (hd.2.1 q hq).1
  omega
theorem sum_len {ss : List Str} (h : ∀ s ∈ ss, s.length ≤ 4) : (ss.map (·.length)).sum ≤ 4 * ss.length := by
  induction ss with
  | nil => simp
  | cons a r ih =>
    have h1 := h a (.head _)
    have h2 := ih fun s hs => h s (.tail _ hs)
    simp only [List.map_cons, List.sum_cons, List.length_cons]
    omega
theorem flat_len (ss : List Str) : (ss.map lw).flatten.length = (ss.map (·.length)).sum := by
  induction ss with
  | nil => rfl
  | cons a r ih => rw [List.map_cons, List.flatten_cons, List.length_append, ih, lw_length]; rfl

section
variable {prog : Program} {w : World} {h₀ : Heap} {fa : Addr} {cd : Value} {σ : Sg} {R : Flow → Sg → Prop}

theorem ph6 (O : Ok (LG prog w h₀ fa cd) 8) {x : D1} {y : DB} {z : DS} {u : DN} (S : St4 (LG prog w h₀ fa cd) x y z u σ)
    (k : ∀ σ e ca, St6 (LG prog w h₀ fa cd) x y z u e σ → (∃ r t, σ.m "rest" = some (.str r t) ∧ lw r = rs e.ss e.c) → (∀ p ∈ σ.n, p.1 ≠ ca) →
      Tm (LG prog w h₀ fa cd) { σ with m := put σ.m "came" (.ref ca), n := (ca, listOf ([] : List Value).toArray 0) :: σ.n } (execs ((lawB w).drop 18) (LG prog w h₀ fa cd).env) R) : Tm (LG prog w h₀ fa cd) σ (execs ((lawB w).drop 12) (LG prog w h₀ fa cd).env) R := by
  have kl : nsIn (KK w) mainGlobals "len" = some none := by rfl
  have ks : nsIn (KK w) mainGlobals "sorted" = some none := by rfl
  have ksu : nsIn (KK w) mainGlobals "sum" = some none := by rfl
  have ke : nsIn (KK w) mainGlobals "enumerate" = some none := by rfl
  have lsh := shortL_len S.k3.1
  -- row = sorted(short)
  refine seq_assignC O (a := h₀.objs.size + 7) rfl (none_above (Nat.le_add_right _ _)) (tm_callB (tr_blt O (v := .builtin "sorted") ks (by decide +kernel)) (Tr.m (tr_arg1 (tr_nameC O rfl S.c5))) (R := fun v σ' => ∃ rl rn rv rss, v = .ref rl ∧ σ' = Sg.mk σ.m σ.c ((rl, listOf (List.toArray rv) rn) :: σ.n) ∧ StrsAre rv rss ∧ rss.Perm ((shortL x.kvs x.kvs).map (·.1))) fun vs σ' p => ?_) fun v σ' p => ?_
  · obtain ⟨rfl, v, rfl, rfl⟩ := p
    exact Tm.mono (tm_sortedDict O (Fx.one S.n5) S.i5 S.s5 (by omega)) fun v σ' ⟨l, n', vs, ss, h1, h2, h3, h4, _⟩ => ⟨l, n', vs, ss, h1, h2, h3, h4⟩
  obtain ⟨rl, rn, rv, rss, rfl, rfl, hrv, hperm⟩ := p
  have S₁ : St4 (LG prog w h₀ fa cd) x y z u (Sg.mk σ.m (put σ.c "row" (.ref rl)) ((rl, listOf (List.toArray rv) rn) :: σ.n)) := S.mono rfl rfl rfl rfl rfl rfl fun p hp => .tail _ hp
  have lrv := strs_len hrv
  have lrs : rss.length ≤ 8 := by rw [hperm.length_eq, List.length_map]; exact lsh
  have krs : ∀ s ∈ rss, (valueAt (shortL x.kvs x.kvs) s).isSome = true := fun s hs => by
    rw [valueAt_isSome_eq_any]
    obtain ⟨q, hq, e⟩ := List.mem_map.mp (hperm.mem_iff.mp hs)
    exact List.any_eq_true.mpr ⟨q, hq, by simp [e]⟩
  have lnv : x.nv.toArray.size ≤ 8 := by have := S.i1.length; have := S.l1; simp; omega
  -- sent = [..]
  refine tm_next (tm_assignComp O (csrc_enum O ke rfl (tr_name O S₁.m1) (Fx.one S₁.n1) (lst_of (its := x.nv.toArray) (n := x.nn))) (fun C => ⟨rfl, rfl⟩) rfl (lookup_all fun p hp => ?_) (by decide) rfl (by decide) (fun _ => rfl)
    (fun j ys led => ∃ ss, StrsAre ys ss ∧ ∀ s ∈ ss, s ∈ rss) ⟨[], .nil, fun s h => nomatch h⟩ (fun j ys m₁ σ₅ own h₁ C hj hys inv hcells c₁ O' pm => ?_) (by omega) rfl rfl) fun σ₄ p => ?_
  · obtain rfl := List.mem_singleton.mp hp; rfl
  · obtain ⟨ti, vn, hvn, rfl⟩ := pm
    obtain ⟨n, tn, rfl, hn⟩ := ints_get S.i1 j vn (by simpa using hvn)
    obtain ⟨ss, hss, hmem⟩ := inv
    have cr := (hcells "row" _ rfl).trans (rfl : _ = some (Value.ref rl))
    have gr : h₁.IsList rl (List.toArray rv) := ⟨_, c₁.get (.head _), rfl, _, rfl⟩
    refine ct_one (b := !(List.toArray rv).isEmpty) (tr_test (P := IsV (.ref rl)) (tr_nameC O' rfl cr) fun v hv => tr_truthyList (ent_list₀ gr) (by simp; omega) hv) (fun hy => ?_) (fun hn => ⟨ss, hss, hmem⟩)
    have hpos : 0 < rv.length := by
      cases rv with
      | nil => simp at hy
      | cons a b => simp
    have hsz : (List.toArray rv).size = rv.length := by simp
    have hq0 : 0 ≤ (n + (j : Int)).fmod ((List.toArray rv).size : Int) := Int.fmod_nonneg_of_pos _ (by omega)
    have hq1 : (n + (j : Int)).fmod ((List.toArray rv).size : Int) < (List.toArray rv).size := Int.fmod_lt_of_pos _ (by omega)
    generalize hq : (n + (j : Int)).fmod ((List.toArray rv).size : Int) = q at hq0 hq1
    obtain ⟨sw, hsw⟩ : ∃ s, rss[q.toNat]? = some s := ⟨_, List.getElem?_eq_getElem (by omega)⟩
    obtain ⟨tw, htw⟩ := strs_get hrv _ sw hsw
    refine Tm.mono (Tr.m (tr_sub_ (tr_nameC O' rfl cr) (Pb := IsI q) (by
        rw [← hq]
        exact tr_mod (tr_add (tr_nameI O' rfl) (tr_nameI O' rfl)) (tr_fn1 O' kl (id := "len") (by decide +kernel) rfl (tr_nameC O' rfl cr) (R := IsI (List.toArray rv).size) fun v e => by subst e; exact tr_len_list (ent_list₀ gr) (by omega)) (by omega)) fun a b ha hb => tr_item (x := .str sw tw) (ent_list₀ gr) ha hb (by omega) (by omega) (by simpa using htw))) fun v σ'' p => ?_
    obtain ⟨rfl, rfl⟩ := p
    refine ⟨ss ++ [sw], StrsAre.snoc hss sw tw, fun s hs => ?_⟩
    rcases List.mem_append.mp hs with hs | hs
    · exact hmem s hs
    · obtain rfl := List.mem_singleton.mp hs; exact List.mem_of_getElem? hsw
  obtain ⟨sl, sv, sn, led, ⟨ss, hss, hmem⟩, lsv, rfl, _⟩ := p
  have lss : ss.length ≤ 8 := by have := strs_len hss; omega
  have hsl := strs_len hss
  have kss : ∀ s ∈ ss, (valueAt (shortL x.kvs x.kvs) s).isSome = true := fun s hs => krs s (hmem s hs)
  have C := code_short S.k3
  have S₂ : St4 (LG prog w h₀ fa cd) x y z u { m := put σ.m "sent" (.ref sl), c := put σ.c "row" (.ref rl), n := (sl, listOf (List.toArray sv) sn) :: (led ++ ((rl, listOf (List.toArray rv) rn) :: σ.n)) } := S₁.mono rfl rfl rfl rfl rfl rfl fun p hp => .tail _ (List.mem_append_right _ hp)
  -- cut
  refine seq_assign O (Tr.m (tr_ifexp (x := !(List.toArray sv).isEmpty) (R := fun v => ∃ c : Nat, c ≤ 1 ∧ (ss = [] → c = 0) ∧ IsI c v) (tr_test (P := IsV (.ref sl)) (tr_name O rfl) fun v hv => tr_truthyList (ent_list (.head _)) (by simp; omega) hv) ?_)) fun v σ' p => ?_
  · by_cases he : sv = []
    · subst he
      rw [if_neg (by simp)]
      exact Tr.mono tr_int fun v hv => ⟨0, Nat.zero_le _, fun _ => rfl, hv⟩
    · rw [if_pos (by rcases sv with _ | ⟨a, b⟩; exact absurd rfl he; simp)]
      refine tr_binop (Pa := fun v => ∃ z, IsI z v) (Pb := IsI 2) (tr_sumCut O (k := 1) ksu rfl (tr_name O S₂.m1) (ent_list S₂.n1) S₂.i1 tr_int (by have : x.nv.toArray.size = x.nv.length := (by simp); omega)) tr_int fun a b ⟨z, tz, ha⟩ ⟨tb, hb⟩ => ?_
      subst ha; subst hb
      have h0 : 0 ≤ z.fmod 2 := Int.fmod_nonneg_of_pos _ (by decide)
      have h1 : z.fmod 2 < 2 := Int.fmod_lt_of_pos _ (by decide)
      refine fun _ s _ _ c k => mod_int (by decide) (k _ s.heap _ ⟨(z.fmod 2).toNat, by omega, fun e => ?_, ?_⟩ c)
      · subst e
        exact absurd (List.eq_nil_of_length_eq_zero hsl) he
      · rw [Int.toNat_of_nonneg h0]; exact ⟨_, rfl⟩
  obtain ⟨rfl, c, hc1, hc0, tc, rfl⟩ := p
  have zz : (ss.map (·.length)).sum ≤ 32 := by
    have := sum_len (ss := ss) fun s hs => short_len4 S.k3 (kss s hs)
    omega
  -- rest = ''.join(sent)
  refine seq_assign O (Tr.m (tr_join (ss := ss) tr_str (tr_name O rfl) (ent_list (.head _)) hss (by omega))) fun v σ' p => ?_
  obtain ⟨rfl, tr, rfl⟩ := p
  have lj : (Txt.join "" ss).length = (ss.map (·.length)).sum := by rw [← lw_length, lw_tjoin, flat_len]
  have hcl : c ≤ (Txt.join "" ss).length := by
    by_cases he : ss = []
    · rw [hc0 he]; exact Nat.zero_le _
    · have := flat_pos C kss he
      rw [flat_len] at this
      omega
  -- rest = rest[:len(rest) - cut]
  refine seq_assign O (Tr.m (tr_cutTo (x := Txt.join "" ss) (j := ((Txt.join "" ss).length : Int) - (c : Int)) (tr_nameP O rfl ⟨tr, rfl⟩) (tr_sub (tr_fn1 O kl (id := "len") (by decide +kernel) rfl (tr_nameP (P := IsS (Txt.join "" ss)) O rfl ⟨tr, rfl⟩) (R := IsI (Txt.join "" ss).length) fun v hv => tr_len_str hv (by omega)) (tr_nameI O rfl)) (by rw [sizeLine_eq]; omega))) fun v σ' p => ?_
  obtain ⟨rfl, tr2, rfl⟩ := p
  -- came = []
  refine seq_assign O tm_list0 fun v σ' p => ?_
  obtain ⟨ca, rfl, rfl, apc⟩ := p
  refine k { m := put (put (put (put σ.m "sent" (.ref sl)) "cut" (.int c tc)) "rest" (.str (Txt.join "" ss) tr)) "rest" (.str (Txt.slice (Txt.join "" ss) none (some (((Txt.join "" ss).length : Int) - (c : Int)))) tr2), c := put σ.c "row" (.ref rl), n := (sl, listOf (List.toArray sv) sn) :: (led ++ ((rl, listOf (List.toArray rv) rn) :: σ.n)) } ⟨sl, sv, sn, ss, c⟩ ca ⟨S₂.mono rfl rfl rfl rfl rfl rfl fun p hp => hp, rfl, .head _, hss, kss, lss, ⟨hc1, hc0⟩, ⟨tc, rfl⟩⟩ ⟨_, tr2, rfl, ?_⟩ apc
  rw [slice_to (by omega), lw_tjoin]
  unfold rs
  rw [flat_len, lj]
  congr 1
  show ((((ss.map (·.length)).sum : Nat) : Int) - (c : Int)).toNat = (ss.map (·.length)).sum - c
  omega
end
end Mine
open PySem PySem.W PySem.Calls PyProof.Rows
set_option Elab.async false
set_option maxRecDepth 100000
set_option maxHeartbeats 4000000
set_option linter.unusedVariables false
namespace Mine

theorem St6.mono {G : Gx} {x : D1} {y : DB} {z : DS} {u : DN} {e : DM} {σ σ' : Sg} (S : St6 G x y z u e σ) (h1 : σ'.m "numbers" = σ.m "numbers") (h2 : σ'.m "words" = σ.m "words") (h3 : σ'.c "data" = σ.c "data") (h4 : σ'.c "behind" = σ.c "behind") (h5 : σ'.c "short" = σ.c "short") (h6 : σ'.m "names" = σ.m "names") (h7 : σ'.m "sent" = σ.m "sent") (h8 : σ'.m "cut" = σ.m "cut") (h : ∀ p ∈ σ.n, p ∈ σ'.n) : St6 G x y z u e σ' :=
  ⟨S.toSt4.mono h1 h2 h3 h4 h5 h6 h, h7.trans S.m8, h _ S.n8, S.i8, S.k8, S.l8, S.c8, by rw [h8]; exact S.mc⟩

def valS (sk : List (Str × Value)) (s : Str) : Int := iv ((valueAt sk s).getD .none)
theorem short_int {kvs : List (Str × Value)} (hd : DK kvs) {a : Str} (h : (valueAt (shortL kvs kvs) a).isSome = true) : ∃ t, valueAt (shortL kvs kvs) a = some (.int (valS (shortL kvs kvs) a) t) := by
  obtain ⟨y, hy⟩ := Option.isSome_iff_exists.mp h
  obtain ⟨q, hq, s, hs, _, rfl⟩ := at_short hy
  obtain ⟨_, n, t, hn⟩ := hd.2.1 q hq
  refine ⟨t, ?_⟩
  unfold valS
  rw [hy, hn]; rfl

section
variable {prog : Program} {w : World} {h₀ : Heap} {fa : Addr} {cd : Value} {σ : Sg}

theorem ph8 (O : Ok (LG prog w h₀ fa cd) 8) {x : D1} {y : DB} {z : DS} {u : DN} {e : DM} {ca : Addr} {cv : List Value} {cn : Nat} (S : St6 (LG prog w h₀ fa cd) x y z u e σ) (mca : σ.m "came" = some (.ref ca)) (nca : (ca, listOf (List.toArray cv) cn) ∈ σ.n)
    (hcv : IntsAre cv ((e.ss.take (e.ss.length - e.c)).map (valS (shortL x.kvs x.kvs)))) : Tm (LG prog w h₀ fa cd) σ (execs ((lawB w).drop 19) (LG prog w h₀ fa cd).env) (fun f σ' => f = .ret (.bool true)) := by
  have kl : nsIn (KK w) mainGlobals "len" = some none := by rfl
  have hun : (LG prog w h₀ fa cd).A.units + 64 < cLine := by have := O.units; omega
  obtain ⟨tc, mc⟩ := S.mc
  have hsv := strs_len S.i8
  have l8 := S.l8
  have hcm : e.c ≤ e.ss.length := by
    by_cases h : e.ss = []
    · rw [S.c8.2 h]; exact Nat.zero_le _
    · have := List.length_pos_iff.mpr h
      have := S.c8.1
      omega
  have e1 : ((e.ss.length - e.c : Nat) : Int) = (e.sv.toArray.size : Int) - (e.c : Int) := by
    simp
    omega
  have itk := S.i8.take' (e.ss.length - e.c)
  have hlt := strs_len itk
  refine seq_ret (Tm.mono (Tr.m (tr_cmpN (R := IsB (decide ((e.ss.take (e.ss.length - e.c)).map (valS (shortL x.kvs x.kvs)) = (e.ss.take (e.ss.length - e.c)).map (valS (shortL x.kvs x.kvs))))) (Pa := fun v nw => nw = [] ∧ v = .ref ca) (Pb := fun a v nw => a = .ref ca ∧ ∃ l ys n, v = .ref l ∧ (l, listOf (List.toArray ys) n) ∈ nw ∧ IntsAre ys ((e.ss.take (e.ss.length - e.c)).map (valS (shortL x.kvs x.kvs))))
    (Tm.mono (Tr.m (tr_name O mca)) fun v σ' p => ⟨[], p.1, rfl, p.2⟩) (fun a nw p => ?_) fun a b nw p => ?_)) fun v σ' p => by rw [p.2]; simp)
  · obtain ⟨rfl, rfl⟩ := p
    refine Tm.mono (tm_comp O (csrc_list O (target := .Name "name" _) (its := (e.sv.take (e.ss.length - e.c)).toArray) (Pm := toN "name" (fun i v => (e.sv.take (e.ss.length - e.c)).toArray[i]? = some v)) (T := fun env => env.kindOf "name" = some .local)
        (Tm.mono (tm_cutList (k := e.ss.length - e.c) (tr_name O S.m8) (ent_list S.n8) (by
            rw [e1]
            exact tr_sub (tr_fn1 O kl (id := "len") (by decide +kernel) rfl (tr_name O S.m8) (R := IsI e.sv.toArray.size) fun v e' => by subst e'; exact tr_len_list (ent_list S.n8) (by simp; omega)) (tr_nameI O mc)) (by omega)) fun v σ' p => ?_) (fun _ _ _ _ _ _ _ _ _ q => wpAny_pure q)
        fun own h₁ env' d l o i v σ₁ nw c hT O' hv fx => has_toN O' (P := fun i v => (e.sv.take (e.ss.length - e.c)).toArray[i]? = some v) (hx := hT) i v σ₁ hv fx)
      (fun C => rfl) rfl (lookup_all fun p hp => ?_) (by decide) rfl (by decide) (fun _ => rfl) (fun j ys led => IntsAre ys (((e.ss.take (e.ss.length - e.c)).take j).map (valS (shortL x.kvs x.kvs)))) .nil (fun j ys m₁ σ₅ own h₁ C hj hys inv hcells c₁ O' pm => ?_) (by simp; omega)) fun v σ' q => ?_
    · obtain ⟨l', rfl, rfl, _⟩ := p
      exact ⟨⟨[_], rfl⟩, l', _, rfl, Fx.one (.head _), lst_of⟩
    · obtain rfl := List.mem_singleton.mp hp; rfl
    · obtain ⟨v, hv, rfl⟩ := pm
      obtain ⟨s, ts, rfl, hs⟩ := strs_item itk j v (by simpa using hv)
      have hsm : s ∈ e.ss := List.mem_of_mem_take (List.mem_of_getElem? hs)
      obtain ⟨ti, hval⟩ := short_int S.k3 (S.k8 s hsm)
      have csh := (hcells "short" _ rfl).trans S.c5
      have gS : h₁.DictOf (SK (LG prog w h₀ fa cd)) z.S (shortL x.kvs x.kvs) := Heap.dictOf_iff.mpr ⟨_, c₁.get S.n5, S.i5⟩
      refine ct_none (Tm.mono (Tr.m (tr_sub_ (Pb := IsS s) (tr_nameC O' rfl csh) (tr_nameP O' rfl ⟨ts, rfl⟩) fun a b ha hb => tr_dItem (ent_dict₀ gS) ha hb hval)) fun v σ'' p => ?_)
      obtain ⟨rfl, rfl⟩ := p
      rw [List.take_add_one, hs, List.map_append]
      exact inv.append (.cons _ _ .nil)
    · obtain ⟨D, ys, n', led, rfl, hint, _, rfl, _⟩ := q
      have hsz : (e.sv.take (e.ss.length - e.c)).toArray.size = (e.ss.take (e.ss.length - e.c)).length := by simpa using hlt
      rw [hsz, List.take_length] at hint
      exact ⟨(D, listOf (List.toArray ys) n') :: led, rfl, rfl, D, ys, n', rfl, .head _, hint⟩
  · obtain ⟨rfl, l, ys, n, rfl, hm, hint⟩ := p
    exact tr_eqInts (ent_list (List.mem_append_right _ nca)) hcv (ent_list (List.mem_append_left _ hm)) hint hun rfl rfl
end
end Mine
open PySem PySem.W PySem.Calls PyProof.Rows
set_option Elab.async false
set_option maxRecDepth 100000
set_option maxHeartbeats 4000000
set_option linter.unusedVariables false
namespace Mine
section
variable {prog : Program} {w : World} {h₀ : Heap} {fa : Addr} {cd : Value} {σ : Sg}

theorem ph7 (O : Ok (LG prog w h₀ fa cd) 8) {x : D1} {y : DB} {z : DS} {u : DN} {e : DM} {ca : Addr} (S : St6 (LG prog w h₀ fa cd) x y z u e σ) (hr : ∃ r t, σ.m "rest" = some (.str r t) ∧ lw r = rs e.ss e.c) (ap : ∀ p ∈ σ.n, p.1 ≠ ca) :
    Tm (LG prog w h₀ fa cd) { σ with m := put σ.m "came" (.ref ca), n := (ca, listOf ([] : List Value).toArray 0) :: σ.n } (execs ((lawB w).drop 18) (LG prog w h₀ fa cd).env) (fun f σ' => f = .ret (.bool true)) := by
  have kl : nsIn (KK w) mainGlobals "len" = some none := by rfl
  have kr : nsIn (KK w) mainGlobals "range" = some none := by rfl
  have ke : nsIn (KK w) mainGlobals "KeyError" = some none := by rfl
  have g1 : findIn (KK w) (.ref 74) "__getitem__" = some (some (.ref 57)) := by rfl
  have g2 : fnIn (KK w) 57 = true := by rfl
  have g3 : isFn (KK w) (.ref 57) = true := by rfl
  obtain ⟨dx, es, nx, _, _, _, _, _, _, _, _, q1, q1', _, _, _, _, _, q7, _⟩ := id S.t6
  have C := code_short S.k3
  have hsv := strs_len S.i8
  have l8 := S.l8
  have hc1 := S.c8.1
  have hcm : e.c ≤ e.ss.length := by
    by_cases h : e.ss = []
    · rw [S.c8.2 h]; exact Nat.zero_le _
    · have := List.length_pos_iff.mpr h
      omega
  have hn0 : ((e.sv.toArray.size : Int) + 1 - 0).toNat = e.ss.length + 1 := by
    simp
    omega
  have rlen : ∀ (i : Nat) (r : Str), lw r = rs (e.ss.drop i) e.c → r.length ≤ 40 := fun i r h => by
    have h1 : (lw r).length ≤ ((e.ss.drop i).map lw).flatten.length := by rw [h]; unfold rs; rw [List.length_take]; omega
    rw [flat_len, lw_length] at h1
    have := sum_len (ss := e.ss.drop i) fun s hs => short_len4 S.k3 (S.k8 s (List.mem_of_mem_drop hs))
    rw [List.length_drop] at this
    omega
  refine seq (tm_for (src_range O (range1_made O kr rfl (tr_add (tr_fn1 O kl (id := "len") (by decide +kernel) rfl (tr_name O S.m8) (R := IsI e.sv.toArray.size) fun v e' => by subst e'; exact tr_len_list (ent_list (.tail _ S.n8)) (by simp; omega)) tr_int) rfl) (by omega) (by omega) (by simp; omega) (by simp; omega) rfl)
    (fun fix i σ' => fix = [] ∧ i + e.c ≤ e.ss.length ∧ St6 (LG prog w h₀ fa cd) x y z u e σ' ∧ ((∀ p ∈ σ.n, p ∈ σ'.n) ∧ σ'.m "cut" = σ.m "cut") ∧ σ'.m "came" = some (.ref ca) ∧ (∃ cv cn, (ca, listOf (List.toArray cv) cn) ∈ σ'.n ∧ IntsAre cv ((e.ss.take i).map (valS (shortL x.kvs x.kvs)))) ∧ ∃ r t, σ'.m "rest" = some (.str r t) ∧ lw r = rs (e.ss.drop i) e.c) ?_ ?_ ?_ ?_)
  · rintro σ₁ fix ⟨rfl, rfl⟩
    obtain ⟨r, t, h1, h2⟩ := hr
    exact ⟨rfl, by omega, S.mono rfl rfl rfl rfl rfl rfl rfl rfl fun p hp => .tail _ hp, ⟨fun p hp => .tail _ hp, rfl⟩, rfl, ⟨[], 0, .head _, .nil⟩, r, t, h1, by rw [h2]; rfl⟩
  · rintro fix i σ' ⟨rfl, _⟩; exact Fx.nil
  · rintro fix i σ₁ σ₂ hi ⟨rfl, him, S', ⟨hsub, hcut⟩, mca, ⟨cv, cn, nca, hcv⟩, r, tr, mr, hr'⟩ ⟨v, ⟨ti, rfl⟩, rfl⟩ _
    have lr := rlen i r hr'
    have hi₁ : Ent (LG prog w h₀ fa cd) (Sg.mk (put σ₁.m "_" (.int (0 + (i : Int)) ti)) σ₁.c σ₁.n) (fun h => InstIn h u.xn 74 dx es nx) := fun own h c => ⟨c.get (S'.n6 _ q1), c.get (S'.n6 _ q1')⟩
    have S₂ : St6 (LG prog w h₀ fa cd) x y z u e (Sg.mk (put σ₁.m "_" (.int (0 + (i : Int)) ti)) σ₁.c σ₁.n) := S'.mono rfl rfl rfl rfl rfl rfl rfl rfl fun p hp => hp
    have eT := S₂.trie
    -- a whole name, or the end
    have cases_ : (i + e.c < e.ss.length ∧ ∃ a, e.ss[i]? = some a ∧ (valueAt (shortL x.kvs x.kvs) a).isSome = true ∧ lw r = lw a ++ rs (e.ss.drop (i + 1)) e.c) ∨ (i + e.c = e.ss.length ∧ ∀ k, k ≤ r.length → valueAt (shortL x.kvs x.kvs) (tk r k) = none) := by
      by_cases hlt : i + e.c < e.ss.length
      · left
        have hi' : i < e.ss.length := by omega
        have hd := List.drop_eq_getElem_cons hi'
        have ha := S.k8 _ (List.getElem_mem hi')
        refine ⟨hlt, e.ss[i], List.getElem?_eq_getElem hi', ha, ?_⟩
        rw [hr', hd]
        refine rs_step C (fun s hs => S.k8 s (List.mem_of_mem_drop (i := i) (by rw [hd]; exact hs))) hc1 ?_
        by_cases h0 : e.c = 0
        · exact .inl h0
        · right
          intro hnil
          have := congrArg List.length hnil
          rw [List.length_drop] at this
          simp at this
          omega
      · right
        have heq : i + e.c = e.ss.length := by omega
        refine ⟨heq, fun k hk => ?_⟩
        have hc : e.c = 0 ∨ e.c = 1 := by omega
        rcases hc with h0 | h1
        · have hd : e.ss.drop i = [] := List.drop_eq_nil_of_le (by omega)
          have hl : r.length = 0 := by
            rw [← lw_length, hr', hd]
            unfold rs
            simp
          exact C.void hl k hk
        · have hi' : i < e.ss.length := by omega
          have hd := List.drop_eq_getElem_cons hi'
          have hd' : e.ss.drop (i + 1) = [] := List.drop_eq_nil_of_le (by omega)
          rw [hd'] at hd
          have ha := S.k8 _ (List.getElem_mem hi')
          have hrr : lw r = (lw e.ss[i]).take (e.ss[i].length - 1) := by rw [hr', hd, h1, rs_last]
          have hne := C.ne _ ha
          refine C.part ha (by rw [hrr]; exact List.take_prefix _ _) ?_ k hk
          rw [← lw_length, hrr, List.length_take, lw_length]
          omega
    refine seq (tm_tryBrk (N := ∀ k, k ≤ r.length → valueAt (shortL x.kvs x.kvs) (tk r k) = none) O lg_frames rfl ke rfl (tq_seq (tq_assign O (tq_longest rfl O (tr_name O S'.m6) (tr_nameP (P := IsS r) O mr ⟨tr, rfl⟩) hi₁ q7 eT (by omega)) fun v σ' p => ?_)) fun hN => ?_)
    · obtain ⟨rfl, kk, hkk, hks, hkj, tn, rfl⟩ := p
      refine tq_nil ?_
      rcases cases_ with ⟨hlt, a, ha, hval, hra⟩ | ⟨_, hno⟩
      · have hka := C.whole hval hra hkk hks
        rw [hka]
        obtain ⟨tv, hv⟩ := short_int S.k3 hval
        have hal := Code.some_ hval hra
        have npush : (List.toArray cv).push (.int (valS (shortL x.kvs x.kvs) a) tv) = (cv ++ [Value.int (valS (shortL x.kvs x.kvs) a) tv]).toArray := by simp
        have hi₂ : Ent (LG prog w h₀ fa cd) (Sg.mk (put (put σ₁.m "_" (.int (0 + (i : Int)) ti)) "name" (.str a tn)) σ₁.c σ₁.n) (fun h => InstIn h u.xn 74 dx es nx) := fun own h c => ⟨c.get (S'.n6 _ q1), c.get (S'.n6 _ q1')⟩
        have lcv : cv.length = (e.ss.take i).length := by have := hcv.length; simpa using this
        refine seq (tm_appendStmt (v := .none) (P := IsV (.int (valS (shortL x.kvs x.kvs) a) tv)) (tr_name O mca) nca (by rw [sizeLine_eq]; rw [List.length_take] at lcv; simp; omega)
          (tr_sub_ (Pb := IsV (.str a tn)) (tr_name O S'.m6) (tr_name O rfl) fun p q hp hq => by
            subst hq
            exact Tm.r (tm_subK O hi₂ g1 g2 g3 hp (Tr.m (getitem_fn rfl O.in1 (fun own h c => (S₂.mono (σ' := Sg.mk (put (put σ₁.m "_" (.int (0 + (i : Int)) ti)) "name" (.str a tn)) σ₁.c σ₁.n) rfl rfl rfl rfl rfl rfl rfl rfl fun p hp => hp).trie own h c.un) hv)))) fun v n' pv => ?_)
        obtain rfl := pv
        rw [npush]
        have keep : ∀ p ∈ σ.n, p ∈ updL ca (listOf (cv ++ [Value.int (valS (shortL x.kvs x.kvs) a) tv]).toArray n') σ₁.n := fun p hp => updL_ne (hsub p hp) (ap p hp)
        refine seq_assign O (Tr.m (tr_cutFrom (x := r) (j := (a.length : Nat)) (tr_nameP O mr ⟨tr, rfl⟩) (tr_fn1 O kl (id := "len") (by decide +kernel) rfl (tr_nameP (P := IsS a) O rfl ⟨tn, rfl⟩) (R := IsI a.length) fun v hv => tr_len_str hv (by omega)) (by rw [sizeLine_eq]; omega))) fun v σ' p => ?_
        obtain ⟨rfl, t3, rfl⟩ := p
        refine tm_nil ⟨rfl, by omega, S.mono (S'.m1.trans S.m1.symm) (S'.m2.trans S.m2.symm) (S'.c3.trans S.c3.symm) (S'.c4.trans S.c4.symm) (S'.c5.trans S.c5.symm) (S'.m6.trans S.m6.symm) (S'.m8.trans S.m8.symm) hcut keep, ⟨keep, hcut⟩, mca, ⟨_, n', updL_self nca, ?_⟩, _, t3, rfl, ?_⟩
        · rw [List.take_add_one, ha, List.map_append]
          exact hcv.append (.cons _ _ .nil)
        · rw [slice_from hal.1, hra, ← lw_length, List.drop_left]
      · rw [hno kk hkk] at hks; cases hks
    · rcases cases_ with ⟨hlt, a, ha, hval, hra⟩ | ⟨heq, _⟩
      · have hal := Code.some_ hval hra
        have := hN _ hal.1
        rw [hal.2] at this
        rw [this] at hval; cases hval
      · have hik : i = e.ss.length - e.c := by omega
        rw [hik] at hcv
        exact ph8 O S₂ mca nca hcv
  · rintro fix σ₁ ⟨rfl, him, _⟩
    omega
end
end Mine
open PySem PySem.W PySem.Calls PyProof.Rows
set_option Elab.async false
set_option maxRecDepth 100000
set_option maxHeartbeats 4000000
set_option linter.unusedVariables false
namespace Mine

theorem law_ends {prog : Program} {w : World} {s₁ : Shared} {fa : Addr} {cd : Value} {sl : Addr} {sv : List Value} {ns : List Int} {h₁ : Heap} {tk₁ : Nat} {p : Program} {loose : List Str} {mg mb m₀ : Str → Option Value} {o1 o2 o3 o4 o5 o6 o7 : Obj} {Q : Flow → Shared → Prop} {E : Value → Shared → Prop}
    (KX : (KK w).In s₁.heap) (T : TopRead p loose mg mb s₁.heap) (hL : s₁.heap.IsList sl sv.toArray) (hI : IntsAre sv ns) (hz : ns.length ≤ 63) (F : Fr s₁.heap s₁.heap.objs.size h₁ m₀) (hm : m₀ "script" = some (.ref sl))
    (N : News s₁.heap s₁.heap.objs.size h₁ [(s₁.heap.objs.size + 7, o7), (s₁.heap.objs.size + 6, o6), (s₁.heap.objs.size + 5, o5), (s₁.heap.objs.size + 4, o4), (s₁.heap.objs.size + 3, o3), (s₁.heap.objs.size + 2, o2), (s₁.heap.objs.size + 1, o1)])
    (d1 : o1.data = .cell none) (d2 : o2.data = .cell none) (d3 : o3.data = .cell none) (d4 : o4.data = .cell none) (d5 : o5.data = .cell none) (d6 : o6.data = .cell none) (d7 : o7.data = .cell none)
    (hQ : ∀ h' tk' m, Fr s₁.heap s₁.heap.objs.size h' m → Q (.ret (.bool true)) { s₁ with heap := h', toks := tk' }) :
    wpAny (model prog w) (callerA.deeper (lawEnv w s₁.heap.objs.size fa cd)) (execs (lawB w) (lawEnv w s₁.heap.objs.size fa cd)) Q E { s₁ with heap := h₁, toks := tk₁ } := by
  have ec : (LG prog w s₁.heap fa cd).env.cells = ([("row", s₁.heap.objs.size + 7), ("word", s₁.heap.objs.size + 6), ("trie", s₁.heap.objs.size + 5), ("short", s₁.heap.objs.size + 4), ("key", s₁.heap.objs.size + 3), ("behind", s₁.heap.objs.size + 2), ("data", s₁.heap.objs.size + 1)] : List (Str × Addr)) := by rfl
  have hcl : ∀ x a, (LG prog w s₁.heap fa cd).env.cells.lookup x = some a → (x = "data" ∧ a = s₁.heap.objs.size + 1) ∨ (x = "behind" ∧ a = s₁.heap.objs.size + 2) ∨ (x = "key" ∧ a = s₁.heap.objs.size + 3) ∨ (x = "short" ∧ a = s₁.heap.objs.size + 4) ∨ (x = "trie" ∧ a = s₁.heap.objs.size + 5) ∨ (x = "word" ∧ a = s₁.heap.objs.size + 6) ∨ (x = "row" ∧ a = s₁.heap.objs.size + 7) := by
    intro x a h
    rw [ec] at h
    simp only [List.lookup_cons, List.lookup_nil] at h
    repeat' split at h
    all_goals first
      | (rename_i hb; cases h; have := eq_of_beq hb; simp [this]; done)
      | cases h
  have O : Ok (LG prog w s₁.heap fa cd) 8 := {
    X := KX
    T := ⟨p, loose, mg, mb, T⟩
    B := ⟨s₁.heap, [lawEnv w s₁.heap.objs.size fa cd], ⟨KX, p, loose, mg, mb, T⟩, fun h m F' => pushX (below_caller s₁.heap) F' rfl rfl⟩
    kind := rfl
    glob := rfl
    blt := rfl
    hh := rfl
    depth := by show callerA.depth + 1 + 8 < recursionLimit; decide
    units := by show callerA.units + 3 + 10 * 8 < cLine; decide
    cpw := fun x y a h1 h2 => by
      rcases hcl x a h1 with h | h | h | h | h | h | h <;> rcases hcl y a h2 with h' | h' | h' | h' | h' | h' | h' <;> first | exact h.1.trans h'.1.symm | exact absurd (Nat.add_left_cancel (h.2.symm.trans h'.2)) (by decide)
    cL := fun x a h1 => by
      show a ≠ s₁.heap.objs.size
      rcases hcl x a h1 with h | h | h | h | h | h | h <;> (rw [h.2]; exact Nat.ne_of_gt (Nat.lt_add_of_pos_right (by decide))) }
  have c : Cx (LG prog w s₁.heap fa cd) [] ⟨m₀, fun _ => none, []⟩ h₁ := ⟨F, News.nil, fun x a h => by
    have g : ∀ q ∈ [(s₁.heap.objs.size + 7, o7), (s₁.heap.objs.size + 6, o6), (s₁.heap.objs.size + 5, o5), (s₁.heap.objs.size + 4, o4), (s₁.heap.objs.size + 3, o3), (s₁.heap.objs.size + 2, o2), (s₁.heap.objs.size + 1, o1)], h₁.get? q.1 = some q.2 := fun q hq => (N q hq).1
    rcases hcl x a h with h | h | h | h | h | h | h <;> rw [h.2]
    · exact ⟨o1, g (_, o1) (by simp), d1⟩
    · exact ⟨o2, g (_, o2) (by simp), d2⟩
    · exact ⟨o3, g (_, o3) (by simp), d3⟩
    · exact ⟨o4, g (_, o4) (by simp), d4⟩
    · exact ⟨o5, g (_, o5) (by simp), d5⟩
    · exact ⟨o6, g (_, o6) (by simp), d6⟩
    · exact ⟨o7, g (_, o7) (by simp), d7⟩, (fun _ h => nomatch h), fun _ h => nomatch h⟩
  exact ph1 O hL hI hz hm (fun σ x S1 => ph2 O S1 fun σ y S2 => ph3 O S2 fun σ z S3 => ph4 O S3 fun σ u a S5 => ph5 O S5 fun σ S4 => ph6 O S4 fun σ e ca S6 hr ap => ph7 O S6 hr ap) [] { s₁ with heap := h₁, toks := tk₁ } Q E c fun f σ' h' tk' pf c' => by
    subst pf; exact hQ h' tk' _ c'.F
end Mine
open PySem PySem.W PySem.Calls PyProof.Rows
set_option Elab.async false
set_option maxRecDepth 100000
set_option maxHeartbeats 8000000
namespace Mine
theorem t2 : PySem.Challenge.rw_te0029_02.Holds := hd2 (by
  k_go0
  refine' law_ends ?KX ?T ?hL ?hI ?hz ?F ?hm ?N ?d1 ?d2 ?d3 ?d4 ?d5 ?d6 ?d7 ?hQ
  case KX => assumption
  case T => exact topRead_of (by assumption)
  case hL => assumption
  case hI => assumption
  case F => assumption
  case N => assumption
  case hz => omega
  case hm => rfl
  case d1 => assumption
  case d2 => assumption
  case d3 => assumption
  case d4 => assumption
  case d5 => assumption
  case d6 => assumption
  case d7 => assumption
  case hQ =>
    intro h' tk' m F'
    refine goodW_bool F' (by assumption) (raisesW_false ?_) ?_
    · wrow_none_raised
    · wrow_post)
end Mine

set_option maxRecDepth 100000 in
set_option maxHeartbeats 8000000 in
theorem PySem.Challenge.cw_te0029_02_holds : PySem.Challenge.rw_te0029_02.Holds := by
  exact Mine.t2
