import PyProof.Rows.All
import PyProof.DictCalls
import PyProof.DictDisplay
import PyProof.NeKinds
import PyProof.StrLawsChain
import PyProof.Rows.StrDouble
import Wide.BytesRules
import KE.BitLaws
import KE.BytesMake
import KE.KNest
import KE.KEqSeq
import KE.KIntText
import KE.KRevIter
import Wide.All
import OpenK.AllK
import Wide.FinOn
import Lean
import PySem.Challenge.RW_xg0066_01
open PySem PySem.W PyProof.Rows
set_option Elab.async false

-- part XTop
section
open PySem PySem.W PyProof.Rows
set_option maxRecDepth 100000
set_option maxHeartbeats 0
namespace Mine
theorem law_said : OpenLaw.wellSaid PySem.Challenge.rw_xg0066_01 = true := (congrFun PySem.W.Fast.te9446332074065402090 _).trans (by kernel_rfl)
/-- the imports and the law alone -/
def viewQ : Program := view PySem.Challenge.pw_xg0066_01 [0, 26]
def looseQ : List Str := ["_DIV_LIMIT", "_div2n1n", "_div3n2n", "_int2digits", "_digits2int", "_divmod_pos", "int_divmod", "Error", "error_reply", "error_proto", "parse229", "parse257", "_quoted", "_paren_depth", "TupleComp", "add_func_stats", "add_callers", "count_calls", "_law_shape", "_law_determinant"]
local macro_rules | `(tactic| o_law) => `(tactic| refine holds_law law_said fun said => ?_)
local macro_rules | `(tactic| o_head $H) => `(tactic| (
  refine holds_open (q := viewQ) (loose := looseQ) (Xt := fun s => xlAt viewQ [] s && recOk (RowW.records PySem.Challenge.rw_xg0066_01.row.toRowW) s) (XP := XL viewQ []) (Yf := Hook.obs $H) (Ya := Hook.val $H) (YP := Hook.says $H) (N := 3200) ?hl (Hook.of $H) (Hook.keeps $H) (fun s e => xl_of s (Bool.and_eq_true_iff.mp e).1) XL.keeps (by rfl) (by rfl) (by rfl) (fun s e => recFacts_of (Bool.and_eq_true_iff.mp e).2) (by rfl) (by first | assumption | decide +kernel) (by decide +kernel) ⟨rfl, rfl, rfl, rfl, rfl, by decide +kernel⟩ ?hw ?hc
  case hl => (intro w; delta openEnds fencedOpening topFrom; rw [PySem.W.Fast.te14364793385576792824, PySem.W.Fast.te14082659384304107361, PySem.W.Fast.te10274390034422433532, PySem.W.Fast.te4187177175401517315, PySem.W.Fast.te14289696077712309145]; kernel_rfl)))
open_top hd for PySem.Challenge.rw_xg0066_01
end Mine

end

section
namespace Mine
def tacA : Lean.Syntax := (Lean.Unhygienic.run `(Lean.Parser.Tactic.tacticSeq| decide)).raw
def tacB : Lean.Syntax := (Lean.Unhygienic.run `(Lean.Parser.Tactic.tacticSeq| exact Nat.le_of_ble_eq_true rfl)).raw
def tacC : Lean.Syntax := (Lean.Unhygienic.run `(Lean.Parser.Tactic.tacticSeq| exact ⟨by rfl, by rfl, by rfl, by rfl⟩)).raw
def tacD : Lean.Syntax := (Lean.Unhygienic.run `(Lean.Parser.Tactic.tacticSeq| first | exact Nat.le_refl _ | exact Nat.le_succ _ | assumption | omega)).raw
def tacE : Lean.Syntax := (Lean.Unhygienic.run `(Lean.Parser.Tactic.tacticSeq| first | exact Nat.le_refl _ | exact Nat.le_succ _ | omega)).raw
def tacF : Lean.Syntax := (Lean.Unhygienic.run `(Lean.Parser.Tactic.tacticSeq| intro _ _; rfl)).raw
def tacG : Lean.Syntax := (Lean.Unhygienic.run `(Lean.Parser.Tactic.tacticSeq| intro _ h; exact h)).raw
def tacH : Lean.Syntax := (Lean.Unhygienic.run `(Lean.Parser.Tactic.tacticSeq| intro _; rfl)).raw
def tacI : Lean.Syntax := (Lean.Unhygienic.run `(Lean.Parser.Tactic.tacticSeq| rfl)).raw
def tacJ : Lean.Syntax := (Lean.Unhygienic.run `(Lean.Parser.Tactic.tacticSeq| with_unfolding_all rfl)).raw
end Mine
local macro_rules | `(tactic| omega) => `(tactic| first | lia | omega +splitDisjunctions)

-- part MH1
section
open PySem PySem.W PyProof.Rows PySem.Calls
set_option maxRecDepth 100000
namespace Mine

noncomputable abbrev PG : Program := PySem.Challenge.pw_xg0066_01
noncomputable abbrev KF (w : World) : Frag := Mine.hd.heap_1 w.params

/-- pure data -/
inductive D where
  | none
  | bool (b : Bool)
  | int (i : Int)
  | str (x : Str)
  | strf (x : Str)
  | strp (x : Str)
  | bytes (b : Array UInt8)
  | tup (l : List D)
  | list (l : List D)
  | plist (l : List D)
  | nlist (l : List D)
  | dict (l : List (Int × D))
  | addr (a : Addr)
  | inst (d : D)
  | made (fd : FuncData)
  | typ (T : String)

noncomputable def D.flat : D → Bool
  | .none | .bool _ | .int _ | .str _ | .strf _ | .strp _ | .bytes _ => true
  | _ => false

noncomputable def frz : D → D
  | .plist l => .list l
  | d => d

noncomputable abbrev dInts (l : List Int) : List D := l.map D.int

/-- the two code tables that a nested def makes grow -/
noncomputable def T2 (a : Addr) : Prop := a = 47 ∨ a = 54

/-- not a code record -/
noncomputable def NotRec (o : Obj) : Prop := ∀ vs q t, o.data = .fields vs → vs[1]? ≠ some (.str q t)
/-- no table -/
noncomputable def Solid (o : Obj) : Prop := o.cls ≠ .none ∨ ¬ NotRec o

section Rd
variable {w : World}
/-- v reads as d in h; no object of it lies in F -/
inductive Rd (w : World) (s : Shared) (F : Addr → Prop) : Value → D → Prop
  | none : Rd w s F .none .none
  | bool (b : Bool) : Rd w s F (.bool b) (.bool b)
  | int (i : Int) (t : Tok) : Rd w s F (.int i t) (.int i)
  | str (x : Str) (t : Tok) : Rd w s F (.str x t) (.str x)
  | strf (x : Str) (t : Tok) (h : t < s.toks) : Rd w s F (.str x t) (.strf x)
  | strp (x : Str) (t : Tok) (h0 : 0 < t) (h : t < s.toks) : Rd w s F (.str x t) (.strp x)
  | bytes (b : Array UInt8) (t : Tok) : Rd w s F (.bytes b t) (.bytes b)
  | tup {a : Addr} {vs : List Value} {ds : List D} (ht : IsTup s.heap a vs.toArray) (hf : ¬ F a) (hl : vs.length = ds.length)
      (hr : ∀ (i : Nat) (v : Value) (d : D), vs[i]? = some v → ds[i]? = some d → Rd w s F v d) : Rd w s F (.ref a) (.tup ds)
  | list {a : Addr} {vs : List Value} {ds : List D} (ht : s.heap.IsList a vs.toArray) (hf : ¬ F a) (hl : vs.length = ds.length)
      (hr : ∀ (i : Nat) (v : Value) (d : D), vs[i]? = some v → ds[i]? = some d → Rd w s F v d) : Rd w s F (.ref a) (.list ds)
  | nlist {a : Addr} {vs : List Value} {ds : List D} (ht : s.heap.PlainList a vs.toArray) (hf : ¬ F a) (hl : vs.length = ds.length)
      (hr : ∀ (i : Nat) (v : Value) (d : D), vs[i]? = some v → ds[i]? = some d → Rd w s F v d) : Rd w s F (.ref a) (.nlist ds)
  | dict {a : Addr} {kvs : List (Int × Value)} {ds : List (Int × D)} (ht : s.heap.DictOf (intKind PG w) a kvs) (hm : (a == sysModules) = false) (hf : ¬ F a) (hl : kvs.map (·.1) = ds.map (·.1))
      (hr : ∀ (i : Nat) (v : Value) (d : D), (kvs.map (·.2))[i]? = some v → (ds.map (·.2))[i]? = some d → Rd w s F v d) : Rd w s F (.ref a) (.dict ds)
  | addr (a : Addr) : Rd w s F (.ref a) (.addr a)
  | typ (T : String) : Rd w s F (.type T) (.typ T)
  | inst {a dx : Addr} {od : Obj} {v : Value} {d : D} (ho : s.heap.get? a = some (instObj 161 dx)) (hdx : s.heap.get? dx = some od) (hc : od.cls = .type "dict") (hl : lookIn "comp_select_list" od = some (some v)) (hl2 : lookIn "compare" od = some Option.none) (hf : ¬ F a) (hf' : ¬ F dx)
      (hr : Rd w s F v d) : Rd w s F (.ref a) (.inst d)
  | made {f c' : Addr} {fd : FuncData} (ho : s.heap.get? f = some { cls := .type "function", data := .func fd }) (hcd : fd.code = .ref c') (hc : s.heap.CodeRec (.ref c') fd.qualname) (hf : ¬ F f) (hf' : ¬ F c') : Rd w s F (.ref f) (.made fd)

noncomputable def RdAll (w : World) (s : Shared) (F : Addr → Prop) (vs : List Value) (ds : List D) : Prop :=
  vs.length = ds.length ∧ ∀ (i : Nat) (v : Value) (d : D), vs[i]? = some v → ds[i]? = some d → Rd w s F v d

theorem Rd.mono {s s' : Shared} {F F' : Addr → Prop} (hk : ∀ a o, ¬ F a → Solid o → s.heap.get? a = some o → s'.heap.get? a = some o ∧ ¬ F' a) (ht : s.toks ≤ s'.toks) {v : Value} {d : D} (r : Rd w s F v d) : Rd w s' F' v d := by
  induction r with
  | none => exact .none
  | bool b => exact .bool b
  | int i t => exact .int i t
  | str x t => exact .str x t
  | strf x t h => exact .strf x t (Nat.lt_of_lt_of_le h ht)
  | strp x t h0 h => exact .strp x t h0 (Nat.lt_of_lt_of_le h ht)
  | bytes b t => exact .bytes b t
  | tup h1 hf hl hr ih =>
    obtain ⟨o, ho, hc, r⟩ := h1
    have k := hk _ _ hf (.inl (by rw [hc]; nofun)) ho
    exact .tup ⟨o, k.1, hc, r⟩ k.2 hl ih
  | list h1 hf hl hr ih =>
    obtain ⟨o, ho, hc, r⟩ := h1
    have k := hk _ _ hf (.inl (by rw [hc]; nofun)) ho
    exact .list ⟨o, k.1, hc, r⟩ k.2 hl ih
  | nlist h1 hf hl hr ih =>
    obtain ⟨n, ho⟩ := h1
    have k := hk _ _ hf (.inl (by nofun)) ho
    exact .nlist ⟨n, k.1⟩ k.2 hl ih
  | dict h1 hm hf hl hr ih =>
    obtain ⟨o, es, ep, ho, hc, r⟩ := h1
    have k := hk _ _ hf (.inl (by rw [hc.1]; nofun)) ho
    exact .dict ⟨o, es, ep, k.1, hc, r⟩ hm k.2 hl ih
  | addr a => exact .addr a
  | typ T => exact .typ T
  | inst ho hdx hc hl hl2 hf hf' hr ih =>
    have k := hk _ _ hf (.inl (by nofun)) ho
    have k' := hk _ _ hf' (.inl (by rw [hc]; nofun)) hdx
    exact .inst k.1 k'.1 hc hl hl2 k.2 k'.2 ih
  | made ho hcd hc hf hf' =>
    have k := hk _ _ hf (.inl (by nofun)) ho
    obtain ⟨c, o, vs, t, e1, e2, e3, e4⟩ := hc
    cases e1
    have k' := hk _ _ hf' (.inr fun hn => hn vs _ t e3 e4) e2
    exact .made k.1 hcd ⟨_, o, vs, t, rfl, k'.1, e3, e4⟩ k.2 k'.2

theorem RdAll.mono {s s' : Shared} {F F' : Addr → Prop} (hk : ∀ a o, ¬ F a → Solid o → s.heap.get? a = some o → s'.heap.get? a = some o ∧ ¬ F' a) (ht : s.toks ≤ s'.toks) {vs : List Value} {ds : List D} (r : RdAll w s F vs ds) : RdAll w s' F' vs ds :=
  ⟨r.1, fun i v d hv hd => (r.2 i v d hv hd).mono hk ht⟩

theorem RdAll.nil {s : Shared} {F : Addr → Prop} : RdAll w s F [] [] := ⟨rfl, fun i v d hv => by simp at hv⟩
theorem RdAll.cons {s : Shared} {F : Addr → Prop} {v : Value} {d : D} {vs : List Value} {ds : List D} (hv : Rd w s F v d) (hr : RdAll w s F vs ds) : RdAll w s F (v :: vs) (d :: ds) := by
  refine ⟨by simp [hr.1], fun i v' d' h1 h2 => ?_⟩
  cases i with
  | zero => simp at h1 h2; subst h1 h2; exact hv
  | succ i => simp at h1 h2; exact hr.2 i v' d' h1 h2
theorem RdAll.cons_inv {s : Shared} {F : Addr → Prop} {d : D} {vs : List Value} {ds : List D} (r : RdAll w s F vs (d :: ds)) : ∃ v vs', vs = v :: vs' ∧ Rd w s F v d ∧ RdAll w s F vs' ds := by
  cases vs with
  | nil => exact absurd r.1 (by simp)
  | cons v vs => exact ⟨v, vs, rfl, r.2 0 v d rfl rfl, by simpa using r.1, fun i v' d' h1 h2 => r.2 (i + 1) v' d' (by simpa using h1) (by simpa using h2)⟩
theorem RdAll.nil_inv {s : Shared} {F : Addr → Prop} {vs : List Value} (r : RdAll w s F vs []) : vs = [] := List.eq_nil_of_length_eq_zero r.1
theorem RdAll.append {s : Shared} {F : Addr → Prop} {vs vs' : List Value} {ds ds' : List D} (r : RdAll w s F vs ds) (r' : RdAll w s F vs' ds') : RdAll w s F (vs ++ vs') (ds ++ ds') := by
  induction vs generalizing ds with
  | nil => cases ds with
    | nil => exact r'
    | cons d ds => exact absurd r.1 (by simp)
  | cons v vs ih => cases ds with
    | nil => exact absurd r.1 (by simp)
    | cons d ds =>
      obtain ⟨_, _, e, h1, h2⟩ := r.cons_inv
      injection e with e1 e2; subst e1 e2
      exact RdAll.cons h1 (ih h2)
theorem RdAll.tup {s : Shared} {F : Addr → Prop} {a : Addr} {vs : List Value} {ds : List D} (r : RdAll w s F vs ds) (ht : IsTup s.heap a vs.toArray) (hf : ¬ F a) : Rd w s F (.ref a) (.tup ds) := .tup ht hf r.1 r.2
theorem RdAll.list {s : Shared} {F : Addr → Prop} {a : Addr} {vs : List Value} {ds : List D} (r : RdAll w s F vs ds) (ht : s.heap.IsList a vs.toArray) (hf : ¬ F a) : Rd w s F (.ref a) (.list ds) := .list ht hf r.1 r.2
theorem Rd.int_inv {s : Shared} {F : Addr → Prop} {v : Value} {i : Int} (r : Rd w s F v (.int i)) : ∃ t, v = .int i t := by cases r; exact ⟨_, rfl⟩
theorem Rd.str_inv {s : Shared} {F : Addr → Prop} {v : Value} {x : Str} (r : Rd w s F v (.str x)) : ∃ t, v = .str x t := by cases r; exact ⟨_, rfl⟩
theorem Rd.strf_inv {s : Shared} {F : Addr → Prop} {v : Value} {x : Str} (r : Rd w s F v (.strf x)) : ∃ t, v = .str x t ∧ t < s.toks := by cases r; exact ⟨_, rfl, by assumption⟩
theorem Rd.strp_inv {s : Shared} {F : Addr → Prop} {v : Value} {x : Str} (r : Rd w s F v (.strp x)) : ∃ t, v = .str x t ∧ 0 < t ∧ t < s.toks := by cases r; exact ⟨_, rfl, by assumption, by assumption⟩
theorem Rd.bytes_inv {s : Shared} {F : Addr → Prop} {v : Value} {x : Array UInt8} (r : Rd w s F v (.bytes x)) : ∃ t, v = .bytes x t := by cases r; exact ⟨_, rfl⟩
theorem Rd.bool_inv {s : Shared} {F : Addr → Prop} {v : Value} {b : Bool} (r : Rd w s F v (.bool b)) : v = .bool b := by cases r; rfl
theorem Rd.none_inv {s : Shared} {F : Addr → Prop} {v : Value} (r : Rd w s F v .none) : v = .none := by cases r; rfl
theorem Rd.addr_inv {s : Shared} {F : Addr → Prop} {v : Value} {a : Addr} (r : Rd w s F v (.addr a)) : v = .ref a := by cases r; rfl
theorem Rd.typ_inv {s : Shared} {F : Addr → Prop} {v : Value} {T : String} (r : Rd w s F v (.typ T)) : v = .type T := by cases r; rfl
theorem Rd.inst_inv {s : Shared} {F : Addr → Prop} {v : Value} {d : D} (r : Rd w s F v (.inst d)) : ∃ a dx od u, v = .ref a ∧ s.heap.get? a = some (instObj 161 dx) ∧ s.heap.get? dx = some od ∧ od.cls = .type "dict" ∧ lookIn "comp_select_list" od = some (some u) ∧ lookIn "compare" od = some Option.none ∧ ¬ F a ∧ ¬ F dx ∧ Rd w s F u d := by
  cases r with
  | inst ho hdx hc hl hl2 hf hf' hr => exact ⟨_, _, _, _, rfl, ho, hdx, hc, hl, hl2, hf, hf', hr⟩
theorem Rd.made_inv {s : Shared} {F : Addr → Prop} {v : Value} {fd : FuncData} (r : Rd w s F v (.made fd)) : ∃ f c', v = .ref f ∧ s.heap.get? f = some { cls := .type "function", data := .func fd } ∧ fd.code = .ref c' ∧ s.heap.CodeRec (.ref c') fd.qualname ∧ ¬ F f ∧ ¬ F c' := by
  cases r with
  | made ho hcd hc hf hf' => exact ⟨_, _, rfl, ho, hcd, hc, hf, hf'⟩
theorem Rd.tup_inv {s : Shared} {F : Addr → Prop} {v : Value} {ds : List D} (r : Rd w s F v (.tup ds)) : ∃ a vs, v = .ref a ∧ IsTup s.heap a vs.toArray ∧ ¬ F a ∧ RdAll w s F vs ds := by
  cases r with
  | tup ht hf hl hr => exact ⟨_, _, rfl, ht, hf, hl, hr⟩
theorem Rd.list_inv {s : Shared} {F : Addr → Prop} {v : Value} {ds : List D} (r : Rd w s F v (.list ds)) : ∃ a vs, v = .ref a ∧ s.heap.IsList a vs.toArray ∧ ¬ F a ∧ RdAll w s F vs ds := by
  cases r with
  | list ht hf hl hr => exact ⟨_, _, rfl, ht, hf, hl, hr⟩
theorem Rd.nlist_inv {s : Shared} {F : Addr → Prop} {v : Value} {ds : List D} (r : Rd w s F v (.nlist ds)) : ∃ a vs, v = .ref a ∧ s.heap.PlainList a vs.toArray ∧ ¬ F a ∧ RdAll w s F vs ds := by
  cases r with
  | nlist ht hf hl hr => exact ⟨_, _, rfl, ht, hf, hl, hr⟩
theorem Rd.nlist_list {s : Shared} {F : Addr → Prop} {v : Value} {ds : List D} (r : Rd w s F v (.nlist ds)) : Rd w s F v (.list ds) := by
  cases r with
  | nlist ht hf hl hr => exact .list ht.isList hf hl hr
end Rd

end Mine

end

-- part MH2
section
open PySem PySem.W PyProof.Rows PySem.Calls
set_option maxRecDepth 100000
set_option linter.unusedVariables false
namespace Mine

/-- what stands below every call: the text's own objects, the two namespaces -/
structure Good (w : World) (h : Heap) : Prop where
  K : (KF w).In h
  ns : ∃ mg, h.Ns mainGlobals mg ∧ ∃ bm ob, mg "__builtins__" = some (.ref bm) ∧ bm ≠ builtinsNs ∧ ¬ T2 bm ∧ h.get? bm = some ob ∧ ob.cls = .type "module" ∧ ob.dict = some builtinsNs ∧ ob.data = .plain
  b : ∃ mb, h.Ns builtinsNs mb ∧ ∀ x : Str, x ≠ "__name__" → mb x = bootBuiltins x
  nolimit : h.NoLimit
  nodigits : ∃ mc, h.Ns cStatics mc ∧ mc "sys.int_max_str_digits" = none

theorem ns_at {h h' : Heap} {a : Addr} {m : Str → Option Value} (hn : h.Ns a m) (e : ∀ o, h.get? a = some o → h'.get? a = some o) : h'.Ns a m :=
  let ⟨o, es, ep, x, r⟩ := hn; ⟨o, es, ep, e _ x, r⟩

theorem K_T2 {w : World} {a : Addr} {o : Obj} (e : (KF w).lookup a = some o) : ¬ T2 a := by
  rintro (rfl | rfl)
  · have h : (KF w).lookup 47 = none := by kernel_rfl
    rw [h] at e; cases e
  · have h : (KF w).lookup 54 = none := by kernel_rfl
    rw [h] at e; cases e

theorem T2_3 : ¬ T2 mainGlobals := by rintro (h | h) <;> exact absurd h (by decide)
theorem T2_0 : ¬ T2 builtinsNs := by rintro (h | h) <;> exact absurd h (by decide)
theorem T2_2 : ¬ T2 cStatics := by rintro (h | h) <;> exact absurd h (by decide)

noncomputable def Keep (h h' : Heap) : Prop := ∀ a o, ¬ T2 a → h.get? a = some o → h'.get? a = some o

theorem Good.keep {w : World} {h h' : Heap} (G : Good w h) (k : Keep h h') : Good w h' where
  K := fun a o e => k a o (K_T2 e) (G.K a o e)
  ns := let ⟨mg, h1, bm, ob, h2, h3, h4, h5, r⟩ := G.ns
    ⟨mg, ns_at h1 fun o e => k _ o T2_3 e, bm, ob, h2, h3, h4, k _ _ h4 h5, r⟩
  b := let ⟨mb, h1, r⟩ := G.b; ⟨mb, ns_at h1 fun o e => k _ o T2_0 e, r⟩
  nolimit := let ⟨mc, h1, r⟩ := G.nolimit; ⟨mc, ns_at h1 fun o e => k _ o T2_2 e, r⟩
  nodigits := let ⟨mc, h1, r⟩ := G.nodigits; ⟨mc, ns_at h1 fun o e => k _ o T2_2 e, r⟩

/-- the code table P: empty, or with the one nested def's code -/
noncomputable def TabOk (h : Heap) (P : Addr) (line col : Nat) (qual : Str) : Prop :=
  ∃ ps, h.get? P = some (tabObj ps) ∧ (ps = #[] ∨ ∃ c', ps = #[rawInt line, rawInt col, .ref c'] ∧ h.CodeRec (.ref c') qual)

structure Tabs (h : Heap) : Prop where
  t1 : TabOk h 47 33 4 "_int2digits.<locals>.inner"
  t2 : TabOk h 54 48 4 "_digits2int.<locals>.inner"

theorem TabOk.keep {h h' : Heap} {P : Addr} {line col : Nat} {qual : Str} (t : TabOk h P line col qual) (kP : ∀ o, h.get? P = some o → h'.get? P = some o)
    (k : ∀ a o vs, o.data = .fields vs → (∃ q t, vs[1]? = some (.str q t)) → h.get? a = some o → h'.get? a = some o) : TabOk h' P line col qual := by
  obtain ⟨ps, h1, h2⟩ := t
  refine ⟨ps, kP _ h1, h2.imp id fun ⟨c', e, c, o, vs, t, e1, e2, e3, e4⟩ => ⟨c', e, c, o, vs, t, e1, k c o vs e3 ⟨_, _, e4⟩ e2, e3, e4⟩⟩

theorem Tabs.keep {h h' : Heap} (t : Tabs h) (k : ∀ a o, h.get? a = some o → h'.get? a = some o) : Tabs h' :=
  ⟨t.t1.keep (fun o e => k _ o e) fun a o _ _ _ e => k a o e, t.t2.keep (fun o e => k _ o e) fun a o _ _ _ e => k a o e⟩

/-- room for n more calls, one in the other -/
noncomputable def Room (A : Around) (n : Nat) : Prop := A.handled = none ∧ A.depth + n < recursionLimit ∧ A.units + 4 * n + 20 < cLine

theorem Room.le {A : Around} {n m : Nat} (r : Room A n) (h : m ≤ n) : Room A m := ⟨r.1, by have := r.2.1; omega, by have := r.2.2; omega⟩
theorem Room.deeper {A : Around} {n : Nat} {env : Env} (r : Room A (n + 1)) : Room (A.deeper env) n :=
  ⟨r.1, by have := r.2.1; show A.depth + 1 + n < _; omega, by have := r.2.2; show A.units + 3 + 4 * n + 20 < _; omega⟩
/-- what a step may do: it allocates; old objects stay (q: all; else all but the two tables) -/
noncomputable def Eff (q : Bool) (s s' : Shared) : Prop :=
  (∃ h tk, s' = { s with heap := h, toks := tk }) ∧ (∀ a o, (q = true ∨ ¬ T2 a) → s.heap.get? a = some o → s'.heap.get? a = some o) ∧ (Tabs s.heap → Tabs s'.heap) ∧ s.toks ≤ s'.toks

theorem Eff.refl (q : Bool) (s : Shared) : Eff q s s := ⟨⟨_, _, rfl⟩, fun _ _ _ e => e, id, Nat.le_refl _⟩
theorem Eff.trans {q : Bool} {s s' s'' : Shared} (a : Eff q s s') (b : Eff q s' s'') : Eff q s s'' := by
  obtain ⟨⟨h, tk, rfl⟩, k, t, l⟩ := a
  obtain ⟨⟨h', tk', rfl⟩, k', t', l'⟩ := b
  exact ⟨⟨_, _, rfl⟩, fun a o hq e => k' a o hq (k a o hq e), fun x => t' (t x), Nat.le_trans l l'⟩
theorem Eff.of {q : Bool} {s : Shared} {h : Heap} {tk : Nat} (k : ∀ a o, s.heap.get? a = some o → h.get? a = some o) (l : autoParam (s.toks ≤ tk) Mine.tacE) : Eff q s { s with heap := h, toks := tk } :=
  ⟨⟨_, _, rfl⟩, fun a o _ e => k a o e, fun x => x.keep k, l⟩
theorem Eff.tok {q : Bool} {s : Shared} {tk : Nat} (l : autoParam (s.toks ≤ tk) Mine.tacE) : Eff q s { s with toks := tk } := Eff.of (fun _ _ e => e) l
theorem Eff.quiet {q : Bool} {s s' : Shared} (a : Eff true s s') : Eff q s s' := ⟨a.1, fun x o _ e => a.2.1 x o (.inl rfl) e, a.2.2⟩
theorem Eff.push {q : Bool} {s : Shared} {o : Obj} {tk : Nat} (l : autoParam (s.toks ≤ tk) Mine.tacE) : Eff q s { s with heap := s.heap.push o, toks := tk } := Eff.of (fun _ _ e => Heap.get?_push_of_some _ e) l

set_option genInjectivity false in
/-- one activation -/
structure Cx where
  w : World
  A : Around
  n : Nat
  q : Bool
  s₀ : Shared
  F₀ : Addr → Prop
  X : Addr → Prop
  env : Env
  fresh : List Str

/-- a mutable object with its data; an iterator at work; a value that reads on -/
inductive Own where
  | ob (a : Addr) (d : D)
  | wk (a : Addr) (fp : List Addr) (P : Heap → Prop)
  | gh (v : Value) (d : D)
noncomputable def Own.addr? : Own → Option Addr
  | .ob a _ => some a
  | .wk a _ _ => some a
  | .gh _ _ => none
noncomputable abbrev ownA (own : List Own) : List Addr := own.filterMap Own.addr?

noncomputable abbrev Cx.M (C : Cx) : Model := model PG C.w

noncomputable def Cx.F (C : Cx) (own : List Own) (a : Addr) : Prop :=
  (C.F₀ a ∧ ¬ C.X a) ∨ a = C.env.locals ∨ (∃ x, C.env.cells.lookup x = some a) ∨ a ∈ ownA own

structure CxOk (C : Cx) : Prop where
  base : ∃ g, Good C.w g ∧ (∀ a, C.X a → g.get? a = none) ∧ ∀ a o, ¬ T2 a → g.get? a = some o → C.s₀.heap.get? a = some o
  room : Room C.A C.n
  kind : C.env.scope.kind = .function
  glob : C.env.globals = mainGlobals
  blt : C.env.builtins = builtinsNs
  loc : C.s₀.heap.get? C.env.locals = none
  locT : ¬ T2 C.env.locals
  locNe : ∀ x c, C.env.cells.lookup x = some c → c ≠ C.env.locals
  cellT : ∀ x c, C.env.cells.lookup x = some c → ¬ T2 c
  cellNew : ∀ x c, x ∈ C.fresh → C.env.cells.lookup x = some c → C.s₀.heap.get? c = none
  apart : ∀ x y c, C.env.cells.lookup x = some c → C.env.cells.lookup y = some c → x = y
  f0 : ∀ a, C.F₀ a → ¬ T2 a ∧ ∃ o, C.s₀.heap.get? a = some o ∧ NotRec o
  xT : ∀ a, C.X a → ¬ T2 a

/-- the frame holds v under x -/
noncomputable def Holds (C : Cx) (h : Heap) (x : Str) (v : Value) : Prop :=
  (x == ("__debug__" : Str)) = false ∧
  ((C.env.kindOf x = some .local ∧ ∃ m, h.Ns C.env.locals m ∧ m x = some v) ∨
   ((C.env.kindOf x = some .cell ∨ (C.env.kindOf x = some .free ∧ (x == ("__classdict__" : Str)) = false)) ∧ ∃ c, C.env.cells.lookup x = some c ∧ h.IsCell c (some v)))

/-- a mutable object of the activation -/
inductive OwnRd (w : World) (s : Shared) (F : Addr → Prop) (a : Addr) : D → Prop
  | list {vs : List Value} {ds : List D} (ht : s.heap.IsList a vs.toArray) (hr : RdAll w s F vs ds) : OwnRd w s F a (.list ds)
  | plist {vs : List Value} {ds : List D} (ht : s.heap.PlainList a vs.toArray) (hr : RdAll w s F vs ds) : OwnRd w s F a (.plist ds)
  | dict {kvs : List (Int × Value)} {ds : List (Int × D)} (ht : s.heap.DictOf (intKind PG w) a kvs) (hm : (a == sysModules) = false) (hl : kvs.map (·.1) = ds.map (·.1))
      (hr : ∀ (i : Nat) (v : Value) (d : D), (kvs.map (·.2))[i]? = some v → (ds.map (·.2))[i]? = some d → Rd w s F v d) : OwnRd w s F a (.dict ds)

noncomputable def OwnOk (w : World) (s : Shared) (F : Addr → Prop) : Own → Prop
  | .ob a d => OwnRd w s F a d
  | .wk a fp P => P s.heap ∧ (∃ o, s.heap.get? a = some o ∧ NotRec o) ∧ (∀ h₁ h₂ : Heap, P h₁ → (∀ b ∈ fp, ∀ o, h₁.get? b = some o → h₂.get? b = some o) → P h₂) ∧ ∀ b ∈ fp, b ≠ a → ¬ F b ∧ ∃ o, s.heap.get? b = some o ∧ Solid o
  | .gh v d => Rd w s F v d

structure St (C : Cx) (ρ : List (Str × D)) (own : List Own) (s : Shared) : Prop where
  ok : CxOk C
  same : ∃ h tk, s = { C.s₀ with heap := h, toks := tk }
  keep : ∀ a o, ¬ C.X a → (C.q = true ∨ ¬ T2 a) → C.s₀.heap.get? a = some o → s.heap.get? a = some o
  live : ∀ a o, C.X a → C.s₀.heap.get? a = some o → ∃ o', s.heap.get? a = some o'
  tabs : Tabs s.heap
  tk : C.s₀.toks ≤ s.toks
  ns : ∃ m, s.heap.Ns C.env.locals m
  cells : ∀ x c, C.env.cells.lookup x = some c → ∃ v, s.heap.IsCell c v
  vars : ∀ x d, ρ.lookup x = some d → ∃ v, Holds C s.heap x v ∧ Rd C.w s (C.F own) v d
  owns : ∀ x, x ∈ own → OwnOk C.w s (C.F own) x
  ownNew : ∀ a, a ∈ ownA own → (C.s₀.heap.get? a = none ∨ C.X a) ∧ a ≠ C.env.locals ∧ ¬ T2 a ∧ ∀ x, C.env.cells.lookup x ≠ some a
  nodup : (ownA own).Nodup

theorem Tabs.cls {h : Heap} (t : Tabs h) {a : Addr} (ha : T2 a) {o : Obj} (e : h.get? a = some o) : o.cls = .none := by
  rcases ha with rfl | rfl
  · obtain ⟨ps, h1, _⟩ := t.t1; rw [h1] at e; cases e; rfl
  · obtain ⟨ps, h1, _⟩ := t.t2; rw [h1] at e; cases e; rfl

theorem Tabs.notSolid {h : Heap} (t : Tabs h) {a : Addr} (ha : T2 a) {o : Obj} (e : h.get? a = some o) : ¬ Solid o := by
  have key : ∀ (P : Addr) (line col : Nat) (qual : Str), TabOk h P line col qual → ∀ o, h.get? P = some o → NotRec o := fun P line col qual ⟨ps, h1, h2⟩ o e vs q u hd => by
    rw [h1] at e; cases e
    cases hd
    rcases h2 with rfl | ⟨c', rfl, _⟩
    · simp
    · simp [rawInt]
  rintro (h1 | h1)
  · exact h1 (t.cls ha e)
  · rcases ha with rfl | rfl
    · exact h1 (key _ _ _ _ t.t1 _ e)
    · exact h1 (key _ _ _ _ t.t2 _ e)

theorem OwnRd.there {w : World} {s : Shared} {F : Addr → Prop} {a : Addr} {d : D} (r : OwnRd w s F a d) : ∃ o, s.heap.get? a = some o := by
  cases r with
  | list ht _ => exact let ⟨o, ho, _⟩ := ht; ⟨o, ho⟩
  | plist ht _ => exact let ⟨_, ho⟩ := ht; ⟨_, ho⟩
  | dict ht _ _ _ => exact let ⟨o, _, _, ho, _⟩ := ht; ⟨o, ho⟩
theorem OwnRd.mono {w : World} {s s' : Shared} {F F' : Addr → Prop} {a : Addr} (ha : ∀ o, s.heap.get? a = some o → s'.heap.get? a = some o)
    (hk : ∀ a o, ¬ F a → Solid o → s.heap.get? a = some o → s'.heap.get? a = some o ∧ ¬ F' a) (ht : s.toks ≤ s'.toks) {d : D} (r : OwnRd w s F a d) : OwnRd w s' F' a d := by
  cases r with
  | list h1 hr => exact .list (let ⟨o, ho, r⟩ := h1; ⟨o, ha o ho, r⟩) (hr.mono hk ht)
  | plist h1 hr => exact .plist (h1.at ha) (hr.mono hk ht)
  | dict h1 hm hl hr => exact .dict (let ⟨o, es, ep, ho, r⟩ := h1; ⟨o, es, ep, ha o ho, r⟩) hm hl fun i v d h1 h2 => (hr i v d h1 h2).mono hk ht

theorem OwnOk.there {w : World} {s : Shared} {F : Addr → Prop} {x : Own} (k : OwnOk w s F x) {a : Addr} (e : x.addr? = some a) : ∃ o, s.heap.get? a = some o := by
  cases x with
  | ob b d => cases e; exact OwnRd.there k
  | wk b fp P => cases e; exact let ⟨o, h, _⟩ := k.2.1; ⟨o, h⟩
  | gh v d => cases e
theorem OwnOk.mono {w : World} {s s' : Shared} {F F' : Addr → Prop} {x : Own} (ha : ∀ a, x.addr? = some a → ∀ o, s.heap.get? a = some o → s'.heap.get? a = some o)
    (hk : ∀ a o, ¬ F a → Solid o → s.heap.get? a = some o → s'.heap.get? a = some o ∧ ¬ F' a) (ht : s.toks ≤ s'.toks) (k : OwnOk w s F x) : OwnOk w s' F' x := by
  cases x with
  | ob b d => exact OwnRd.mono (ha b rfl) hk ht k
  | wk b fp P =>
    obtain ⟨k1, ⟨o, k2, k2'⟩, k3, k4⟩ := k
    have hb : ∀ c ∈ fp, ∀ o, s.heap.get? c = some o → s'.heap.get? c = some o := fun c hc o e => by
      by_cases hcb : c = b
      · subst hcb; exact ha c rfl o e
      · obtain ⟨k5, o', k6, k7⟩ := k4 c hc hcb
        rw [e] at k6; cases k6
        exact (hk c o k5 k7 e).1
    exact ⟨k3 _ _ k1 hb, ⟨o, ha b rfl o k2, k2'⟩, k3, fun c hc hcb => let ⟨k5, o', k6, k7⟩ := k4 c hc hcb; let x := hk c o' k5 k7 k6; ⟨x.2, o', x.1, k7⟩⟩
  | gh v d => exact Rd.mono hk ht k

section
variable {C : Cx} {ρ : List (Str × D)} {own : List Own} {s s' : Shared}

theorem ns_notRec {h : Heap} {a : Addr} {m : Str → Option Value} (hn : h.Ns a m) : ∃ o, h.get? a = some o ∧ NotRec o := by
  obtain ⟨o', es, ep, ho, hd, _⟩ := hn
  exact ⟨o', ho, fun vs q t e => by rw [hd] at e; cases e⟩
theorem OwnOk.rec {w : World} {s : Shared} {F : Addr → Prop} {x : Own} (k : OwnOk w s F x) {a : Addr} (e : x.addr? = some a) : ∃ o, s.heap.get? a = some o ∧ NotRec o := by
  cases x with
  | ob b d =>
    cases e
    have k : OwnRd w s F a d := k
    cases k with
    | list ht _ => obtain ⟨o, ho, _, n, hd⟩ := ht; exact ⟨o, ho, fun vs q t e => by rw [hd] at e; cases e⟩
    | plist ht _ => obtain ⟨n, ho⟩ := ht; exact ⟨_, ho, fun vs q t e => by cases e⟩
    | dict ht _ _ _ => obtain ⟨o, es, ep, ho, hc, hd, _⟩ := ht; exact ⟨o, ho, fun vs q t e => by rw [hd] at e; cases e⟩
  | wk b fp P => cases e; exact k.2.1
  | gh v d => cases e

theorem St.fLive (S : St C ρ own s) {a : Addr} (h : C.F own a) : ¬ T2 a ∧ ∃ o, s.heap.get? a = some o ∧ NotRec o := by
  rcases h with ⟨h, hx⟩ | rfl | ⟨x, h⟩ | h
  · have f := S.ok.f0 a h
    obtain ⟨o, ho, hr⟩ := f.2
    exact ⟨f.1, o, S.keep a o hx (.inr f.1) ho, hr⟩
  · obtain ⟨m, hm⟩ := S.ns
    exact ⟨S.ok.locT, ns_notRec hm⟩
  · obtain ⟨v, o, ho, hd⟩ := S.cells x a h
    exact ⟨S.ok.cellT x a h, o, ho, fun vs q t e => by rw [hd] at e; cases e⟩
  · refine ⟨(S.ownNew _ h).2.2.1, ?_⟩
    obtain ⟨x, hx, hp⟩ := List.mem_filterMap.mp h
    exact (S.owns x hx).rec hp

theorem St.good (S : St C ρ own s) : Good C.w s.heap := by
  obtain ⟨g, hg, hx, hk⟩ := S.ok.base
  refine hg.keep fun a o ht e => S.keep a o (fun h => ?_) (.inr ht) (hk a o ht e)
  rw [hx a h] at e; cases e

theorem St.fresh (S : St C ρ own s) : ¬ C.F own s.heap.objs.size := fun h => by
  obtain ⟨_, o, ho, _⟩ := S.fLive h
  exact absurd (Heap.lt_size ho) (Nat.lt_irrefl _)

/-- kept objects read on -/
theorem keep_rd {q : Bool} (t : Tabs s.heap) (e : Eff q s s') (F : Addr → Prop) : ∀ a o, ¬ F a → Solid o → s.heap.get? a = some o → s'.heap.get? a = some o ∧ ¬ F a := fun a o hf hc h =>
  ⟨by
    by_cases ha : T2 a
    · exact absurd hc (t.notSolid ha h)
    · exact e.2.1 a o (.inr ha) h, hf⟩

theorem Rd.eff {q : Bool} {w : World} {F : Addr → Prop} {v : Value} {d : D} (t : Tabs s.heap) (e : Eff q s s') (r : Rd w s F v d) : Rd w s' F v d := r.mono (keep_rd t e F) e.2.2.2
theorem RdAll.eff {q : Bool} {w : World} {F : Addr → Prop} {vs : List Value} {ds : List D} (t : Tabs s.heap) (e : Eff q s s') (r : RdAll w s F vs ds) : RdAll w s' F vs ds := r.mono (keep_rd t e F) e.2.2.2

theorem St.eff (S : St C ρ own s) (e : Eff C.q s s') : St C ρ own s' := by
  have k : ∀ a o, ¬ T2 a → s.heap.get? a = some o → s'.heap.get? a = some o := fun a o h => e.2.1 a o (.inr h)
  have kr := keep_rd S.tabs e
  refine ⟨S.ok, ?_, fun a o hx hq h => e.2.1 a o hq (S.keep a o hx hq h), fun a o hx h => ?_, e.2.2.1 S.tabs, Nat.le_trans S.tk e.2.2.2, ?_, fun x c hc => ?_, fun x d hd => ?_, fun x hp => ?_, S.ownNew, S.nodup⟩
  · obtain ⟨h, tk, rfl⟩ := S.same
    obtain ⟨⟨h', tk', rfl⟩, _⟩ := e
    exact ⟨_, _, rfl⟩
  · obtain ⟨o', ho'⟩ := S.live a o hx h
    exact ⟨o', k a o' (S.ok.xT a hx) ho'⟩
  · obtain ⟨m, hm⟩ := S.ns
    exact ⟨m, ns_at hm fun o e => k _ o S.ok.locT e⟩
  · obtain ⟨v, o, ho, r⟩ := S.cells x c hc
    exact ⟨v, o, k _ _ (S.ok.cellT x c hc) ho, r⟩
  · obtain ⟨v, hv, hr⟩ := S.vars x d hd
    refine ⟨v, ⟨hv.1, hv.2.imp (fun ⟨h1, m, h2, h3⟩ => ⟨h1, m, ns_at h2 fun o e => k _ o S.ok.locT e, h3⟩) fun ⟨h1, c, h2, o, h3, h4⟩ => ⟨h1, c, h2, o, k _ _ (S.ok.cellT x c h2) h3, h4⟩⟩, hr.mono (kr _) e.2.2.2⟩
  · exact (S.owns x hp).mono (fun a ha o ho => k a o (S.ownNew a (List.mem_filterMap.mpr ⟨x, hp, ha⟩)).2.2.1 ho) (kr _) e.2.2.2
end

/-- the E of every walk here: nothing is raised -/
noncomputable abbrev NoE : Value → Shared → Prop := fun _ _ => False

noncomputable def Ev (C : Cx) (ρ : List (Str × D)) (own : List Own) (e : Expr) (d : D) : Prop :=
  ∀ s, St C ρ own s → wpAny C.M C.A (eval e C.env) (fun v s' => Eff C.q s s' ∧ Rd C.w s' (C.F own) v d) NoE s
noncomputable def EvB (C : Cx) (ρ : List (Str × D)) (own : List Own) (e : Expr) (b : Bool) : Prop :=
  ∀ s, St C ρ own s → wpAny C.M C.A (isTrue e C.env (eval e C.env)) (fun v s' => Eff C.q s s' ∧ v = b) NoE s
noncomputable def Ex (C : Cx) (ρ : List (Str × D)) (own : List Own) (b : List Stmt) (Φ : Flow → Shared → Prop) : Prop :=
  ∀ s, St C ρ own s → wpAny C.M C.A (execs b C.env) Φ NoE s

end Mine

end

-- part MH3
section
open PySem PySem.W PyProof.Rows PySem.Calls
set_option maxRecDepth 100000
set_option linter.unusedVariables false
namespace Mine

section
variable {C : Cx} {ρ : List (Str × D)} {own : List Own}

theorem wp_eff {α : Type} {M : Model} {A : Around} {t : Sem α} {q : Bool} {s s₀ : Shared} {P : α → Shared → Prop} (e : Eff q s₀ s) (h : wpAny M A t (fun v s' => Eff q s s' ∧ P v s') NoE s) :
    wpAny M A t (fun v s' => Eff q s₀ s' ∧ P v s') NoE s := wpAny_mono h (fun _ _ x => ⟨e.trans x.1, x.2⟩) fun _ _ x => x

theorem load_name {x : Str} {d : D} {s : Shared} (S : St C ρ own s) (h : ρ.lookup x = some d) :
    (x == ("__debug__" : Str)) = false ∧ ∀ (E : Value → Shared → Prop) (Q : Value → Shared → Prop), (∀ v, Rd C.w s (C.F own) v d → Q v s) → wpAny C.M C.A (loadName C.env x) Q E s := by
  obtain ⟨v, ⟨hd, hv⟩, hr⟩ := S.vars x d h
  refine ⟨hd, fun E Q hQ => ?_⟩
  rcases hv with ⟨hk, m, hm, hx⟩ | ⟨hk | ⟨hk, hn⟩, c, hc, hx⟩
  · exact wpAny_loadName_local S.ok.kind hk hm hx (hQ v hr)
  · exact wpAny_loadName_cell S.ok.kind hk hc hx (hQ v hr)
  · exact wpAny_loadName_free S.ok.kind hk hc hx (hQ v hr) hn

theorem Ev.name {x : Str} {pos : Pos} {d : D} (h : ρ.lookup x = some d) : Ev C ρ own (.Name x pos) d := fun s S => by
  obtain ⟨hd, k⟩ := load_name S h
  exact wpAny_Name (k _ _ fun v hr => ⟨Eff.refl _ _, hr⟩) hd

theorem Ev.int {i : Int} {k : Nat} {pos : Pos} : Ev C ρ own (.Constant (.int i) k pos) (.int i) := fun s _ => wpAny_Constant_int ⟨Eff.tok, .int _ _⟩
theorem Ev.str {x : Str} {k : Nat} {pos : Pos} : Ev C ρ own (.Constant (.str x) k pos) (.str x) := fun s _ => Constant_str ⟨Eff.tok, .str _ _⟩
theorem Ev.strf {x : Str} {k : Nat} {pos : Pos} : Ev C ρ own (.Constant (.str x) k pos) (.strf x) := fun s _ => Constant_str ⟨Eff.tok, .strf _ _ (Nat.lt_succ_self _)⟩
theorem Ev.bytes {b : List UInt8} {k : Nat} {pos : Pos} : Ev C ρ own (.Constant (.bytes b) k pos) (.bytes b.toArray) := fun s _ => by
  intro _ _ _
  exact ⟨Eff.tok, .bytes _ _⟩
/-- an operation on two read values -/
noncomputable def Op2 (C : Cx) (own : List Own) (f : Value → Value → Sem Value) (da db d : D) : Prop :=
  ∀ (s : Shared) (a b : Value), Good C.w s.heap → Tabs s.heap → (∀ x, C.F own x → ∃ o, s.heap.get? x = some o) → Room C.A C.n → Rd C.w s (C.F own) a da → Rd C.w s (C.F own) b db →
    wpAny C.M C.A (f a b) (fun v s' => Eff C.q s s' ∧ Rd C.w s' (C.F own) v d) NoE s
noncomputable def Op1 (C : Cx) (own : List Own) (f : Value → Sem Value) (da d : D) : Prop :=
  ∀ (s : Shared) (a : Value), Good C.w s.heap → Tabs s.heap → (∀ x, C.F own x → ∃ o, s.heap.get? x = some o) → Room C.A C.n → Rd C.w s (C.F own) a da →
    wpAny C.M C.A (f a) (fun v s' => Eff C.q s s' ∧ Rd C.w s' (C.F own) v d) NoE s
/-- a truth test on a read value -/
noncomputable def Tr (C : Cx) (own : List Own) (d : D) (b : Bool) : Prop :=
  ∀ (s : Shared) (a : Value), Good C.w s.heap → Rd C.w s (C.F own) a d → wpAny C.M C.A (truthy a) (fun v s' => Eff C.q s s' ∧ v = b) NoE s

theorem St.live' {s : Shared} (S : St C ρ own s) : ∀ x, C.F own x → ∃ o, s.heap.get? x = some o := fun x h => let ⟨_, o, e, _⟩ := S.fLive h; ⟨o, e⟩

theorem Ev.bin {l r : Expr} {op : Operator} {pos : Pos} {da db d : D} (hl : Ev C ρ own l da) (hr : Ev C ρ own r db) (ho : Op2 C own (binaryOp op) da db d) : Ev C ρ own (.BinOp l op r pos) d := fun s S =>
  wpAny_BinOp (wpAny_mono (hl s S) (fun a s₁ ⟨e₁, r₁⟩ => wpAny_mono (hr s₁ (S.eff e₁)) (fun b s₂ ⟨e₂, r₂⟩ =>
    have S₂ := (S.eff e₁).eff e₂
    wp_eff (e₁.trans e₂) (ho s₂ a b S₂.good S₂.tabs S₂.live' S.ok.room (r₁.eff (S.eff e₁).tabs e₂) r₂)) fun _ _ x => x) fun _ _ x => x)

theorem Ev.cmp {l r : Expr} {op : CmpOp} {pos : Pos} {da db d : D} (hl : Ev C ρ own l da) (hr : Ev C ρ own r db) (ho : Op2 C own (compareOp op) da db d) (hm : autoParam (behindInMarks op r = false) Mine.tacJ) :
    Ev C ρ own (.Compare l [op] [r] pos) d := fun s S =>
  wpAny_Compare1 (wpAny_mono (hl s S) (fun a s₁ ⟨e₁, r₁⟩ => wpAny_mono (hr s₁ (S.eff e₁)) (fun b s₂ ⟨e₂, r₂⟩ =>
    have S₂ := (S.eff e₁).eff e₂
    wp_eff (e₁.trans e₂) (ho s₂ a b S₂.good S₂.tabs S₂.live' S.ok.room (r₁.eff (S.eff e₁).tabs e₂) r₂)) fun _ _ x => x) fun _ _ x => x) hm

theorem EvB.cmp {l r : Expr} {op : CmpOp} {pos : Pos} {da db : D} {c : Bool} (hl : Ev C ρ own l da) (hr : Ev C ρ own r db) (ho : Op2 C own (compareOp op) da db (.bool c)) (hm : autoParam (behindInMarks op r = false) Mine.tacJ) :
    EvB C ρ own (.Compare l [op] [r] pos) c := fun s S =>
  wpAny_isTrue_Compare1 (wpAny_mono (hl s S) (fun a s₁ ⟨e₁, r₁⟩ => wpAny_mono (hr s₁ (S.eff e₁)) (fun b s₂ ⟨e₂, r₂⟩ =>
    have S₂ := (S.eff e₁).eff e₂
    wpAny_mono (ho s₂ a b S₂.good S₂.tabs S₂.live' S.ok.room (r₁.eff (S.eff e₁).tabs e₂) r₂) (fun v s₃ ⟨e₃, r₃⟩ => by
      rw [r₃.bool_inv]
      exact wpAny_truthy_bool ⟨(e₁.trans e₂).trans e₃, rfl⟩) fun _ _ x => x) fun _ _ x => x) fun _ _ x => x) hm

theorem Ev.un {x : Expr} {op : UnaryOp} {pos : Pos} {da d : D} (hx : Ev C ρ own x da) (ho : Op1 C own (unaryOp op) da d) : Ev C ρ own (.UnaryOp op x pos) d := fun s S => by
  show wpAny C.M C.A (do let v ← eval x C.env; standAt pos; holding [v] (unaryOp op v)) _ _ _
  exact wpAny_bind (wpAny_mono (hx s S) (fun a s₁ ⟨e₁, r₁⟩ => wpAny_bind (wpAny_standAt (wpAny_holding (
    have S₁ := S.eff e₁
    wp_eff e₁ (ho s₁ a S₁.good S₁.tabs S₁.live' S.ok.room r₁))))) fun _ _ x => x)

theorem EvB.plain {e : Expr} {d : D} {b : Bool} (he : Ev C ρ own e d) (ht : Tr C own d b)
    (hp : autoParam (isTrue e C.env (eval e C.env) = (do let v ← eval e C.env; standAt e.pos; holding [v] (truthy v))) Mine.tacI) : EvB C ρ own e b := fun s S =>
  isTrue_plain (wpAny_mono (he s S) (fun v s₁ ⟨e₁, r₁⟩ => wpAny_mono (ht s₁ v (S.eff e₁).good r₁) (fun _ _ ⟨e₂, h⟩ => ⟨e₁.trans e₂, h⟩) fun _ _ x => x) fun _ _ x => x) hp

theorem EvB.or_nil {pos : Pos} : EvB C ρ own (.BoolOp .Or [] pos) false := fun s S => isTrue_or_nil ⟨Eff.refl _ _, rfl⟩
theorem EvB.or {x : Expr} {rest : List Expr} {pos : Pos} {b c : Bool} (h : EvB C ρ own x b) (h' : b = false → EvB C ρ own (.BoolOp .Or rest pos) c) : EvB C ρ own (.BoolOp .Or (x :: rest) pos) (b || c) := fun s S =>
  isTrue_or (wpAny_mono (h s S) (fun v s₁ ⟨e, hc⟩ => by
    subst hc
    cases v with
    | true => exact ⟨e, rfl⟩
    | false => exact wpAny_mono (h' rfl s₁ (S.eff e)) (fun _ _ ⟨e', h⟩ => ⟨e.trans e', by rw [h]; rfl⟩) fun _ _ x => x) fun _ _ x => x)

theorem Ev.ite {t b o : Expr} {pos : Pos} {c : Bool} {d d' : D} (ht : EvB C ρ own t c) (hb : c = true → Ev C ρ own b d) (ho : c = false → Ev C ρ own o d') : Ev C ρ own (.IfExp t b o pos) (if c = true then d else d') := fun s S =>
  IfExp_ (wpAny_mono (ht s S) (fun v s₁ ⟨e, hc⟩ => by
    subst hc
    cases v with
    | true => exact wp_eff e (hb rfl s₁ (S.eff e))
    | false => exact wp_eff e (ho rfl s₁ (S.eff e))) fun _ _ x => x)

/-- several expressions, left to right -/
noncomputable def EvL (C : Cx) (ρ : List (Str × D)) (own : List Own) (pos : Pos) (es : List Expr) (ds : List D) : Prop :=
  (backTo pos (starEach es C.env)).any (·.1) = false ∧ ((es = [] ∧ ds = []) ∨ ∃ e r, backTo pos (starEach es C.env) = (false, e) :: r) ∧
  ∀ s, St C ρ own s → wpAny C.M C.A (spliced (backTo pos (starEach es C.env))) (fun vs s' => Eff C.q s s' ∧ RdAll C.w s' (C.F own) vs ds) NoE s

theorem EvL.nil {pos : Pos} : EvL C ρ own pos [] [] := ⟨rfl, .inl ⟨rfl, rfl⟩, fun s S => spliced_nil ⟨Eff.refl _ _, .nil⟩⟩
theorem EvL.cons {pos : Pos} {e : Expr} {es : List Expr} {d : D} {ds : List D} (h : Ev C ρ own e d) (hs : EvL C ρ own pos es ds)
    (hst : autoParam (starEach (e :: es) C.env = (false, eval e C.env) :: starEach es C.env) Mine.tacI) : EvL C ρ own pos (e :: es) (d :: ds) := by
  have hb : backTo pos (starEach (e :: es) C.env) = (false, eval e C.env) :: backTo pos (starEach es C.env) := by rw [hst]; rfl
  refine ⟨by rw [hb]; simpa using hs.1, .inr ⟨_, _, hb⟩, fun s S => ?_⟩
  rw [hb]
  exact spliced_cons (wpAny_mono (h s S) (fun v s₁ ⟨e₁, r₁⟩ => wpAny_mono (hs.2.2 s₁ (S.eff e₁)) (fun vs s₂ ⟨e₂, r₂⟩ => ⟨e₁.trans e₂, .cons (r₁.eff (S.eff e₁).tabs e₂) r₂⟩) fun _ _ x => x) fun _ _ x => x)

theorem Ev.tuple {es : List Expr} {k : Nat} {pos : Pos} {ds : List D} (h : EvL C ρ own pos es ds) (hz : autoParam (ds.length ≤ sizeLine) Mine.tacB) : Ev C ρ own (.Tuple es k pos) (.tup ds) := fun s S =>
  Tuple_ (wpAny_mono (h.2.2 s S) (fun vs s₁ ⟨e₁, r₁⟩ => by
    have S₁ := S.eff e₁
    refine wpAny_newObj_type ⟨e₁.trans Eff.push, ?_⟩ (by show vs.toArray.size ≤ sizeLine; rw [List.size_toArray, r₁.1]; exact hz)
    exact RdAll.tup (r₁.eff S₁.tabs (Eff.push (q := C.q) (tk := s₁.toks))) ⟨_, Heap.get?_push_size _ rfl, rfl, 0, rfl⟩ S₁.fresh) fun _ _ x => x)
theorem Ev.list {es : List Expr} {pos : Pos} {ds : List D} (h : EvL C ρ own pos es ds) (hz : autoParam (ds.length ≤ sizeLine) Mine.tacB) : Ev C ρ own (.List es pos) (.list ds) := fun s S =>
  List_ (wpAny_mono (h.2.2 s S) (fun vs s₁ ⟨e₁, r₁⟩ => by
    have S₁ := S.eff e₁
    refine wpAny_newObj_type ⟨e₁.trans Eff.push, ?_⟩ (by show vs.toArray.size ≤ sizeLine; rw [List.size_toArray, r₁.1]; exact hz)
    exact RdAll.list (r₁.eff S₁.tabs (Eff.push (q := C.q) (tk := s₁.toks))) ⟨_, Heap.get?_push_size _ rfl, rfl, 0, rfl⟩ S₁.fresh) fun _ _ x => x)
end

end Mine

end

-- part MH4
section
open PySem PySem.W PyProof.Rows PySem.Calls
set_option maxRecDepth 100000
set_option linter.unusedVariables false
namespace Mine

noncomputable def storable (C : Cx) (x : Str) : Bool :=
  !(x == ("__debug__" : Str)) && (C.env.kindOf x == some .local || (C.env.kindOf x == some .cell && C.fresh.contains x && (C.env.cells.lookup x).isSome))

theorem lookup_cons_ne {α : Type} {x y : Str} {d : α} {ρ : List (Str × α)} (h : y ≠ x) : List.lookup y ((x, d) :: ρ) = ρ.lookup y := by
  rw [List.lookup_cons]
  have : (y == x) = false := by simpa using h
  rw [this]
theorem lookup_cons_eq {α : Type} {x : Str} {d : α} {ρ : List (Str × α)} : List.lookup x ((x, d) :: ρ) = some d := by
  rw [List.lookup_cons]; simp

section
variable {C : Cx} {ρ : List (Str × D)} {own : List Own} {s : Shared}

/-- a write to one address of the activation's own -/
theorem St.write {b : Addr} {h' : Heap} {tk : Nat} (S : St C ρ own s) (hs : Heap.SameBut b s.heap h') (hb0 : C.s₀.heap.get? b = none ∨ C.X b) (hbT : ¬ T2 b)
    (hbD : ∀ o vs, s.heap.get? b = some o → o.data ≠ .fields vs) (hl : ∃ o, h'.get? b = some o) :
    (∃ h tk', ({ s with heap := h', toks := tk } : Shared) = { C.s₀ with heap := h, toks := tk' }) ∧
    (∀ a o, ¬ C.X a → (C.q = true ∨ ¬ T2 a) → C.s₀.heap.get? a = some o → h'.get? a = some o) ∧
    (∀ a o, C.X a → C.s₀.heap.get? a = some o → ∃ o', h'.get? a = some o') ∧ Tabs h' := by
  refine ⟨?_, fun a o hx hq e => ?_, fun a o hx e => ?_, ?_⟩
  · obtain ⟨h, t, rfl⟩ := S.same
    exact ⟨_, _, rfl⟩
  · have hab : a ≠ b := by
      rintro rfl
      rcases hb0 with h | h
      · rw [h] at e; cases e
      · exact hx h
    rw [hs.2 a hab]; exact S.keep a o hx hq e
  · by_cases hab : a = b
    · subst hab; exact hl
    · rw [hs.2 a hab]; exact S.live a o hx e
  · have k : ∀ P, T2 P → ∀ o, s.heap.get? P = some o → h'.get? P = some o := fun P hP o e => by rw [hs.2 P (by rintro rfl; exact hbT hP)]; exact e
    have k2 : ∀ a o vs, o.data = .fields vs → (∃ q t, vs[1]? = some (.str q t)) → s.heap.get? a = some o → h'.get? a = some o := fun a o vs hd _ e => by
      rw [hs.2 a (by rintro rfl; exact hbD o vs e hd)]; exact e
    exact ⟨S.tabs.t1.keep (k 47 (.inl rfl)) k2, S.tabs.t2.keep (k 54 (.inr rfl)) k2⟩

theorem same_rd {b : Addr} {h h' : Heap} {F : Addr → Prop} (hs : Heap.SameBut b h h') (hb : F b) : ∀ a o, ¬ F a → Solid o → h.get? a = some o → h'.get? a = some o ∧ ¬ F a := fun a o hf _ e =>
  ⟨by rw [hs.2 a (by rintro rfl; exact hf hb)]; exact e, hf⟩

theorem holds_other {b : Addr} {h h' : Heap} {y : Str} {v : Value} (hs : Heap.SameBut b h h') (hloc : C.env.kindOf y = some .local → b ≠ C.env.locals) (hcell : ∀ c, C.env.cells.lookup y = some c → b ≠ c)
    (H : Holds C h y v) : Holds C h' y v :=
  ⟨H.1, H.2.imp (fun ⟨h1, m, h2, h3⟩ => ⟨h1, m, ns_at h2 fun o e => by rw [hs.2 _ (Ne.symm (hloc h1))]; exact e, h3⟩)
    fun ⟨h1, c, h2, o, h3, h4⟩ => ⟨h1, c, h2, o, by rw [hs.2 _ (Ne.symm (hcell c h2))]; exact h3, h4⟩⟩

theorem store_name' {x : Str} {d : D} {v : Value} {Q : Unit → Shared → Prop} {E : Value → Shared → Prop} (S : St C ρ own s) (hx : storable C x = true) (hr : Rd C.w s (C.F own) v d)
    (h : ∀ s', St C ((x, d) :: ρ) own s' → (∀ u e, Rd C.w s (C.F own) u e → Rd C.w s' (C.F own) u e) → Q () s') : wpAny C.M C.A (storeName C.env x v) Q E s := by
  unfold storable at hx
  simp only [Bool.and_eq_true, Bool.or_eq_true, Bool.not_eq_true', beq_iff_eq] at hx
  obtain ⟨hdb, hk⟩ := hx
  rcases hk with hk | ⟨⟨hk, hf⟩, hc⟩
  · obtain ⟨m, hm⟩ := S.ns
    refine wpAny_storeName_local hk hm (fun h' hn hs => h _ ?_ (fun u e r => r.mono (same_rd hs (.inr (.inl rfl))) (Nat.le_succ _))) (by rw [S.ok.kind]; rfl)
    have hF : C.F own C.env.locals := .inr (.inl rfl)
    obtain ⟨w1, w2, w3, w4⟩ := S.write (tk := s.toks + 1) hs (.inl S.ok.loc) S.ok.locT (fun o vs e q => by
      obtain ⟨o', es, ep, ho', hd', _⟩ := hm
      rw [ho'] at e; cases e; rw [hd'] at q; cases q) (let ⟨o, _, _, ho, _⟩ := hn; ⟨o, ho⟩)
    have kr := same_rd hs hF
    refine ⟨S.ok, w1, w2, w3, w4, Nat.le_succ_of_le S.tk, ⟨_, hn⟩, fun y c hy => ?_, fun y e hy => ?_, fun x' hp => ?_, S.ownNew, S.nodup⟩
    · obtain ⟨u, o, ho, r⟩ := S.cells y c hy
      exact ⟨u, o, by rw [hs.2 _ (S.ok.locNe y c hy)]; exact ho, r⟩
    · by_cases hyx : y = x
      · subst hyx
        rw [lookup_cons_eq] at hy; cases hy
        exact ⟨v, ⟨hdb, .inl ⟨hk, _, hn, by simp⟩⟩, hr.mono kr (Nat.le_succ _)⟩
      · rw [lookup_cons_ne hyx] at hy
        obtain ⟨u, ⟨h0, hu⟩, hur⟩ := S.vars y e hy
        refine ⟨u, ⟨h0, hu.imp (fun ⟨h1, m', h2, h3⟩ => ?_) fun ⟨h1, c, h2, o, h3, h4⟩ => ⟨h1, c, h2, o, by rw [hs.2 _ (S.ok.locNe y c h2)]; exact h3, h4⟩⟩, hur.mono kr (Nat.le_succ _)⟩
        refine ⟨h1, _, hn, ?_⟩
        have e1 : m' y = m y := by
          obtain ⟨o1, es1, ep1, g1, g2, _, g4⟩ := h2
          obtain ⟨o2, es2, ep2, f1, f2, _, f4⟩ := hm
          rw [g1] at f1; cases f1; rw [g2] at f2; cases f2
          rw [← g4, ← f4]
        simp only [if_neg hyx]
        rw [← e1]; exact h3
    · exact (S.owns x' hp).mono (fun a ha o ho => by rw [hs.2 _ (S.ownNew a (List.mem_filterMap.mpr ⟨x', hp, ha⟩)).2.1]; exact ho) kr (Nat.le_succ _)
  · obtain ⟨c, hc⟩ := Option.isSome_iff_exists.mp hc
    obtain ⟨u, hu⟩ := S.cells x c hc
    refine wpAny_storeName_cell S.ok.kind hk hc hu fun h' hn hs => h _ ?_ (fun u e r => r.mono (same_rd hs (.inr (.inr (.inl ⟨x, hc⟩)))) (by exact Nat.le_refl _))
    have hF : C.F own c := .inr (.inr (.inl ⟨x, hc⟩))
    obtain ⟨w1, w2, w3, w4⟩ := S.write (tk := s.toks) hs (.inl (S.ok.cellNew x c (List.contains_iff_mem.mp hf) hc)) (S.ok.cellT x c hc) (fun o vs e q => by
      obtain ⟨o', ho', hd'⟩ := hu
      rw [ho'] at e; cases e; rw [hd'] at q; cases q) (let ⟨o, ho, _⟩ := hn; ⟨o, ho⟩)
    have kr := same_rd hs hF
    refine ⟨S.ok, w1, w2, w3, w4, S.tk, ?_, fun y c' hy => ?_, fun y e hy => ?_, fun x' hp => ?_, S.ownNew, S.nodup⟩
    · obtain ⟨m, hm⟩ := S.ns
      exact ⟨m, ns_at hm fun o e => by rw [hs.2 _ (Ne.symm (S.ok.locNe x c hc))]; exact e⟩
    · by_cases hyc : c' = c
      · subst hyc; exact ⟨_, hn⟩
      · obtain ⟨u, o, ho, r⟩ := S.cells y c' hy
        exact ⟨u, o, by rw [hs.2 _ hyc]; exact ho, r⟩
    · by_cases hyx : y = x
      · subst hyx
        rw [lookup_cons_eq] at hy; cases hy
        exact ⟨v, ⟨hdb, .inr ⟨.inl hk, c, hc, hn⟩⟩, hr.mono kr (by exact Nat.le_refl _)⟩
      · rw [lookup_cons_ne hyx] at hy
        obtain ⟨u, hu, hur⟩ := S.vars y e hy
        exact ⟨u, holds_other hs (fun _ => S.ok.locNe x c hc) (fun c' hc' q => hyx (S.ok.apart y x c' hc' (q ▸ hc))) hu, hur.mono kr (by exact Nat.le_refl _)⟩
    · exact (S.owns x' hp).mono (fun a ha o ho => by rw [hs.2 _ (fun q => (S.ownNew a (List.mem_filterMap.mpr ⟨x', hp, ha⟩)).2.2.2 x (by rw [show a = c from q]; exact hc))]; exact ho) kr (by exact Nat.le_refl _)

theorem store_name {x : Str} {d : D} {v : Value} {Q : Unit → Shared → Prop} {E : Value → Shared → Prop} (S : St C ρ own s) (hx : storable C x = true) (hr : Rd C.w s (C.F own) v d)
    (h : ∀ s', St C ((x, d) :: ρ) own s' → Q () s') : wpAny C.M C.A (storeName C.env x v) Q E s := store_name' S hx hr fun s' S' _ => h s' S'

theorem Ex.nil {Φ : Flow → Shared → Prop} (h : ∀ s, St C ρ own s → Φ .next s) : Ex C ρ own [] Φ := fun s S => wpAny_execs_nil (h s S)

theorem Ex.assign {x : Str} {p pos : Pos} {e : Expr} {rest : List Stmt} {d : D} {Φ : Flow → Shared → Prop} (he : Ev C ρ own e d) (hr : Ex C ((x, d) :: ρ) own rest Φ)
    (hx : autoParam (storable C x = true) Mine.tacI) (hs : autoParam (swapsWith e (some (.Name x p)) pos.line C.env = pure false) Mine.tacI) : Ex C ρ own (.Assign [.Name x p] e pos :: rest) Φ := fun s S =>
  wpAny_execs_cons (wpAny_Assign_Name (wpAny_mono (he s S) (fun v s₁ ⟨e₁, r₁⟩ => store_name (S.eff e₁) hx r₁ fun s₂ S₂ => hr s₂ S₂) fun _ _ x => x) hs)

theorem Ex.ret {e : Expr} {pos : Pos} {rest : List Stmt} {d : D} {Φ : Flow → Shared → Prop} (he : Ev C ρ own e d) (h : ∀ v s s', St C ρ own s → Eff C.q s s' → St C ρ own s' → Rd C.w s' (C.F own) v d → Φ (.ret v) s') :
    Ex C ρ own (.Return (some e) pos :: rest) Φ := fun s S =>
  wpAny_execs_cons (wpAny_Return_some (wpAny_mono (he s S) (fun v s₁ ⟨e₁, r₁⟩ => h v s s₁ S e₁ (S.eff e₁) r₁) fun _ _ x => x))
theorem Ex.retNone {pos : Pos} {rest : List Stmt} {Φ : Flow → Shared → Prop} (h : ∀ s, St C ρ own s → Φ (.ret .none) s) : Ex C ρ own (.Return none pos :: rest) Φ := fun s S =>
  wpAny_execs_cons (wpAny_Return_none (h s S))

/-- what stands behind a block: the rest of the text -/
noncomputable def Then (C : Cx) (rest : List Stmt) (Φ : Flow → Shared → Prop) (f : Flow) (s : Shared) : Prop :=
  match f with | .next => wpAny C.M C.A (execs rest C.env) Φ NoE s | f => Φ f s

theorem Ex.done {rest : List Stmt} {Φ : Flow → Shared → Prop} (h : Ex C ρ own rest Φ) : Ex C ρ own [] (Then C rest Φ) := fun s S => wpAny_execs_nil (h s S)

theorem Ex.one {st : Stmt} {rest : List Stmt} {Φ : Flow → Shared → Prop} (h : ∀ s, St C ρ own s → wpAny C.M C.A (exec st C.env) (Then C rest Φ) NoE s) : Ex C ρ own (st :: rest) Φ := fun s S =>
  wpAny_execs_cons (wpAny_mono (h s S) (fun f s' x => by cases f <;> exact x) fun _ _ x => x)

theorem Ex.ite {t : Expr} {b o : List Stmt} {pos : Pos} {rest : List Stmt} {c : Bool} {Φ : Flow → Shared → Prop} (ht : EvB C ρ own t c)
    (hb : c = true → Ex C ρ own b (Then C rest Φ)) (ho : c = false → Ex C ρ own o (Then C rest Φ)) : Ex C ρ own (.If t b o pos :: rest) Φ :=
  Ex.one fun s S => wpAny_If (wpAny_mono (ht s S) (fun v s₁ ⟨e, hc⟩ => by
    subst hc
    cases v with
    | true => exact hb rfl s₁ (S.eff e)
    | false => exact ho rfl s₁ (S.eff e)) fun _ _ x => x)

theorem Ex.aug {x : Str} {p pos : Pos} {op : Operator} {e : Expr} {rest : List Stmt} {da db d : D} {Φ : Flow → Shared → Prop} (hl : ρ.lookup x = some da) (he : Ev C ρ own e db) (ho : Op2 C own (inplaceOp op) da db d)
    (hr : Ex C ((x, d) :: ρ) own rest Φ) (hx : autoParam (storable C x = true) Mine.tacI) : Ex C ρ own (.AugAssign (.Name x p) op e pos :: rest) Φ :=
  Ex.one fun s S => wpAny_AugAssign_Name ((load_name S hl).2 _ _ fun a ra => wpAny_mono (he s S) (fun b s₁ ⟨e₁, r₁⟩ =>
    have S₁ := S.eff e₁
    wpAny_mono (ho s₁ a b S₁.good S₁.tabs S₁.live' S.ok.room (ra.eff S.tabs e₁) r₁) (fun v s₂ ⟨e₂, r₂⟩ => store_name (S₁.eff e₂) hx r₂ fun s₃ S₃ => hr s₃ S₃) fun _ _ x => x) fun _ _ x => x)
end
end Mine

end

-- part MH5
section
open PySem PySem.W PyProof.Rows PySem.Calls
set_option maxRecDepth 100000
set_option linter.unusedVariables false
namespace Mine

/-- a def's contract: read arguments ds give d -/
noncomputable def Fn (w : World) (q : Bool) (n : Nat) (f : Addr) (ds : List D) (d : D) : Prop :=
  ∀ (A : Around) (s : Shared) (F : Addr → Prop) (vs : List Value), Good w s.heap → Tabs s.heap → Room A n → (∀ a, F a → ¬ T2 a ∧ ∃ o, s.heap.get? a = some o ∧ NotRec o) → RdAll w s F vs ds →
    wpAny (model PG w) A (call (.ref f) vs) (fun v s' => Eff q s s' ∧ Rd w s' F v d) NoE s

/-- a def's own activation -/
noncomputable def mkC (w : World) (A : Around) (n : Nat) (q : Bool) (s : Shared) (F : Addr → Prop) (fd : FuncData) (f : Addr) : Cx where
  w := w
  A := A.deeper (callEnvC fd s.heap.objs.size f)
  n := n
  q := q
  s₀ := s
  F₀ := F
  X := fun _ => False
  env := callEnvC fd s.heap.objs.size f
  fresh := (fd.scope.names.filter fun x => x.2 == .cell).map (·.1)

/-- a def's end -/
noncomputable def Ret (C : Cx) (d : D) (f : Flow) (s : Shared) : Prop :=
  Eff C.q C.s₀ s ∧ Rd C.w s C.F₀ (match f with | .ret v => v | _ => .none) d

theorem bindL_other {k : Str → Option NameKind} {x : Str} : ∀ {r : List (Str × Value)} {m : Str → Option Value}, x ∉ r.map (·.1) → bindL k r m x = m x
  | [], _, _ => rfl
  | (n, v) :: r, m, h => by
    simp only [List.map_cons, List.mem_cons, not_or] at h
    unfold bindL
    rw [bindL_other h.2]
    split
    · simp [h.1]
    · rfl
theorem bindC_other {k : Str → Option NameKind} {x : Str} : ∀ {r : List (Str × Value)} {m : Str → Option Value}, x ∉ r.map (·.1) → bindC k r m x = m x
  | [], _, _ => rfl
  | (n, v) :: r, m, h => by
    simp only [List.map_cons, List.mem_cons, not_or] at h
    unfold bindC
    rw [bindC_other h.2]
    split
    · rfl
    · simp [h.1]
theorem bindL_get {k : Str → Option NameKind} {x : Str} {v : Value} : ∀ {r : List (Str × Value)} {m : Str → Option Value}, (r.map (·.1)).Nodup → r.lookup x = some v → k x = some .local → bindL k r m x = some v
  | (n, u) :: r, m, hn, hl, hk => by
    simp only [List.map_cons, List.nodup_cons] at hn
    unfold bindL
    by_cases hx : x = n
    · subst hx
      rw [lookup_cons_eq] at hl; cases hl
      rw [bindL_other hn.1, if_pos hk]; simp
    · rw [lookup_cons_ne hx] at hl
      exact bindL_get hn.2 hl hk
theorem bindC_get {k : Str → Option NameKind} {x : Str} {v : Value} : ∀ {r : List (Str × Value)} {m : Str → Option Value}, (r.map (·.1)).Nodup → r.lookup x = some v → k x ≠ some .local → bindC k r m x = some v
  | (n, u) :: r, m, hn, hl, hk => by
    simp only [List.map_cons, List.nodup_cons] at hn
    unfold bindC
    by_cases hx : x = n
    · subst hx
      rw [lookup_cons_eq] at hl; cases hl
      rw [bindC_other hn.1, if_neg hk]; simp
    · rw [lookup_cons_ne hx] at hl
      exact bindC_get hn.2 hl hk

theorem zip_lookup {w : World} {h : Shared} {F : Addr → Prop} {x : Str} {d : D} : ∀ {names : List Str} {vs : List Value} {ds : List D}, RdAll w h F vs ds → (names.zip ds).lookup x = some d → ∃ v, (names.zip vs).lookup x = some v ∧ Rd w h F v d
  | [], _, _, _, e => by simp at e
  | _ :: _, _, [], _, e => by simp at e
  | n :: names, vs, d' :: ds, r, e => by
    obtain ⟨v, vs', rfl, h1, h2⟩ := r.cons_inv
    simp only [List.zip_cons_cons] at e ⊢
    by_cases hx : x = n
    · subst hx
      rw [lookup_cons_eq] at e ⊢; cases e
      exact ⟨v, rfl, h1⟩
    · rw [lookup_cons_ne hx] at e ⊢
      exact zip_lookup h2 e

theorem size_gt {h : Heap} (t : Tabs h) : 54 < h.objs.size := by
  obtain ⟨ps, h1, _⟩ := t.t2
  exact Heap.lt_size h1

theorem get_none_of_le {h : Heap} {a : Addr} (ha : h.objs.size ≤ a) : h.get? a = none := by
  cases e : h.get? a with
  | none => rfl
  | some o => exact absurd (Heap.lt_size e) (Nat.not_lt.mpr ha)

theorem not_T2 {a : Addr} (h : 54 < a) : ¬ T2 a := by
  rintro (h1 | h1) <;> rw [h1] at h <;> exact absurd h (by decide)

/-- a def by its body's walk -/
theorem fn_of {w : World} {q : Bool} {n : Nat} {f : Addr} {ds dsAll : List D} {d : D} {oc : Value} {od : Option Addr} {fd : FuncData} {sl : Array (Option Value)} {body : List Stmt} (names : List Str)
    (hK : (KF w).lookup f = some ⟨oc, od, .func fd, sl⟩) (hb : fd.body = .stmts body) (hcl : fd.closure = []) (hgl : fd.globals = mainGlobals) (hbl : fd.builtins = builtinsNs)
    (hcd : codeIn (KF w) fd.code fd.qualname = true) (hco : fd.scope.isCoroutine = false) (hgen : fd.scope.isGenerator = false) (hk : fd.scope.kind = .function)
    (hnames : (names.all fun x => !(x == ("__debug__" : Str)) && (fd.scope.names.lookup x == some .local || (fd.scope.names.lookup x == some .cell && ((cellsFrom 0 fd.scope.names []).lookup x).isSome))) = true)
    (hnd : names.Nodup) (hlen : names.length = dsAll.length)
    (hbind : ∀ (s : Shared) (F : Addr → Prop) (vs : List Value), Good w s.heap → RdAll w s F vs ds → ∃ vs', BindsTo s fd ⟨vs, []⟩ (names.zip vs') ∧ RdAll w s F vs' dsAll)
    (h : ∀ A s F, Room A (n + 1) → Ex (mkC w A n q s F fd f) (names.zip dsAll) [] body (Ret (mkC w A n q s F fd f) d)) : Fn w q (n + 1) f ds d := by
  intro A s F vs G T R hF hv
  obtain ⟨vs', hb', hv'⟩ := hbind s F vs G hv
  have hlv : names.length = vs'.length := by rw [hlen, hv'.1]
  have hzn : ((names.zip vs').map (·.1)) = names := List.map_fst_zip (Nat.le_of_eq hlv)
  have hmem : ∀ y ∈ names.zip vs', (y.1 == ("__debug__" : Str)) = false ∧ (fd.scope.names.lookup y.1 = some .local ∨ (fd.scope.names.lookup y.1 = some .cell ∧ ∀ k, ((cellsFrom k fd.scope.names []).lookup y.1).isSome = true)) := fun y hy => by
    have hy' : y.1 ∈ names := hzn ▸ List.mem_map_of_mem (f := (·.1)) hy
    have := List.all_eq_true.mp hnames _ hy'
    simp only [Bool.and_eq_true, Bool.or_eq_true, Bool.not_eq_true', beq_iff_eq] at this
    exact ⟨this.1, this.2.imp id fun ⟨h1, h2⟩ => ⟨h1, fun k => cellsFrom_some _ _ _ (.inl h1)⟩⟩
  refine wpAny_call ?_
  refine codeAny_call_function (by have := R.2.1; omega) (G.K f _ hK) rfl hco hgen hb (codeRec_of G.K hcd) (hb' _ _ _ _ ?_)
  rw [hcl]
  refine wpAny_with_toks (n := s.toks) (Nat.le_refl _) (wpAny_newFunctionEnv_cells hk (fun y hy => (hmem y hy).2.imp id fun ⟨h1, h2⟩ => ⟨h1, h2 _⟩) fun env' he s' x hle => ?_)
  subst he
  have keep := x.toInCall.keep
  refine ⟨G.nolimit.keeps keep, codeAny_func ?_⟩
  have hz := size_gt T
  have hL : s.heap.get? s.heap.objs.size = none := get_none_of_le (Nat.le_refl _)
  have S : St (mkC w A n q s F fd f) (names.zip dsAll) [] s' := by
    refine ⟨⟨⟨s.heap, G, fun _ h => h.elim, fun _ _ _ e => e⟩, R.deeper, hk, hgl, hbl, hL, not_T2 hz, fun y c hc => ?_, fun y c hc => ?_, fun y c _ hc => ?_, fun y z c hy hz' => ?_, hF, fun _ h => h.elim⟩, ?_, fun a o _ _ e => keep a o e, fun _ _ h => h.elim, T.keep keep, hle, ⟨_, x.toInCall.ns⟩, fun y c hc => ⟨_, x.cell y c hc⟩, fun y e hy => ?_, (fun _ h => nomatch h), (fun _ h => nomatch h), List.nodup_nil⟩
    · exact Nat.ne_of_gt (x.above y c (mem_of_lookup hc))
    · exact not_T2 (Nat.lt_trans hz (x.above y c (mem_of_lookup hc)))
    · exact get_none_of_le (Nat.le_of_lt (x.above y c (mem_of_lookup hc)))
    · exact name_of_addr x.apart (mem_of_lookup hy) (mem_of_lookup hz')
    · obtain ⟨h', tk, rfl, _⟩ := x.done
      exact ⟨h', tk, rfl⟩
    · obtain ⟨v, hv1, hv2⟩ := zip_lookup (hv'.mono (s' := s') (F' := F) (fun a o hf _ e => ⟨keep a o e, hf⟩) hle) hy
      have hm := hmem _ (mem_of_lookup hv1)
      refine ⟨v, ⟨hm.1, ?_⟩, ?_⟩
      · rcases hm.2 with hl | ⟨hc, hs⟩
        · exact .inl ⟨hl, _, x.toInCall.ns, bindL_get (by rw [hzn]; exact hnd) hv1 hl⟩
        · obtain ⟨c, hc'⟩ := Option.isSome_iff_exists.mp (hs (s.heap.objs.size + 1))
          refine .inr ⟨.inl hc, c, hc', ?_⟩
          have := x.cell y c hc'
          rwa [bindC_get (by rw [hzn]; exact hnd) hv1 (by show fd.scope.names.lookup y ≠ _; rw [hc]; nofun)] at this
      · have hv3 : RdAll w s F vs' dsAll := hv'
        obtain ⟨v', hv1', hv2'⟩ := zip_lookup hv3 hy
        rw [hv1] at hv1'; cases hv1'
        refine hv2'.mono (fun a o hf _ e => ⟨keep a o e, ?_⟩) hle
        rintro (hq | rfl | ⟨z, hz'⟩ | hq)
        · exact hf hq.1
        · have e' : s.heap.get? s.heap.objs.size = some o := e
          rw [hL] at e'; cases e'
        · rw [get_none_of_le (Nat.le_of_lt (x.above z a (mem_of_lookup hz')))] at e; cases e
        · exact nomatch hq
  refine wpAny_mono (h A s F R s' S) (fun fl s'' hr => ?_) fun _ _ x => x.elim
  exact hr

section
variable {C : Cx} {ρ : List (Str × D)} {own : List Own}

theorem St.ret {s : Shared} (S : St C ρ own s) (hX : ∀ a, ¬ C.X a) : Eff C.q C.s₀ s := by
  refine ⟨S.same, fun a o hq e => S.keep a o (hX a) hq e, fun _ => S.tabs, S.tk⟩
theorem Rd.out {h : Shared} {v : Value} {d : D} (r : Rd C.w h (C.F own) v d) (hX : ∀ a, ¬ C.X a) : Rd C.w h C.F₀ v d := r.mono (fun a o hf _ e => ⟨e, fun hq => hf (.inl ⟨hq, hX a⟩)⟩) (Nat.le_refl _)

theorem Ex.retn {e : Expr} {pos : Pos} {rest : List Stmt} {d : D} (he : Ev C ρ own e d) (hX : ∀ a, ¬ C.X a) : Ex C ρ own (.Return (some e) pos :: rest) (Ret C d) :=
  Ex.ret he fun v s s' _ _ S' r => ⟨S'.ret hX, r.out hX⟩
theorem Ex.retnT {e : Expr} {pos : Pos} {rest rest' : List Stmt} {d : D} (he : Ev C ρ own e d) (hX : ∀ a, ¬ C.X a) : Ex C ρ own (.Return (some e) pos :: rest) (Then C rest' (Ret C d)) :=
  Ex.ret he fun v s s' _ _ S' r => ⟨S'.ret hX, r.out hX⟩

/-- a def of the text by its name -/
theorem Ev.gname {x : Str} {pos : Pos} {f : Addr} (hg : nsIn (KF C.w) mainGlobals x = some (some (.ref f))) (hk : autoParam (C.env.kindOf x = some .globalImplicit) Mine.tacI) (hd : autoParam ((x == ("__debug__" : Str)) = false) Mine.tacI) :
    Ev C ρ own (.Name x pos) (.addr f) := fun s S => by
  obtain ⟨mg, h1, _⟩ := S.good.ns
  refine Name_function_global S.ok.kind hk (loadGlobal_global (by rw [S.ok.glob]; exact h1) (mg_of S.good.K h1 hg) ⟨Eff.refl _ _, .addr _⟩) hd

theorem wp_evalArgs {f : Value} {pos : Pos} {es : List Expr} {ds : List D} {s : Shared} (S : St C ρ own s) (h : EvL C ρ own pos es ds) :
    wpAny C.M C.A (evalArgs f true (backTo pos (starEach es C.env)) []) (fun x s' => ∃ vs, x = ⟨vs, []⟩ ∧ Eff C.q s s' ∧ RdAll C.w s' (C.F own) vs ds) NoE s := by
  have k := h.2.2 s S
  rcases h.2.1 with ⟨rfl, rfl⟩ | ⟨e, r, he⟩
  · exact evalArgs_nil3 ⟨[], rfl, Eff.refl _ _, .nil⟩
  · rw [he] at k ⊢
    exact evalArgs_plain (wpAny_mono k (fun vs s' x => ⟨vs, rfl, x⟩) fun _ _ x => x)

/-- a call of a def of the text by its name -/
theorem Ev.call {x : Str} {p pos : Pos} {f : Addr} {args : List Expr} {ds : List D} {d : D} {q : Bool} {n : Nat} {oc : Value} {od : Option Addr} {fd : FuncData} {sl : Array (Option Value)}
    (hc : Fn C.w q n f ds d) (hg : nsIn (KF C.w) mainGlobals x = some (some (.ref f))) (hK : (KF C.w).lookup f = some ⟨oc, od, .func fd, sl⟩) (ha : EvL C ρ own pos args ds)
    (hq : autoParam ((q || !C.q) = true) Mine.tacI) (hn : autoParam (n ≤ C.n) Mine.tacA) (hk : autoParam (C.env.kindOf x = some .globalImplicit) Mine.tacI) (hd : autoParam ((x == ("__debug__" : Str)) = false) Mine.tacI) : Ev C ρ own (.Call (.Name x p) args [] pos) d := fun s S => by
  refine wpAny_Call_ofName (wpAny_mono (Ev.gname hg hk hd s S) (fun v s₁ ⟨e₁, r₁⟩ => ?_) fun _ _ x => x)
  rw [r₁.addr_inv]
  have S₁ := S.eff e₁
  show wpAny C.M C.A (callWith pos (.ref f) [] (backTo pos (starEach args C.env)) []) _ _ _
  refine callWith_function (o := ⟨oc, od, .func fd, sl⟩) (fd := fd) (wpAny_mono (wp_evalArgs S₁ ha) (fun x s₂ ⟨vs, hx, e₂, r₂⟩ => ?_) fun _ _ x => x)
  subst hx
  have S₂ := S₁.eff e₂
  refine ⟨⟨S₂.good.K f _ hK, rfl⟩, wpAny_mono (hc C.A s₂ (C.F own) _ S₂.good S₂.tabs (S.ok.room.le hn) (fun a h => S₂.fLive h) r₂) (fun v s₃ ⟨e₃, r₃⟩ => ⟨(e₁.trans e₂).trans ?_, r₃⟩) fun _ _ x => x⟩
  simp only [Bool.or_eq_true, Bool.not_eq_true'] at hq
  rcases hq with rfl | hq
  · exact e₃.quiet
  · rw [hq]
    exact ⟨e₃.1, fun a o h e => e₃.2.1 a o (.inr (h.resolve_left (by nofun))) e, e₃.2.2⟩
end
end Mine

end

-- part MH6
section
open PySem PySem.W PyProof.Rows PySem.Calls
set_option maxRecDepth 100000
set_option linter.unusedVariables false
namespace Mine

section
variable {C : Cx} {ρ : List (Str × D)} {own : List Own}

noncomputable def OpN (C : Cx) (own : List Own) (f : List Value → Sem Value) (ds : List D) (d : D) : Prop :=
  ∀ (s : Shared) (vs : List Value), Good C.w s.heap → Tabs s.heap → (∀ x, C.F own x → ∃ o, s.heap.get? x = some o) → Room C.A C.n → RdAll C.w s (C.F own) vs ds →
    wpAny C.M C.A (f vs) (fun v s' => Eff C.q s s' ∧ Rd C.w s' (C.F own) v d) NoE s

/-- a built-in name -/
structure BI (x : Str) (v : Value) : Prop where
  ne : x ≠ "__name__"
  db : (x == ("__debug__" : Str)) = false
  boot : bootBuiltins x = some v
  top : ∀ w, nsIn (KF w) mainGlobals x = some none

theorem load_bi {x : Str} {v : Value} {pos : Pos} (b : BI x v) (hk : C.env.kindOf x = some .globalImplicit) {s : Shared} (S : St C ρ own s) {Q E : Value → Shared → Prop} (h : Q v s) : wpAny C.M C.A (eval (.Name x pos) C.env) Q E s := by
  obtain ⟨mg, h1, _⟩ := S.good.ns
  obtain ⟨mb, h2, h3⟩ := S.good.b
  exact Name_function_global S.ok.kind hk (loadGlobal_builtin (by rw [S.ok.glob]; exact h1) (mg_none_of S.good.K h1 (b.top _)) (by rw [S.ok.blt]; exact h2) ((h3 x b.ne).trans b.boot) h) b.db

theorem Ev.bcall {x : Str} {p pos : Pos} {id : String} {args : List Expr} {ds : List D} {d : D} (b : BI x (.builtin id)) (ha : EvL C ρ own pos args ds) (hc : OpN C own (fun vs => PySem.call (.builtin id) vs) ds d)
    (hk : autoParam (C.env.kindOf x = some .globalImplicit) Mine.tacI) : Ev C ρ own (.Call (.Name x p) args [] pos) d := fun s S => by
  refine wpAny_Call_ofName (load_bi b hk S ?_)
  show wpAny C.M C.A (callWith pos (.builtin id) [] (backTo pos (starEach args C.env)) []) _ _ _
  refine callWith_builtin ha.1 (wpAny_mono (wp_evalArgs S ha) (fun x s₂ ⟨vs, hx, e₂, r₂⟩ => ?_) fun _ _ x => x)
  subst hx
  have S₂ := S.eff e₂
  exact wp_eff e₂ (hc s₂ vs S₂.good S₂.tabs S₂.live' S.ok.room r₂)

theorem Ev.tcall {x : Str} {p pos : Pos} {T : String} {args : List Expr} {ds : List D} {d : D} (b : BI x (.type T)) (ha : EvL C ρ own pos args ds) (hc : OpN C own (fun vs => PySem.call (.type T) vs) ds d)
    (hk : autoParam (C.env.kindOf x = some .globalImplicit) Mine.tacI) : Ev C ρ own (.Call (.Name x p) args [] pos) d := fun s S => by
  refine wpAny_Call_ofName (load_bi b hk S ?_)
  show wpAny C.M C.A (callWith pos (.type T) [] (backTo pos (starEach args C.env)) []) _ _ _
  refine PyProof.Rows.callWith_type ha.1 (wpAny_mono (wp_evalArgs S ha) (fun x s₂ ⟨vs, hx, e₂, r₂⟩ => ?_) fun _ _ x => x)
  subst hx
  have S₂ := S.eff e₂
  exact wp_eff e₂ (hc s₂ vs S₂.good S₂.tabs S₂.live' S.ok.room r₂)

/-- a method of a built-in type -/
noncomputable def GetM (C : Cx) (own : List Own) (d : D) (name : Str) (id : String) : Prop :=
  ∀ (s : Shared) (v : Value) (pl : Sem Bool) (Q : Value × List Value → Shared → Prop), Good C.w s.heap → Rd C.w s (C.F own) v d → Q (.builtin id, [v]) s → wpAny C.M C.A (getMethod v name pl) Q NoE s

theorem Ev.meth {o : Expr} {name : Str} {apos pos : Pos} {id : String} {args : List Expr} {d0 : D} {ds : List D} {d : D} {pl : Sem Bool} (ho : Ev C ρ own o d0) (hm : GetM C own d0 name id) (ha : EvL C ρ own pos args ds)
    (hc : OpN C own (fun vs => PySem.call (.builtin id) vs) (d0 :: ds) d)
    (he : autoParam (eval (.Call (.Attribute o name apos) args [] pos) C.env = (do
      let ov ← eval o C.env
      standAt apos.atName
      let (f, first) ← holding [ov] (getMethod ov name pl)
      callWith pos f first (backTo pos (starEach args C.env)) [])) Mine.tacI) : Ev C ρ own (.Call (.Attribute o name apos) args [] pos) d := fun s S => by
  refine MethodCall_ (pl := pl) (wpAny_mono (ho s S) (fun v s₁ ⟨e₁, r₁⟩ => ?_) fun _ _ x => x) he
  have S₁ := S.eff e₁
  refine hm s₁ v pl _ S₁.good r₁ ?_
  refine callWith_builtin ha.1 (wpAny_mono (wp_evalArgs S₁ ha) (fun x s₂ ⟨vs, hx, e₂, r₂⟩ => ?_) fun _ _ x => x)
  subst hx
  have S₂ := S₁.eff e₂
  exact wp_eff (e₁.trans e₂) (hc s₂ (v :: vs) S₂.good S₂.tabs S₂.live' S.ok.room (.cons (r₁.eff S₁.tabs e₂) r₂))
end

section
variable {C : Cx} {own : List Own} {a b : Int}

theorem op2_int {f : Value → Value → Sem Value} {d : D} (h : ∀ (s : Shared) (t u : Tok), wpAny C.M C.A (f (.int a t) (.int b u)) (fun v s' => Eff C.q s s' ∧ Rd C.w s' (C.F own) v d) NoE s) : Op2 C own f (.int a) (.int b) d := fun s x y _ _ _ _ rx ry => by
  obtain ⟨t, rfl⟩ := rx.int_inv
  obtain ⟨u, rfl⟩ := ry.int_inv
  exact h s t u

theorem o_add : Op2 C own (binaryOp .Add) (.int a) (.int b) (.int (a + b)) := op2_int fun s t u => by with_reducible exact PyProof.Rows.add_int ⟨Eff.tok, .int _ _⟩
theorem o_sub : Op2 C own (binaryOp .Sub) (.int a) (.int b) (.int (a - b)) := op2_int fun s t u => by with_reducible exact PyProof.Rows.sub_int ⟨Eff.tok, .int _ _⟩
theorem o_mul (h : IntMulOk a b) : Op2 C own (binaryOp .Mult) (.int a) (.int b) (.int (a * b)) := op2_int fun s t u => by with_reducible exact PyProof.Rows.mul_int ⟨Eff.tok, .int _ _⟩ h
theorem o_mod (h : b ≠ 0) : Op2 C own (binaryOp .Mod) (.int a) (.int b) (.int (a.fmod b)) := op2_int fun s t u => by with_reducible exact PyProof.Rows.mod_int' h ⟨Eff.tok, .int _ _⟩
theorem o_fdiv (h : b ≠ 0) (hp : Builtin.divisionGoesByPylong a b = false) : Op2 C own (binaryOp .FloorDiv) (.int a) (.int b) (.int (a.fdiv b)) := op2_int fun s t u => by with_reducible exact PyProof.Rows.floordiv_int h ⟨Eff.tok, .int _ _⟩ (.inl hp)
theorem o_pow (h : 0 ≤ b) (hz : (Builtin.Int.intBits a : Int) * b ≤ 2 ^ 27) : Op2 C own (binaryOp .Pow) (.int a) (.int b) (.int (a ^ b.toNat)) := op2_int fun s t u => by with_reducible exact PyProof.Rows.pow_int h hz ⟨Eff.tok, .int _ _⟩
theorem o_and : Op2 C own (binaryOp .BitAnd) (.int a) (.int b) (.int (Builtin.bitAnd a b)) := op2_int fun s t u => by with_reducible exact PyProof.Rows.and_int ⟨Eff.tok, .int _ _⟩
theorem o_or : Op2 C own (binaryOp .BitOr) (.int a) (.int b) (.int (Builtin.bitOr a b)) := op2_int fun s t u => by with_reducible exact PyProof.Rows.or_int ⟨Eff.tok, .int _ _⟩
theorem o_xor : Op2 C own (binaryOp .BitXor) (.int a) (.int b) (.int (Builtin.bitXor a b)) := op2_int fun s t u => by with_reducible exact PyProof.Rows.xor_int ⟨Eff.tok, .int _ _⟩
theorem o_shl (h : 0 ≤ b) (hz : (Builtin.Int.intBits a : Int) + b ≤ 2 ^ 27) : Op2 C own (binaryOp .LShift) (.int a) (.int b) (.int (a * 2 ^ b.toNat)) := op2_int fun s t u => by with_reducible exact PyProof.Rows.lshift_int h hz ⟨Eff.tok, .int _ _⟩
theorem o_shr (h : 0 ≤ b) : Op2 C own (binaryOp .RShift) (.int a) (.int b) (.int (a.fdiv (2 ^ b.toNat))) := op2_int fun s t u => by with_reducible exact PyProof.Rows.rshift_int h ⟨Eff.tok, .int _ _⟩
theorem o_iadd : Op2 C own (inplaceOp .Add) (.int a) (.int b) (.int (a + b)) := op2_int fun s t u => by with_reducible exact P.iadd_int ⟨Eff.tok, .int _ _⟩
theorem o_isub : Op2 C own (inplaceOp .Sub) (.int a) (.int b) (.int (a - b)) := op2_int fun s t u => by with_reducible exact P.isub_int ⟨Eff.tok, .int _ _⟩
theorem o_ishl (h : 0 ≤ b) (hz : (Builtin.Int.intBits a : Int) + b ≤ 2 ^ 27) : Op2 C own (inplaceOp .LShift) (.int a) (.int b) (.int (a * 2 ^ b.toNat)) := op2_int fun s t u => by with_reducible exact PyProof.Rows.ilshift_int h hz ⟨Eff.tok, .int _ _⟩
theorem o_ishr (h : 0 ≤ b) : Op2 C own (inplaceOp .RShift) (.int a) (.int b) (.int (a.fdiv (2 ^ b.toNat))) := op2_int fun s t u => by with_reducible exact PyProof.Rows.irshift_int h ⟨Eff.tok, .int _ _⟩
theorem o_eq : Op2 C own (compareOp .Eq) (.int a) (.int b) (.bool (a == b)) := op2_int fun s t u => by with_reducible exact P.eq_int ⟨Eff.refl _ _, .bool _⟩
theorem o_ne : Op2 C own (compareOp .NotEq) (.int a) (.int b) (.bool (a != b)) := op2_int fun s t u => by with_reducible exact P.ne_int ⟨Eff.refl _ _, .bool _⟩
theorem o_lt : Op2 C own (compareOp .Lt) (.int a) (.int b) (.bool (decide (a < b))) := op2_int fun s t u => by with_reducible exact P.lt_int ⟨Eff.refl _ _, .bool _⟩
theorem o_le : Op2 C own (compareOp .LtE) (.int a) (.int b) (.bool (decide (a ≤ b))) := op2_int fun s t u => by with_reducible exact P.le_int ⟨Eff.refl _ _, .bool _⟩
theorem o_gt : Op2 C own (compareOp .Gt) (.int a) (.int b) (.bool (decide (a > b))) := op2_int fun s t u => by with_reducible exact P.gt_int ⟨Eff.refl _ _, .bool _⟩
theorem o_ge : Op2 C own (compareOp .GtE) (.int a) (.int b) (.bool (decide (a ≥ b))) := op2_int fun s t u => by with_reducible exact P.ge_int ⟨Eff.refl _ _, .bool _⟩
theorem o_neg : Op1 C own (unaryOp .USub) (.int a) (.int (-a)) := fun s x _ _ _ _ rx => by
  obtain ⟨t, rfl⟩ := rx.int_inv
  with_reducible exact P.neg_int ⟨Eff.tok, .int _ _⟩
theorem o_inv : Op1 C own (unaryOp .Invert) (.int a) (.int (Builtin.bitNot a)) := fun s x _ _ _ _ rx => by
  obtain ⟨t, rfl⟩ := rx.int_inv
  with_reducible exact PyProof.Rows.invert_int ⟨Eff.tok, .int _ _⟩
theorem tr_int : Tr C own (.int a) (a != 0) := fun s x _ rx => by
  obtain ⟨t, rfl⟩ := rx.int_inv
  with_reducible exact P.truthy_int ⟨Eff.refl _ _, rfl⟩

theorem gm_bit_length : GetM C own (.int a) "bit_length" "int.bit_length" := fun s v pl Q _ r h => by
  obtain ⟨t, rfl⟩ := r.int_inv
  with_reducible exact getMethod_int_bit_length h
theorem c_bit_length : OpN C own (fun vs => PySem.call (.builtin "int.bit_length") vs) [.int a] (.int (Builtin.Int.intBits a)) := fun s vs _ _ _ _ r => by
  obtain ⟨v, vs', rfl, h1, h2⟩ := r.cons_inv
  obtain ⟨t, rfl⟩ := h1.int_inv
  obtain rfl := h2.nil_inv
  with_reducible exact call_int_bit_length ⟨Eff.tok, .int _ _⟩
theorem c_divmod (h : b ≠ 0) (hp : Builtin.divisionGoesByPylong a b = false) : OpN C own (fun vs => PySem.call (.builtin "divmod") vs) [.int a, .int b] (.tup [.int (a.fdiv b), .int (a.fmod b)]) := fun s vs _ _ hl _ r => by
  obtain ⟨v, vs', rfl, h1, h2⟩ := r.cons_inv
  obtain ⟨t, rfl⟩ := h1.int_inv
  obtain ⟨v, vs', rfl, h3, h4⟩ := h2.cons_inv
  obtain ⟨u, rfl⟩ := h3.int_inv
  obtain rfl := h4.nil_inv
  with_reducible refine divmod_int h ⟨Eff.push, ?_⟩ (.inl hp)
  refine RdAll.tup (vs := [_, _]) (.cons (.int _ _) (.cons (.int _ _) .nil)) ⟨_, Heap.get?_push_size _ rfl, rfl, 0, rfl⟩ fun hf => ?_
  obtain ⟨o, ho⟩ := hl _ hf
  exact absurd (Heap.lt_size ho) (Nat.lt_irrefl _)
end

theorem bi_divmod : BI "divmod" (.builtin "divmod") := ⟨by decide, by decide, PyProof.Rows.boot_divmod, fun w => by kernel_rfl⟩
theorem bi_len : BI "len" (.builtin "len") := ⟨by decide, by decide, bootS_len, fun w => by kernel_rfl⟩
end Mine

end

-- part MH7
section
open PySem PySem.W PyProof.Rows PySem.Calls
set_option maxRecDepth 100000
set_option linter.unusedVariables false
namespace Mine

noncomputable def pushAll : List Str → List D → List (Str × D) → List (Str × D)
  | x :: xs, d :: ds, ρ => pushAll xs ds ((x, d) :: ρ)
  | _, _, ρ => ρ

noncomputable def nameList : List Expr → Option (List Str)
  | [] => some []
  | .Name x _ :: r => (nameList r).map (x :: ·)
  | _ => none

theorem extBut_eff {q : Bool} {s : Shared} {h' : Heap} (he : Heap.ExtBut s.heap.objs.size s.heap h') : Eff q s { s with heap := h' } :=
  Eff.of (tk := s.toks) fun a o e => he a o (Nat.ne_of_lt (Heap.lt_size e)) e

section
variable {C : Cx} {own : List Own}

theorem assign_names {Q : Unit → Shared → Prop} : ∀ {elts : List Expr} {xs : List Str} {vs : List Value} {ds : List D} {ρ : List (Str × D)} {s : Shared}, St C ρ own s → nameList elts = some xs → xs.all (storable C) = true →
    RdAll C.w s (C.F own) vs ds → xs.length = ds.length → (∀ s', St C (pushAll xs ds ρ) own s' → Q () s') → wpAny C.M C.A (assignInOrder ((assignEach elts C.env).map (·.2)) vs) Q NoE s
  | [], xs, vs, ds, ρ, s, S, hn, hx, hr, hl, h => by
    cases hn
    obtain rfl : ds = [] := List.eq_nil_of_length_eq_zero hl.symm
    obtain rfl := hr.nil_inv
    exact assignInOrder_nil (h s S)
  | .Name x p :: r, xs, vs, ds, ρ, s, S, hn, hx, hr, hl, h => by
    simp only [nameList, Option.map_eq_some_iff] at hn
    obtain ⟨xs', hn', rfl⟩ := hn
    cases ds with
    | nil => exact absurd hl (by simp)
    | cons d ds =>
      obtain ⟨v, vs', rfl, h1, h2⟩ := hr.cons_inv
      simp only [List.all_cons, Bool.and_eq_true] at hx
      show wpAny _ _ (assignInOrder (assign (.Name x p) C.env :: (assignEach r C.env).map (·.2)) (v :: vs')) _ _ _
      refine assignInOrder_cons (wpAny_assign_Name (store_name' S hx.1 h1 fun s₁ S₁ k => ?_))
      exact assign_names S₁ hn' hx.2 ⟨h2.1, fun i v d a b => k v d (h2.2 i v d a b)⟩ (by simpa using hl) h
  | .BoolOp .. :: _, _, _, _, _, _, _, hn, _, _, _, _ | .NamedExpr .. :: _, _, _, _, _, _, _, hn, _, _, _, _ | .BinOp .. :: _, _, _, _, _, _, _, hn, _, _, _, _ | .UnaryOp .. :: _, _, _, _, _, _, _, hn, _, _, _, _
  | .Lambda .. :: _, _, _, _, _, _, _, hn, _, _, _, _ | .IfExp .. :: _, _, _, _, _, _, _, hn, _, _, _, _ | .Dict .. :: _, _, _, _, _, _, _, hn, _, _, _, _ | .Set .. :: _, _, _, _, _, _, _, hn, _, _, _, _
  | .ListComp .. :: _, _, _, _, _, _, _, hn, _, _, _, _ | .SetComp .. :: _, _, _, _, _, _, _, hn, _, _, _, _ | .DictComp .. :: _, _, _, _, _, _, _, hn, _, _, _, _ | .GeneratorExp .. :: _, _, _, _, _, _, _, hn, _, _, _, _
  | .Await .. :: _, _, _, _, _, _, _, hn, _, _, _, _ | .Yield .. :: _, _, _, _, _, _, _, hn, _, _, _, _ | .YieldFrom .. :: _, _, _, _, _, _, _, hn, _, _, _, _ | .Compare .. :: _, _, _, _, _, _, _, hn, _, _, _, _
  | .Call .. :: _, _, _, _, _, _, _, hn, _, _, _, _ | .FormattedValue .. :: _, _, _, _, _, _, _, hn, _, _, _, _ | .JoinedStr .. :: _, _, _, _, _, _, _, hn, _, _, _, _ | .Constant .. :: _, _, _, _, _, _, _, hn, _, _, _, _
  | .Attribute .. :: _, _, _, _, _, _, _, hn, _, _, _, _ | .Subscript .. :: _, _, _, _, _, _, _, hn, _, _, _, _ | .Starred .. :: _, _, _, _, _, _, _, hn, _, _, _, _ | .List .. :: _, _, _, _, _, _, _, hn, _, _, _, _
  | .Tuple .. :: _, _, _, _, _, _, _, hn, _, _, _, _ | .Slice .. :: _, _, _, _, _, _, _, hn, _, _, _, _ => by cases hn

theorem nameList_len {C : Cx} : ∀ {elts : List Expr} {xs : List Str}, nameList elts = some xs → (assignEach elts C.env).length = xs.length ∧ (assignEach elts C.env).findIdx? (·.1) = none
  | [], xs, h => by cases h; exact ⟨rfl, rfl⟩
  | e :: r, xs, h => by
    cases e <;> first | (cases h; done) | skip
    simp only [nameList, Option.map_eq_some_iff] at h
    obtain ⟨xs', h', rfl⟩ := h
    obtain ⟨a, b⟩ := nameList_len (C := C) h'
    refine ⟨?_, ?_⟩
    · show (assignEach r C.env).length + 1 = _
      simp [a]
    · show List.findIdx? (·.1) ((false, _) :: assignEach r C.env) = none
      rw [List.findIdx?_cons, b]; rfl

/-- targets unpack a tuple -/
theorem wp_unpack {elts : List Expr} {k : Nat} {tp : Pos} {xs : List Str} {ds : List D} {ρ : List (Str × D)} {s : Shared} {v : Value} {Q : Unit → Shared → Prop} (S : St C ρ own s) (hn : nameList elts = some xs) (hx : xs.all (storable C) = true)
    (hl : xs.length = ds.length) (hr : Rd C.w s (C.F own) v (.tup ds)) (h : ∀ s', St C (pushAll xs ds ρ) own s' → Q () s') : wpAny C.M C.A (assign (.Tuple elts k tp) C.env v) Q NoE s := by
  obtain ⟨a, vs, rfl, ht, hf, r⟩ := hr.tup_inv
  obtain ⟨n1, n2⟩ := nameList_len (C := C) hn
  refine assign_Tuple_tuple S.ok.room.1 ht (by rw [n1, hl, List.size_toArray, r.1]) n2 fun h' he => ?_
  have e := extBut_eff (q := C.q) he
  exact assign_names (S.eff e) hn hx (by simpa using r.eff S.tabs e) hl h

theorem Ex.unpack {elts : List Expr} {k : Nat} {tp pos : Pos} {e : Expr} {rest : List Stmt} {xs : List Str} {ds : List D} {ρ ρ' : List (Str × D)} {Φ : Flow → Shared → Prop} (he : Ev C ρ own e (.tup ds)) (hr : Ex C ρ' own rest Φ)
    (hρ : pushAll xs ds ρ = ρ') (hn : autoParam (nameList elts = some xs) Mine.tacI) (hx : autoParam (xs.all (storable C) = true) Mine.tacI) (hl : autoParam (xs.length = ds.length) Mine.tacI)
    (hs : autoParam (swapsWithSole [.Tuple elts k tp] e pos.line C.env = pure false) Mine.tacI) (hw : autoParam (swappedStores [.Tuple elts k tp] e C.env = pure none) Mine.tacI) : Ex C ρ own (.Assign [.Tuple elts k tp] e pos :: rest) Φ :=
  Ex.one fun s S => Assign_Tuple (wpAny_mono (he s S) (fun v s₁ ⟨e₁, r₁⟩ => wp_unpack (S.eff e₁) hn hx hl r₁ fun s₂ S₂ => hr s₂ (hρ ▸ S₂)) fun _ _ x => x) hs hw

/-- the names bound from the last to the first -/
theorem assign_back {Q : Unit → Shared → Prop} : ∀ {xs : List Str} {vs : List Value} {ds : List D} {ρ : List (Str × D)} {s : Shared}, St C ρ own s → xs.all (storable C) = true →
    RdAll C.w s (C.F own) vs ds → xs.length = ds.length → (∀ s', St C (pushAll xs ds ρ) own s' → Q () s') → wpAny C.M C.A (assignInOrder (xs.map fun n => bindName C.env n) vs) Q NoE s
  | [], vs, ds, ρ, s, S, hx, hr, hl, h => by
    obtain rfl : ds = [] := List.eq_nil_of_length_eq_zero hl.symm
    obtain rfl := hr.nil_inv
    exact assignInOrder_nil (h s S)
  | x :: xs, vs, ds, ρ, s, S, hx, hr, hl, h => by
    cases ds with
    | nil => exact absurd hl (by simp)
    | cons d ds =>
      obtain ⟨v, vs', rfl, h1, h2⟩ := hr.cons_inv
      simp only [List.all_cons, Bool.and_eq_true] at hx
      exact assignInOrder_cons (wpAny_bindName (store_name' S hx.1 h1 fun s₁ S₁ k => assign_back S₁ hx.2 ⟨h2.1, fun i v d a b => k v d (h2.2 i v d a b)⟩ (by simpa using hl) h))

theorem RdAll.reverse {w : World} {h : Shared} {F : Addr → Prop} {vs : List Value} {ds : List D} (r : RdAll w h F vs ds) : RdAll w h F vs.reverse ds.reverse := by
  induction vs generalizing ds with
  | nil => cases ds with
    | nil => exact r
    | cons d ds => exact absurd r.1 (by simp)
  | cons v vs ih => cases ds with
    | nil => exact absurd r.1 (by simp)
    | cons d ds =>
      obtain ⟨_, _, e, h1, h2⟩ := r.cons_inv
      injection e with e1 e2; subst e1 e2
      simp only [List.reverse_cons]
      exact (ih h2).append (.cons h1 .nil)

theorem Ex.unpackS {elts : List Expr} {k : Nat} {tp pos : Pos} {e : Expr} {rest : List Stmt} {names : List Str} {ds : List D} {ρ ρ' : List (Str × D)} {Φ : Flow → Shared → Prop} (he : Ev C ρ own e (.tup ds)) (hr : Ex C ρ' own rest Φ)
    (hρ : pushAll names.reverse ds.reverse ρ = ρ') (hw : autoParam (swappedStores [.Tuple elts k tp] e C.env = pure (some names)) Mine.tacI) (hx : autoParam (names.reverse.all (storable C) = true) Mine.tacI) (hl : autoParam (names.length = ds.length) Mine.tacI)
    (hs : autoParam (swapsWithSole [.Tuple elts k tp] e pos.line C.env = pure false) Mine.tacI) : Ex C ρ own (.Assign [.Tuple elts k tp] e pos :: rest) Φ :=
  Ex.one fun s S => Assign_Tuple_swapped (wpAny_mono (he s S) (fun v s₁ ⟨e₁, r₁⟩ => by
    obtain ⟨a, vs, rfl, ht, hf, r⟩ := r₁.tup_inv
    have S₁ := S.eff e₁
    have hz : names.length = vs.toArray.size := by rw [hl, List.size_toArray, r.1]
    rw [hz]
    refine unpackItems_tuple S.ok.room.1 ht fun h' hx' => ?_
    have e₂ := extBut_eff (q := C.q) hx'
    exact assign_back (S₁.eff e₂) hx (by simpa using (r.eff S₁.tabs e₂).reverse) (by simp [hl]) fun s₃ S₃ => hr s₃ (hρ ▸ S₃)) fun _ _ x => x) hs hw
end
end Mine

end

-- part MH8
section
open PySem PySem.W PyProof.Rows PySem.Calls
set_option maxRecDepth 100000
set_option linter.unusedVariables false
namespace Mine

/-- every entry of the first stands in the second -/
noncomputable def Sub : List (Str × D) → List (Str × D) → Prop
  | [], _ => True
  | (x, d) :: r, ρ => ρ.lookup x = some d ∧ Sub r ρ

theorem Sub.get {x : Str} {d : D} : ∀ {ρ' ρ : List (Str × D)}, Sub ρ' ρ → ρ'.lookup x = some d → ρ.lookup x = some d
  | (y, e) :: r, ρ, h, hx => by
    by_cases hy : x = y
    · subst hy
      rw [lookup_cons_eq] at hx; cases hx; exact h.1
    · rw [lookup_cons_ne hy] at hx
      exact Sub.get h.2 hx

section
variable {C : Cx} {ρ ρ' : List (Str × D)} {own own' : List Own} {s s' : Shared}

theorem St.sub (S : St C ρ own s) (h : Sub ρ' ρ) : St C ρ' own s :=
  ⟨S.ok, S.same, S.keep, S.live, S.tabs, S.tk, S.ns, S.cells, fun x d hx => S.vars x d (h.get hx), S.owns, S.ownNew, S.nodup⟩

theorem Ex.sub {b : List Stmt} {Φ : Flow → Shared → Prop} (h : Ex C ρ' own b Φ) (hs : Sub ρ' ρ) : Ex C ρ own b Φ := fun s S => h s (S.sub hs)
theorem F_mono (h : ∀ a, a ∈ ownA own' → a ∈ ownA own) {a : Addr} (hf : C.F own' a) : C.F own a := hf.imp id fun x => x.imp id fun y => y.imp id (h a)

/-- another list of owned objects: a part of the first, in any order -/
theorem St.owns' (S : St C ρ own s) (hm : ∀ x, x ∈ own' → x ∈ own) (hn : (ownA own').Nodup) : St C ρ own' s := by
  have ha : ∀ a, a ∈ ownA own' → a ∈ ownA own := fun a h => by
    obtain ⟨x, hx, e⟩ := List.mem_filterMap.mp h
    exact List.mem_filterMap.mpr ⟨x, hm x hx, e⟩
  have kr : ∀ a o, ¬ C.F own a → Solid o → s.heap.get? a = some o → s.heap.get? a = some o ∧ ¬ C.F own' a := fun a o hf _ e => ⟨e, fun h => hf (F_mono ha h)⟩
  exact ⟨S.ok, S.same, S.keep, S.live, S.tabs, S.tk, S.ns, S.cells, fun x d hx => let ⟨v, h1, h2⟩ := S.vars x d hx; ⟨v, h1, h2.mono kr (Nat.le_refl _)⟩,
    fun x hx => (S.owns x (hm x hx)).mono (fun _ _ _ e => e) kr (Nat.le_refl _), fun a h => S.ownNew a (ha a h), hn⟩

theorem St.drop {x : Own} (S : St C ρ (x :: own) s) : St C ρ own s :=
  S.owns' (fun _ h => .tail _ h) (by
    have := S.nodup
    unfold ownA at this ⊢
    rw [List.filterMap_cons] at this
    split at this
    · exact this
    · exact (List.nodup_cons.mp this).2)

theorem St.dropN (S : St C ρ (own' ++ own) s) : St C ρ own s := by
  induction own' with
  | nil => exact S
  | cons x r ih => exact ih S.drop

theorem St.perm (S : St C ρ own s) (h : own.Perm own') : St C ρ own' s :=
  S.owns' (fun x hx => h.mem_iff.mpr hx) (((h.filterMap Own.addr?).nodup_iff).mp S.nodup)

theorem St.none_old (S : St C ρ own s) {a : Addr} (h : s.heap.get? a = none) : C.s₀.heap.get? a = none ∧ ¬ T2 a ∧ a ≠ C.env.locals ∧ (∀ x, C.env.cells.lookup x ≠ some a) ∧ a ∉ ownA own := by
  have hF : ¬ C.F own a := fun hf => by obtain ⟨_, o, ho, _⟩ := S.fLive hf; rw [h] at ho; cases ho
  have hT : ¬ T2 a := by
    rintro (rfl | rfl)
    · obtain ⟨ps, h1, _⟩ := S.tabs.t1; rw [h] at h1; cases h1
    · obtain ⟨ps, h1, _⟩ := S.tabs.t2; rw [h] at h1; cases h1
  refine ⟨?_, hT, fun q => hF (.inr (.inl q)), fun x q => hF (.inr (.inr (.inl ⟨x, q⟩))), fun q => hF (.inr (.inr (.inr q)))⟩
  cases e : C.s₀.heap.get? a with
  | none => rfl
  | some o =>
    by_cases hx : C.X a
    · obtain ⟨o', ho'⟩ := S.live a o hx e; rw [h] at ho'; cases ho'
    · have := S.keep a o hx (.inr hT) e; rw [h] at this; cases this

/-- a new object is the activation's own -/
theorem St.add {x : Own} {a : Addr} (S : St C ρ own s) (hn : s.heap.get? a = none) (e : Eff C.q s s') (hx : x.addr? = some a) (hk : OwnOk C.w s' (C.F (x :: own)) x) : St C ρ (x :: own) s' := by
  have S' := S.eff e
  obtain ⟨h1, h2, h3, h4, h5⟩ := S.none_old hn
  have hA : ownA (x :: own) = a :: ownA own := by unfold ownA; rw [List.filterMap_cons_some hx]
  have kr : ∀ b o, ¬ C.F own b → Solid o → s.heap.get? b = some o → s'.heap.get? b = some o ∧ ¬ C.F (x :: own) b := fun b o hf hc hb => by
    refine ⟨(keep_rd S.tabs e (C.F own) b o hf hc hb).1, fun q => ?_⟩
    rcases q with q | q | q | q
    · exact hf (.inl q)
    · exact hf (.inr (.inl q))
    · exact hf (.inr (.inr (.inl q)))
    · rw [hA] at q
      rcases List.mem_cons.mp q with rfl | q
      · rw [hn] at hb; cases hb
      · exact hf (.inr (.inr (.inr q)))
  refine ⟨S.ok, S'.same, S'.keep, S'.live, S'.tabs, S'.tk, S'.ns, S'.cells, fun y d hy => ?_, fun y hy => ?_, fun b hb => ?_, by rw [hA]; exact List.nodup_cons.mpr ⟨h5, S.nodup⟩⟩
  · obtain ⟨v, hv, hr⟩ := S.vars y d hy
    obtain ⟨m, hm⟩ := S.ns
    refine ⟨v, ⟨hv.1, hv.2.imp (fun ⟨h1, m, h2, h3⟩ => ⟨h1, m, ns_at h2 fun o q => e.2.1 _ o (.inr S.ok.locT) q, h3⟩) fun ⟨h1, c, h2, o, h3, h4⟩ => ⟨h1, c, h2, o, e.2.1 _ _ (.inr (S.ok.cellT y c h2)) h3, h4⟩⟩, hr.mono kr e.2.2.2⟩
  · rcases List.mem_cons.mp hy with rfl | hy
    · exact hk
    · exact (S.owns y hy).mono (fun b hb o ho => e.2.1 b o (.inr (S.ownNew b (List.mem_filterMap.mpr ⟨y, hy, hb⟩)).2.2.1) ho) kr e.2.2.2
  · rw [hA] at hb
    rcases List.mem_cons.mp hb with rfl | hb
    · exact ⟨.inl h1, h3, h2, h4⟩
    · exact S.ownNew b hb

/-- the head's object is changed, all else stands -/
theorem St.set {x x' : Own} {a : Addr} {h' : Heap} {tk : Nat} (S : St C ρ (x :: own) s) (hx : x.addr? = some a) (hx' : x'.addr? = some a) (hs : ∀ b o, b ≠ a → s.heap.get? b = some o → h'.get? b = some o)
    (hD : ∀ o vs q t, s.heap.get? a = some o → o.data = .fields vs → vs[1]? ≠ some (.str q t)) (hk : OwnOk C.w { s with heap := h', toks := tk } (C.F (x :: own)) x') (ht : autoParam (s.toks ≤ tk) Mine.tacD) : St C ρ (x' :: own) { s with heap := h', toks := tk } := by
  have hA : ownA (x :: own) = a :: ownA own := by unfold ownA; rw [List.filterMap_cons_some hx]
  have hA' : ownA (x' :: own) = a :: ownA own := by unfold ownA; rw [List.filterMap_cons_some hx']
  have hF : C.F (x' :: own) = C.F (x :: own) := by unfold Cx.F; rw [hA, hA']
  have hFa : C.F (x :: own) a := .inr (.inr (.inr (by rw [hA]; exact .head _)))
  have hnew := S.ownNew a (by rw [hA]; exact .head _)
  have kr : ∀ b o, ¬ C.F (x :: own) b → Solid o → s.heap.get? b = some o → h'.get? b = some o ∧ ¬ C.F (x :: own) b := fun b o hf _ e => ⟨hs b o (by rintro rfl; exact hf hFa) e, hf⟩
  have ne : ∀ b o, C.s₀.heap.get? b = some o → ¬ C.X b → b ≠ a := fun b o e hX => by
    rintro rfl
    rcases hnew.1 with q | q
    · rw [q] at e; cases e
    · exact hX q
  refine ⟨S.ok, ?_, fun b o hX hq e => hs b o (ne b o e hX) (S.keep b o hX hq e), fun b o hX e => ?_, ?_, Nat.le_trans S.tk ht, ?_, fun y c hc => ?_, fun y d hy => ?_, fun y hy => ?_, fun b hb => ?_, by rw [hA', ← hA]; exact S.nodup⟩
  · obtain ⟨h, t, rfl⟩ := S.same
    exact ⟨_, _, rfl⟩
  · by_cases hba : b = a
    · subst hba
      exact hk.there hx'
    · obtain ⟨o', ho'⟩ := S.live b o hX e
      exact ⟨o', hs b o' hba ho'⟩
  · have k : ∀ P, T2 P → ∀ o, s.heap.get? P = some o → h'.get? P = some o := fun P hP o e => hs P o (by rintro rfl; exact hnew.2.2.1 hP) e
    have k2 : ∀ b o vs, o.data = .fields vs → (∃ q t, vs[1]? = some (.str q t)) → s.heap.get? b = some o → h'.get? b = some o := fun b o vs hd ⟨q, t, hv⟩ e =>
      hs b o (by rintro rfl; exact hD o vs q t e hd hv) e
    exact ⟨S.tabs.t1.keep (k 47 (.inl rfl)) k2, S.tabs.t2.keep (k 54 (.inr rfl)) k2⟩
  · obtain ⟨m, hm⟩ := S.ns
    exact ⟨m, ns_at hm fun o e => hs _ o (Ne.symm hnew.2.1) e⟩
  · obtain ⟨v, o, ho, r⟩ := S.cells y c hc
    exact ⟨v, o, hs _ o (by rintro rfl; exact hnew.2.2.2 y hc) ho, r⟩
  · rw [hF]
    obtain ⟨v, hv, hr⟩ := S.vars y d hy
    exact ⟨v, ⟨hv.1, hv.2.imp (fun ⟨h1, m, h2, h3⟩ => ⟨h1, m, ns_at h2 fun o e => hs _ o (Ne.symm hnew.2.1) e, h3⟩) fun ⟨h1, c, h2, o, h3, h4⟩ => ⟨h1, c, h2, o, hs _ o (by rintro rfl; exact hnew.2.2.2 y h2) h3, h4⟩⟩, hr.mono kr ht⟩
  · rw [hF]
    rcases List.mem_cons.mp hy with rfl | hy
    · exact hk
    · refine (S.owns y (.tail _ hy)).mono (fun b hb o e => hs b o (fun q => ?_) e) kr ht
      subst q
      have := S.nodup
      rw [hA] at this
      exact (List.nodup_cons.mp this).1 (List.mem_filterMap.mpr ⟨y, hy, hb⟩)
  · rw [hA', ← hA] at hb
    exact S.ownNew b hb
end

section
variable {C : Cx} {ρ : List (Str × D)} {own R : List Own}

/-- a while by its states a, a measure -/
theorem Ex.while {α : Type} {test : Expr} {body rest : List Stmt} {pos : Pos} {Φ : Flow → Shared → Prop} (P : α → Prop) (I : α → List (Str × D)) (O : α → List Own) (m : α → Nat) (t : α → Bool) (a₀ : α)
    (h0 : P a₀) (hs : Sub (I a₀) ρ) (ho : O a₀ = own) (ht : ∀ a, P a → EvB C (I a) (O a) test (t a))
    (hb : ∀ a, P a → t a = true → Ex C (I a) (O a) body (fun f s' => match f with
      | .next | .cont => ∃ a', m a' < m a ∧ P a' ∧ St C (I a') (O a') s'
      | .brk => wpAny C.M C.A (execs rest C.env) Φ NoE s'
      | .ret v => Φ (.ret v) s'))
    (hr : ∀ a, P a → t a = false → Ex C (I a) (O a) rest Φ) : Ex C ρ own (.While test body [] pos :: rest) Φ :=
  Ex.one fun s S => by
    refine wpAny_While (codeAny_mono (R := fun r s' => match r with | .ok f => Then C rest Φ f s' | .error _ => False) (codeAny_whileLoop (fun n s => ∃ a, m a = n ∧ P a ∧ St C (I a) (O a) s) (fun n s ⟨a, hm, hP, Sa⟩ => ?_) (m a₀) ⟨a₀, rfl, h0, by subst ho; exact S.sub hs⟩) fun r s' h => ?_)
    · refine wpAny_mono (ht a hP s Sa) (fun b s₂ ⟨e, hb'⟩ => ?_) fun _ _ x => x.elim
      subst hb'
      cases hta : t a with
      | true =>
        simp only [if_true]
        refine wpAny_mono (hb a hP hta s₂ (Sa.eff e)) (fun f s₃ h => ?_) fun _ _ x => x.elim
        cases f with
        | next => obtain ⟨a', h1, h2, h3⟩ := h; exact ⟨m a', hm ▸ h1, a', rfl, h2, h3⟩
        | cont => obtain ⟨a', h1, h2, h3⟩ := h; exact ⟨m a', hm ▸ h1, a', rfl, h2, h3⟩
        | brk => exact h
        | ret v => exact h
      | false =>
        simp only [Bool.false_eq_true, if_false]
        exact wpAny_execs_nil (hr a hP hta s₂ (Sa.eff e))
    · cases r with
      | ok f => exact h
      | error e => exact h.elim
end
end Mine

end

-- part P1
section
open PySem PySem.W PyProof.Rows PySem.Calls
set_option maxRecDepth 100000
set_option linter.unusedVariables false
namespace Mine

theorem bitAnd_nat (x y : Nat) : Builtin.bitAnd (x : Int) (y : Int) = ((x &&& y : Nat) : Int) := by
  unfold Builtin.bitAnd
  have h1 : decide (0 ≤ (x : Int)) = true := by simp
  have h2 : decide (0 ≤ (y : Int)) = true := by simp
  rw [h1, h2]; simp

theorem bitAnd_mask {x : Int} {h : Nat} (hx : 0 ≤ x) : Builtin.bitAnd x (2 ^ h - 1) = x % 2 ^ h := by
  obtain ⟨n, rfl⟩ := Int.eq_ofNat_of_zero_le hx
  have e : ((2 : Int) ^ h - 1) = ((2 ^ h - 1 : Nat) : Int) := by
    have : 0 < 2 ^ h := Nat.two_pow_pos h
    rw [Int.natCast_sub this]; simp
  rw [e, bitAnd_nat, Nat.and_two_pow_sub_one_eq_mod]
  simp

theorem bitOr_nat (x y : Nat) : Builtin.bitOr (x : Int) (y : Int) = ((x ||| y : Nat) : Int) := by
  unfold Builtin.bitOr Builtin.bitAnd Builtin.bitNot
  have h1 : decide (0 ≤ -(x : Int) - 1) = false := by simp; omega
  have h2 : decide (0 ≤ -(y : Int) - 1) = false := by simp; omega
  rw [h1, h2]
  have e1 : (-(-(x : Int) - 1) - 1).toNat = x := by omega
  have e2 : (-(-(y : Int) - 1) - 1).toNat = y := by omega
  simp only [e1, e2]
  omega

theorem bitOr_shift {x y : Int} {h : Nat} (hx : 0 ≤ x) (hy : 0 ≤ y) (hl : y < 2 ^ h) : Builtin.bitOr (x * 2 ^ h) y = x * 2 ^ h + y := by
  obtain ⟨n, rfl⟩ := Int.eq_ofNat_of_zero_le hx
  obtain ⟨m, rfl⟩ := Int.eq_ofNat_of_zero_le hy
  have hl' : m < 2 ^ h := by
    have : ((2 : Int) ^ h) = ((2 ^ h : Nat) : Int) := by simp
    rw [this] at hl; exact Int.ofNat_lt.mp hl
  have e : (n : Int) * 2 ^ h = ((n * 2 ^ h : Nat) : Int) := by simp
  rw [e, bitOr_nat]
  have : n * 2 ^ h ||| m = n * 2 ^ h + m := by
    have := Nat.shiftLeft_add_eq_or_of_lt hl' n
    rw [Nat.shiftLeft_eq] at this
    exact this.symm
  rw [this]; simp

theorem intBits_le_iff' {m : Nat} {x : Int} : Builtin.Int.intBits x ≤ m ↔ x.natAbs < 2 ^ m := PySem.intBits_le_iff

theorem bits_lt {x : Int} {m : Nat} (h0 : 0 ≤ x) (h : x < 2 ^ m) : Builtin.Int.intBits x ≤ m := by
  rw [intBits_le_iff']
  have e : ((2 : Int) ^ m) = ((2 ^ m : Nat) : Int) := by simp
  rw [e] at h
  omega
theorem lt_bits {x : Int} {m : Nat} (h0 : 0 ≤ x) (h : Builtin.Int.intBits x ≤ m) : x < 2 ^ m := by
  rw [intBits_le_iff'] at h
  have e : ((2 : Int) ^ m) = ((2 ^ m : Nat) : Int) := by simp
  rw [e]
  omega
theorem shl_ok {x : Int} {m h : Nat} (h1 : Builtin.Int.intBits x ≤ m) (h2 : m + h ≤ 2 ^ 27) : (Builtin.Int.intBits x : Int) + (h : Int) ≤ 2 ^ 27 := by omega
theorem two_pow_pos (h : Nat) : (0 : Int) < 2 ^ h := Int.pow_pos (by decide)
end Mine

end

-- part MK1
section
open PySem PySem.W PyProof.Rows PySem.Calls
set_option maxRecDepth 100000
set_option linter.unusedVariables false
namespace Mine

set_option genInjectivity false in
structure FnK (f : Addr) where
  fd : FuncData
  body : List Stmt
  hK : ∀ w, (KF w).lookup f = some ⟨.type "function", none, .func fd, #[]⟩
  hb : fd.body = .stmts body
  hcl : fd.closure = []
  hgl : fd.globals = mainGlobals
  hbl : fd.builtins = builtinsNs
  hcd : ∀ w, codeIn (KF w) fd.code fd.qualname = true
  hco : fd.scope.isCoroutine = false
  hgen : fd.scope.isGenerator = false
  hk : fd.scope.kind = .function

noncomputable def k38 : FnK 38 := ⟨_, _, fun w => by rfl, by rfl, by rfl, by rfl, by rfl, fun w => by kernel_rfl, by rfl, by rfl, by rfl⟩
noncomputable def k45 : FnK 45 := ⟨_, _, fun w => by rfl, by rfl, by rfl, by rfl, by rfl, fun w => by kernel_rfl, by rfl, by rfl, by rfl⟩
theorem g38 : ∀ w, nsIn (KF w) mainGlobals "_div2n1n" = some (some (.ref 38)) := fun w => by kernel_rfl
theorem g45 : ∀ w, nsIn (KF w) mainGlobals "_div3n2n" = some (some (.ref 45)) := fun w => by kernel_rfl
end Mine

end

-- part MK2
section
open PySem PySem.W PyProof.Rows PySem.Calls
set_option maxRecDepth 100000
set_option linter.unusedVariables false
namespace Mine

theorem FnK.fn {w : World} {q : Bool} {n : Nat} {f : Addr} {ds dsAll : List D} {d : D} (k : FnK f) (names : List Str)
    (hnames : (names.all fun x => !(x == ("__debug__" : Str)) && (k.fd.scope.names.lookup x == some .local || (k.fd.scope.names.lookup x == some .cell && ((cellsFrom 0 k.fd.scope.names []).lookup x).isSome))) = true)
    (hnd : names.Nodup) (hlen : names.length = dsAll.length)
    (hbind : ∀ (s : Shared) (F : Addr → Prop) (vs : List Value), Good w s.heap → RdAll w s F vs ds → ∃ vs', BindsTo s k.fd ⟨vs, []⟩ (names.zip vs') ∧ RdAll w s F vs' dsAll)
    (h : ∀ A s F, Room A (n + 1) → Ex (mkC w A n q s F k.fd f) (names.zip dsAll) [] k.body (Ret (mkC w A n q s F k.fd f) d)) : Fn w q (n + 1) f ds d :=
  fn_of names (k.hK w) k.hb k.hcl k.hgl k.hbl (k.hcd w) k.hco k.hgen k.hk hnames hnd hlen hbind h

section
variable {w : World} {fd : FuncData} {names : List Str} {s : Shared} {F : Addr → Prop} {vs : List Value}
theorem bind1 {d1 : D} (h : ∀ a, bindArgs fd ⟨[a], []⟩ = pure (names.zip [a])) : ∀ (s : Shared) (F : Addr → Prop) (vs : List Value), Good w s.heap → RdAll w s F vs [d1] → ∃ vs', BindsTo s fd ⟨vs, []⟩ (names.zip vs') ∧ RdAll w s F vs' [d1] := fun s F vs _ r => by
  have r' := r
  obtain ⟨v1, _, rfl, _, r⟩ := r.cons_inv
  obtain rfl := r.nil_inv
  exact ⟨_, BindsTo.of_eq (h _), r'⟩
theorem bind2 {d1 d2 : D} (h : ∀ a b, bindArgs fd ⟨[a, b], []⟩ = pure (names.zip [a, b])) : ∀ (s : Shared) (F : Addr → Prop) (vs : List Value), Good w s.heap → RdAll w s F vs [d1, d2] → ∃ vs', BindsTo s fd ⟨vs, []⟩ (names.zip vs') ∧ RdAll w s F vs' [d1, d2] := fun s F vs _ r => by
  have r' := r
  obtain ⟨v1, _, rfl, _, r⟩ := r.cons_inv
  obtain ⟨v2, _, rfl, _, r⟩ := r.cons_inv
  obtain rfl := r.nil_inv
  exact ⟨_, BindsTo.of_eq (h _ _), r'⟩
theorem bind3 {d1 d2 d3 : D} (h : ∀ a b c, bindArgs fd ⟨[a, b, c], []⟩ = pure (names.zip [a, b, c])) : ∀ (s : Shared) (F : Addr → Prop) (vs : List Value), Good w s.heap → RdAll w s F vs [d1, d2, d3] → ∃ vs', BindsTo s fd ⟨vs, []⟩ (names.zip vs') ∧ RdAll w s F vs' [d1, d2, d3] := fun s F vs _ r => by
  have r' := r
  obtain ⟨v1, _, rfl, _, r⟩ := r.cons_inv
  obtain ⟨v2, _, rfl, _, r⟩ := r.cons_inv
  obtain ⟨v3, _, rfl, _, r⟩ := r.cons_inv
  obtain rfl := r.nil_inv
  exact ⟨_, BindsTo.of_eq (h _ _ _), r'⟩
theorem bind6 {d1 d2 d3 d4 d5 d6 : D} (h : ∀ a b c d e f, bindArgs fd ⟨[a, b, c, d, e, f], []⟩ = pure (names.zip [a, b, c, d, e, f])) : ∀ (s : Shared) (F : Addr → Prop) (vs : List Value), Good w s.heap → RdAll w s F vs [d1, d2, d3, d4, d5, d6] → ∃ vs', BindsTo s fd ⟨vs, []⟩ (names.zip vs') ∧ RdAll w s F vs' [d1, d2, d3, d4, d5, d6] := fun s F vs _ r => by
  have r' := r
  obtain ⟨v1, _, rfl, _, r⟩ := r.cons_inv
  obtain ⟨v2, _, rfl, _, r⟩ := r.cons_inv
  obtain ⟨v3, _, rfl, _, r⟩ := r.cons_inv
  obtain ⟨v4, _, rfl, _, r⟩ := r.cons_inv
  obtain ⟨v5, _, rfl, _, r⟩ := r.cons_inv
  obtain ⟨v6, _, rfl, _, r⟩ := r.cons_inv
  obtain rfl := r.nil_inv
  exact ⟨_, BindsTo.of_eq (h _ _ _ _ _ _), r'⟩
end
end Mine

end

-- part MK3
section
open PySem PySem.W PyProof.Rows PySem.Calls
set_option maxRecDepth 100000
set_option linter.unusedVariables false
namespace Mine

noncomputable def intAt (K : Frag) (x : Str) (i : Int) : Bool := match nsIn K mainGlobals x with | some (some (.int j _)) => i == j | _ => false
theorem intAt_spec {K : Frag} {x : Str} {i : Int} (h : intAt K x i = true) : ∃ t, nsIn K mainGlobals x = some (some (.int i t)) := by
  unfold intAt at h
  split at h
  · rename_i j t e
    obtain rfl := eq_of_beq h
    exact ⟨t, e⟩
  · cases h

section
variable {C : Cx} {ρ : List (Str × D)} {own : List Own}
theorem Ev.as {e : Expr} {d d' : D} (h : Ev C ρ own e d) (q : d = d') : Ev C ρ own e d' := q ▸ h
/-- a global int -/
theorem Ev.gint {x : Str} {pos : Pos} {i : Int} (hg : intAt (KF C.w) x i = true) (hk : autoParam (C.env.kindOf x = some .globalImplicit) Mine.tacI) (hd : autoParam ((x == ("__debug__" : Str)) = false) Mine.tacI) :
    Ev C ρ own (.Name x pos) (.int i) := fun s S => by
  obtain ⟨t, hg⟩ := intAt_spec hg
  obtain ⟨mg, h1, _⟩ := S.good.ns
  refine Name_function_global S.ok.kind hk (loadGlobal_global (by rw [S.ok.glob]; exact h1) (mg_of S.good.K h1 hg) ⟨Eff.refl _ _, .int _ _⟩) hd
end

theorem Ex.brk {C : Cx} {ρ : List (Str × D)} {own : List Own} {pos : Pos} {rest : List Stmt} {Φ : Flow → Shared → Prop} (h : ∀ s, St C ρ own s → Φ .brk s) : Ex C ρ own (.Break pos :: rest) Φ := fun s S =>
  wpAny_execs_cons (wpAny_Break (h s S))

theorem EvB.as {C : Cx} {ρ : List (Str × D)} {own : List Own} {e : Expr} {b b' : Bool} (h : EvB C ρ own e b) (q : b = b') : EvB C ρ own e b' := q ▸ h

theorem noPylong {a b : Int} (hb : 0 < b) (h : (Builtin.Int.intBits a : Int) - Builtin.Int.intBits b ≤ 4000) : Builtin.divisionGoesByPylong a b = false := by
  unfold Builtin.Int.intBits at h
  have hb0 : b.natAbs ≠ 0 := by omega
  unfold Builtin.divisionGoesByPylong
  have e1 : (b == 0) = false := by simp; omega
  by_cases ha : a = 0
  · subst ha; simp
  · have e2 : (a == 0) = false := by simp [ha]
    simp only [e1, e2, Bool.false_eq_true, if_false, Bool.and_eq_false_iff, decide_eq_false_iff_not]
    right
    have hb1 : ¬ b = 0 := by omega
    simp [ha, hb1] at h
    omega
theorem di_lim : ∀ w, intAt (KF w) "_DIV_LIMIT" 4000 = true := fun w => by kernel_rfl
end Mine

end

-- part MI1
section
open PySem PySem.W PyProof.Rows PySem.Calls
set_option maxRecDepth 100000
set_option linter.unusedVariables false
namespace Mine

section
variable {C : Cx} {ρ : List (Str × D)} {own own' : List Own} {s s' : Shared}

/-- ghosts: values that read on -/
noncomputable abbrev ghs (vs : List Value) (ds : List D) : List Own := (vs.zip ds).map fun x => .gh x.1 x.2

theorem ghs_ownA (vs : List Value) (ds : List D) : ownA (ghs vs ds) = [] := by
  unfold ownA
  rw [List.filterMap_eq_nil_iff]
  intro x hx
  obtain ⟨y, _, rfl⟩ := List.mem_map.mp hx
  rfl

theorem ownA_append (a b : List Own) : ownA (a ++ b) = ownA a ++ ownA b := List.filterMap_append

/-- entries that own nothing -/
theorem St.ghosts {g : List Own} (S : St C ρ own s) (hg : ownA g = []) (hk : ∀ x ∈ g, OwnOk C.w s (C.F own) x) : St C ρ (own ++ g) s := by
  have hA : ownA (own ++ g) = ownA own := by rw [ownA_append, hg, List.append_nil]
  have hF : C.F (own ++ g) = C.F own := by unfold Cx.F; rw [hA]
  refine ⟨S.ok, S.same, S.keep, S.live, S.tabs, S.tk, S.ns, S.cells, by rw [hF]; exact S.vars, fun x hx => ?_, by rw [hA]; exact S.ownNew, by rw [hA]; exact S.nodup⟩
  rw [hF]
  rcases List.mem_append.mp hx with h | h
  · exact S.owns x h
  · exact hk x h

/-- an own object goes -/
theorem St.kill {x : Own} {a : Addr} {h' : Heap} {tk : Nat} (S : St C ρ (x :: own) s) (hx : x.addr? = some a) (h0 : C.s₀.heap.get? a = none) (hs : ∀ b o, b ≠ a → s.heap.get? b = some o → h'.get? b = some o)
    (hD : ∀ o vs q t, s.heap.get? a = some o → o.data = .fields vs → vs[1]? ≠ some (.str q t)) (ht : autoParam (s.toks ≤ tk) Mine.tacD) : St C ρ own { s with heap := h', toks := tk } := by
  have hA : ownA (x :: own) = a :: ownA own := by unfold ownA; rw [List.filterMap_cons_some hx]
  have hFa : C.F (x :: own) a := .inr (.inr (.inr (by rw [hA]; exact .head _)))
  have hnew := S.ownNew a (by rw [hA]; exact .head _)
  have hn := S.nodup
  rw [hA] at hn
  have hn := List.nodup_cons.mp hn
  have kr : ∀ b o, ¬ C.F (x :: own) b → Solid o → s.heap.get? b = some o → h'.get? b = some o ∧ ¬ C.F own b := fun b o hf _ e =>
    ⟨hs b o (by rintro rfl; exact hf hFa) e, fun q => hf (F_mono (fun a h => by rw [hA]; exact .tail _ h) q)⟩
  refine ⟨S.ok, ?_, fun b o hX hq e => hs b o ?_ (S.keep b o hX hq e), fun b o hX e => ?_, ?_, Nat.le_trans S.tk ht, ?_, fun y c hc => ?_, fun y d hy => ?_, fun y hy => ?_, fun b hb => S.ownNew b (by rw [hA]; exact .tail _ hb), hn.2⟩
  · obtain ⟨h, t, rfl⟩ := S.same
    exact ⟨_, _, rfl⟩
  · rintro rfl; rw [h0] at e; cases e
  · obtain ⟨o', ho'⟩ := S.live b o hX e
    exact ⟨o', hs b o' (by rintro rfl; rw [h0] at e; cases e) ho'⟩
  · have k : ∀ P, T2 P → ∀ o, s.heap.get? P = some o → h'.get? P = some o := fun P hP o e => hs P o (by rintro rfl; exact hnew.2.2.1 hP) e
    have k2 : ∀ b o vs, o.data = .fields vs → (∃ q t, vs[1]? = some (.str q t)) → s.heap.get? b = some o → h'.get? b = some o := fun b o vs hd ⟨q, t, hv⟩ e =>
      hs b o (by rintro rfl; exact hD o vs q t e hd hv) e
    exact ⟨S.tabs.t1.keep (k 47 (.inl rfl)) k2, S.tabs.t2.keep (k 54 (.inr rfl)) k2⟩
  · obtain ⟨m, hm⟩ := S.ns
    exact ⟨m, ns_at hm fun o e => hs _ o (Ne.symm hnew.2.1) e⟩
  · obtain ⟨v, o, ho, r⟩ := S.cells y c hc
    exact ⟨v, o, hs _ o (by rintro rfl; exact hnew.2.2.2 y hc) ho, r⟩
  · obtain ⟨v, hv, hr⟩ := S.vars y d hy
    exact ⟨v, ⟨hv.1, hv.2.imp (fun ⟨h1, m, h2, h3⟩ => ⟨h1, m, ns_at h2 fun o e => hs _ o (Ne.symm hnew.2.1) e, h3⟩) fun ⟨h1, c, h2, o, h3, h4⟩ => ⟨h1, c, h2, o, hs _ o (by rintro rfl; exact hnew.2.2.2 y h2) h3, h4⟩⟩, hr.mono kr ht⟩
  · refine (S.owns y (.tail _ hy)).mono (fun b hb o e => hs b o (fun q => ?_) e) kr ht
    subst q
    exact hn.1 (List.mem_filterMap.mpr ⟨y, hy, hb⟩)
end

noncomputable def letsGo (T : String) : Bool := ["enumerate", "zip", "dict_itemiterator", "dict_reverseitemiterator", "odict_iterator", "itertools.zip_longest", "itertools.pairwise"].contains T

theorem wp_letGo_plain {M : Model} {A : Around} {s : Shared} {elts : List Expr} {k : Nat} {px : Pos} {I : Addr} {o : Obj} {T : String} {vs : Array Value} {v : Value} {Q : Unit → Shared → Prop} {E : Value → Shared → Prop} (ho : s.heap.get? I = some o) (hc : o.cls = .type T) (hd : o.data = .fields vs)
    (hT : letsGo T = false) (h : Q () s) : wpAny M A (letOwnedTupleGo (.Tuple elts k px) (.ref I) v) Q E s := by
  unfold letOwnedTupleGo
  cases v with
  | ref a =>
    refine wpAny_bind (wpAny_load ho ?_)
    rw [hc, hd]
    show wpAny _ _ (if (letsGo T && _) = true then _ else _) _ _ s
    rw [hT, Bool.false_and, if_neg (by decide)]
    exact wpAny_pure h
  | _ => exact wpAny_pure h

set_option genInjectivity false in
/-- an iterator over known items -/
structure Iter (w : World) (A : Around) (items : List D) where
  I : Addr
  fp : List Addr
  S : Nat → Heap → Prop
  gs : List Own
  gsA : ownA gs = []
  step : ∀ (C : Cx) (ρ : List (Str × D)) (own : List Own) (s : Shared) (i : Nat), C.w = w → C.A = A → C.s₀.heap.get? I = none → St C ρ (own ++ (.wk I fp (S i) :: gs)) s → i ≤ items.length →
    wpAny (model PG w) A (pyNext (.ref I)) (fun r s' => match r with
      | none => i = items.length ∧ St C ρ own s'
      | some v => ∃ d, items[i]? = some d ∧ St C ρ (own ++ (.wk I fp (S (i + 1)) :: gs)) s' ∧ Rd C.w s' (C.F (own ++ (.wk I fp (S (i + 1)) :: gs))) v d) NoE s
  self : ∀ (i : Nat) (s : Shared) (Q E : Value → Shared → Prop), S i s.heap → Q (.ref I) s → wpAny (model PG w) A (pyIter (.ref I)) Q E s
  letgo : ∀ (i : Nat) (s : Shared) (elts : List Expr) (k : Nat) (px : Pos) (v : Value) (Q : Unit → Shared → Prop), S i s.heap → Q () s → wpAny (model PG w) A (letOwnedTupleGo (.Tuple elts k px) (.ref I) v) Q NoE s

noncomputable abbrev ItObj (h : Heap) (I : Addr) : Prop := ∃ o T vs, h.get? I = some o ∧ o.cls = .type T ∧ o.data = .fields vs ∧ letsGo T = false ∧ ∀ q t, vs[1]? ≠ some (.str q t)

noncomputable abbrev Iter.js {w : World} {A : Around} {items : List D} (T : Iter w A items) (i : Nat) : List Own := .wk T.I T.fp (T.S i) :: T.gs

theorem itObj_rec {h : Heap} {I : Addr} (x : ItObj h I) : ∃ o, h.get? I = some o ∧ NotRec o := by
  obtain ⟨o, T, vs, e, _, hd, _, hv⟩ := x
  exact ⟨o, e, fun us q t hd' => by rw [hd] at hd'; cases hd'; exact hv q t⟩

/-- iterables -/
noncomputable def It (C : Cx) (ρ : List (Str × D)) (own : List Own) (e : Expr) (items : List D) : Prop :=
  ∀ s, St C ρ own s → wpAny C.M C.A (eval e C.env) (fun x s₁ => wpAny C.M C.A (pyIter x) (fun it s₂ => Eff C.q s s₂ ∧ ∃ T : Iter C.w C.A items, it = .ref T.I ∧ s.heap.get? T.I = none ∧
    ∀ x ∈ T.js 0, OwnOk C.w s₂ (fun a => C.F own a ∨ a = T.I) x) NoE s₁) NoE s

/-- the iterator joins the activation's own -/
theorem St.iter {C : Cx} {ρ : List (Str × D)} {own : List Own} {s s₂ : Shared} {items : List D} (S : St C ρ own s) (e : Eff C.q s s₂) (T : Iter C.w C.A items) (hn : s.heap.get? T.I = none)
    (hk : ∀ x ∈ T.js 0, OwnOk C.w s₂ (fun a => C.F own a ∨ a = T.I) x) : St C ρ (own ++ T.js 0) s₂ := by
  have hFe : ∀ x : Own, x.addr? = some T.I → ∀ a, C.F (x :: own) a → C.F own a ∨ a = T.I := fun x hx a h => by
    have hA : ownA (x :: own) = T.I :: ownA own := by unfold ownA; rw [List.filterMap_cons_some hx]
    rcases h with h | h | h | h
    · exact .inl (.inl h)
    · exact .inl (.inr (.inl h))
    · exact .inl (.inr (.inr (.inl h)))
    · rw [hA] at h
      rcases List.mem_cons.mp h with rfl | h
      · exact .inr rfl
      · exact .inl (.inr (.inr (.inr h)))
  have S1 : St C ρ (.wk T.I T.fp (T.S 0) :: own) s₂ := S.add hn e rfl ((hk _ (.head _)).mono (fun _ _ _ h => h) (fun a o hf _ h => ⟨h, fun q => hf (hFe _ rfl a q)⟩) (Nat.le_refl _))
  have S2 := S1.ghosts T.gsA fun x hx => (hk x (.tail _ hx)).mono (fun _ _ _ h => h) (fun a o hf _ h => ⟨h, fun q => hf (hFe _ rfl a q)⟩) (Nat.le_refl _)
  refine S2.perm ?_
  show ([_] ++ own ++ T.gs).Perm _
  refine (List.Perm.append_right _ List.perm_append_comm).trans ?_
  rw [List.append_assoc]; exact List.Perm.refl _

section
variable {w : World} {A : Around} {items : List D}

/-- an iterator by its walk -/
noncomputable def iter_of_walks {I : Addr} {fp : List Addr} {n : Nat} {P : Nat → Value → Prop} {S : Nat → Heap → Prop} (W : Walks PG w A I fp [I] n P S) (gs : List Own) (gsA : ownA gs = []) (hn : items.length = n)
    (hI : ∀ i h, S i h → ItObj h I)
    (hrd : ∀ i v, i < n → P i v → ∃ d, items[i]? = some d ∧ ∀ h F, (∀ x ∈ gs, OwnOk w h F x) → Rd w h F v d) : Iter w A items where
  I := I
  fp := fp
  S := S
  gs := gs
  gsA := gsA
  step := by
    rintro C ρ own s i rfl rfl h0 St0 hi
    have hp : (own ++ (.wk I fp (S i) :: gs)).Perm (.wk I fp (S i) :: (own ++ gs)) := List.perm_middle
    have S1 := St0.perm hp
    have hO := S1.owns _ (.head _)
    have hD : ∀ o vs q t, s.heap.get? I = some o → o.data = .fields vs → vs[1]? ≠ some (.str q t) := fun o vs q t e => by
      obtain ⟨o', T, vs', e', _, hd, _, h⟩ := hI i _ hO.1
      rw [e] at e'; cases e'
      intro hd'
      rw [hd] at hd'; cases hd'
      exact h q t
    by_cases hlt : i < n
    · refine wpAny_with_toks (n := s.toks) (Nat.le_refl _) (W.item i s _ _ hlt hO.1 fun v h' tk hP hS hk htk => ?_)
      have hk' : ∀ b o, b ≠ I → s.heap.get? b = some o → h'.get? b = some o := fun b o hb => hk b o (by simpa using hb)
      have S2 : St C ρ (.wk I fp (S (i + 1)) :: (own ++ gs)) { s with heap := h', toks := tk } := S1.set (x' := .wk I fp (S (i + 1))) rfl rfl hk' hD ⟨hS, itObj_rec (hI _ _ hS), fun h₁ h₂ x y => W.frame _ _ _ x y, fun b hb hne => by
        obtain ⟨k1, o, k2, k3⟩ := hO.2.2.2 b hb hne
        exact ⟨k1, o, hk' b o hne k2, k3⟩⟩ htk
      obtain ⟨d, hd, hr⟩ := hrd i v hlt hP
      have S3 := S2.perm (List.perm_middle (l₁ := own)).symm
      exact ⟨d, hd, S3, hr _ _ fun x hx => S3.owns x (List.mem_append.mpr (.inr (.tail _ hx)))⟩
    · obtain rfl : i = n := by omega +splitDisjunctions
      refine wpAny_with_toks (n := s.toks) (Nat.le_refl _) (W.done s _ _ hO.1 fun h' tk hk htk => ⟨hn.symm, ?_⟩)
      have hk' : ∀ b o, b ≠ I → s.heap.get? b = some o → h'.get? b = some o := fun b o hb => hk b o (by simpa using hb)
      have S2 : St C ρ (own ++ gs) { s with heap := h', toks := tk } := S1.kill rfl h0 hk' hD htk
      exact (S2.perm List.perm_append_comm).dropN
  self := fun i s Q E hS h => W.self i s Q E hS h
  letgo := fun i s elts k px v Q hS h => let ⟨o, T, vs, e, hc, hd, hT, _⟩ := hI i _ hS; wp_letGo_plain e hc hd hT h
end

section
variable {C : Cx} {ρ : List (Str × D)} {own R : List Own}

theorem pushed_none (s : Shared) : s.heap.get? s.heap.objs.size = none := get_none_of_le (Nat.le_refl _)

theorem ghs_rd {w : World} {vs : List Value} {ds : List D} (hl : vs.length = ds.length) {i : Nat} {v : Value} (hv : vs[i]? = some v) : ∃ d, ds[i]? = some d ∧ ∀ h F, (∀ x ∈ ghs vs ds, OwnOk w h F x) → Rd w h F v d := by
  have hi : i < ds.length := by
    have := (List.getElem?_eq_some_iff.mp hv).1
    omega +splitDisjunctions
  refine ⟨ds[i], List.getElem?_eq_getElem hi, fun h F hk => hk (.gh v ds[i]) (List.mem_map.mpr ⟨(v, ds[i]), ?_, rfl⟩)⟩
  refine List.mem_iff_getElem?.mpr ⟨i, ?_⟩
  rw [List.getElem?_zip_eq_some]
  exact ⟨hv, List.getElem?_eq_getElem hi⟩

theorem ghs_ok {w : World} {h : Shared} {F : Addr → Prop} {vs : List Value} {ds : List D} (r : RdAll w h F vs ds) : ∀ x ∈ ghs vs ds, OwnOk w h F x := fun x hx => by
  obtain ⟨⟨v, d⟩, hm, rfl⟩ := List.mem_map.mp hx
  obtain ⟨i, hi⟩ := List.mem_iff_getElem?.mp hm
  rw [List.getElem?_zip_eq_some] at hi
  exact r.2 i v d hi.1 hi.2

/-- a new iterator object -/
theorem it_push {s s₁ : Shared} {items : List D} (S : St C ρ own s) (e₁ : Eff C.q s s₁) {o : Obj} (hof : o.isFreed = false) {fp : List Addr} {n : Nat} {P : Nat → Value → Prop} {S' : Nat → Heap → Prop}
    (W : Walks PG C.w C.A s₁.heap.objs.size fp [s₁.heap.objs.size] n P S') (gs : List Own) (gsA : ownA gs = []) (hn : items.length = n)
    (hI : ∀ i h, S' i h → ItObj h s₁.heap.objs.size)
    (hrd : ∀ i v, i < n → P i v → ∃ d, items[i]? = some d ∧ ∀ h F, (∀ x ∈ gs, OwnOk C.w h F x) → Rd C.w h F v d)
    (h0 : S' 0 (s₁.heap.push o)) (hfp : ∀ b ∈ fp, b ≠ s₁.heap.objs.size → ¬ C.F own b ∧ ∃ o, s₁.heap.get? b = some o ∧ Solid o) (hgs : ∀ x ∈ gs, OwnOk C.w s₁ (C.F own) x) :
    Eff C.q s { s₁ with heap := s₁.heap.push o } ∧ ∃ T : Iter C.w C.A items, Value.ref s₁.heap.objs.size = .ref T.I ∧ s.heap.get? T.I = none ∧
      ∀ x ∈ T.js 0, OwnOk C.w { s₁ with heap := s₁.heap.push o } (fun a => C.F own a ∨ a = T.I) x := by
  have hI' := fun i h x => itObj_rec (hI i h x)
  have S₁ := S.eff e₁
  have e₂ : Eff C.q s₁ { s₁ with heap := s₁.heap.push o } := Eff.push (tk := s₁.toks)
  refine ⟨e₁.trans e₂, iter_of_walks W gs gsA hn hI hrd, rfl, ?_, fun x hx => ?_⟩
  · show s.heap.get? s₁.heap.objs.size = none
    cases h : s.heap.get? s₁.heap.objs.size with
    | none => rfl
    | some o =>
      have := e₁.2.1 _ o (.inr (not_T2 (size_gt S₁.tabs))) h
      rw [pushed_none] at this; cases this
  · rcases List.mem_cons.mp hx with rfl | hx
    · refine ⟨h0, hI' _ _ h0, fun h₁ h₂ x y => W.frame 0 h₁ h₂ x y, fun b hb hbn => ?_⟩
      obtain ⟨k1, o', k2, k3⟩ := hfp b hb hbn
      exact ⟨fun q => q.elim k1 hbn, o', Heap.get?_push_of_some _ k2, k3⟩
    · have hA := gsA
      refine (hgs x hx).mono (fun a ha o' e => Heap.get?_push_of_some _ e) (fun a o' hf _ e => ⟨Heap.get?_push_of_some _ e, fun q => q.elim hf fun q => ?_⟩) (Nat.le_refl _)
      rw [show a = s₁.heap.objs.size from q, pushed_none] at e; cases e

/-- over a frozen list -/
theorem It.list {e : Expr} {ds : List D} (he : Ev C ρ own e (.list ds)) : It C ρ own e ds := fun s S => by
  refine wpAny_mono (he s S) (fun v s₁ ⟨e₁, r₁⟩ => ?_) fun _ _ x => x
  obtain ⟨a, vs, rfl, hl, hf, r⟩ := r₁.list_inv
  obtain ⟨oa, hoa, hca, hda⟩ := id hl
  refine wpAny_pyIter_list hl ?_
  have hne : a ≠ s₁.heap.objs.size := Nat.ne_of_lt (Heap.lt_size hoa)
  refine it_push S e₁ rfl (W := Walks.list S.ok.room.1 s₁.heap.objs.size a hne vs.toArray) (ghs vs ds) (ghs_ownA _ _) (by simp [r.1]) (fun i h x => ?_) (fun i v hi hP => ghs_rd r.1 (by simpa using hP)) ?_ (fun b hb hbn => ?_) (ghs_ok r)
  · obtain ⟨o, ho, hc, hd⟩ := x.1
    exact ⟨o, _, _, ho, hc, hd, by decide, by simp⟩
  · exact ⟨⟨_, Heap.get?_push_size _ rfl, rfl, rfl⟩, oa, Heap.get?_push_of_some _ hoa, hca, hda⟩
  · rcases List.mem_cons.mp hb with rfl | hb
    · exact absurd rfl hbn
    · have hb : b = a := by simpa using hb
      subst hb
      exact ⟨hf, oa, hoa, .inl (by rw [hca]; nofun)⟩

/-- over a str's signs -/
theorem It.str {e : Expr} {x : Str} (he : Ev C ρ own e (.str x)) : It C ρ own e (x.cps.toList.map fun c => .str ⟨#[c]⟩) := fun s S => by
  refine wpAny_mono (he s S) (fun v s₁ ⟨e₁, r₁⟩ => ?_) fun _ _ x => x
  obtain ⟨t, rfl⟩ := r₁.str_inv
  have hrd : ∀ i v, i < x.cps.size → SignAt x i v → ∃ d, (x.cps.toList.map fun c => D.str ⟨#[c]⟩)[i]? = some d ∧ ∀ h F, (∀ y ∈ ([] : List Own), OwnOk C.w h F y) → Rd C.w h F v d := fun i v _ hP => by
    obtain ⟨c, u, hc, rfl⟩ := hP
    refine ⟨_, ?_, fun _ _ _ => .str _ _⟩
    rw [List.getElem?_map, Array.getElem?_toList, hc]; rfl
  have hdt : ∀ (T : String) (hT : letsGo T = false) (i : Nat) (h : Heap), h.IsStrIter s₁.heap.objs.size T x t i → ItObj h s₁.heap.objs.size := fun T hT i h ⟨o, ho, hc, hd⟩ => ⟨o, _, _, ho, hc, hd, hT, by simp⟩
  have hln : (x.cps.toList.map fun c => D.str ⟨#[c]⟩).length = x.cps.size := by simp
  cases ha : x.cps.all (· < 128)
  · exact wpAny_pyIter_wide ha (it_push S e₁ rfl (W := Walks.strWide S.ok.room.1 _ x t) [] rfl hln (hdt _ (by decide)) hrd ⟨_, Heap.get?_push_size _ rfl, rfl, rfl⟩ (fun b hb hbn => absurd (by simpa using hb) hbn) (fun _ h => nomatch h))
  · exact wpAny_pyIter_ascii ha (it_push S e₁ rfl (W := Walks.strAscii S.ok.room.1 _ x t) [] rfl hln (hdt _ (by decide)) hrd ⟨_, Heap.get?_push_size _ rfl, rfl, rfl⟩ (fun b hb hbn => absurd (by simpa using hb) hbn) (fun _ h => nomatch h))

/-- a loop's turn is done -/
noncomputable def Turn (C : Cx) (ρ : List (Str × D)) (own : List Own) (Φ : Flow → Shared → Prop) (f : Flow) (s : Shared) : Prop :=
  match f with | .next | .cont => St C ρ own s | .brk => False | .ret v => Φ (.ret v) s

theorem Ex.turn {ρ ρ' : List (Str × D)} {Φ : Flow → Shared → Prop} (h : Sub ρ' ρ) : Ex C ρ own [] (Turn C ρ' own Φ) := fun s S => wpAny_execs_nil (S.sub h)

/-- a for over known items, one name -/
theorem Ex.for {x : Str} {px pos : Pos} {iter : Expr} {body rest : List Stmt} {items : List D} {Φ : Flow → Shared → Prop} (I : Nat → List (Str × D)) (O : Nat → List Own) (hit : It C ρ own iter items)
    (hs : Sub (I 0) ρ) (ho : O 0 ++ R = own)
    (hb : ∀ i d R', items[i]? = some d → Ex C ((x, d) :: I i) (O i ++ R') body (Turn C (I (i + 1)) (O (i + 1) ++ R') Φ))
    (hr : Ex C (I items.length) (O items.length ++ R) rest Φ) (hx : autoParam (storable C x = true) Mine.tacI) (hX : autoParam (∀ a, ¬ C.X a) Mine.tacG) (hf : autoParam (∀ x, foldedSetIterable iter C.env x = pure x) Mine.tacH) :
    Ex C ρ own (.For (.Name x px) iter body [] pos :: rest) Φ := Ex.one fun s S => by
  refine wpAny_For (wpAny_mono (hit s S) (fun xv s₁ h₁ => wpAny_mono h₁ (fun it s₂ h₂ => ?_) fun _ _ x => x) fun _ _ x => x) hf
  obtain ⟨e, T, rfl, hn, hk⟩ := h₂
  have S₂ := S.iter e T hn hk
  subst ho
  have h00 : C.s₀.heap.get? T.I = none := by
    have := (S₂.ownNew T.I (by rw [ownA_append]; exact List.mem_append.mpr (.inr (.head _)))).1
    exact this.resolve_right (hX _)
  have S₃ : St C (I 0) (O 0 ++ (R ++ T.js 0)) s₂ := by rw [← List.append_assoc]; exact S₂.sub hs
  refine codeAny_mono (R := fun r s' => match r with | .ok f => Then C rest Φ f s' | .error _ => False) (codeAny_forLoop (fun n s => ∃ i, n = items.length + 1 - i ∧ i ≤ items.length ∧ St C (I i) (O i ++ (R ++ T.js i)) s) (fun n s₃ ⟨i, hn, hi, Si⟩ => ?_) (items.length + 1) ⟨0, rfl, Nat.zero_le _, S₃⟩) fun r s' h => ?_
  · rw [← List.append_assoc] at Si
    refine wpAny_mono (T.step C (I i) (O i ++ R) s₃ i rfl rfl h00 Si hi) (fun r s₄ hr4 => ?_) fun _ _ x => x.elim
    cases r with
    | none =>
      obtain ⟨rfl, S5⟩ := hr4
      exact wpAny_execs_nil (hr s₄ S5)
    | some v =>
      obtain ⟨d, hd, S5, r5⟩ := hr4
      refine wpAny_assign_Name (store_name S5 hx r5 fun s₆ S₆ => ?_)
      rw [List.append_assoc] at S₆
      refine wpAny_mono (hb i d (R ++ T.js (i + 1)) hd s₆ S₆) (fun f s₇ h₇ => ?_) fun _ _ x => x.elim
      have hlt := (List.getElem?_eq_some_iff.mp hd).1
      cases f with
      | next => exact ⟨items.length + 1 - (i + 1), by omega +splitDisjunctions, i + 1, rfl, by omega +splitDisjunctions, h₇⟩
      | cont => exact ⟨items.length + 1 - (i + 1), by omega +splitDisjunctions, i + 1, rfl, by omega +splitDisjunctions, h₇⟩
      | brk => exact h₇.elim
      | ret v => exact h₇
  · cases r with
    | ok f => exact h
    | error e => exact h.elim
end
end Mine

end

-- part MI2
section
open PySem PySem.W PyProof.Rows PySem.Calls
set_option maxRecDepth 100000
set_option linter.unusedVariables false
namespace Mine

theorem bi_range : BI "range" (.type "range") := ⟨by decide, by decide, PyProof.Rows.boot_range, fun w => by kernel_rfl⟩
theorem bi_reversed : BI "reversed" (.type "reversed") := ⟨by decide, by decide, PyProof.Rows.boot_reversed, fun w => by kernel_rfl⟩

section
variable {C : Cx} {ρ : List (Str × D)} {own R : List Own}

theorem wp_tcall {x : Str} {p pos : Pos} {T : String} {args : List Expr} {ds : List D} {s : Shared} {Q : Value → Shared → Prop} (S : St C ρ own s) (b : BI x (.type T)) (ha : EvL C ρ own pos args ds)
    (h : ∀ s₂ vs, Eff C.q s s₂ → St C ρ own s₂ → RdAll C.w s₂ (C.F own) vs ds → wpAny C.M C.A (PySem.call (.type T) vs) Q NoE s₂) (hk : C.env.kindOf x = some .globalImplicit) :
    wpAny C.M C.A (eval (.Call (.Name x p) args [] pos) C.env) Q NoE s := by
  refine wpAny_Call_ofName (load_bi b hk S ?_)
  show wpAny C.M C.A (callWith pos (.type T) [] (backTo pos (starEach args C.env)) []) _ _ _
  refine PyProof.Rows.callWith_type ha.1 (wpAny_mono (wp_evalArgs S ha) (fun x s₂ ⟨vs, hx, e₂, r₂⟩ => ?_) fun _ _ x => x)
  subst hx
  exact h s₂ vs e₂ (S.eff e₂) r₂

theorem wp_bcall {x : Str} {p pos : Pos} {T : String} {args : List Expr} {ds : List D} {s : Shared} {Q : Value → Shared → Prop} (S : St C ρ own s) (b : BI x (.builtin T)) (ha : EvL C ρ own pos args ds)
    (h : ∀ s₂ vs, Eff C.q s s₂ → St C ρ own s₂ → RdAll C.w s₂ (C.F own) vs ds → wpAny C.M C.A (PySem.call (.builtin T) vs) Q NoE s₂) (hk : C.env.kindOf x = some .globalImplicit) :
    wpAny C.M C.A (eval (.Call (.Name x p) args [] pos) C.env) Q NoE s := by
  refine wpAny_Call_ofName (load_bi b hk S ?_)
  show wpAny C.M C.A (callWith pos (.builtin T) [] (backTo pos (starEach args C.env)) []) _ _ _
  refine callWith_builtin ha.1 (wpAny_mono (wp_evalArgs S ha) (fun x s₂ ⟨vs, hx, e₂, r₂⟩ => ?_) fun _ _ x => x)
  subst hx
  exact h s₂ vs e₂ (S.eff e₂) r₂

noncomputable abbrev rangeD (a : Int) (n : Nat) : List D := (List.range n).map fun i : Nat => D.int (a + i)

theorem it_range {s s₁ : Shared} (S : St C ρ own s) (e₁ : Eff C.q s s₁) {r : Addr} {a b : Int} {n : Nat} {t u v : Tok} (hr : IsRange s₁.heap r a b 1 t u v) (hb : b = a + n) (ha : -1000000 ≤ a) (ha' : a ≤ 1000000) (hn : n ≤ 1000000) :
    wpAny C.M C.A (pyIter (.ref r)) (fun it s₂ => Eff C.q s s₂ ∧ ∃ T : Iter C.w C.A (rangeD a n), it = .ref T.I ∧ s.heap.get? T.I = none ∧ ∀ x ∈ T.js 0, OwnOk C.w s₂ (fun a => C.F own a ∨ a = T.I) x) NoE s₁ := by
  refine wpAny_pyIter_range hr (small_one (by omega) (by omega) (by omega) (by omega)) ?_
  have hz : Builtin.Range.rangeSize a b 1 = n := by
    rw [rangeSize_one]; split <;> omega
  rw [hz]
  refine it_push S e₁ rfl (W := Walks.range S.ok.room.1 s₁.heap.objs.size a 1 n) [] rfl (by simp) (fun i h x => ⟨_, _, _, x, rfl, rfl, by decide, by simp [rawInt]⟩) (fun i v hi hP => ?_) ?_ (fun b hb hbn => absurd (by simpa using hb) hbn) (fun _ h => nomatch h)
  · obtain ⟨t, rfl⟩ := hP
    refine ⟨.int (a + i), by simp [hi], fun h F _ => ?_⟩
    rw [Int.mul_one]
    exact .int _ _
  · have := Heap.get?_push_size s₁.heap (o := { cls := .type "range_iterator", data := .fields #[rawInt a, rawInt n, rawInt 1] }) rfl
    show IsRangeIter _ _ (a + ((0 : Nat) : Int) * 1) ((n : Int) - ((0 : Nat) : Int)) 1
    simpa using this

theorem It.range1 {x : Str} {p pos : Pos} {e : Expr} {n : Nat} (hx : x = "range") (he : Ev C ρ own e (.int n)) (hn : n ≤ 1000000) (hk : autoParam (C.env.kindOf x = some .globalImplicit) Mine.tacI) (hst : autoParam (starEach [e] C.env = (false, eval e C.env) :: starEach [] C.env) Mine.tacI) :
    It C ρ own (.Call (.Name x p) [e] [] pos) (rangeD 0 n) := fun s S => by
  subst hx
  refine wp_tcall S bi_range (EvL.cons he EvL.nil hst) (fun s₂ vs e₂ S₂ r => ?_) hk
  obtain ⟨v, vs', rfl, h1, h2⟩ := r.cons_inv
  obtain rfl := h2.nil_inv
  obtain ⟨t, rfl⟩ := h1.int_inv
  refine call_range_1 ?_
  exact it_range S (e₂.trans Eff.push) (IsRange.new ..) (by omega) (by omega) (by omega) hn

theorem It.range2 {x : Str} {p pos : Pos} {e e' : Expr} {a b : Int} {n : Nat} (hx : x = "range") (he : Ev C ρ own e (.int a)) (he' : Ev C ρ own e' (.int b)) (hb : b = a + n) (ha : -1000000 ≤ a) (ha' : a ≤ 1000000) (hn : n ≤ 1000000) (hk : autoParam (C.env.kindOf x = some .globalImplicit) Mine.tacI)
    (hst : autoParam (starEach [e, e'] C.env = (false, eval e C.env) :: starEach [e'] C.env) Mine.tacI) (hst' : autoParam (starEach [e'] C.env = (false, eval e' C.env) :: starEach [] C.env) Mine.tacI) :
    It C ρ own (.Call (.Name x p) [e, e'] [] pos) (rangeD a n) := fun s S => by
  subst hx
  refine wp_tcall S bi_range (EvL.cons he (EvL.cons he' EvL.nil hst') hst) (fun s₂ vs e₂ S₂ r => ?_) hk
  obtain ⟨v, vs', rfl, h1, h2⟩ := r.cons_inv
  obtain ⟨v', vs'', rfl, h3, h4⟩ := h2.cons_inv
  obtain rfl := h4.nil_inv
  obtain ⟨t, rfl⟩ := h1.int_inv
  obtain ⟨t', rfl⟩ := h3.int_inv
  refine call_range_2 ?_
  exact it_range S (e₂.trans Eff.push) (IsRange.new ..) hb ha ha' hn

/-- reversed(..) of a frozen list -/
theorem It.rev {x : Str} {p pos : Pos} {e : Expr} {ds : List D} (hx : x = "reversed") (he : Ev C ρ own e (.list ds)) (hk : autoParam (C.env.kindOf x = some .globalImplicit) Mine.tacI) (hst : autoParam (starEach [e] C.env = (false, eval e C.env) :: starEach [] C.env) Mine.tacI) :
    It C ρ own (.Call (.Name x p) [e] [] pos) ds.reverse := fun s S => by
  subst hx
  refine wp_tcall S bi_reversed (EvL.cons he EvL.nil hst) (fun s₁ vs e₁ S₁ r => ?_) hk
  obtain ⟨v, vs', rfl, h1, h2⟩ := r.cons_inv
  obtain rfl := h2.nil_inv
  obtain ⟨a, vs, rfl, hl, hf, r⟩ := h1.list_inv
  obtain ⟨oa, hoa, hca, hda⟩ := id hl
  have hne : a ≠ s₁.heap.objs.size := Nat.ne_of_lt (Heap.lt_size hoa)
  refine call_reversed_list hl ?_
  refine wpAny_pyIter_revIter ⟨_, Heap.get?_push_size _ rfl, rfl, rfl⟩ ?_
  have hsz : vs.toArray.size = vs.length := List.size_toArray
  refine it_push S e₁ (o := revObj a ((vs.toArray.size : Int) - 1)) rfl (W := Walks.listRev S.ok.room.1 s₁.heap.objs.size a hne vs.toArray) (ghs vs ds) (ghs_ownA _ _) (by simp [r.1]) (fun i h x => ?_) (fun i v hi hP => ?_) ?_ (fun b hb hbn => ?_) (ghs_ok r)
  · obtain ⟨o, ho, hc, hd⟩ := x.2.1
    exact ⟨o, _, _, ho, hc, hd, by decide, by simp [rawInt]⟩
  · obtain ⟨d, hd, k⟩ := ghs_rd (w := C.w) r.1 (i := vs.length - 1 - i) (v := v) (by simpa using hP)
    refine ⟨d, ?_, k⟩
    rw [List.getElem?_reverse (by rw [hsz, r.1] at hi; exact hi), ← r.1]
    exact hd
  · refine ⟨Nat.zero_le _, ⟨_, Heap.get?_push_size _ rfl, rfl, ?_⟩, oa, Heap.get?_push_of_some _ hoa, hca, hda⟩
    simp [revObj]
  · rcases List.mem_cons.mp hb with rfl | hb
    · exact absurd rfl hbn
    · have hb : b = a := by simpa using hb
      subst hb
      exact ⟨hf, oa, hoa, .inl (by rw [hca]; nofun)⟩

/-- a for over known items, names in a tuple -/
theorem Ex.forT {elts : List Expr} {k : Nat} {px pos : Pos} {iter : Expr} {body rest : List Stmt} {items : List D} {Φ : Flow → Shared → Prop} {xs : List Str} (ds : Nat → List D) (I : Nat → List (Str × D)) (O : Nat → List Own) (hit : It C ρ own iter items)
    (hs : Sub (I 0) ρ) (ho : O 0 ++ R = own) (hds : ∀ i d, items[i]? = some d → d = .tup (ds i) ∧ xs.length = (ds i).length)
    (hb : ∀ i R', i < items.length → Ex C (pushAll xs (ds i) (I i)) (O i ++ R') body (Turn C (I (i + 1)) (O (i + 1) ++ R') Φ))
    (hr : Ex C (I items.length) (O items.length ++ R) rest Φ) (hn : autoParam (nameList elts = some xs) Mine.tacI) (hx : autoParam (xs.all (storable C) = true) Mine.tacI) (hX : autoParam (∀ a, ¬ C.X a) Mine.tacG) (hf : autoParam (∀ x, foldedSetIterable iter C.env x = pure x) Mine.tacH) :
    Ex C ρ own (.For (.Tuple elts k px) iter body [] pos :: rest) Φ := Ex.one fun s S => by
  refine wpAny_For (wpAny_mono (hit s S) (fun xv s₁ h₁ => wpAny_mono h₁ (fun it s₂ h₂ => ?_) fun _ _ x => x) fun _ _ x => x) hf
  obtain ⟨e, T, rfl, hn', hk⟩ := h₂
  have S₂ := S.iter e T hn' hk
  subst ho
  have h00 : C.s₀.heap.get? T.I = none := by
    have := (S₂.ownNew T.I (by rw [ownA_append]; exact List.mem_append.mpr (.inr (.head _)))).1
    exact this.resolve_right (hX _)
  have S₃ : St C (I 0) (O 0 ++ (R ++ T.js 0)) s₂ := by rw [← List.append_assoc]; exact S₂.sub hs
  refine codeAny_mono (R := fun r s' => match r with | .ok f => Then C rest Φ f s' | .error _ => False) (codeAny_forLoop_any (fun n s => ∃ i, n = items.length + 1 - i ∧ i ≤ items.length ∧ St C (I i) (O i ++ (R ++ T.js i)) s) (fun n s₃ ⟨i, hni, hi, Si⟩ => ?_) (items.length + 1) ⟨0, rfl, Nat.zero_le _, S₃⟩) fun r s' h => ?_
  · rw [← List.append_assoc] at Si
    refine wpAny_mono (T.step C (I i) (O i ++ R) s₃ i rfl rfl h00 Si hi) (fun r s₄ hr4 => ?_) fun _ _ x => x.elim
    cases r with
    | none =>
      obtain ⟨rfl, S5⟩ := hr4
      exact wpAny_execs_nil (hr s₄ S5)
    | some v =>
      obtain ⟨d, hd, S5, r5⟩ := hr4
      obtain ⟨rfl, hl⟩ := hds i d hd
      have hlt := (List.getElem?_eq_some_iff.mp hd).1
      have hS : T.S (i + 1) s₄.heap := (S5.owns (.wk T.I T.fp (T.S (i + 1))) (List.mem_append.mpr (.inr (.head _)))).1
      refine wpAny_mono (T.letgo (i + 1) s₄ elts k px v (fun _ s' => s' = s₄) hS rfl) (fun _ s' hs' => ?_) fun _ _ x => x.elim
      subst hs'
      refine wpAny_mono (wp_unpack (Q := fun _ s' => St C (pushAll xs (ds i) (I i)) (O i ++ (R ++ T.js (i + 1))) s') S5 hn hx hl r5 fun s₆ S₆ => by rw [List.append_assoc] at S₆; exact S₆) (fun _ s₆ S₆ => ?_) fun _ _ x => x.elim
      refine wpAny_mono (hb i (R ++ T.js (i + 1)) hlt s₆ S₆) (fun f s₇ h₇ => ?_) fun _ _ x => x.elim
      cases f with
      | next => exact ⟨items.length + 1 - (i + 1), by omega, i + 1, rfl, by omega, h₇⟩
      | cont => exact ⟨items.length + 1 - (i + 1), by omega, i + 1, rfl, by omega, h₇⟩
      | brk => exact h₇.elim
      | ret v => exact h₇
  · cases r with
    | ok f => exact h
    | error e => exact h.elim
end
end Mine

end

-- part MC1
section
open PySem PySem.W PyProof.Rows PySem.Calls
set_option maxRecDepth 100000
set_option linter.unusedVariables false
namespace Mine

section
variable {C : Cx} {ρ : List (Str × D)} {own : List Own} {s s' : Shared}

theorem F_append {xs : List Own} {a : Addr} (h : C.F (xs ++ own) a) : C.F own a ∨ a ∈ ownA xs := by
  rcases h with h | h | h | h
  · exact .inl (.inl h)
  · exact .inl (.inr (.inl h))
  · exact .inl (.inr (.inr (.inl h)))
  · rw [ownA_append] at h
    exact (List.mem_append.mp h).elim .inr fun h => .inl (.inr (.inr (.inr h)))

/-- new objects are the activation's own -/
theorem St.adds {xs : List Own} (S : St C ρ own s) (e : Eff C.q s s') (hn : ∀ a ∈ ownA xs, s.heap.get? a = none) (hd : (ownA xs).Nodup) (hk : ∀ x ∈ xs, OwnOk C.w s' (fun a => C.F own a ∨ a ∈ ownA xs) x) : St C ρ (xs ++ own) s' := by
  have S' := S.eff e
  have kr : ∀ b o, ¬ C.F own b → Solid o → s.heap.get? b = some o → s'.heap.get? b = some o ∧ ¬ C.F (xs ++ own) b := fun b o hf hc hb =>
    ⟨(keep_rd S.tabs e (C.F own) b o hf hc hb).1, fun q => (F_append q).elim hf fun q => by rw [hn b q] at hb; cases hb⟩
  refine ⟨S.ok, S'.same, S'.keep, S'.live, S'.tabs, S'.tk, S'.ns, S'.cells, fun y d hy => ?_, fun y hy => ?_, fun b hb => ?_, ?_⟩
  · obtain ⟨v, hv, hr⟩ := S.vars y d hy
    exact ⟨v, ⟨hv.1, hv.2.imp (fun ⟨h1, m, h2, h3⟩ => ⟨h1, m, ns_at h2 fun o q => e.2.1 _ o (.inr S.ok.locT) q, h3⟩) fun ⟨h1, c, h2, o, h3, h4⟩ => ⟨h1, c, h2, o, e.2.1 _ _ (.inr (S.ok.cellT y c h2)) h3, h4⟩⟩, hr.mono kr e.2.2.2⟩
  · rcases List.mem_append.mp hy with hy | hy
    · exact (hk y hy).mono (fun _ _ _ h => h) (fun a o hf _ h => ⟨h, fun q => hf (F_append q)⟩) (Nat.le_refl _)
    · exact (S.owns y hy).mono (fun b hb o ho => e.2.1 b o (.inr (S.ownNew b (List.mem_filterMap.mpr ⟨y, hy, hb⟩)).2.2.1) ho) kr e.2.2.2
  · rw [ownA_append] at hb
    rcases List.mem_append.mp hb with hb | hb
    · obtain ⟨h1, h2, h3, h4, h5⟩ := S.none_old (hn b hb)
      exact ⟨.inl h1, h3, h2, h4⟩
    · exact S.ownNew b hb
  · rw [ownA_append]
    refine List.nodup_append.mpr ⟨hd, S.nodup, fun a ha b hb q => ?_⟩
    subst q
    exact (S.none_old (hn a ha)).2.2.2.2 hb

/-- an own object is never written again -/
theorem St.freeze {x : Str} {a : Addr} {d : D} (S : St C ρ (.ob a d :: own) s) (hx : ρ.lookup x = some (.addr a)) (hX : ¬ C.X a) : St C ((x, frz d) :: ρ) own s := by
  have S' := S.drop
  have hA : ownA (.ob a d :: own) = a :: ownA own := rfl
  have hn := S.nodup
  rw [hA] at hn
  have hn := List.nodup_cons.mp hn
  have hnew := S.ownNew a (.head _)
  have h0 := hnew.1.resolve_right hX
  have hf : ¬ C.F own a := by
    rintro (q | q | ⟨y, q⟩ | q)
    · obtain ⟨_, o, ho, _⟩ := S.ok.f0 a q.1; rw [h0] at ho; cases ho
    · exact hnew.2.1 q
    · exact hnew.2.2.2 y q
    · exact hn.1 q
  have kr : ∀ b o, ¬ C.F (.ob a d :: own) b → Solid o → s.heap.get? b = some o → s.heap.get? b = some o ∧ ¬ C.F own b := fun b o hb _ e => ⟨e, fun q => hb (F_mono (own := .ob a d :: own) (fun c h => by rw [hA]; exact List.mem_cons_of_mem a h) q)⟩
  refine ⟨S'.ok, S'.same, S'.keep, S'.live, S'.tabs, S'.tk, S'.ns, S'.cells, fun y e hy => ?_, S'.owns, S'.ownNew, S'.nodup⟩
  by_cases hyx : y = x
  · subst hyx
    rw [lookup_cons_eq] at hy; cases hy
    obtain ⟨v, hv, hr⟩ := S.vars y _ hx
    rw [hr.addr_inv] at hv
    refine ⟨_, hv, ?_⟩
    have hO := S.owns _ (.head _)
    cases hO with
    | list ht hr => exact RdAll.list (hr.mono kr (Nat.le_refl _)) ht hf
    | plist ht hr => exact RdAll.list (hr.mono kr (Nat.le_refl _)) ht.isList hf
    | dict ht hm hl hr => exact .dict ht hm hf hl fun i v d h1 h2 => (hr i v d h1 h2).mono kr (Nat.le_refl _)
  · rw [lookup_cons_ne hyx] at hy
    exact S'.vars y e hy

theorem Ex.freeze {b : List Stmt} {Φ : Flow → Shared → Prop} {x : Str} {a : Addr} {d : D} (h : Ex C ((x, frz d) :: ρ) own b Φ) (hx : ρ.lookup x = some (.addr a)) (hX : ∀ a, ¬ C.X a) : Ex C ρ (.ob a d :: own) b Φ := fun s S => h s (S.freeze hx (hX a))
end

/-! the variables of a comprehension -/
noncomputable def cloF (cells : List (Str × Addr)) : List (Str × NameKind) → List (Str × Addr) → List (Str × Addr)
  | [], acc => acc
  | (n, k) :: r, acc => if k == .free then (match cells.lookup n with | some c => cloF cells r ((n, c) :: acc) | none => cloF cells r acc) else cloF cells r acc

theorem forIn_clo {env : Env} (f : Str × NameKind → List (Str × Addr) → Sem (ForInStep (List (Str × Addr))))
    (hf : ∀ n k acc, f (n, k) acc = if k == NameKind.free then (do let c ← cellOf env n; pure (.yield ((n, c) :: acc))) else pure (.yield acc)) :
    ∀ (names : List (Str × NameKind)) (acc : List (Str × Addr)), (names.all fun y => !(y.2 == .free) || (env.cells.lookup y.1).isSome) = true → forIn names acc f = pure (cloF env.cells names acc)
  | [], acc, _ => rfl
  | (n, k) :: r, acc, h => by
    simp only [List.all_cons, Bool.and_eq_true] at h
    rw [List.forIn_cons, hf]
    unfold cloF
    cases hk : k == NameKind.free with
    | false =>
      simp only [Bool.false_eq_true, if_false, pure_bind]
      exact forIn_clo f hf r acc h.2
    | true =>
      simp only [if_true]
      have h1 : (env.cells.lookup n).isSome = true := by simpa [hk] using h.1
      obtain ⟨c, hc⟩ := Option.isSome_iff_exists.mp h1
      rw [hc]
      unfold cellOf
      rw [hc]
      simp only [pure_bind]
      exact forIn_clo f hf r _ h.2

theorem closure_eq {scope : Scope} {env : Env} (h : (scope.names.all fun y => !(y.2 == .free) || (env.cells.lookup y.1).isSome) = true) : closureFor scope env = pure (cloF env.cells scope.names []) := by
  simp only [closureFor]
  rw [forIn_clo (env := env) _ (fun n k acc => rfl) scope.names [] h]
  rfl

theorem cloF_mem {cells : List (Str × Addr)} {x : Str} {c : Addr} : ∀ {names : List (Str × NameKind)} {acc : List (Str × Addr)}, (x, c) ∈ cloF cells names acc → (x, c) ∈ acc ∨ (cells.lookup x = some c ∧ (x, .free) ∈ names)
  | [], acc, h => .inl h
  | (n, k) :: r, acc, h => by
    unfold cloF at h
    split at h
    · rename_i hk
      have hk : k = .free := by simpa using hk
      subst hk
      split at h
      · rename_i c' hc'
        rcases cloF_mem h with h | h
        · rcases List.mem_cons.mp h with h | h
          · cases h; exact .inr ⟨hc', .head _⟩
          · exact .inl h
        · exact .inr ⟨h.1, .tail _ h.2⟩
      · exact (cloF_mem h).imp id fun h => ⟨h.1, .tail _ h.2⟩
    · exact (cloF_mem h).imp id fun h => ⟨h.1, .tail _ h.2⟩

theorem cloF_acc {cells : List (Str × Addr)} {y : Str × Addr} : ∀ {names : List (Str × NameKind)} {acc : List (Str × Addr)}, y ∈ acc → y ∈ cloF cells names acc
  | [], acc, h => h
  | (n, k) :: r, acc, h => by
    unfold cloF
    split
    · split
      · exact cloF_acc (.tail _ h)
      · exact cloF_acc h
    · exact cloF_acc h

theorem cloF_there {cells : List (Str × Addr)} {x : Str} {c : Addr} (hc : cells.lookup x = some c) : ∀ {names : List (Str × NameKind)} {acc : List (Str × Addr)}, (x, .free) ∈ names → (x, c) ∈ cloF cells names acc
  | (n, k) :: r, acc, h => by
    unfold cloF
    rcases List.mem_cons.mp h with h | h
    · cases h
      simp only [beq_self_eq_true, if_true, hc]
      exact cloF_acc (.head _)
    · split
      · split
        · exact cloF_there hc h
        · exact cloF_there hc h
      · exact cloF_there hc h

theorem lookup_of_mem {x : Str} {c : Addr} : ∀ {l : List (Str × Addr)}, (x, c) ∈ l → ∃ c', l.lookup x = some c'
  | (y, d) :: r, h => by
    by_cases hy : x = y
    · subst hy; exact ⟨d, lookup_cons_eq⟩
    · rw [lookup_cons_ne hy]
      rcases List.mem_cons.mp h with h | h
      · cases h; exact absurd rfl hy
      · exact lookup_of_mem h

/-- the closure holds what the outer frame holds -/
theorem cloF_lookup {cells : List (Str × Addr)} {names : List (Str × NameKind)} {x : Str} {c : Addr} (hc : cells.lookup x = some c) (hx : (x, .free) ∈ names) : (cloF cells names []).lookup x = some c := by
  obtain ⟨c', h⟩ := lookup_of_mem (cloF_there hc (acc := []) hx)
  rcases cloF_mem (mem_of_lookup h) with h' | h'
  · exact nomatch h'
  · rw [h'.1] at hc; cases hc; exact h

/-- the cells of a comprehension: new ones, ahead of the closure -/
theorem cellsFrom_cases {x : Str} {c : Addr} : ∀ {names : List (Str × NameKind)} {h : Heap} {acc : List (Str × Addr)}, (x, c) ∈ cellsFrom h.objs.size names acc →
    (h.objs.size ≤ c ∧ (pushCells h names).IsCell c none ∧ (x, .cell) ∈ names) ∨ (x, c) ∈ acc
  | [], h, acc, hm => .inr hm
  | (n, k) :: r, h, acc, hm => by
    unfold cellsFrom at hm
    unfold pushCells
    split at hm
    · rename_i hk
      rw [if_pos hk]
      have hk : k = .cell := by simpa using hk
      subst hk
      have e : h.objs.size + 1 = (h.push { cls := .type "cell", data := .cell none }).objs.size := (Heap.size_push ..).symm
      rw [e] at hm
      rcases cellsFrom_cases hm with ⟨h1, h2, h3⟩ | hm
      · exact .inl ⟨by rw [← e] at h1; exact Nat.le_of_succ_le h1, h2, .tail _ h3⟩
      · rcases List.mem_cons.mp hm with hm | hm
        · cases hm
          exact .inl ⟨Nat.le_refl _, ⟨_, pushCells_keeps _ _ _ _ (Heap.get?_push_size _ rfl), rfl⟩, .head _⟩
        · exact .inr hm
    · rename_i hk
      rw [if_neg hk]
      rcases cellsFrom_cases hm with ⟨h1, h2, h3⟩ | hm
      · exact .inl ⟨h1, h2, .tail _ h3⟩
      · exact .inr hm

theorem cellsFrom_apart {x y : Str} {c : Addr} : ∀ {names : List (Str × NameKind)} {n : Nat} {acc : List (Str × Addr)}, (∀ z d, (z, d) ∈ acc → d < n) → (∀ x y c, (x, c) ∈ acc → (y, c) ∈ acc → x = y) →
    (x, c) ∈ cellsFrom n names acc → (y, c) ∈ cellsFrom n names acc → x = y
  | [], n, acc, _, h, h1, h2 => h x y c h1 h2
  | (m, k) :: r, n, acc, hb, h, h1, h2 => by
    unfold cellsFrom at h1 h2
    split at h1
    · rename_i hk
      rw [if_pos hk] at h2
      refine cellsFrom_apart (fun z d hz => ?_) (fun x y c hx hy => ?_) h1 h2
      · rcases List.mem_cons.mp hz with hz | hz
        · cases hz; exact Nat.lt_succ_self _
        · exact Nat.lt_succ_of_lt (hb z d hz)
      · rcases List.mem_cons.mp hx with hx | hx <;> rcases List.mem_cons.mp hy with hy | hy
        · cases hx; cases hy; rfl
        · cases hx; exact absurd (hb _ _ hy) (Nat.lt_irrefl _)
        · cases hy; exact absurd (hb _ _ hx) (Nat.lt_irrefl _)
        · exact h x y c hx hy
    · rename_i hk
      rw [if_neg hk] at h2
      exact cellsFrom_apart hb h h1 h2

theorem wp_compEnv {M : Model} {A : Around} {s : Shared} {scope : Scope} {env : Env} {cl : List (Str × Addr)} {Q : Env → Shared → Prop} {E : Value → Shared → Prop} (hQ : ∀ cenv : Env, cenv.locals = s.heap.objs.size → { cenv with scope := relabel scope env } = compEnvC scope (cellsFrom (s.heap.objs.size + 1) scope.names cl) s.heap.objs.size env →
      Q cenv { s with heap := pushCells (s.heap.push { cls := .type "dict", data := .dict #[] }) scope.names }) :
    wpAny M A (newFunctionEnv scope env.globals cl [] env.qual none .none (some env)) Q E s := by
  simp only [newFunctionEnv, Option.isSome_some, if_true]
  refine wpAny_bind (wpAny_alloc ?_)
  refine wpAny_bind (wpAny_layCells _ (fun name kind cells => by cases hkc : kind == NameKind.cell <;> simp) _ _ _ _ ?_)
  refine wpAny_bind ?_
  rw [List.forIn_nil]
  refine wpAny_pure (wpAny_pure ?_)
  dsimp only
  refine hQ _ rfl ?_
  unfold compEnvC
  dsimp only
  rw [show (s.heap.push { cls := .type "dict", data := .dict #[] }).objs.size = s.heap.objs.size + 1 from Heap.size_push ..]
end Mine

end

-- part MC2
section
open PySem PySem.W PyProof.Rows PySem.Calls
set_option maxRecDepth 100000
set_option linter.unusedVariables false
namespace Mine

/-- the activation of a comprehension -/
noncomputable def compC (C : Cx) (own : List Own) (s : Shared) (scope : Scope) (L : Addr) : Cx where
  w := C.w
  A := C.A
  n := C.n
  q := C.q
  s₀ := s
  F₀ := C.F own
  X := fun _ => False
  env := compEnvC scope (cellsFrom (L + 1) scope.names (cloF C.env.cells scope.names [])) L C.env
  fresh := (scope.names.filter fun x => x.2 == .cell).map (·.1)

structure CompOk (C : Cx) (scope : Scope) : Prop where
  kind : scope.kind = .function
  free : (scope.names.all fun y => !(y.2 == .free) || (C.env.cells.lookup y.1).isSome) = true
  loc : (scope.names.all fun y => !(y.2 == .local) || scope.names.lookup y.1 == some .local) = true
  cell : (scope.names.all fun y => !(y.2 == .cell) || scope.names.all fun z => !(z.1 == y.1) || z.2 == .cell) = true

theorem lookup_relabel_free {env : Env} : ∀ {names : List (Str × NameKind)} {x : Str} {k : NameKind}, names.lookup x = some k →
    (names.map fun (n, k) => if (k == NameKind.free && env.scope.kind == .function && env.kindOf n == some .cell) then (n, NameKind.cell) else (n, k)).lookup x = some (if (k == NameKind.free && env.scope.kind == .function && env.kindOf x == some .cell) then .cell else k)
  | [], _, _, h => by simp at h
  | (n, k) :: r, x, k', h => by
    rw [List.map_cons]
    by_cases hx : x = n
    · subst hx
      rw [lookup_cons_eq] at h; cases h
      dsimp only
      split
      · rw [lookup_cons_eq]
      · rw [lookup_cons_eq]
    · rw [lookup_cons_ne hx] at h
      have ih := lookup_relabel_free (env := env) h
      dsimp only
      split
      · rw [lookup_cons_ne hx]; exact ih
      · rw [lookup_cons_ne hx]; exact ih

theorem cellsFrom_acc {x : Str} {c : Addr} : ∀ {names : List (Str × NameKind)} {n : Nat} {acc : List (Str × Addr)}, acc.lookup x = some c → (x, .cell) ∉ names → (cellsFrom n names acc).lookup x = some c
  | [], n, acc, h, _ => h
  | (m, k) :: r, n, acc, h, hx => by
    unfold cellsFrom
    split
    · rename_i hk
      have hk : k = .cell := by simpa using hk
      subst hk
      refine cellsFrom_acc ?_ fun q => hx (.tail _ q)
      rw [lookup_cons_ne (by rintro rfl; exact hx (.head _))]
      exact h
    · exact cellsFrom_acc h fun q => hx (.tail _ q)

section
variable {C : Cx} {ρ ρc : List (Str × D)} {own : List Own} {s : Shared}

theorem compC_start {scope : Scope} {items : List D} {s₂ s₃ : Shared} (S : St C ρ own s) (e : Eff C.q s s₂) (T : Iter C.w C.A items) (hn : s.heap.get? T.I = none) (hk : ∀ x ∈ T.js 0, OwnOk C.w s₂ (fun a => C.F own a ∨ a = T.I) x)
    (K : CompOk C scope) (hρ : Sub ρc ρ) (hρf : (ρc.all fun y => scope.names.lookup y.1 == some .free && (!(y.1 == ("__classdict__" : Str)) && !(C.env.kindOf y.1 == some .local))) = true)
    (hs₃ : s₃ = { s₂ with heap := pushCells ((s₂.heap.push { cls := .type "list", data := .seq #[] }).push { cls := .type "dict", data := .dict #[] }) scope.names }) :
    St (compC C own s scope (s₂.heap.objs.size + 1)) ρc (.ob s₂.heap.objs.size (.plist []) :: T.js 0) s₃ := by
  have S₂ := S.eff e
  have hsz := size_gt S₂.tabs
  have hold : ∀ a, s₂.heap.objs.size ≤ a → s.heap.get? a = none := fun a ha => by
    cases h : s.heap.get? a with
    | none => rfl
    | some o =>
      have := e.2.1 _ o (.inr (not_T2 (Nat.lt_of_lt_of_le hsz ha))) h
      rw [get_none_of_le ha] at this; cases this
  have kp : ∀ a o, s₂.heap.get? a = some o → s₃.heap.get? a = some o := fun a o h => by
    rw [hs₃]
    exact pushCells_keeps _ _ _ _ (Heap.get?_push_of_some _ (Heap.get?_push_of_some _ h))
  have e3 : Eff C.q s s₃ := e.trans (by rw [hs₃]; exact Eff.of (tk := s₂.toks) fun a o h => by have := kp a o h; rw [hs₃] at this; exact this)
  have hL : ((s₂.heap.push { cls := .type "list", data := .seq #[] }).push { cls := .type "dict", data := .dict #[] }).objs.size = s₂.heap.objs.size + 1 + 1 := by rw [Heap.size_push, Heap.size_push]
  have hcl : ∀ x c, (x, c) ∈ cloF C.env.cells scope.names [] → C.env.cells.lookup x = some c ∧ (x, NameKind.free) ∈ scope.names := fun x c h => (cloF_mem h).resolve_left (fun h => nomatch h)
  have hcs : ∀ x c, (x, c) ∈ cellsFrom (s₂.heap.objs.size + 1 + 1) scope.names (cloF C.env.cells scope.names []) → (s₂.heap.objs.size + 1 + 1 ≤ c ∧ s₃.heap.IsCell c none ∧ (x, NameKind.cell) ∈ scope.names) ∨ (C.env.cells.lookup x = some c ∧ (x, NameKind.free) ∈ scope.names) := fun x c h => by
    rw [← hL] at h ⊢
    refine (cellsFrom_cases h).imp (fun h => ?_) (hcl x c)
    rw [hs₃]; exact h
  have hcell : ∀ x c, C.env.cells.lookup x = some c → s₂.heap.objs.size > c := fun x c h => by
    obtain ⟨v, o, ho, _⟩ := S₂.cells x c h
    exact Heap.lt_size ho
  have hF : ∀ {x : List Own} {a : Addr}, (compC C own s scope (s₂.heap.objs.size + 1)).F x a → C.F own a ∨ s₂.heap.objs.size ≤ a ∨ a ∈ ownA x := fun {x a} h => by
    rcases h with h | h | ⟨y, h⟩ | h
    · exact .inl h.1
    · exact .inr (.inl (by rw [show a = s₂.heap.objs.size + 1 from h]; exact Nat.le_succ _))
    · rcases hcs y a (mem_of_lookup h) with h | h
      · have := h.1; exact .inr (.inl (by omega))
      · exact .inl (.inr (.inr (.inl ⟨y, h.1⟩)))
    · exact .inr (.inr h)
  have hT : T.I < s₂.heap.objs.size := by
    obtain ⟨o, ho, _⟩ := (hk _ (.head _)).2.1
    exact Heap.lt_size ho
  have hTg : ownA (T.js 0) = [T.I] := by
    show T.I :: ownA T.gs = _
    rw [T.gsA]
  have hA : ownA (.ob s₂.heap.objs.size (.plist []) :: T.js 0) = [s₂.heap.objs.size, T.I] := by
    show s₂.heap.objs.size :: ownA (T.js 0) = _
    rw [hTg]
  have kr : ∀ a o, ¬ (C.F own a ∨ a = T.I) → Solid o → s₂.heap.get? a = some o → s₃.heap.get? a = some o ∧ ¬ (compC C own s scope (s₂.heap.objs.size + 1)).F (.ob s₂.heap.objs.size (.plist []) :: T.js 0) a := fun a o hf _ h =>
    ⟨kp a o h, fun q => by
      rcases hF q with q | q | q
      · exact hf (.inl q)
      · exact absurd (Heap.lt_size h) (Nat.not_lt.mpr q)
      · rw [hA] at q
        rcases List.mem_cons.mp q with q | q
        · exact absurd (Heap.lt_size h) (by rw [q]; exact Nat.lt_irrefl _)
        · exact hf (.inr (by simpa using q))⟩
  refine ⟨⟨⟨s.heap, S.good, fun _ h => h.elim, fun _ _ _ h => h⟩, S.ok.room, K.kind, S.ok.glob, S.ok.blt, hold _ (Nat.le_succ _), not_T2 (Nat.lt_succ_of_lt hsz), fun x c h => ?_, fun x c h => ?_, fun x c hx h => ?_, fun x y c h h' => ?_, fun a h => S.fLive h, fun _ h => h.elim⟩, e3.1, fun a o _ hq h => e3.2.1 a o hq h, fun _ _ h => h.elim, e3.2.2.1 S.tabs, e3.2.2.2, ⟨fun _ => none, ?_⟩, fun x c h => ?_, fun x d hx => ?_, fun x hx => ?_, fun a ha => ?_, ?_⟩
  · intro q
    have q : s₂.heap.objs.size + 1 = c := Eq.symm q
    rcases hcs x c (mem_of_lookup h) with h | h
    · have := h.1; omega
    · have := hcell x c h.1; omega
  · rcases hcs x c (mem_of_lookup h) with h | h
    · exact not_T2 (Nat.lt_of_lt_of_le hsz (Nat.le_of_succ_le (Nat.le_of_succ_le h.1)))
    · exact S.ok.cellT x c h.1
  · rcases hcs x c (mem_of_lookup h) with h | h
    · exact hold c (Nat.le_of_succ_le (Nat.le_of_succ_le h.1))
    · exfalso
      obtain ⟨y, hy, rfl⟩ := List.mem_map.mp hx
      obtain ⟨hy, hyc⟩ := List.mem_filter.mp hy
      have := List.all_eq_true.mp K.cell y hy
      rw [hyc] at this
      have := List.all_eq_true.mp (by simpa using this : (scope.names.all fun z => !(z.1 == y.1) || z.2 == .cell) = true) _ h.2
      simp at this
  · refine cellsFrom_apart (fun z d hz => ?_) (fun x y c hx hy => ?_) (mem_of_lookup h) (mem_of_lookup h')
    · exact Nat.lt_succ_of_lt (Nat.lt_succ_of_lt (hcell z d (hcl z d hz).1))
    · exact S.ok.apart x y c (hcl x c hx).1 (hcl y c hy).1
  · rw [hs₃]
    have : (compC C own s scope (s₂.heap.objs.size + 1)).env.locals = (s₂.heap.push { cls := .type "list", data := .seq #[] }).objs.size := by rw [Heap.size_push]; rfl
    rw [this]
    exact (Heap.Ns.new (s₂.heap.push { cls := .type "list", data := .seq #[] }) (.type "dict")).keeps (pushCells_keeps _ _)
  · rcases hcs x c (mem_of_lookup h) with h | h
    · exact ⟨_, h.2.1⟩
    · obtain ⟨v, o, ho, r⟩ := S₂.cells x c h.1
      exact ⟨v, o, kp c o ho, r⟩
  · obtain ⟨v, hv, hr⟩ := S.vars x d (hρ.get hx)
    have hxf := List.all_eq_true.mp hρf _ (mem_of_lookup hx)
    simp only [Bool.and_eq_true, beq_iff_eq, Bool.not_eq_true'] at hxf
    refine ⟨v, ⟨hv.1, .inr ?_⟩, hr.mono (fun a o hf hc h => ?_) e3.2.2.2⟩
    · have hkind : ∀ k, C.env.kindOf x = some k → (compC C own s scope (s₂.heap.objs.size + 1)).env.kindOf x = some (if k == .cell then .cell else .free) := fun k hk' => by
        have := lookup_relabel_free (env := C.env) hxf.1
        show (relabel scope C.env).names.lookup x = _
        unfold relabel
        rw [this, S.ok.kind, hk']
        cases k <;> rfl
      have hcc : ∀ c, C.env.cells.lookup x = some c → (compC C own s scope (s₂.heap.objs.size + 1)).env.cells.lookup x = some c := fun c hc => by
        have h1 := cloF_lookup hc (mem_of_lookup hxf.1)
        have h2 := cellsFrom_acc (n := s₂.heap.objs.size + 1 + 1) (names := scope.names) h1 (fun h => by
          have := List.all_eq_true.mp K.cell _ h
          have := List.all_eq_true.mp (by simpa using this : (scope.names.all fun z => !(z.1 == x) || z.2 == .cell) = true) _ (mem_of_lookup hxf.1)
          simp at this)
        exact h2
      rcases hv.2 with ⟨hk', m, hm, hmx⟩ | ⟨hk', c, hc, hcv⟩
      · have := hxf.2.2
        rw [hk'] at this
        simp at this
      · obtain ⟨o, ho, hd⟩ := hcv
        have ho' := kp c o (e.2.1 c o (.inr (S.ok.cellT x c hc)) ho)
        rcases hk' with hk' | ⟨hk', _⟩
        · exact ⟨.inl (hkind _ hk'), c, hcc c hc, o, ho', hd⟩
        · exact ⟨.inr ⟨hkind _ hk', hxf.2.1⟩, c, hcc c hc, o, ho', hd⟩
    · have h2 := (keep_rd S.tabs e (C.F own) a o hf hc h).1
      refine kr a o (fun q => q.elim hf fun q => ?_) hc h2
      subst q
      rw [hn] at h; cases h
  · rcases List.mem_cons.mp hx with rfl | hx
    · refine OwnRd.plist (vs := []) ⟨0, ?_⟩ .nil
      rw [hs₃]
      exact pushCells_keeps _ _ _ _ (Heap.get?_push_of_some _ (Heap.get?_push_size _ rfl))
    · exact (hk x hx).mono (fun a _ o h => kp a o h) kr (by rw [hs₃]; exact Nat.le_refl _)
  · rw [hA] at ha
    have ha' : s.heap.get? a = none ∧ ¬ T2 a ∧ s₂.heap.objs.size ≥ a ∧ ∀ x, C.env.cells.lookup x ≠ some a := by
      rcases List.mem_cons.mp ha with rfl | ha
      · exact ⟨hold _ (Nat.le_refl _), not_T2 hsz, Nat.le_refl _, fun x h => absurd (hcell x _ h) (Nat.lt_irrefl _)⟩
      · obtain rfl : a = T.I := by simpa using ha
        have hT2 := S.none_old hn
        exact ⟨hn, hT2.2.1, Nat.le_of_lt hT, hT2.2.2.2.1⟩
    refine ⟨.inl ha'.1, fun q => ?_, ha'.2.1, fun x h => ?_⟩
    · have q : s₂.heap.objs.size + 1 = a := Eq.symm q
      have := ha'.2.2.1
      omega
    · rcases hcs x a (mem_of_lookup h) with h | h
      · have := h.1; have := ha'.2.2.1; omega
      · exact ha'.2.2.2 x h.1
  · rw [hA]
    refine List.nodup_cons.mpr ⟨fun h => ?_, List.nodup_cons.mpr ⟨(fun h => nomatch h), List.nodup_nil⟩⟩
    have : s₂.heap.objs.size = T.I := by simpa using h
    exact absurd hT (by rw [this]; exact Nat.lt_irrefl _)
end
end Mine

end

-- part MC3
section
open PySem PySem.W PyProof.Rows PySem.Calls
set_option maxRecDepth 100000
set_option linter.unusedVariables false
namespace Mine

noncomputable abbrev ifsOk (ifs : List Expr) (env : Env) : Sem Bool := forIn ifs true fun c r => if r = true then do let ok ← isTrue c env (eval c env); pure (ForInStep.yield ok) else pure (ForInStep.yield r)

theorem St.unshadow {C : Cx} {ρ : List (Str × D)} {own : List Own} {s : Shared} {x : Str} {d : D} (S : St C ((x, d) :: ρ) own s) (hx : ρ.lookup x = none) : St C ρ own s :=
  ⟨S.ok, S.same, S.keep, S.live, S.tabs, S.tk, S.ns, S.cells, fun y e hy => S.vars y e (by rw [lookup_cons_ne (by rintro rfl; rw [hx] at hy; cases hy)]; exact hy), S.owns, S.ownNew, S.nodup⟩

section
variable {C : Cx} {ρ ρc : List (Str × D)} {own : List Own} {s : Shared} {elt iter : Expr} {x : Str} {px pos : Pos} {ifs : List Expr} {scope : Scope} {items : List D}

theorem comp_core {e : Expr} {p0 : Pos} {use : Option (Value → Sem Unit)} {Q : Value → Shared → Prop} (he : e = .ListComp elt [⟨.Name x px, iter, ifs, 0⟩] scope pos) (K : CompOk C scope) (hit : It C ρ own iter items) (hz : items.length ≤ sizeLine) (hρ : Sub ρc ρ)
    (hρf : (ρc.all fun y => scope.names.lookup y.1 == some .free && (!(y.1 == ("__classdict__" : Str)) && !(C.env.kindOf y.1 == some .local))) = true) (hxρ : ρc.lookup x = none)
    (J : Nat → List D → List Own → Prop) (h0 : J 0 [] []) (hJ : ∀ i acc js, J i acc js → acc.length ≤ i) (S : St C ρ own s) (hx : ∀ L, storable (compC C own s scope L) x = true)
    (turn : ∀ L i d acc js R, items[i]? = some d → J i acc js → ∀ a s₁, St (compC C own s scope L) ((x, d) :: ρc) (.ob a (.plist acc) :: (js ++ R)) s₁ →
      wpAny C.M C.A (ifsOk ifs (compC C own s scope L).env) (fun ok s₂ => if ok = true then wpAny C.M C.A (eval elt (compC C own s scope L).env) (fun v s₃ => ∃ d' js', J (i + 1) (acc ++ [d']) js' ∧
          St (compC C own s scope L) ((x, d) :: ρc) (.ob a (.plist acc) :: (js' ++ R)) s₃ ∧ Rd C.w s₃ ((compC C own s scope L).F (.ob a (.plist acc) :: (js' ++ R))) v d') NoE s₂
        else J (i + 1) acc js ∧ St (compC C own s scope L) ((x, d) :: ρc) (.ob a (.plist acc) :: (js ++ R)) s₂) NoE s₁)
    (hQ : ∀ s₅ a L acc js, J items.length acc js → St (compC C own s scope L) ρc (.ob a (.plist acc) :: js) s₅ → compPost C.M C.A NoE use Q (.ref a) L (.ok .next) s₅)
    (hs : ∀ x, foldedSetIterable iter C.env x = pure x) : wpAny C.M C.A (comprehension e scope C.env p0 (newList []) false (eval iter C.env) use) Q NoE s := by
  subst he
  have hnames : ∀ y ∈ scope.names, y.2 = .local → scope.names.lookup y.1 = some .local := fun y hy hl => by
    have := List.all_eq_true.mp K.loc y hy
    rw [hl] at this
    simpa using this
  refine wpAny_comprehension_free rfl hs (closure_eq K.free) K.kind hnames (wpAny_mono (hit s S) (fun xv s₁ h₁ => wpAny_mono h₁ (fun it s₂ h₂ => ?_) fun _ _ x => x) fun _ _ x => x)
  obtain ⟨e, T, rfl, hn, hk⟩ := h₂
  refine wpAny_newObj_type (wp_compEnv fun cenv hcl hce => ?_)
  dsimp only at hcl hce ⊢
  rw [hce, hcl]
  have hsz : (s₂.heap.push { cls := .type "list", data := .seq ([] : List Value).toArray }).objs.size = s₂.heap.objs.size + 1 := Heap.size_push ..
  rw [hsz]
  have S₃ := compC_start S e T hn hk K hρ hρf rfl
  have loop : ∀ s₃ : Shared, St (compC C own s scope (s₂.heap.objs.size + 1)) ρc (.ob s₂.heap.objs.size (.plist []) :: T.js 0) s₃ →
      codeAny C.M C.A (.compLoop (.ListComp elt [⟨.Name x px, iter, ifs, 0⟩] scope pos) 0 (.ref T.I) (.ref s₂.heap.objs.size) (compC C own s scope (s₂.heap.objs.size + 1)).env)
        (compPost C.M C.A NoE use Q (.ref s₂.heap.objs.size) (s₂.heap.objs.size + 1)) s₃ := fun s₃ S₃ => by
    refine codeAny_compLoop_tests (fun n s' => ∃ i acc js, n = items.length + 1 - i ∧ i ≤ items.length ∧ J i acc js ∧ St (compC C own s scope (s₂.heap.objs.size + 1)) ρc (.ob s₂.heap.objs.size (.plist acc) :: (js ++ T.js i)) s') ?_ (items.length + 1) ⟨0, [], [], rfl, Nat.zero_le _, h0, S₃⟩
    rintro n s₄ ⟨i, acc, js, rfl, hi, hJi, S₄⟩
    refine wpAny_mono (T.step (compC C own s scope (s₂.heap.objs.size + 1)) ρc (.ob s₂.heap.objs.size (.plist acc) :: js) s₄ i rfl rfl hn S₄ hi) (fun r s₅ h₅ => ?_) fun _ _ x => x.elim
    cases r with
    | none =>
      obtain ⟨rfl, S₅⟩ := h₅
      exact hQ s₅ _ _ acc js hJi S₅
    | some v =>
      obtain ⟨d, hd, S₅, r₅⟩ := h₅
      have hlt := (List.getElem?_eq_some_iff.mp hd).1
      refine wpAny_assign_Name (store_name S₅ (hx _) r₅ fun s₆ S₆ => ?_)
      refine wpAny_mono (turn _ i d acc js (T.js (i + 1)) hd hJi _ s₆ S₆) (fun ok s₇ h₇ => ?_) fun _ _ x => x.elim
      cases ok with
      | false =>
        simp only [Bool.false_eq_true, if_false] at h₇ ⊢
        exact ⟨items.length + 1 - (i + 1), by omega, i + 1, acc, js, rfl, hlt, h₇.1, h₇.2.unshadow hxρ⟩
      | true =>
        simp only [if_true] at h₇ ⊢
        refine wpAny_mono h₇ (fun y s₈ h₈ => ?_) fun _ _ x => x.elim
        obtain ⟨d', js', hJ', S₈, r₈⟩ := h₈
        have hO := S₈.owns _ (.head _)
        cases hO with
        | plist ht hr =>
          rename_i vs
          have hlen : vs.toArray.size ≤ sizeLine := by
            rw [List.size_toArray, hr.1]
            exact Nat.le_trans (hJ i acc js hJi) (Nat.le_trans hi hz)
          refine wpAny_list_append_plain ht (fun h' hl hs' => ?_) hlen
          refine ⟨items.length + 1 - (i + 1), by omega, i + 1, acc ++ [d'], js', rfl, hlt, hJ', ?_⟩
          have hFa : (compC C own s scope (s₂.heap.objs.size + 1)).F (.ob s₂.heap.objs.size (.plist acc) :: (js' ++ T.js (i + 1))) s₂.heap.objs.size := .inr (.inr (.inr (.head _)))
          have k8 := same_rd hs' hFa
          refine (S₈.set (x' := .ob s₂.heap.objs.size (.plist (acc ++ [d']))) (tk := s₈.toks) rfl rfl (fun b o hb e => by rw [hs'.2 b hb]; exact e) (fun o us q t e hd => ?_) ?_).unshadow hxρ
          · obtain ⟨n, ho'⟩ := ht
            rw [e] at ho'; cases ho'
            cases hd
          · refine OwnRd.plist (vs := vs ++ [y]) (by simpa using hl) ?_
            exact ((hr.mono k8 (by exact Nat.le_refl _)).append (.cons (r₈.mono k8 (by exact Nat.le_refl _)) .nil))
  refine codeAny_compStart_list (loop _ S₃) (T.self 0 _ _ _ ?_ (loop _ S₃))
  have := S₃.owns (.wk T.I T.fp (T.S 0)) (.tail _ (.head _))
  exact this.1

end
end Mine

end

-- part MC4
section
open PySem PySem.W PyProof.Rows PySem.Calls
set_option maxRecDepth 100000
set_option linter.unusedVariables false
namespace Mine

section
variable {C : Cx} {ρ ρc : List (Str × D)} {own : List Own} {s s₅ : Shared} {elt iter : Expr} {x : Str} {px pos : Pos} {ifs : List Expr} {scope : Scope} {items : List D}

theorem ns_data {h : Heap} {a : Addr} {m : Str → Option Value} (hn : h.Ns a m) {o : Obj} {vs : Array Value} (e : h.get? a = some o) : o.data ≠ .fields vs := by
  obtain ⟨o', es, ep, ho, hd, _⟩ := hn
  rw [e] at ho; cases ho
  rw [hd]; nofun

theorem comp_end {L : Addr} {js : List Own} (S₅ : St (compC C own s scope L) ρc js s₅) {h' : Heap} (hs : Heap.SameBut L s₅.heap h') :
    Eff C.q s { s₅ with heap := h' } ∧ (∀ b ∈ ownA js, s.heap.get? b = none) ∧ (ownA js).Nodup ∧ ∀ x ∈ js, OwnOk C.w { s₅ with heap := h' } (fun b => C.F own b ∨ b ∈ ownA js ∨ b = L) x := by
  have hL : s.heap.get? L = none := S₅.ok.loc
  have hb : ∀ b ∈ ownA js, s.heap.get? b = none ∧ b ≠ L := fun b hb => ⟨(S₅.ownNew b hb).1.resolve_right id, (S₅.ownNew b hb).2.1⟩
  have hLF : (compC C own s scope L).F js L := .inr (.inl rfl)
  have kr : ∀ b o, ¬ (compC C own s scope L).F js b → Solid o → s₅.heap.get? b = some o → h'.get? b = some o ∧ ¬ (C.F own b ∨ b ∈ ownA js ∨ b = L) := fun b o hf _ e =>
    ⟨by rw [hs.2 b (by rintro rfl; exact hf hLF)]; exact e, fun q => hf (q.elim (fun q => .inl ⟨q, id⟩) fun q => q.elim (fun q => .inr (.inr (.inr q))) fun q => .inr (.inl q))⟩
  refine ⟨⟨?_, fun a o hq e => ?_, fun _ => ?_, S₅.tk⟩, fun b h => (hb b h).1, S₅.nodup, fun x hx => ?_⟩
  · obtain ⟨h, tk, hh⟩ := S₅.same
    exact ⟨h', tk, by rw [hh]; rfl⟩
  · rw [show ({ s₅ with heap := h' } : Shared).heap = h' from rfl, hs.2 a (by rintro rfl; rw [hL] at e; cases e)]
    exact S₅.keep a o id hq e
  · have hT : ¬ T2 L := S₅.ok.locT
    obtain ⟨m, hm⟩ := S₅.ns
    have k : ∀ P, T2 P → ∀ o, s₅.heap.get? P = some o → h'.get? P = some o := fun P hP o e => by rw [hs.2 P (by rintro rfl; exact hT hP)]; exact e
    have k2 : ∀ b o vs, o.data = .fields vs → (∃ q t, vs[1]? = some (.str q t)) → s₅.heap.get? b = some o → h'.get? b = some o := fun b o vs hd _ e => by
      rw [hs.2 b (by rintro rfl; exact ns_data hm e hd)]; exact e
    exact ⟨S₅.tabs.t1.keep (k 47 (.inl rfl)) k2, S₅.tabs.t2.keep (k 54 (.inr rfl)) k2⟩
  · refine (S₅.owns x hx).mono (fun b hxb o e => ?_) kr (by exact Nat.le_refl _)
    have := hb b (List.mem_filterMap.mpr ⟨x, hx, hxb⟩)
    rw [show ({ s₅ with heap := h' } : Shared).heap = h' from rfl, hs.2 b this.2]; exact e

theorem ob_rd {C : Cx} {own : List Own} {h : Shared} {a : Addr} {d : D} {F : Addr → Prop} (ho : OwnRd C.w h F a d) (hF : ∀ b o, ¬ F b → Solid o → h.heap.get? b = some o → ¬ C.F own b) (ha : ¬ C.F own a) : Rd C.w h (C.F own) (.ref a) (frz d) := by
  cases ho with
  | list ht hr => exact RdAll.list (hr.mono (fun b o hb hc e => ⟨e, hF b o hb hc e⟩) (Nat.le_refl _)) ht ha
  | plist ht hr => exact RdAll.list (hr.mono (fun b o hb hc e => ⟨e, hF b o hb hc e⟩) (Nat.le_refl _)) ht.isList ha
  | dict ht hm hl hr => exact .dict ht hm ha hl fun i v d h1 h2 => (hr i v d h1 h2).mono (fun b o hb hc e => ⟨e, hF b o hb hc e⟩) (Nat.le_refl _)

/-- a comprehension of a known list: g says what each item gives -/
theorem evComp (g : D → Option D) (ρc : List (Str × D)) (hit : It C ρ own iter items) (hz : items.length ≤ sizeLine) (hρ : Sub ρc ρ)
    (turn : ∀ (s : Shared) (L : Addr) (own' : List Own) (i : Nat) (d : D), items[i]? = some d → St C ρ own s → match g d with
      | some d' => (∀ s₁, St (compC C own s scope L) ((x, d) :: ρc) own' s₁ → wpAny C.M C.A (ifsOk ifs (compC C own s scope L).env) (fun ok s₂ => Eff C.q s₁ s₂ ∧ ok = true) NoE s₁) ∧ Ev (compC C own s scope L) ((x, d) :: ρc) own' elt d'
      | none => ∀ s₁, St (compC C own s scope L) ((x, d) :: ρc) own' s₁ → wpAny C.M C.A (ifsOk ifs (compC C own s scope L).env) (fun ok s₂ => Eff C.q s₁ s₂ ∧ ok = false) NoE s₁)
    (K : autoParam (CompOk C scope) Mine.tacC)
    (hρf : autoParam ((ρc.all fun y => scope.names.lookup y.1 == some .free && (!(y.1 == ("__classdict__" : Str)) && !(C.env.kindOf y.1 == some .local))) = true) Mine.tacI) (hxρ : autoParam (ρc.lookup x = none) Mine.tacI)
    (hx : autoParam (∀ s L, storable (compC C own s scope L) x = true) Mine.tacF) (hs : autoParam (∀ x, foldedSetIterable iter C.env x = pure x) Mine.tacH) :
    Ev C ρ own (.ListComp elt [⟨.Name x px, iter, ifs, 0⟩] scope pos) (.list (items.filterMap g)) := fun s S => by
  rw [eval_ListComp]
  refine comp_core (use := none) rfl K hit hz hρ hρf hxρ (fun i acc js => acc = (items.take i).filterMap g ∧ js = []) ⟨rfl, rfl⟩ (fun i acc js h => ?_) S (hx s) (fun L i d acc js R hd hJ a s₁ S₁ => ?_) (fun s₅ a L acc js hJ S₅ => ?_) hs
  · rw [h.1]
    exact Nat.le_trans (List.length_filterMap_le _ _) (by rw [List.length_take]; omega)
  · obtain ⟨rfl, rfl⟩ := hJ
    have hlt := (List.getElem?_eq_some_iff.mp hd).1
    have htk : items.take (i + 1) = items.take i ++ [d] := by rw [List.take_add_one, hd]; rfl
    have t := turn s L (.ob a (.plist ((items.take i).filterMap g)) :: ([] ++ R)) i d hd S
    cases hg : g d with
    | none =>
      rw [hg] at t
      refine wpAny_mono (t s₁ S₁) (fun ok s₂ ⟨e, hok⟩ => ?_) fun _ _ x => x.elim
      subst hok
      refine ⟨⟨by rw [htk, List.filterMap_append]; simp [hg], rfl⟩, S₁.eff e⟩
    | some d' =>
      rw [hg] at t
      refine wpAny_mono (t.1 s₁ S₁) (fun ok s₂ ⟨e, hok⟩ => ?_) fun _ _ x => x.elim
      subst hok
      have S₂ := S₁.eff (C := compC C own s scope L) e
      refine wpAny_mono (t.2 s₂ S₂) (fun v s₃ ⟨e', r⟩ => ?_) fun _ _ x => x.elim
      refine ⟨d', [], ⟨by rw [htk, List.filterMap_append]; simp [hg], rfl⟩, S₂.eff e', r⟩
  · obtain ⟨rfl, rfl⟩ := hJ
    refine let ⟨m, hm⟩ := S₅.ns; ⟨m, hm, fun h' hs' => ?_⟩
    obtain ⟨e, hb, _, hk⟩ := comp_end S₅ hs'
    have hk := hk _ (.head _)
    rw [List.take_length] at hk
    have hold : ∀ b, C.F own b → ∃ o, s.heap.get? b = some o := fun b h => S.live' b h
    have ha : ¬ C.F own a := fun q => by
      obtain ⟨o, ho⟩ := hold a q
      rw [hb a (.head _)] at ho; cases ho
    refine ⟨e, ob_rd hk (fun b o hb' _ _ q => hb' (.inl q)) ha⟩

theorem ifs_nil {M : Model} {A : Around} {env : Env} {s : Shared} {q : Bool} : wpAny M A (ifsOk [] env) (fun ok s₂ => Eff q s s₂ ∧ ok = true) NoE s := wpAny_pure ⟨Eff.refl _ _, rfl⟩
theorem ifs_one {c : Expr} {b : Bool} (h : EvB C ρ own c b) : ∀ s₁, St C ρ own s₁ → wpAny C.M C.A (ifsOk [c] C.env) (fun ok s₂ => Eff C.q s₁ s₂ ∧ ok = b) NoE s₁ := fun s₁ S₁ => by
  unfold ifsOk
  rw [List.forIn_cons]
  simp only [if_true]
  refine wpAny_bind (wpAny_bind (wpAny_mono (h s₁ S₁) (fun v s₂ hv => wpAny_pure ?_) fun _ _ x => x))
  exact wpAny_pure hv

/-- each item gives one -/
theorem evMap (f : D → D) (ρc : List (Str × D)) (hit : It C ρ own iter items) (hz : items.length ≤ sizeLine) (hρ : Sub ρc ρ)
    (turn : ∀ (s : Shared) (L : Addr) (own' : List Own) (i : Nat) (d : D), items[i]? = some d → St C ρ own s → Ev (compC C own s scope L) ((x, d) :: ρc) own' elt (f d))
    (K : autoParam (CompOk C scope) Mine.tacC)
    (hρf : autoParam ((ρc.all fun y => scope.names.lookup y.1 == some .free && (!(y.1 == ("__classdict__" : Str)) && !(C.env.kindOf y.1 == some .local))) = true) Mine.tacI) (hxρ : autoParam (ρc.lookup x = none) Mine.tacI)
    (hx : autoParam (∀ s L, storable (compC C own s scope L) x = true) Mine.tacF) (hs : autoParam (∀ x, foldedSetIterable iter C.env x = pure x) Mine.tacH) :
    Ev C ρ own (.ListComp elt [⟨.Name x px, iter, [], 0⟩] scope pos) (.list (items.map f)) := by
  have := evComp (x := x) (px := px) (pos := pos) (ifs := []) (elt := elt) (scope := scope) (fun d => some (f d)) ρc hit hz hρ (fun s L own' i d hd S => ⟨fun s₁ _ => ifs_nil, turn s L own' i d hd S⟩) K hρf hxρ hx hs
  rwa [List.filterMap_eq_map'] at this
end
end Mine

end

-- part MC5
section
open PySem PySem.W PyProof.Rows PySem.Calls
set_option maxRecDepth 100000
set_option linter.unusedVariables false
namespace Mine

section
variable {C : Cx} {ρ ρ' ρc : List (Str × D)} {own : List Own} {s s₅ : Shared} {elt iter : Expr} {x y : Str} {px py pos spos : Pos} {ifs : List Expr} {scope : Scope} {items : List D} {rest : List Stmt} {Φ : Flow → Shared → Prop}

theorem St.look (S : St C ρ own s) (h : ∀ z d, ρ'.lookup z = some d → ρ.lookup z = some d) : St C ρ' own s :=
  ⟨S.ok, S.same, S.keep, S.live, S.tabs, S.tk, S.ns, S.cells, fun x d hx => S.vars x d (h x d hx), S.owns, S.ownNew, S.nodup⟩

theorem look_over {d d' : D} {z : Str} {e : D} (h : List.lookup z ((y, d) :: ρ) = some e) : List.lookup z ((y, d) :: (y, d') :: ρ) = some e := by
  by_cases hz : z = y
  · subst hz; rw [lookup_cons_eq] at h ⊢; exact h
  · rw [lookup_cons_ne hz] at h ⊢; rw [lookup_cons_ne hz]; exact h

theorem St.freezeN {x : Str} {a : Addr} {ds : List D} (S : St C ρ (.ob a (.plist ds) :: own) s) (hx : ρ.lookup x = some (.addr a)) (hX : ¬ C.X a) : St C ((x, .nlist ds) :: ρ) own s := by
  have S' := S.drop
  have hA : ownA (.ob a (.plist ds) :: own) = a :: ownA own := rfl
  have hn := S.nodup
  rw [hA] at hn
  have hn := List.nodup_cons.mp hn
  have hnew := S.ownNew a (.head _)
  have h0 := hnew.1.resolve_right hX
  have hf : ¬ C.F own a := by
    rintro (q | q | ⟨y, q⟩ | q)
    · obtain ⟨_, o, ho, _⟩ := S.ok.f0 a q.1; rw [h0] at ho; cases ho
    · exact hnew.2.1 q
    · exact hnew.2.2.2 y q
    · exact hn.1 q
  have kr : ∀ b o, ¬ C.F (.ob a (.plist ds) :: own) b → Solid o → s.heap.get? b = some o → s.heap.get? b = some o ∧ ¬ C.F own b := fun b o hb _ e => ⟨e, fun q => hb (F_mono (own := .ob a (.plist ds) :: own) (fun c h => by rw [hA]; exact List.mem_cons_of_mem a h) q)⟩
  refine ⟨S'.ok, S'.same, S'.keep, S'.live, S'.tabs, S'.tk, S'.ns, S'.cells, fun y e hy => ?_, S'.owns, S'.ownNew, S'.nodup⟩
  by_cases hyx : y = x
  · subst hyx
    rw [lookup_cons_eq] at hy; cases hy
    obtain ⟨v, hv, hr⟩ := S.vars y _ hx
    rw [hr.addr_inv] at hv
    refine ⟨_, hv, ?_⟩
    have hO := S.owns _ (.head _)
    cases hO with
    | plist ht hr =>
      have r := hr.mono kr (Nat.le_refl _)
      exact .nlist ht hf r.1 r.2
  · rw [lookup_cons_ne hyx] at hy
    exact S'.vars y e hy

theorem St.weakN {x : Str} {ds : List D} (S : St C ((x, .nlist ds) :: ρ) own s) : St C ((x, .list ds) :: ρ) own s :=
  ⟨S.ok, S.same, S.keep, S.live, S.tabs, S.tk, S.ns, S.cells, fun y d hy => by
    by_cases h : y = x
    · subst h
      rw [lookup_cons_eq] at hy; cases hy
      obtain ⟨v, hv, r⟩ := S.vars y (.nlist ds) lookup_cons_eq
      exact ⟨v, hv, r.nlist_list⟩
    · rw [lookup_cons_ne h] at hy
      exact S.vars y d (by rw [lookup_cons_ne h]; exact hy), S.owns, S.ownNew, S.nodup⟩

theorem exAssignCompN (g : D → Option D) (ρc : List (Str × D)) (hit : It C ρ own iter items) (hz : items.length ≤ sizeLine) (hρ : Sub ρc ρ)
    (turn : ∀ (s : Shared) (L : Addr) (own' : List Own) (i : Nat) (d : D), items[i]? = some d → St C ρ own s → match g d with
      | some d' => (∀ s₁, St (compC C own s scope L) ((x, d) :: ρc) own' s₁ → wpAny C.M C.A (ifsOk ifs (compC C own s scope L).env) (fun ok s₂ => Eff C.q s₁ s₂ ∧ ok = true) NoE s₁) ∧ Ev (compC C own s scope L) ((x, d) :: ρc) own' elt d'
      | none => ∀ s₁, St (compC C own s scope L) ((x, d) :: ρc) own' s₁ → wpAny C.M C.A (ifsOk ifs (compC C own s scope L).env) (fun ok s₂ => Eff C.q s₁ s₂ ∧ ok = false) NoE s₁)
    (hr : Ex C ((y, .nlist (items.filterMap g)) :: ρ) own rest Φ)
    (K : autoParam (CompOk C scope) Mine.tacC)
    (hρf : autoParam ((ρc.all fun y => scope.names.lookup y.1 == some .free && (!(y.1 == ("__classdict__" : Str)) && !(C.env.kindOf y.1 == some .local))) = true) Mine.tacI) (hxρ : autoParam (ρc.lookup x = none) Mine.tacI)
    (hx : autoParam (∀ s L, storable (compC C own s scope L) x = true) Mine.tacF) (hy : autoParam (storable C y = true) Mine.tacI) (hX : autoParam (∀ a, ¬ C.X a) Mine.tacG) (hs : autoParam (∀ x, foldedSetIterable iter C.env x = pure x) Mine.tacH)
    (hsw : autoParam (swapsWith (.ListComp elt [⟨.Name x px, iter, ifs, 0⟩] scope pos) (some (.Name y py)) spos.line C.env = pure true) Mine.tacI) :
    Ex C ρ own (.Assign [.Name y py] (.ListComp elt [⟨.Name x px, iter, ifs, 0⟩] scope pos) spos :: rest) Φ := Ex.one fun s S => by
  rw [exec_Assign_Name_used _ _ _ _ hsw]
  refine wpAny_bind (wpAny_standAt (wpAny_bind ?_))
  show wpAny _ _ (do let _ ← comprehension (.ListComp elt [⟨.Name x px, iter, ifs, 0⟩] scope pos) scope C.env _ (newList []) false (eval iter C.env) (some (assign (.Name y py) C.env))) _ _ s
  refine wpAny_bind (wpAny_mono (comp_core (Q := fun _ s' => Then C rest Φ .next s') (use := some (assign (.Name y py) C.env)) rfl K hit hz hρ hρf hxρ (fun i acc js => acc = (items.take i).filterMap g ∧ js = []) ⟨rfl, rfl⟩ (fun i acc js h => ?_) S (hx s) (fun L i d acc js R hd hJ a s₁ S₁ => ?_) (fun s₅ a L acc js hJ S₅ => ?_) hs)
    (fun _ s' hq => wpAny_pure (wpAny_pure hq)) fun _ _ x => x)
  · rw [h.1]
    exact Nat.le_trans (List.length_filterMap_le _ _) (by rw [List.length_take]; omega)
  · obtain ⟨rfl, rfl⟩ := hJ
    have hlt := (List.getElem?_eq_some_iff.mp hd).1
    have htk : items.take (i + 1) = items.take i ++ [d] := by rw [List.take_add_one, hd]; rfl
    have t := turn s L (.ob a (.plist ((items.take i).filterMap g)) :: ([] ++ R)) i d hd S
    cases hg : g d with
    | none =>
      rw [hg] at t
      refine wpAny_mono (t s₁ S₁) (fun ok s₂ ⟨e, hok⟩ => ?_) fun _ _ x => x.elim
      subst hok
      refine ⟨⟨by rw [htk, List.filterMap_append]; simp [hg], rfl⟩, S₁.eff e⟩
    | some d' =>
      rw [hg] at t
      refine wpAny_mono (t.1 s₁ S₁) (fun ok s₂ ⟨e, hok⟩ => ?_) fun _ _ x => x.elim
      subst hok
      have S₂ := S₁.eff (C := compC C own s scope L) e
      refine wpAny_mono (t.2 s₂ S₂) (fun v s₃ ⟨e', r⟩ => ?_) fun _ _ x => x.elim
      refine ⟨d', [], ⟨by rw [htk, List.filterMap_append]; simp [hg], rfl⟩, S₂.eff e', r⟩
  · obtain ⟨rfl, rfl⟩ := hJ
    obtain ⟨e, hb, _, hk⟩ := comp_end S₅ (Heap.SameBut.refl _ _)
    have hk := hk _ (.head _)
    rw [List.take_length] at hk
    have hLa : a ≠ L := (S₅.ownNew a (.head _)).2.1
    have hL0 : s.heap.get? L = none := S₅.ok.loc
    obtain ⟨mL, hmL⟩ := S₅.ns
    have hA : ownA [Own.wk L [L] (fun h => ∃ m, h.Ns L m), .ob a (.plist (items.filterMap g))] = [L, a] := rfl
    have S₆ := S.adds (xs := [.wk L [L] (fun h => ∃ m, h.Ns L m), .ob a (.plist (items.filterMap g))]) e (fun b hb' => by
        rw [hA] at hb'
        rcases List.mem_cons.mp hb' with rfl | hb'
        · exact hL0
        · obtain rfl : b = a := by simpa using hb'
          exact hb _ (.head _)) (by rw [hA]; exact List.nodup_cons.mpr ⟨fun q => hLa (List.mem_singleton.mp q).symm, List.nodup_cons.mpr ⟨(fun h => nomatch h), List.nodup_nil⟩⟩) (fun z hz' => by
        rw [hA]
        rcases List.mem_cons.mp hz' with rfl | hz'
        · exact ⟨⟨_, hmL⟩, ns_notRec hmL, fun h₁ h₂ ⟨m, hm⟩ q => ⟨m, ns_at hm fun o e => q L (.head _) o e⟩, fun b hb' hne => absurd (List.mem_singleton.mp hb') hne⟩
        · obtain rfl : z = Own.ob a (.plist (items.filterMap g)) := by simpa using hz'
          refine OwnOk.mono (s := s₅) (fun _ _ _ h => h) (fun b o hf _ h => ⟨h, fun q => hf ?_⟩) (Nat.le_refl _) hk
          rcases q with q | q
          · exact .inl q
          · rcases List.mem_cons.mp q with rfl | q
            · exact .inr (.inr rfl)
            · exact .inr (.inl q))
    refine wpAny_assign_Name (store_name S₆ hy (.addr a) fun s₇ S₇ => ?_)
    obtain ⟨m7, hm7⟩ := (S₇.owns _ (.head _)).1
    refine ⟨m7, hm7, fun h' hs' => ?_⟩
    have S₈ := S₇.kill (h' := h') (tk := s₇.toks) rfl ((S₇.ownNew L (.head _)).1.resolve_right (hX _)) (fun b o hb' e => by rw [hs'.2 b hb']; exact e) (fun o vs q t e hd => absurd hd (ns_data hm7 e))
    exact hr _ ((S₈.freezeN lookup_cons_eq (hX _)).look fun z d h => look_over h)
theorem exAssignComp (g : D → Option D) (ρc : List (Str × D)) (hit : It C ρ own iter items) (hz : items.length ≤ sizeLine) (hρ : Sub ρc ρ)
    (turn : ∀ (s : Shared) (L : Addr) (own' : List Own) (i : Nat) (d : D), items[i]? = some d → St C ρ own s → match g d with
      | some d' => (∀ s₁, St (compC C own s scope L) ((x, d) :: ρc) own' s₁ → wpAny C.M C.A (ifsOk ifs (compC C own s scope L).env) (fun ok s₂ => Eff C.q s₁ s₂ ∧ ok = true) NoE s₁) ∧ Ev (compC C own s scope L) ((x, d) :: ρc) own' elt d'
      | none => ∀ s₁, St (compC C own s scope L) ((x, d) :: ρc) own' s₁ → wpAny C.M C.A (ifsOk ifs (compC C own s scope L).env) (fun ok s₂ => Eff C.q s₁ s₂ ∧ ok = false) NoE s₁)
    (hr : Ex C ((y, .list (items.filterMap g)) :: ρ) own rest Φ)
    (K : autoParam (CompOk C scope) Mine.tacC)
    (hρf : autoParam ((ρc.all fun y => scope.names.lookup y.1 == some .free && (!(y.1 == ("__classdict__" : Str)) && !(C.env.kindOf y.1 == some .local))) = true) Mine.tacI) (hxρ : autoParam (ρc.lookup x = none) Mine.tacI)
    (hx : autoParam (∀ s L, storable (compC C own s scope L) x = true) Mine.tacF) (hy : autoParam (storable C y = true) Mine.tacI) (hX : autoParam (∀ a, ¬ C.X a) Mine.tacG) (hs : autoParam (∀ x, foldedSetIterable iter C.env x = pure x) Mine.tacH)
    (hsw : autoParam (swapsWith (.ListComp elt [⟨.Name x px, iter, ifs, 0⟩] scope pos) (some (.Name y py)) spos.line C.env = pure true) Mine.tacI) :
    Ex C ρ own (.Assign [.Name y py] (.ListComp elt [⟨.Name x px, iter, ifs, 0⟩] scope pos) spos :: rest) Φ :=
  exAssignCompN g ρc hit hz hρ turn (fun s S => hr s S.weakN) K hρf hxρ hx hy hX hs hsw
theorem Ev.weakN {C : Cx} {ρ : List (Str × D)} {own : List Own} {e : Expr} {ds : List D} (h : Ev C ρ own e (.nlist ds)) : Ev C ρ own e (.list ds) := fun s S => wpAny_mono (h s S) (fun _ _ x => ⟨x.1, x.2.nlist_list⟩) fun _ _ x => x
end
end Mine

end

-- part F45
section
open PySem PySem.W PyProof.Rows PySem.Calls
set_option maxRecDepth 100000
set_option linter.unusedVariables false
namespace Mine

theorem ediv_emod_of {q r b n : Int} (e : q * b + r = n) (h0 : 0 ≤ r) (h : r < b) : n / b = q ∧ n % b = r := by
  have hb : 0 < b := by omega
  have e' : n = r + q * b := by rw [← e, Int.add_comm]
  constructor
  · rw [e', Int.add_mul_ediv_right _ _ (by omega), Int.ediv_eq_zero_of_lt h0 h]; omega
  · rw [e', Int.add_mul_emod_self_right, Int.emod_eq_of_lt h0 h]

theorem fn45 {w : World} {lvl : Nat} {a12 a3 b b1 b2 : Int} {h : Nat} (h1 : h ≤ 100000) (hb : b = b1 * 2 ^ h + b2) (hb1 : 0 < b1) (hb1' : b1 < 2 ^ h) (hb2 : 0 ≤ b2) (hb2' : b2 < 2 ^ h) (ha0 : 0 ≤ a12) (ha : a12 < b) (h30 : 0 ≤ a3) (h3 : a3 < 2 ^ h)
    (hc : a12.fdiv (2 ^ h) ≠ b1 → Fn w true lvl 38 [.int a12, .int b1, .int h] (.tup [.int (a12 / b1), .int (a12 % b1)])) : Fn w true (lvl + 1) 45 [.int a12, .int a3, .int b, .int b1, .int b2, .int h] (.tup [.int ((a12 * 2 ^ h + a3) / b), .int ((a12 * 2 ^ h + a3) % b)]) := by
  have hp := two_pow_pos h
  have hbp : 0 < b := by
    have := Int.mul_pos hb1 hp
    omega
  refine k45.fn ["a12", "a3", "b", "b1", "b2", "n"] (by kernel_rfl) (by decide) rfl (bind6 fun _ _ _ _ _ _ => rfl) fun A s F R => ?_
  have key : ∀ (q r0 : Int), q * b1 + r0 = a12 → 0 ≤ q → q < 2 ^ h → 0 ≤ r0 → r0 < 2 ^ h + 2 ^ h → r0 * 2 ^ h + a3 - q * b2 < b → ∀ ρ : List (Str × D), Sub [("q", .int q), ("r", .int r0), ("a3", .int a3), ("b", .int b), ("b2", .int b2), ("n", .int h)] ρ → Ex (mkC w A lvl true s F k45.fd 45) ρ [] (k45.body.drop 1) (Ret (mkC w A lvl true s F k45.fd 45) (.tup [.int ((a12 * 2 ^ h + a3) / b), .int ((a12 * 2 ^ h + a3) % b)])) := by
    intro q r0 e hq0 hq hr0 hr hlt ρ hs
    refine Ex.sub ?_ hs
    refine Ex.assign (Ev.bin (Ev.bin (Ev.bin (Ev.name rfl) (Ev.name rfl) (o_shl (Int.natCast_nonneg h) ?_)) (Ev.name rfl) o_or) (Ev.bin (Ev.name rfl) (Ev.name rfl) (o_mul ?_)) o_sub) ?_
    · exact shl_ok (m := h + 1) (bits_lt hr0 (by rw [Int.pow_succ]; omega)) (by omega)
    · exact IntMulOk.of_le (bits_lt hq0 hq) (bits_lt hb2 hb2') (by omega)
    have e1 : Builtin.bitOr (r0 * 2 ^ (h : Int).toNat) a3 - q * b2 = r0 * 2 ^ h + a3 - q * b2 := by
      show Builtin.bitOr (r0 * 2 ^ h) a3 - q * b2 = _
      rw [bitOr_shift hr0 h30 h3]
    rw [e1]
    refine Ex.while (α := Int × Int) (P := fun x => x.1 * b + x.2 = a12 * 2 ^ h + a3 ∧ x.2 < b) (I := fun x => [("q", .int x.1), ("r", .int x.2), ("b", .int b)]) (O := fun _ => []) (m := fun x => (-x.2).toNat) (t := fun x => decide (x.2 < 0))
      (q, r0 * 2 ^ h + a3 - q * b2) ?_ ⟨rfl, rfl, rfl, trivial⟩ rfl (fun x hx => EvB.cmp (Ev.name rfl) Ev.int o_lt) ?_ ?_
    · refine ⟨?_, hlt⟩
      show q * b + (r0 * 2 ^ h + a3 - q * b2) = _
      rw [hb, ← e]
      grind
    · intro x hx ht
      refine Ex.aug rfl Ev.int o_isub ?_
      refine Ex.aug rfl (Ev.name rfl) o_iadd ?_
      refine Ex.nil fun s S => ⟨(x.1 - 1, x.2 + b), ?_, ⟨?_, ?_⟩, S.sub ⟨rfl, rfl, rfl, trivial⟩⟩
      · have := of_decide_eq_true ht
        show (-(x.2 + b)).toNat < (-x.2).toNat
        omega
      · have := hx.1
        show (x.1 - 1) * b + (x.2 + b) = _
        rw [← this]; grind
      · have := of_decide_eq_true ht
        show x.2 + b < b
        omega
    · intro x hx ht
      have h0 : 0 ≤ x.2 := by
        have := of_decide_eq_false ht
        omega
      obtain ⟨e2, e3⟩ := ediv_emod_of hx.1 h0 hx.2
      rw [e2, e3]
      exact Ex.retn (Ev.tuple (EvL.cons (Ev.name rfl) (EvL.cons (Ev.name rfl) EvL.nil))) fun _ => id
  refine Ex.ite (EvB.cmp (Ev.bin (Ev.name rfl) (Ev.name rfl) (o_shr (Int.natCast_nonneg h))) (Ev.name rfl) o_eq) ?_ ?_
  · intro heq
    have heq' : a12 / 2 ^ h = b1 := by
      have := eq_of_beq heq
      rw [← this]
      show _ = a12.fdiv (2 ^ h)
      rw [Int.fdiv_eq_ediv_of_nonneg _ (by omega)]
    have hlo : b1 * 2 ^ h ≤ a12 := by rw [← heq']; exact Int.ediv_mul_le _ (by omega)
    refine Ex.unpackS (Ev.tuple (EvL.cons (Ev.bin (Ev.bin Ev.int (Ev.name rfl) (o_shl (Int.natCast_nonneg h) ?_)) Ev.int o_sub) (EvL.cons (Ev.bin (Ev.bin (Ev.name rfl) (Ev.bin (Ev.name rfl) (Ev.name rfl) (o_shl (Int.natCast_nonneg h) ?_)) o_sub) (Ev.name rfl) o_add) EvL.nil))) (Ex.done (key (1 * 2 ^ h - 1) (a12 - b1 * 2 ^ h + b1) ?_ ?_ ?_ ?_ ?_ ?_ _ ?_)) rfl
    · exact shl_ok (m := 1) (by decide) (by omega)
    · exact shl_ok (bits_lt (by omega) hb1') (by omega)
    · grind
    · omega
    · omega
    · omega
    · omega
    · rw [hb] at ha ⊢
      have e9 : (a12 - b1 * 2 ^ h + b1) * 2 ^ h ≤ (b2 - 1 + b1) * 2 ^ h := Int.mul_le_mul_of_nonneg_right (by omega) (by omega)
      grind
    · exact ⟨rfl, rfl, rfl, rfl, rfl, rfl, trivial⟩
  · intro heq
    have heq' : ¬ a12.fdiv (2 ^ h) = b1 := fun q => by
      have e9 : a12.fdiv (2 ^ (h : Int).toNat) = b1 := q
      rw [e9] at heq
      simp at heq
    have hlt : a12 / 2 ^ h < b1 := by
      have h2 : a12 / 2 ^ h ≠ b1 := by rw [← Int.fdiv_eq_ediv_of_nonneg _ (by omega)]; exact heq'
      have h4 : a12 / 2 ^ h < b1 + 1 := by
        rw [Int.ediv_lt_iff_lt_mul hp, hb] at *
        rw [Int.add_mul]; omega
      omega
    have hlt2 : a12 < b1 * 2 ^ h := by rw [Int.ediv_lt_iff_lt_mul hp] at hlt; exact hlt
    refine Ex.unpack (Ev.call (hc heq') (g38 w) (k38.hK w) (EvL.cons (Ev.name rfl) (EvL.cons (Ev.name rfl) (EvL.cons (Ev.name rfl) EvL.nil))) (hn := Nat.le_refl _)) (Ex.done (key (a12 / b1) (a12 % b1) ?_ ?_ ?_ ?_ ?_ ?_ _ ?_)) rfl
    · rw [Int.mul_comm]; exact Int.mul_ediv_add_emod a12 b1
    · exact Int.ediv_nonneg ha0 (by omega)
    · rw [Int.ediv_lt_iff_lt_mul hb1, Int.mul_comm]; exact hlt2
    · exact Int.emod_nonneg _ (by omega)
    · have := Int.emod_lt_of_pos a12 hb1
      omega
    · have h5 := Int.emod_lt_of_pos a12 hb1
      have h6 : (a12 % b1) * 2 ^ h ≤ (b1 - 1) * 2 ^ h := Int.mul_le_mul_of_nonneg_right (by omega) (by omega)
      have h7 : 0 ≤ a12 / b1 * b2 := Int.mul_nonneg (Int.ediv_nonneg ha0 (by omega)) hb2
      rw [hb]
      rw [Int.sub_mul] at h6
      omega
    · exact ⟨rfl, rfl, rfl, rfl, rfl, rfl, trivial⟩
end Mine

end

-- part F38
section
open PySem PySem.W PyProof.Rows PySem.Calls
set_option maxRecDepth 100000
set_option linter.unusedVariables false
namespace Mine

theorem bits_pow {n : Nat} {b : Int} (h1 : 1 ≤ n) (hb : 2 ^ (n - 1) ≤ b) : n ≤ Builtin.Int.intBits b := by
  refine Nat.le_of_not_lt fun h => ?_
  have hp := two_pow_pos (n - 1)
  have h2 : Builtin.Int.intBits b ≤ n - 1 := by omega
  have := lt_bits (by omega) h2
  omega

theorem two_mul_pow {a : Nat} : (2 : Int) ^ (a + a) = 2 ^ a * 2 ^ a := by rw [Int.pow_add]

theorem le_mul_one {x y : Int} (hx : 0 ≤ x) (hy : 1 ≤ y) : x ≤ x * y := by
  have := Int.mul_le_mul_of_nonneg_left hy hx
  omega
theorem mul_emod_right {a b c : Int} (hc : 0 < c) : a * c % (b * c) = a % b * c := by
  rw [Int.mul_comm a, Int.mul_comm b, Int.mul_emod_mul_of_pos _ _ hc, Int.mul_comm]
/-- the halves put together -/
theorem halves {a b : Int} {h : Nat} (hb : 0 < b) (ha : 0 ≤ a) :
    (a / 2 ^ h / b) * 2 ^ h + ((a / 2 ^ h % b) * 2 ^ h + a % 2 ^ h) / b = a / b ∧ ((a / 2 ^ h % b) * 2 ^ h + a % 2 ^ h) % b = a % b := by
  have hp := two_pow_pos h
  have e1 := Int.mul_ediv_add_emod a (2 ^ h)
  have e2 := Int.mul_ediv_add_emod (a / 2 ^ h) b
  have e3 := Int.mul_ediv_add_emod ((a / 2 ^ h % b) * 2 ^ h + a % 2 ^ h) b
  have l0 := Int.emod_nonneg ((a / 2 ^ h % b) * 2 ^ h + a % 2 ^ h) (Int.ne_of_gt hb)
  have l1 := Int.emod_lt_of_pos ((a / 2 ^ h % b) * 2 ^ h + a % 2 ^ h) hb
  have key := ediv_emod_of (q := (a / 2 ^ h / b) * 2 ^ h + ((a / 2 ^ h % b) * 2 ^ h + a % 2 ^ h) / b) (r := ((a / 2 ^ h % b) * 2 ^ h + a % 2 ^ h) % b) (b := b) (n := a) (by grind) l0 l1
  exact ⟨key.1.symm, key.2.symm⟩

theorem fdiv_pow {a : Int} {h : Nat} : a.fdiv (2 ^ h) = a / 2 ^ h := Int.fdiv_eq_ediv_of_nonneg _ (Int.le_of_lt (two_pow_pos h))

theorem fn38_of {w : World} {lvl : Nat} {a b : Int} {n : Nat} (h1 : 1 ≤ n) (hn : n ≤ 40000) (hb1 : 2 ^ (n - 1) ≤ b) (hb2 : b < 2 ^ n) (ha0 : 0 ≤ a) (ha : a < b * 2 ^ n)
    (H : 4000 < n → ∀ (a12 a3 b' b1 b2 : Int) (h : Nat), 1 ≤ h → h ≤ (n + 1) / 2 → b' = b1 * 2 ^ h + b2 → 2 ^ (h - 1) ≤ b1 → b1 < 2 ^ h → 0 ≤ b2 → b2 < 2 ^ h → 0 ≤ a12 → a12 < b' → 0 ≤ a3 → a3 < 2 ^ h →
      Fn w true lvl 45 [.int a12, .int a3, .int b', .int b1, .int b2, .int h] (.tup [.int ((a12 * 2 ^ h + a3) / b'), .int ((a12 * 2 ^ h + a3) % b')])) :
    Fn w true (lvl + 1) 38 [.int a, .int b, .int n] (.tup [.int (a / b), .int (a % b)]) := by
  have hp := two_pow_pos n
  have hb0 : 0 < b := Int.lt_of_lt_of_le (two_pow_pos _) hb1
  have habits : Builtin.Int.intBits a ≤ n + n := bits_lt ha0 (Int.lt_trans ha (by rw [two_mul_pow]; exact Int.mul_lt_mul_of_pos_right hb2 hp))
  refine k38.fn ["a", "b", "n"] (by kernel_rfl) (by decide) rfl (bind3 fun _ _ _ => rfl) fun A s F R => ?_
  have key : 4000 < n → ∀ (p h : Nat), (p = 0 ∨ p = 1) → n + p = h + h → ∀ ρ : List (Str × D), Sub [("a", .int (a * 2 ^ p)), ("b", .int (b * 2 ^ p)), ("n", .int ((n + p : Nat) : Int)), ("pad", .int p)] ρ →
      Ex (mkC w A lvl true s F k38.fd 38) ρ [] (k38.body.drop 3) (Ret (mkC w A lvl true s F k38.fd 38) (.tup [.int (a / b), .int (a % b)])) := by
    intro h4 p h hp01 hnp ρ hs
    refine Ex.sub ?_ hs
    have hpp := two_pow_pos p
    have hph := two_pow_pos h
    have hbb : 0 < b * 2 ^ p := Int.mul_pos hb0 hpp
    have haa : 0 ≤ a * 2 ^ p := Int.mul_nonneg ha0 (Int.le_of_lt hpp)
    have e22 : (2 : Int) ^ h * 2 ^ h = 2 ^ n * 2 ^ p := by rw [← two_mul_pow, ← hnp, Int.pow_add]
    have hfd : ∀ x : Int, x.fdiv (2 ^ (h : Int).toNat) = x / 2 ^ h := fun x => fdiv_pow
    have hfn : ∀ x : Int, x.fdiv (2 ^ ((n + p : Nat) : Int).toNat) = x / 2 ^ (n + p) := fun x => fdiv_pow
    have hmask : ∀ x : Int, 0 ≤ x → Builtin.bitAnd x (1 * 2 ^ (h : Int).toNat - 1) = x % 2 ^ h := fun x hx => by
      show Builtin.bitAnd x (1 * 2 ^ h - 1) = _
      rw [Int.one_mul]; exact bitAnd_mask hx
    have hbh : b * 2 ^ p < 2 ^ h * 2 ^ h := by rw [e22]; exact Int.mul_lt_mul_of_pos_right hb2 hpp
    have hah : a * 2 ^ p / 2 ^ h / 2 ^ h < b * 2 ^ p := by
      rw [Int.ediv_ediv_of_nonneg (Int.le_of_lt hph), Int.ediv_lt_iff_lt_mul (Int.mul_pos hph hph), e22]
      have := Int.mul_lt_mul_of_pos_right ha (Int.mul_pos hpp hpp)
      have := Int.mul_lt_mul_of_pos_right ha hpp
      have e : b * 2 ^ p * (2 ^ n * 2 ^ p) = b * 2 ^ n * 2 ^ p * 2 ^ p := by grind
      rw [e]
      have : b * 2 ^ n * 2 ^ p ≤ b * 2 ^ n * 2 ^ p * 2 ^ p := le_mul_one (Int.mul_nonneg (Int.mul_nonneg (by omega) (by omega)) (by omega)) (by omega)
      omega
    refine Ex.assign (Ev.as (d' := .int h) (Ev.bin (Ev.name rfl) Ev.int (o_shr (by decide))) ?_) ?_
    · congr 1
      show ((n + p : Nat) : Int).fdiv (2 ^ 1) = h
      rw [fdiv_pow]; omega
    refine Ex.assign (Ev.bin (Ev.bin Ev.int (Ev.name rfl) (o_shl (Int.natCast_nonneg h) ?_)) Ev.int o_sub) ?_
    · exact shl_ok (m := 1) (by decide) (by omega)
    refine Ex.unpackS (Ev.tuple (EvL.cons (Ev.as (d' := .int (b * 2 ^ p / 2 ^ h)) (Ev.bin (Ev.name rfl) (Ev.name rfl) (o_shr (Int.natCast_nonneg h))) (congrArg _ (hfd _))) (EvL.cons (Ev.as (d' := .int (b * 2 ^ p % 2 ^ h)) (Ev.bin (Ev.name rfl) (Ev.name rfl) o_and) (congrArg _ (hmask _ (by omega)))) EvL.nil))) ?_ rfl
    have B := Int.mul_ediv_add_emod (b * 2 ^ p) (2 ^ h)
    have B0 := Int.emod_nonneg (b * 2 ^ p) (Int.ne_of_gt hph)
    have B1 := Int.emod_lt_of_pos (b * 2 ^ p) hph
    have B2 : b * 2 ^ p / 2 ^ h < 2 ^ h := by rw [Int.ediv_lt_iff_lt_mul hph]; exact hbh
    have B3 : 2 ^ (h - 1) ≤ b * 2 ^ p / 2 ^ h := by
      rw [Int.le_ediv_iff_mul_le hph]
      have := Int.mul_le_mul_of_nonneg_right hb1 (Int.le_of_lt hpp)
      refine Int.le_trans (Int.le_of_eq ?_) this
      rw [← Int.pow_add, ← Int.pow_add]
      congr 1; omega
    have h45 : ∀ (a12 a3 : Int), 0 ≤ a12 → a12 < b * 2 ^ p → 0 ≤ a3 → a3 < 2 ^ h → Fn w true lvl 45 [.int a12, .int a3, .int (b * 2 ^ p), .int (b * 2 ^ p / 2 ^ h), .int (b * 2 ^ p % 2 ^ h), .int h] (.tup [.int ((a12 * 2 ^ h + a3) / (b * 2 ^ p)), .int ((a12 * 2 ^ h + a3) % (b * 2 ^ p))]) := fun a12 a3 x1 x2 x3 x4 =>
      H h4 a12 a3 (b * 2 ^ p) (b * 2 ^ p / 2 ^ h) (b * 2 ^ p % 2 ^ h) h (by omega) (by omega) (by rw [Int.mul_comm (b * 2 ^ p / 2 ^ h)]; exact B.symm) B3 B2 B0 B1 x1 x2 x3 x4
    have A0 := Int.ediv_nonneg haa (Int.le_of_lt hph)
    have e1 : a * 2 ^ p / 2 ^ (n + p) = a * 2 ^ p / 2 ^ h / 2 ^ h := by rw [hnp, two_mul_pow, Int.ediv_ediv_of_nonneg (Int.le_of_lt hph)]
    have e2 : a * 2 ^ p / 2 ^ h / 2 ^ h * 2 ^ h + a * 2 ^ p / 2 ^ h % 2 ^ h = a * 2 ^ p / 2 ^ h := by rw [Int.mul_comm]; exact Int.mul_ediv_add_emod _ _
    have c1 := h45 (a * 2 ^ p / 2 ^ h / 2 ^ h) (a * 2 ^ p / 2 ^ h % 2 ^ h) (Int.ediv_nonneg A0 (Int.le_of_lt hph)) hah (Int.emod_nonneg _ (Int.ne_of_gt hph)) (Int.emod_lt_of_pos _ hph)
    rw [e2] at c1
    refine Ex.unpack (Ev.call c1 (g45 w) (k45.hK w) (EvL.cons (Ev.as (Ev.bin (Ev.name rfl) (Ev.name rfl) (o_shr (Int.natCast_nonneg _))) (congrArg _ ((hfn _).trans e1))) (EvL.cons (Ev.as (Ev.bin (Ev.bin (Ev.name rfl) (Ev.name rfl) (o_shr (Int.natCast_nonneg h))) (Ev.name rfl) o_and) (congrArg _ (by rw [hfd]; exact hmask _ A0))) (EvL.cons (Ev.name rfl) (EvL.cons (Ev.name rfl) (EvL.cons (Ev.name rfl) (EvL.cons (Ev.name rfl) EvL.nil)))))) (hn := Nat.le_refl _)) ?_ rfl
    have R0 := Int.emod_nonneg (a * 2 ^ p / 2 ^ h) (Int.ne_of_gt hbb)
    have R1 := Int.emod_lt_of_pos (a * 2 ^ p / 2 ^ h) hbb
    have c2 := h45 (a * 2 ^ p / 2 ^ h % (b * 2 ^ p)) (a * 2 ^ p % 2 ^ h) R0 R1 (Int.emod_nonneg _ (Int.ne_of_gt hph)) (Int.emod_lt_of_pos _ hph)
    refine Ex.unpack (Ev.call c2 (g45 w) (k45.hK w) (EvL.cons (Ev.name rfl) (EvL.cons (Ev.as (Ev.bin (Ev.name rfl) (Ev.name rfl) o_and) (congrArg _ (hmask _ haa))) (EvL.cons (Ev.name rfl) (EvL.cons (Ev.name rfl) (EvL.cons (Ev.name rfl) (EvL.cons (Ev.name rfl) EvL.nil)))))) (hn := Nat.le_refl _)) ?_ rfl
    obtain ⟨m1, m2⟩ := halves (a := a * 2 ^ p) (h := h) hbb haa
    rw [m2]
    have q1 : a * 2 ^ p / (b * 2 ^ p) = a / b := Int.mul_ediv_mul_of_pos_left _ _ hpp
    have q2 : a * 2 ^ p % (b * 2 ^ p) = a % b * 2 ^ p := mul_emod_right hpp
    rw [q1] at m1
    rw [q2]
    have Q0 : 0 ≤ (a * 2 ^ p / 2 ^ h % (b * 2 ^ p) * 2 ^ h + a * 2 ^ p % 2 ^ h) / (b * 2 ^ p) := Int.ediv_nonneg (Int.add_nonneg (Int.mul_nonneg R0 (Int.le_of_lt hph)) (Int.emod_nonneg _ (Int.ne_of_gt hph))) (Int.le_of_lt hbb)
    have Q1 : (a * 2 ^ p / 2 ^ h % (b * 2 ^ p) * 2 ^ h + a * 2 ^ p % 2 ^ h) / (b * 2 ^ p) < 2 ^ h := by
      rw [Int.ediv_lt_iff_lt_mul hbb]
      have := Int.emod_lt_of_pos (a * 2 ^ p) hph
      have h9 : (a * 2 ^ p / 2 ^ h % (b * 2 ^ p) + 1) * 2 ^ h ≤ (b * 2 ^ p) * 2 ^ h := Int.mul_le_mul_of_nonneg_right (by omega) (Int.le_of_lt hph)
      rw [Int.add_mul] at h9
      rw [Int.mul_comm (2 ^ h)]
      omega
    have P0 : 0 ≤ a * 2 ^ p / 2 ^ h / (b * 2 ^ p) := Int.ediv_nonneg A0 (Int.le_of_lt hbb)
    have P1 : a * 2 ^ p / 2 ^ h / (b * 2 ^ p) < 2 ^ h := by
      rw [Int.ediv_lt_iff_lt_mul hbb]
      have : a * 2 ^ p / 2 ^ h / 2 ^ h < b * 2 ^ p := hah
      rw [Int.ediv_lt_iff_lt_mul hph] at this
      rw [Int.mul_comm (2 ^ h)]; exact this
    have fin : ∀ ρ : List (Str × D), Sub [("q1", .int (a * 2 ^ p / 2 ^ h / (b * 2 ^ p))), ("q2", .int ((a * 2 ^ p / 2 ^ h % (b * 2 ^ p) * 2 ^ h + a * 2 ^ p % 2 ^ h) / (b * 2 ^ p))), ("half_n", .int h), ("r", .int (a % b))] ρ →
        Ex (mkC w A lvl true s F k38.fd 38) ρ [] (k38.body.drop 9) (Ret (mkC w A lvl true s F k38.fd 38) (.tup [.int (a / b), .int (a % b)])) := fun ρ hs => by
      refine Ex.sub ?_ hs
      refine Ex.retn (Ev.tuple (EvL.cons (Ev.as (d' := .int (a / b)) (Ev.bin (Ev.bin (Ev.name rfl) (Ev.name rfl) (o_shl (Int.natCast_nonneg h) ?_)) (Ev.name rfl) o_or) (congrArg _ ?_)) (EvL.cons (Ev.name rfl) EvL.nil))) fun _ => id
      · exact shl_ok (bits_lt P0 P1) (by omega)
      · show Builtin.bitOr (_ * 2 ^ h) _ = _
        rw [bitOr_shift P0 Q0 Q1, m1]
    rcases hp01 with rfl | rfl
    · refine Ex.ite (c := false) (EvB.plain (Ev.name rfl) tr_int) (fun h => nomatch h) fun _ => Ex.done (fin _ ⟨rfl, rfl, rfl, ?_, trivial⟩)
      show some _ = some _
      rw [Int.pow_zero, Int.mul_one]
    · refine Ex.ite (c := true) (EvB.plain (Ev.name rfl) tr_int) (fun _ => ?_) (fun h => nomatch h)
      refine Ex.aug rfl Ev.int (o_ishr (by decide)) ?_
      refine Ex.done (fin _ ⟨rfl, rfl, rfl, ?_, trivial⟩)
      show some (D.int ((a % b * 2 ^ 1).fdiv (2 ^ 1))) = some _
      rw [fdiv_pow, Int.mul_ediv_cancel _ (by decide)]
  refine Ex.ite (EvB.cmp (Ev.bin (Ev.meth (Ev.name rfl) gm_bit_length EvL.nil c_bit_length) (Ev.name rfl) o_sub) (Ev.gint (di_lim w)) o_le) ?_ ?_
  · intro hle
    have hle := of_decide_eq_true hle
    have := bits_pow h1 hb1
    refine Ex.retnT (Ev.as (Ev.bcall bi_divmod (EvL.cons (Ev.name rfl) (EvL.cons (Ev.name rfl) EvL.nil)) (c_divmod (Int.ne_of_gt hb0) (noPylong hb0 (by omega)))) ?_) fun _ => id
    rw [Int.fdiv_eq_ediv_of_nonneg _ (Int.le_of_lt hb0), Int.fmod_eq_emod_of_nonneg _ (Int.le_of_lt hb0)]
  · intro hle
    have hle := of_decide_eq_false hle
    have h4 : 4000 < n := by omega
    have hk' := key h4
    refine Ex.done ?_
    have hpad : ∃ p : Nat, (p = 0 ∨ p = 1) ∧ (n + p) % 2 = 0 ∧ Builtin.bitAnd (n : Int) 1 = p := by
      refine ⟨n % 2, by omega, by omega, ?_⟩
      have : (1 : Int) = ((1 : Nat) : Int) := rfl
      rw [this, bitAnd_nat, Nat.and_one_is_mod]
    obtain ⟨p, hp01, hpe, hpa⟩ := hpad
    refine Ex.assign (Ev.as (Ev.bin (Ev.name rfl) Ev.int o_and) (congrArg _ hpa)) ?_
    have kk := hk' p ((n + p) / 2) hp01 (by omega)
    rcases hp01 with rfl | rfl
    · refine Ex.ite (c := false) (EvB.plain (Ev.name rfl) tr_int) (fun h => nomatch h) fun _ => Ex.done (kk _ ⟨?_, ?_, rfl, rfl, trivial⟩)
      · show some _ = some _
        rw [Int.pow_zero, Int.mul_one]
      · show some _ = some _
        rw [Int.pow_zero, Int.mul_one]
    · refine Ex.ite (c := true) (EvB.plain (Ev.name rfl) tr_int) (fun _ => ?_) (fun h => nomatch h)
      refine Ex.aug rfl Ev.int (o_ishl (by decide) (by have := Int.natCast_nonneg n; show (Builtin.Int.intBits a : Int) + 1 ≤ _; omega)) ?_
      refine Ex.aug rfl Ev.int (o_ishl (by decide) (by have := bits_lt (Int.le_of_lt hb0) hb2; show (Builtin.Int.intBits b : Int) + 1 ≤ _; omega)) ?_
      refine Ex.aug rfl Ev.int o_iadd ?_
      exact Ex.done (kk _ ⟨rfl, rfl, rfl, rfl, trivial⟩)

theorem fn38 {w : World} : ∀ (k : Nat) (a b : Int) (n : Nat), 1 ≤ n → n ≤ 4000 * 2 ^ k → n ≤ 40000 → 2 ^ (n - 1) ≤ b → b < 2 ^ n → 0 ≤ a → a < b * 2 ^ n → Fn w true (2 * k + 1) 38 [.int a, .int b, .int n] (.tup [.int (a / b), .int (a % b)])
  | 0, a, b, n, h1, hk, hn, hb1, hb2, ha0, ha => fn38_of h1 hn hb1 hb2 ha0 ha fun h => absurd hk (by omega)
  | k + 1, a, b, n, h1, hk, hn, hb1, hb2, ha0, ha => fn38_of h1 hn hb1 hb2 ha0 ha fun h4 a12 a3 b' b1 b2 h x1 x2 x3 x4 x5 x6 x7 x8 x9 x10 x11 =>
    fn45 (by omega) x3 (Int.lt_of_lt_of_le (two_pow_pos _) x4) x5 x6 x7 x8 x9 x10 x11 fun hne => by
      refine fn38 k a12 b1 h x1 ?_ (by omega) x4 x5 x8 ?_
      · have : 2 ^ (k + 1) = 2 ^ k * 2 := Nat.pow_succ ..
        omega
      · have hp := two_pow_pos h
        rw [fdiv_pow] at hne
        have h9 : a12 / 2 ^ h < b1 + 1 := by
          rw [Int.ediv_lt_iff_lt_mul hp, Int.add_mul]; omega
        have h8 : a12 / 2 ^ h < b1 := by omega
        rw [Int.ediv_lt_iff_lt_mul hp] at h8
        exact h8
end Mine

end

-- part MO1
section
open PySem PySem.W PyProof.Rows PySem.Calls
set_option maxRecDepth 100000
set_option linter.unusedVariables false
namespace Mine

section
variable {C : Cx} {ρ : List (Str × D)} {own : List Own}

/-- obj[key] -/
noncomputable def Itm (C : Cx) (own : List Own) (da db d : D) : Prop :=
  ∀ (s : Shared) (a b : Value), Good C.w s.heap → Tabs s.heap → (∀ x, C.F own x → ∃ o, s.heap.get? x = some o) → Room C.A C.n → Rd C.w s (C.F own) a da → Rd C.w s (C.F own) b db →
    ∃ T id, s.TypeIs a T ∧ typeLookup (.type T) "__getitem__" = pure (some (.builtin id)) ∧ wpAny C.M C.A (getItem a b) (fun v s' => Eff C.q s s' ∧ Rd C.w s' (C.F own) v d) NoE s

theorem Ev.item {value slice : Expr} {pos : Pos} {da db d : D} (hv : Ev C ρ own value da) (hi : Ev C ρ own slice db) (ho : Itm C own da db d)
    (hs : autoParam (∀ o i, subscripted slice false o i = operate [o, i] (getItem o i)) Mine.tacF) : Ev C ρ own (.Subscript value slice pos) d := fun s S => by
  refine Subscript_ (wpAny_mono (hv s S) (fun a s₁ ⟨e₁, r₁⟩ => wpAny_mono (hi s₁ (S.eff e₁)) (fun b s₂ ⟨e₂, r₂⟩ => ?_) fun _ _ x => x) fun _ _ x => x)
  have S₂ := (S.eff e₁).eff e₂
  obtain ⟨T, id, hT, hl, h⟩ := ho s₂ a b S₂.good S₂.tabs S₂.live' S.ok.room (r₁.eff (S.eff e₁).tabs e₂) r₂
  exact tail_any hT hl (wp_eff (e₁.trans e₂) h) (hs _ _)

theorem i_str {x : Str} {k : Int} {c : Nat} (h0 : 0 ≤ k) (hk : k < 2 ^ 62) (hc : x.cps[k.toNat]? = some c) : Itm C own (.str x) (.int k) (.str ⟨#[c]⟩) := fun s a b _ _ _ _ ra rb => by
  obtain ⟨t, rfl⟩ := ra.str_inv
  obtain ⟨u, rfl⟩ := rb.int_inv
  have hlt : k.toNat < x.length := (Array.getElem?_eq_some_iff.mp hc).1
  refine ⟨_, _, typeIs_str s x t, F.slot_str_getitem.lookup, P.getItem_str ?_ ?_ ⟨Eff.tok, .str _ _⟩⟩
  · simp; omega
  · have : seqIndex? k x.length = some k.toNat := by
      unfold seqIndex?
      simp only [show ¬ k < 0 by omega, if_false]
      rw [if_pos (by simp; omega)]
    rw [this]; exact hc

theorem i_list {ds : List D} {k : Int} {d : D} (h0 : 0 ≤ k) (hk : k < 2 ^ 62) (hd : ds[k.toNat]? = some d) : Itm C own (.list ds) (.int k) d := fun s a b _ _ _ _ ra rb => by
  obtain ⟨l, vs, rfl, hl, hf, r⟩ := ra.list_inv
  obtain ⟨u, rfl⟩ := rb.int_inv
  have hlt : k.toNat < vs.length := by rw [r.1]; exact (List.getElem?_eq_some_iff.mp hd).1
  refine ⟨_, _, hl.typeIs, slot_list_getitem.lookup, wpAny_getItem_list (x := vs[k.toNat]) hl h0 (by omega) (by simp) ⟨Eff.refl _ _, r.2 _ _ _ (List.getElem?_eq_getElem hlt) hd⟩⟩

theorem i_tup {ds : List D} {k : Int} {d : D} (h0 : 0 ≤ k) (hk : k < 2 ^ 62) (hd : ds[k.toNat]? = some d) : Itm C own (.tup ds) (.int k) d := fun s a b _ _ _ _ ra rb => by
  obtain ⟨l, vs, rfl, hl, hf, r⟩ := ra.tup_inv
  obtain ⟨u, rfl⟩ := rb.int_inv
  have hlt : k.toNat < vs.length := by rw [r.1]; exact (List.getElem?_eq_some_iff.mp hd).1
  refine ⟨_, _, hl.typeIs, slot_tuple_getitem.lookup, PyProof.Rows.getItem_tuple (x := vs[k.toNat]) (j := k.toNat) hl (by omega) (by omega) ?_ (by simp) ⟨Eff.refl _ _, r.2 _ _ _ (List.getElem?_eq_getElem hlt) hd⟩⟩
  unfold seqIndex?
  simp only [show ¬ k < 0 by omega, if_false]
  rw [if_pos (by simp; omega)]

/-! slices -/
noncomputable def EvP (C : Cx) (ρ : List (Str × D)) (own : List Own) (p : Option Expr) (x : Option Int) : Prop :=
  ∀ s, St C ρ own s → wpAny C.M C.A (evalPart p C.env) (fun v s' => Eff C.q s s' ∧ IsPart v x) NoE s
theorem EvP.none : EvP C ρ own Option.none Option.none := fun s S => wpAny_pure ⟨Eff.refl _ _, .none⟩
theorem EvP.some {e : Expr} {i : Int} (h : Ev C ρ own e (.int i)) : EvP C ρ own (Option.some e) (Option.some i) := fun s S => by
  show wpAny _ _ (eval e C.env) _ _ _
  refine wpAny_mono (h s S) (fun v s' ⟨e, r⟩ => ?_) fun _ _ x => x
  obtain ⟨t, rfl⟩ := r.int_inv
  exact ⟨e, .int _ _⟩

/-- obj[lo:hi:st] -/
noncomputable def Slc (C : Cx) (own : List Own) (da : D) (lo hi st : Option Int) (d : D) : Prop :=
  ∀ (s : Shared) (a vl vu vs : Value) (sl : Addr), Good C.w s.heap → Tabs s.heap → (∀ x, C.F own x → ∃ o, s.heap.get? x = some o) → Rd C.w s (C.F own) a da → s.heap.IsSliceOf sl vl vu vs → IsPart vl lo → IsPart vu hi → IsPart vs st →
    ∃ T id, s.TypeIs a T ∧ typeLookup (.type T) "__getitem__" = pure (some (.builtin id)) ∧ wpAny C.M C.A (getItem a (.ref sl)) (fun v s' => Eff C.q s s' ∧ Rd C.w s' (C.F own) v d) NoE s

theorem Ev.slice {value : Expr} {lo hi st : Option Expr} {xl xh xs : Option Int} {pos p : Pos} {da d : D} (hv : Ev C ρ own value da) (h1 : EvP C ρ own lo xl) (h2 : EvP C ρ own hi xh) (h3 : EvP C ρ own st xs) (ho : Slc C own da xl xh xs d) :
    Ev C ρ own (.Subscript value (.Slice lo hi st p) pos) d := fun s S => by
  refine Subscript_ (wpAny_mono (hv s S) (fun a s₁ ⟨e₁, r₁⟩ => ?_) fun _ _ x => x)
  have S₁ := S.eff e₁
  refine wpAny_Slice (wpAny_mono (h1 s₁ S₁) (fun vl s₂ ⟨e₂, p₂⟩ => wpAny_mono (h2 s₂ (S₁.eff e₂)) (fun vu s₃ ⟨e₃, p₃⟩ => wpAny_mono (h3 s₃ ((S₁.eff e₂).eff e₃)) (fun vs s₄ ⟨e₄, p₄⟩ => ?_) fun _ _ x => x) fun _ _ x => x) fun _ _ x => x)
  have S₄ := ((S₁.eff e₂).eff e₃).eff e₄
  have e₅ : Eff C.q s₄ { s₄ with heap := s₄.heap.push { cls := .type "slice", data := .fields #[vl, vu, vs] } } := Eff.push (tk := s₄.toks)
  have S₅ := S₄.eff e₅
  obtain ⟨T, id, hT, hl, h⟩ := ho _ a vl vu vs _ S₅.good S₅.tabs S₅.live' (((((r₁.eff S₁.tabs e₂).eff (S₁.eff e₂).tabs e₃)).eff ((S₁.eff e₂).eff e₃).tabs e₄).eff S₄.tabs e₅) (Heap.IsSliceOf.new ..) p₂ p₃ p₄
  have hh := wp_eff ((((e₁.trans e₂).trans e₃).trans e₄).trans e₅) h
  cases st with
  | none => exact tail_any (ops := [.ref s₄.heap.objs.size, a]) hT hl hh rfl
  | some e => exact tail_any (ops := [a, .ref s₄.heap.objs.size]) hT hl hh rfl

theorem wp_strTk {t : Sem Value} {s : Shared} {y : Str} {F : Addr → Prop} {q : Bool} {w : World} {M : Model} {A : Around} (h : ∀ (Q E : Value → Shared → Prop), (∀ t' k, Q (.str y t') { s with toks := k }) → wpAny M A t Q E s) :
    wpAny M A t (fun v s' => Eff q s s' ∧ Rd w s' F v (.str y)) NoE s :=
  wpAny_with_toks (n := s.toks) (Nat.le_refl _) (h _ _ fun t' k hk => ⟨Eff.tok hk, .str _ _⟩)

theorem s_str {x : Str} {lo hi : Option Int} (hsz : x.length ≤ sizeLine) : Slc C own (.str x) lo hi none (.str (Txt.slice x lo hi)) := fun s a vl vu vs sl _ _ _ ra hs pl pu ps => by
  obtain ⟨t, rfl⟩ := ra.str_inv
  cases ps
  refine ⟨_, _, typeIs_str s x t, F.slot_str_getitem.lookup, wp_strTk fun Q E hQ => ?_⟩
  have hp : ∀ {v : Value} {p : Option Int}, IsPart v p → ∃ q : Option (Int × Tok), v = partValue q ∧ q.map (·.1) = p := fun {v p} h => by
    cases h with
    | none => exact ⟨Option.none, rfl, rfl⟩
    | int i t => exact ⟨Option.some (i, t), rfl, rfl⟩
  obtain ⟨ql, rfl, rfl⟩ := hp pl
  obtain ⟨qu, rfl, rfl⟩ := hp pu
  exact wpAny_getItem_str_slice (l := ql) (u := qu) (st := Option.none) hs rfl (post_val_or_str ⟨Nat.le_trans (Txt.slice_le x _ _) hsz, fun t' k => hQ t' k⟩)

theorem pick_rd {w : World} {s : Shared} {F : Addr → Prop} {vs : List Value} {ds : List D} (r : RdAll w s F vs ds) {lo hi st : Option Int} :
    RdAll w s F (slicePick vs.toArray lo hi st).toList ((sliceRange (sliceBounds lo hi st ds.length).1 (sliceBounds lo hi st ds.length).2.1 (sliceBounds lo hi st ds.length).2.2).filterMap (ds[·]?)) := by
  unfold slicePick
  rw [List.size_toArray, r.1]
  generalize sliceRange _ _ _ = l
  show RdAll w s F (l.filterMap (vs.toArray[·]?)) _
  induction l with
  | nil => exact .nil
  | cons i l ih =>
    have e : vs.toArray[i]? = vs[i]? := by simp
    cases h : ds[i]? with
    | none =>
      have h' : vs[i]? = Option.none := by
        rw [List.getElem?_eq_none_iff] at h ⊢
        rw [r.1]; exact h
      rw [List.filterMap_cons_none (by rw [e]; exact h'), List.filterMap_cons_none h]
      exact ih
    | some d =>
      have hlt : i < vs.length := by rw [r.1]; exact (List.getElem?_eq_some_iff.mp h).1
      rw [List.filterMap_cons_some (by rw [e]; exact List.getElem?_eq_getElem hlt), List.filterMap_cons_some h]
      exact .cons (r.2 _ _ _ (List.getElem?_eq_getElem hlt) h) ih

noncomputable def pickD (ds : List D) (lo hi st : Option Int) : List D := (sliceRange (sliceBounds lo hi st ds.length).1 (sliceBounds lo hi st ds.length).2.1 (sliceBounds lo hi st ds.length).2.2).filterMap (ds[·]?)

theorem s_list {ds : List D} {lo hi st : Option Int} (h0 : st ≠ some 0) (hsz : ds.length ≤ sizeLine) : Slc C own (.list ds) lo hi st (.list (pickD ds lo hi st)) := fun s a vl vu vs sl _ T hlv ra hs pl pu ps => by
  obtain ⟨l, xs, rfl, hl, hf, r⟩ := ra.list_inv
  refine ⟨_, _, hl.typeIs, slot_list_getitem.lookup, wpAny_getItem_list_slice hl hs pl pu ps h0 ⟨Eff.push (tk := s.toks), ?_⟩ (by rw [List.size_toArray, r.1]; exact hsz)⟩
  have r' := (pick_rd (lo := lo) (hi := hi) (st := st) r).eff T (Eff.push (q := C.q) (tk := s.toks) (o := { cls := .type "list", data := .seq (slicePick xs.toArray lo hi st) }))
  exact RdAll.list r' ⟨_, Heap.get?_push_size _ rfl, rfl, 0, rfl⟩ fun q => by
    obtain ⟨o, ho⟩ := hlv _ q
    exact absurd (Heap.lt_size ho) (Nat.lt_irrefl _)

/-! strs -/
theorem o_eq_str {x y : Str} : Op2 C own (compareOp .Eq) (.str x) (.str y) (.bool (x == y)) := fun s a b _ _ _ _ ra rb => by
  obtain ⟨t, rfl⟩ := ra.str_inv
  obtain ⟨u, rfl⟩ := rb.str_inv
  with_reducible exact PyProof.Rows.eq_str ⟨Eff.refl _ _, .bool _⟩
theorem o_ne_str {x y : Str} : Op2 C own (compareOp .NotEq) (.str x) (.str y) (.bool (x != y)) := fun s a b _ _ _ _ ra rb => by
  obtain ⟨t, rfl⟩ := ra.str_inv
  obtain ⟨u, rfl⟩ := rb.str_inv
  with_reducible exact PyProof.Rows.ne_str ⟨Eff.refl _ _, .bool _⟩
theorem o_in_str {x y : Str} : Op2 C own (compareOp .In) (.str y) (.str x) (.bool !(Builtin.Str.occurrences x y 0 x.length 1).isEmpty) := fun s a b _ _ _ _ ra rb => by
  obtain ⟨t, rfl⟩ := ra.str_inv
  obtain ⟨u, rfl⟩ := rb.str_inv
  with_reducible exact PyProof.Rows.in_str ⟨Eff.refl _ _, .bool _⟩
theorem o_add_str {x y : Str} (hsz : x.length + y.length ≤ sizeLine) : Op2 C own (binaryOp .Add) (.str x) (.str y) (.str (x ++ y)) := fun s a b _ _ _ _ ra rb => by
  obtain ⟨t, rfl⟩ := ra.str_inv
  obtain ⟨u, rfl⟩ := rb.str_inv
  exact wp_strTk fun Q E hQ => PyProof.Rows.add_str hQ hsz
theorem gm_str (name : Str) (id : String) (h : ∀ {M : Model} {A : Around} {E : Value → Shared → Prop} {s : Shared} {x : Str} {t : Tok} {pl : Sem Bool} {Q : Value × List Value → Shared → Prop}, Q (.builtin id, [.str x t]) s → wpAny M A (getMethod (.str x t) name pl) Q E s) {x : Str} : GetM C own (.str x) name id := fun s v pl Q _ r hQ => by
  obtain ⟨t, rfl⟩ := r.str_inv
  exact h hQ
theorem c_len_str {x : Str} (h : x.length ≤ sizeLine) : OpN C own (fun vs => PySem.call (.builtin "len") vs) [.str x] (.int x.length) := fun s vs _ _ _ _ r => by
  obtain ⟨v, vs', rfl, h1, h2⟩ := r.cons_inv
  obtain ⟨t, rfl⟩ := h1.str_inv
  obtain rfl := h2.nil_inv
  have : sizeLine = 2 ^ 24 := rfl
  refine PyProof.Rows.len_str (by omega) ⟨Eff.tok (by omega), .int _ _⟩
theorem c_ord {c : Nat} : OpN C own (fun vs => PySem.call (.builtin "ord") vs) [.str ⟨#[c]⟩] (.int c) := fun s vs _ _ _ _ r => by
  obtain ⟨v, vs', rfl, h1, h2⟩ := r.cons_inv
  obtain ⟨t, rfl⟩ := h1.str_inv
  obtain rfl := h2.nil_inv
  with_reducible exact P.ord_of_char ⟨Eff.tok, .int _ _⟩
theorem c_count {x y : Str} : OpN C own (fun vs => PySem.call (.builtin "str.count") vs) [.str x, .str y] (.int (Txt.count x y)) := fun s vs _ _ _ _ r => by
  obtain ⟨v, vs', rfl, h1, h2⟩ := r.cons_inv
  obtain ⟨t, rfl⟩ := h1.str_inv
  obtain ⟨v', vs'', rfl, h3, h4⟩ := h2.cons_inv
  obtain ⟨u, rfl⟩ := h3.str_inv
  obtain rfl := h4.nil_inv
  with_reducible exact SC.count ⟨Eff.tok, .int _ _⟩
theorem c_find {x y : Str} : OpN C own (fun vs => PySem.call (.builtin "str.find") vs) [.str x, .str y] (.int (Txt.find x y)) := fun s vs _ _ _ _ r => by
  obtain ⟨v, vs', rfl, h1, h2⟩ := r.cons_inv
  obtain ⟨t, rfl⟩ := h1.str_inv
  obtain ⟨v', vs'', rfl, h3, h4⟩ := h2.cons_inv
  obtain ⟨u, rfl⟩ := h3.str_inv
  obtain rfl := h4.nil_inv
  with_reducible exact SC.find ⟨Eff.tok, .int _ _⟩
theorem c_find3 {x y : Str} {i : Int} : OpN C own (fun vs => PySem.call (.builtin "str.find") vs) [.str x, .str y, .int i] (.int (Txt.find3 x y i)) := fun s vs _ _ _ _ r => by
  obtain ⟨v, vs', rfl, h1, h2⟩ := r.cons_inv
  obtain ⟨t, rfl⟩ := h1.str_inv
  obtain ⟨v', vs'', rfl, h3, h4⟩ := h2.cons_inv
  obtain ⟨u, rfl⟩ := h3.str_inv
  obtain ⟨v'', vs''', rfl, h5, h6⟩ := h4.cons_inv
  obtain ⟨u', rfl⟩ := h5.int_inv
  obtain rfl := h6.nil_inv
  with_reducible exact SC.find3 ⟨Eff.tok, .int _ _⟩
theorem c_index {x y : Str} {i : Nat} {rest : List Nat} (ho : Builtin.Str.occurrences x y 0 x.length 1 = i :: rest) : OpN C own (fun vs => PySem.call (.builtin "str.index") vs) [.str x, .str y] (.int i) := fun s vs _ _ _ _ r => by
  obtain ⟨v, vs', rfl, h1, h2⟩ := r.cons_inv
  obtain ⟨t, rfl⟩ := h1.str_inv
  obtain ⟨v', vs'', rfl, h3, h4⟩ := h2.cons_inv
  obtain ⟨u, rfl⟩ := h3.str_inv
  obtain rfl := h4.nil_inv
  with_reducible exact SC.index ho ⟨Eff.tok, .int _ _⟩
end
theorem bi_ord : BI "ord" (.builtin "ord") := ⟨by decide, by decide, by decide +kernel, fun w => by kernel_rfl⟩
end Mine

end

-- part MK4
section
open PySem PySem.W PyProof.Rows PySem.Calls
set_option maxRecDepth 100000
set_option linter.unusedVariables false
namespace Mine
noncomputable def k52 : FnK 52 := ⟨_, _, fun w => by rfl, by rfl, by rfl, by rfl, by rfl, fun w => by kernel_rfl, by rfl, by rfl, by rfl⟩
noncomputable def k59 : FnK 59 := ⟨_, _, fun w => by rfl, by rfl, by rfl, by rfl, by rfl, fun w => by kernel_rfl, by rfl, by rfl, by rfl⟩
noncomputable def k66 : FnK 66 := ⟨_, _, fun w => by rfl, by rfl, by rfl, by rfl, by rfl, fun w => by kernel_rfl, by rfl, by rfl, by rfl⟩
noncomputable def k73 : FnK 73 := ⟨_, _, fun w => by rfl, by rfl, by rfl, by rfl, by rfl, fun w => by kernel_rfl, by rfl, by rfl, by rfl⟩
noncomputable def k117 : FnK 117 := ⟨_, _, fun w => by rfl, by rfl, by rfl, by rfl, by rfl, fun w => by kernel_rfl, by rfl, by rfl, by rfl⟩
noncomputable def k124 : FnK 124 := ⟨_, _, fun w => by rfl, by rfl, by rfl, by rfl, by rfl, fun w => by kernel_rfl, by rfl, by rfl, by rfl⟩
noncomputable def k137 : FnK 137 := ⟨_, _, fun w => by rfl, by rfl, by rfl, by rfl, by rfl, fun w => by kernel_rfl, by rfl, by rfl, by rfl⟩
noncomputable def k151 : FnK 151 := ⟨_, _, fun w => by rfl, by rfl, by rfl, by rfl, by rfl, fun w => by kernel_rfl, by rfl, by rfl, by rfl⟩
noncomputable def k158 : FnK 158 := ⟨_, _, fun w => by rfl, by rfl, by rfl, by rfl, by rfl, fun w => by kernel_rfl, by rfl, by rfl, by rfl⟩
noncomputable def k172 : FnK 172 := ⟨_, _, fun w => by rfl, by rfl, by rfl, by rfl, by rfl, fun w => by kernel_rfl, by rfl, by rfl, by rfl⟩
noncomputable def k179 : FnK 179 := ⟨_, _, fun w => by rfl, by rfl, by rfl, by rfl, by rfl, fun w => by kernel_rfl, by rfl, by rfl, by rfl⟩
noncomputable def k186 : FnK 186 := ⟨_, _, fun w => by rfl, by rfl, by rfl, by rfl, by rfl, fun w => by kernel_rfl, by rfl, by rfl, by rfl⟩
noncomputable def k193 : FnK 193 := ⟨_, _, fun w => by rfl, by rfl, by rfl, by rfl, by rfl, fun w => by kernel_rfl, by rfl, by rfl, by rfl⟩
noncomputable def k198 : FnK 198 := ⟨_, _, fun w => by rfl, by rfl, by rfl, by rfl, by rfl, fun w => by kernel_rfl, by rfl, by rfl, by rfl⟩
noncomputable def k203 : FnK 203 := ⟨_, _, fun w => by rfl, by rfl, by rfl, by rfl, by rfl, fun w => by kernel_rfl, by rfl, by rfl, by rfl⟩
theorem g52 : ∀ w, nsIn (KF w) mainGlobals "_int2digits" = some (some (.ref 52)) := fun w => by kernel_rfl
theorem g59 : ∀ w, nsIn (KF w) mainGlobals "_digits2int" = some (some (.ref 59)) := fun w => by kernel_rfl
theorem g66 : ∀ w, nsIn (KF w) mainGlobals "_divmod_pos" = some (some (.ref 66)) := fun w => by kernel_rfl
theorem g73 : ∀ w, nsIn (KF w) mainGlobals "int_divmod" = some (some (.ref 73)) := fun w => by kernel_rfl
theorem g117 : ∀ w, nsIn (KF w) mainGlobals "parse229" = some (some (.ref 117)) := fun w => by kernel_rfl
theorem g124 : ∀ w, nsIn (KF w) mainGlobals "parse257" = some (some (.ref 124)) := fun w => by kernel_rfl
theorem g129 : ∀ w, nsIn (KF w) mainGlobals "_quoted" = some (some (.ref 129)) := fun w => by kernel_rfl
theorem g137 : ∀ w, nsIn (KF w) mainGlobals "_paren_depth" = some (some (.ref 137)) := fun w => by kernel_rfl
theorem g161 : ∀ w, nsIn (KF w) mainGlobals "TupleComp" = some (some (.ref 161)) := fun w => by kernel_rfl
theorem g172 : ∀ w, nsIn (KF w) mainGlobals "add_func_stats" = some (some (.ref 172)) := fun w => by kernel_rfl
theorem g179 : ∀ w, nsIn (KF w) mainGlobals "add_callers" = some (some (.ref 179)) := fun w => by kernel_rfl
theorem g186 : ∀ w, nsIn (KF w) mainGlobals "count_calls" = some (some (.ref 186)) := fun w => by kernel_rfl
theorem g193 : ∀ w, nsIn (KF w) mainGlobals "_law_shape" = some (some (.ref 193)) := fun w => by kernel_rfl
theorem g198 : ∀ w, nsIn (KF w) mainGlobals "_law_determinant" = some (some (.ref 198)) := fun w => by kernel_rfl
end Mine

end

-- part PS1
section
open PySem PySem.W PyProof.Rows PySem.Calls
set_option maxRecDepth 100000
set_option linter.unusedVariables false
namespace Mine

/-- a str by its signs -/
noncomputable def sS (l : List Nat) : Str := ⟨l.toArray⟩
theorem sS_append (a b : List Nat) : sS a ++ sS b = sS (a ++ b) := by
  show Str.append (sS a) (sS b) = _
  simp [Str.append, sS]
theorem sS_length (a : List Nat) : (sS a).length = a.length := by simp [sS, Str.length]
theorem sS_toList (a : List Nat) : (sS a).cps.toList = a := by simp [sS]
theorem sS_get (a : List Nat) (i : Nat) : (sS a).cps[i]? = a[i]? := by simp [sS]
theorem sS_inj {a b : List Nat} (h : sS a = sS b) : a = b := by
  have := congrArg (fun s : Str => s.cps.toList) h
  simpa [sS_toList] using this
theorem sS_beq (a b : List Nat) : (sS a == sS b) = (a == b) := by
  by_cases h : a = b
  · subst h; simp
  · rw [beq_eq_false_iff_ne.mpr h, beq_eq_false_iff_ne.mpr fun e => h (sS_inj e)]
theorem sS_eta (x : Str) : x = sS x.cps.toList := by cases x; simp [sS]
theorem sS_rep (c n : Nat) : (⟨(List.replicate n (#[c] : Array Nat)).foldl (· ++ ·) #[]⟩ : Str) = sS (List.replicate n c) := by
  have h : ∀ (n : Nat) (acc : List Nat), (List.replicate n (#[c] : Array Nat)).foldl (· ++ ·) acc.toArray = (acc ++ List.replicate n c).toArray := by
    intro n
    induction n with
    | zero => intro acc; simp
    | succ n ih =>
      intro acc
      rw [List.replicate_succ, List.foldl_cons]
      have : acc.toArray ++ #[c] = (acc ++ [c]).toArray := by simp
      rw [this, ih]
      simp [List.replicate_succ]
  have := h n []
  simp only [List.nil_append] at this
  unfold sS
  rw [← this]

/-- count of one sign -/
theorem count_sS (l : List Nat) (c : Nat) : Txt.count (sS l) (sS [c]) = (l.count c : Nat) := by
  show Txt.count (sS l) ⟨#[c]⟩ = _
  rw [count_is, sS_toList]
  show cnt c l = _
  induction l with
  | nil => rfl
  | cons a l ih =>
    rw [cnt_cons, ih, List.count_cons]
    by_cases h : a = c
    · subst h; simp; omega
    · simp [h]
end Mine

end

-- part MO2
section
open PySem PySem.W PyProof.Rows PySem.Calls
set_option maxRecDepth 100000
set_option linter.unusedVariables false
namespace Mine

section
variable {C : Cx} {ρ : List (Str × D)} {own : List Own}

theorem o_mul_str {c : Nat} {n : Int} (h0 : 0 ≤ n) (hn : n ≤ 1000) : Op2 C own (binaryOp .Mult) (.str (sS [c])) (.int n) (.str (sS (List.replicate n.toNat c))) := fun s a b _ _ _ _ ra rb => by
  obtain ⟨t, rfl⟩ := ra.str_inv
  obtain ⟨u, rfl⟩ := rb.int_inv
  have e : (sS [c]).length = 1 := rfl
  refine P.mul_str ?_ ?_ ?_ ?_
  · simp; omega
  · intro _ _ h
    rw [e] at h
    have h9 : (1 : Int) ≤ (2 ^ 63 - 1) / n := by
      rw [Int.le_ediv_iff_mul_le (by omega)]; omega
    omega
  · intro _ _
    rw [e]
    unfold Builtin.Str.tooLong
    have : sizeLine = 2 ^ 24 := rfl
    simp; omega
  · by_cases h1 : n < 1
    · rw [if_pos h1]
      have : n = 0 := by omega
      subst this
      refine ⟨by decide, Eff.tok, .str _ _⟩
    · rw [if_neg h1]
      by_cases h2 : n = 1
      · subst h2
        exact ⟨Eff.refl _ _, .str _ _⟩
      · rw [if_neg (by rw [e]; simp [h2])]
        refine ⟨?_, Eff.tok, ?_⟩
        · show (⟨(List.replicate n.toNat (#[c] : Array Nat)).foldl (· ++ ·) #[]⟩ : Str).length ≤ sizeLine
          rw [sS_rep, sS_length, List.length_replicate]
          have : sizeLine = 2 ^ 24 := rfl
          omega
        · have := sS_rep c n.toNat
          show Rd _ _ _ (.str (⟨(List.replicate n.toNat (#[c] : Array Nat)).foldl (· ++ ·) #[]⟩ : Str) _) _
          rw [this]
          exact .str _ _
theorem o_add_sS {x y : List Nat} (hsz : x.length + y.length ≤ 1000000) : Op2 C own (binaryOp .Add) (.str (sS x)) (.str (sS y)) (.str (sS (x ++ y))) := by
  rw [← sS_append]
  refine o_add_str ?_
  rw [sS_length, sS_length]
  have : sizeLine = 2 ^ 24 := rfl
  omega
theorem c_len_sS {x : List Nat} (h : x.length ≤ 1000000) : OpN C own (fun vs => PySem.call (.builtin "len") vs) [.str (sS x)] (.int x.length) := by
  have := c_len_str (C := C) (own := own) (x := sS x) (by rw [sS_length]; have : sizeLine = 2 ^ 24 := rfl; omega)
  rwa [sS_length] at this
theorem c_count_sS {x : List Nat} {c : Nat} : OpN C own (fun vs => PySem.call (.builtin "str.count") vs) [.str (sS x), .str (sS [c])] (.int (x.count c)) := by
  have := c_count (C := C) (own := own) (x := sS x) (y := sS [c])
  rwa [count_sS] at this
end

theorem str_paren : ("(" : Str) = sS [40] := by decide
theorem str_close : (")" : Str) = sS [41] := by decide
end Mine

end

-- part PS2
section
open PySem PySem.W PyProof.Rows PySem.Calls
set_option maxRecDepth 100000
set_option linter.unusedVariables false
namespace Mine
open Builtin Builtin.Str

theorem slice_sS {l : List Nat} {i j : Int} (h0 : 0 ≤ i) (h1 : i ≤ j) (h2 : j ≤ l.length) : Txt.slice (sS l) (some i) (some j) = sS ((l.drop i.toNat).take (j - i).toNat) := by
  have := StrLaws.sliceText_plain (x := sS l) (i := i) (j := j) ⟨h0, h1, by rw [sS_toList]; exact h2⟩
  rw [sS_toList] at this
  exact this
theorem slice_to_sS {l : List Nat} {j : Int} (h0 : 0 ≤ j) (h2 : j ≤ l.length) : Txt.slice (sS l) none (some j) = sS (l.take j.toNat) := by
  have := StrLaws.sliceText_to (x := sS l) (j := j) ⟨h0, by rw [sS_toList]; exact h2⟩
  rw [sS_toList] at this
  have e : Txt.slice (sS l) none (some j) = StrLaws.sliceText (sS l) none (some j) := rfl
  rw [e, this]
  simp [sS]
theorem slice_from_sS {l : List Nat} {i : Int} (h0 : 0 ≤ i) (h2 : i ≤ l.length) : Txt.slice (sS l) (some i) none = sS (l.drop i.toNat) := by
  have := StrLaws.sliceText_from (x := sS l) (i := i) ⟨h0, by rw [sS_toList]; exact h2⟩
  rw [sS_toList] at this
  have e : (l.drop i.toNat).take ((l.length : Int) - i).toNat = l.drop i.toNat := List.take_of_length_le (by rw [List.length_drop]; omega)
  rw [e] at this
  exact this

/-- where one sign stands first -/
theorem at_one {l : List Nat} {c i : Nat} : StrLaws.At (sS l) ⟨#[c]⟩ (sS l).length i ↔ l[i]? = some c := by
  have := StrLaws.subAt_one (sS l) c i
  rw [sS_toList] at this
  exact this
theorem occ_one {pre post : List Nat} {c : Nat} (h : c ∉ pre) : ∃ r, occurrences (sS (pre ++ c :: post)) (sS [c]) 0 (sS (pre ++ c :: post)).length 1 = pre.length :: r := by
  have hm : (pre ++ c :: post)[pre.length]? = some c := by simp
  rcases StrLaws.occ_head (sS (pre ++ c :: post)) ⟨#[c]⟩ 1 (Nat.le_refl 1) with ⟨_, hn⟩ | ⟨i, r, e, hi, hn⟩
  · exact absurd (at_one.mpr hm) (hn _)
  · refine ⟨r, ?_⟩
    have h1 := at_one.mp hi
    have : i = pre.length := by
      rcases Nat.lt_trichotomy i pre.length with h2 | h2 | h2
      · rw [List.getElem?_append_left h2] at h1
        exact absurd (List.mem_of_getElem? h1) h
      · exact h2
      · exact absurd (at_one.mpr hm) (hn _ h2)
    subst this
    exact e
theorem find_one {pre post : List Nat} {c : Nat} (h : c ∉ pre) : Txt.find (sS (pre ++ c :: post)) (sS [c]) = pre.length := by
  obtain ⟨r, e⟩ := occ_one (post := post) h
  unfold Txt.find
  rw [e]
theorem find3_one {pre mid post : List Nat} {c : Nat} (h : c ∉ mid) {i : Int} (hi : i = pre.length) : Txt.find3 (sS (pre ++ (mid ++ c :: post))) (sS [c]) i = pre.length + mid.length := by
  subst hi
  have hl : (sS (pre ++ (mid ++ c :: post))).length = pre.length + mid.length + 1 + post.length := by rw [sS_length]; simp; omega
  have hf : fromIndex (sS (pre ++ (mid ++ c :: post))).length (pre.length : Int) = pre.length := by
    unfold fromIndex
    rw [hl]
    simp only [show ¬ ((pre.length : Int) < 0) by omega, if_false]
    omega
  have hm : (pre ++ (mid ++ c :: post))[pre.length + mid.length]? = some c := by
    rw [List.getElem?_append_right (by omega), List.getElem?_append_right (by omega)]
    simp
  rcases StrLaws.occ_head_from (sS (pre ++ (mid ++ c :: post))) ⟨#[c]⟩ pre.length 1 (Nat.le_refl 1) with ⟨_, hn⟩ | ⟨k, r, e, hlo, hk, hn⟩
  · exact absurd (at_one.mpr hm) (hn _ (by omega))
  · have h1 := at_one.mp hk
    have : k = pre.length + mid.length := by
      rcases Nat.lt_trichotomy k (pre.length + mid.length) with h2 | h2 | h2
      · rw [List.getElem?_append_right hlo, List.getElem?_append_left (by omega)] at h1
        exact absurd (List.mem_of_getElem? h1) h
      · exact h2
      · exact absurd (at_one.mpr hm) (hn _ (by omega) h2)
    subst this
    unfold Txt.find3
    rw [hf]
    show (match occurrences (sS (pre ++ (mid ++ c :: post))) ⟨#[c]⟩ pre.length (sS (pre ++ (mid ++ c :: post))).length 1 with | k :: _ => (k : Int) | [] => -1) = _
    rw [e]
    push_cast; rfl
theorem in_one (l : List Nat) (c : Nat) : (!(occurrences (sS l) (sS [c]) 0 (sS l).length 1).isEmpty) = decide (c ∈ l) := by
  have := StrLaws.found_one (sS l) c
  rw [sS_toList] at this
  exact this

/-- parts between one sign -/
noncomputable def joinL (c : Nat) : List (List Nat) → List Nat
  | [] => []
  | [x] => x
  | x :: r => x ++ c :: joinL c r

theorem join_sS (c : Nat) : ∀ ps : List (List Nat), (Str.join ⟨#[c]⟩ (ps.map sS)).cps.toList = joinL c ps
  | [] => rfl
  | [p] => sS_toList p
  | p :: q :: r => by
    show (sS p ++ ⟨#[c]⟩ ++ Str.join ⟨#[c]⟩ ((q :: r).map sS)).cps.toList = p ++ c :: joinL c (q :: r)
    simp only [Str.cps_append, Array.toList_append]
    rw [join_sS c (q :: r), sS_toList]
    simp

theorem joinL_inj {c : Nat} : ∀ {ps qs : List (List Nat)}, ps ≠ [] → qs ≠ [] → (∀ p ∈ ps, c ∉ p) → (∀ q ∈ qs, c ∉ q) → joinL c ps = joinL c qs → ps = qs := by
  have split : ∀ {a b x y : List Nat}, c ∉ a → c ∉ b → a ++ c :: x = b ++ c :: y → a = b ∧ x = y := by
    intro a
    induction a with
    | nil =>
      intro b x y _ hb e
      cases b with
      | nil => simp at e; exact ⟨rfl, e⟩
      | cons z b => simp at e; exact absurd e.1 (fun q => hb (by rw [q]; exact .head _))
    | cons w a ih =>
      intro b x y ha hb e
      cases b with
      | nil => simp at e; exact absurd e.1.symm (fun q => ha (by rw [q]; exact .head _))
      | cons z b =>
        simp at e
        obtain ⟨h1, h2⟩ := ih (fun h => ha (.tail _ h)) (fun h => hb (.tail _ h)) e.2
        exact ⟨by rw [e.1, h1], h2⟩
  intro ps
  induction ps with
  | nil => intro qs h; exact absurd rfl h
  | cons p ps ih =>
    intro qs _ hq hp hqs e
    cases qs with
    | nil => exact absurd rfl hq
    | cons q qs =>
      have hp1 := hp p (.head _)
      have hq1 := hqs q (.head _)
      cases ps with
      | nil =>
        cases qs with
        | nil => exact congrArg (fun x => [x]) e
        | cons q' qs =>
          have e' : p = q ++ c :: joinL c (q' :: qs) := e
          exact absurd (by rw [e']; simp : c ∈ p) hp1
      | cons p' ps =>
        cases qs with
        | nil =>
          have e' : p ++ c :: joinL c (p' :: ps) = q := e
          exact absurd (by rw [← e']; simp : c ∈ q) hq1
        | cons q' qs =>
          have e' : p ++ c :: joinL c (p' :: ps) = q ++ c :: joinL c (q' :: qs) := e
          obtain ⟨h1, h2⟩ := split hp1 hq1 e'
          have := ih (by simp) (by simp) (fun x hx => hp x (.tail _ hx)) (fun x hx => hqs x (.tail _ hx)) h2
          rw [h1, this]

theorem split_sS {c : Nat} {ps : List (List Nat)} (h0 : ps ≠ []) (h : ∀ p ∈ ps, c ∉ p) : Txt.split (sS (joinL c ps)) (sS [c]) = ps.map sS := by
  have h1 := StrLaws.join_split (sS (joinL c ps)) ⟨#[c]⟩
  have h2 := StrLaws.split_free (sS (joinL c ps)) c
  have h3 : 1 ≤ (Txt.split (sS (joinL c ps)) ⟨#[c]⟩).length := split_pos _ _
  show Txt.split (sS (joinL c ps)) ⟨#[c]⟩ = _
  generalize Txt.split (sS (joinL c ps)) ⟨#[c]⟩ = ts at *
  have e : ts = (ts.map fun t => t.cps.toList).map sS := by
    rw [List.map_map]
    conv => lhs; rw [← List.map_id ts]
    exact List.map_congr_left fun t _ => sS_eta t
  rw [e] at h1 ⊢
  have h4 := congrArg (fun s : Str => s.cps.toList) h1
  simp only [join_sS, sS_toList] at h4
  rw [joinL_inj (c := c) (ps := ts.map fun t => t.cps.toList) (qs := ps) (by intro q; rw [List.map_eq_nil_iff] at q; rw [q] at h3; exact absurd h3 (by decide)) h0 (fun p hp => by
    obtain ⟨t, ht, rfl⟩ := List.mem_map.mp hp
    exact h2 t ht) h h4]

/-! a number's text -/
noncomputable def digs (m : Nat) : List Nat := (Nat.toDigits 10 m).map Char.toNat
theorem text_num (m : Nat) : Str.ofString (toString ((m : Nat) : Int)) = sS (digs m) := by
  rw [sS_eta (Str.ofString (toString ((m : Nat) : Int))), KIN.signs_num]; rfl
theorem digs_inj {a b : Nat} (h : digs a = digs b) : a = b := by
  have ha := KIN.val_back a
  have hb := KIN.val_back b
  unfold digs at h
  rw [h] at ha
  rw [← ha, hb]
theorem digs_range (m : Nat) : ∀ c ∈ digs m, 48 ≤ c ∧ c ≤ 57 := fun c hc => by
  obtain ⟨ch, hch, e⟩ := List.mem_map.mp hc
  have r := digit_range (Nat.isDigit_of_mem_toDigits (by decide) (by decide) hch)
  rw [← e]
  exact r
theorem digs_ne (m : Nat) : digs m ≠ [] := by
  unfold digs
  intro e
  have h := toDigits_len_ge 10 m
  rw [List.map_eq_nil_iff.mp e] at h
  exact absurd h (by decide)
theorem digs_len {m : Nat} (h : m < 10 ^ 10) : (digs m).length ≤ 10 := by
  have := KT.len_num (n := (m : Int)) (by omega) (by omega)
  rw [text_num, sS_length] at this
  exact this
end Mine

end

-- part MO3
section
open PySem PySem.W PyProof.Rows PySem.Calls
set_option maxRecDepth 100000
set_option linter.unusedVariables false
namespace Mine
open Builtin Builtin.Str

theorem strsFrom_rd {w : World} {s : Shared} {F : Addr → Prop} : ∀ (ps : List Str) (k : Nat), RdAll w s F (strsFrom k ps) (ps.map D.str)
  | [], _ => .nil
  | p :: ps, k => .cons (.str _ _) (strsFrom_rd ps (k + 1))

section
variable {C : Cx} {ρ : List (Str × D)} {own : List Own}

theorem c_split {l : List Nat} {c : Nat} {ps : List (List Nat)} (hl : l = joinL c ps) (h2 : 2 ≤ ps.length) (h : ∀ p ∈ ps, c ∉ p) (hc : c < 256) (hm : c ∈ l) (hz : l.length ≤ 1000000) :
    OpN C own (fun vs => PySem.call (.builtin "str.split") vs) [.str (sS l), .str (sS [c])] (.list (ps.map fun p => .str (sS p))) := fun s vs _ T hlv _ r => by
  obtain ⟨v, vs', rfl, r1, r2⟩ := r.cons_inv
  obtain ⟨t, rfl⟩ := r1.str_inv
  obtain ⟨v', vs'', rfl, r3, r4⟩ := r2.cons_inv
  obtain ⟨u, rfl⟩ := r3.str_inv
  obtain rfl := r4.nil_inv
  have hlen : 1 ≤ l.length := by cases l with | nil => exact nomatch hm | cons a l => simp
  have h1 : (decide ((sS l).length < (sS [c]).length) || decide (Builtin.Str.strKind (sS l) < Builtin.Str.strKind (sS [c]))) = false := by
    have e1 : Builtin.Str.strKind (sS [c]) = 1 := by simp [Builtin.Str.strKind, sS, hc]
    have e2 : 1 ≤ Builtin.Str.strKind (sS l) := by unfold Builtin.Str.strKind; split <;> (try split) <;> decide
    have e3 : (sS [c]).length = 1 := rfl
    rw [decide_eq_false (by rw [sS_length, e3]; omega), decide_eq_false (by rw [e1]; omega)]; rfl
  have hf : (occurrences (sS l) (sS [c]) 0 (sS l).length ((sS l).length + 1)).isEmpty = false := by
    obtain ⟨i, hi⟩ := List.mem_iff_getElem?.mp hm
    rcases StrLaws.occ_head (sS l) ⟨#[c]⟩ ((sS l).length + 1) (by omega) with ⟨_, hn⟩ | ⟨i, r, e, _, _⟩
    · exact absurd (at_one.mpr hi) (hn _)
    · show (occurrences (sS l) ⟨#[c]⟩ 0 (sS l).length ((sS l).length + 1)).isEmpty = false
      rw [e]; rfl
  have hps : ps ≠ [] := by intro q; rw [q] at h2; simp at h2
  have hsp := split_sS hps h
  rw [← hl] at hsp
  have hsp' : partsBetween (sS l) (occurrences (sS l) (sS [c]) 0 (sS l).length ((sS l).length + 1)) (sS [c]).length = ps.map sS := by
    rw [← hsp]
    unfold Txt.split
    rw [h1, hf]; rfl
  have hn : (ps.map sS).length ≤ (sS l).length + 2 := by rw [← hsp]; exact split_le _ _
  rw [sS_length] at hn
  have hsz : sizeLine = 2 ^ 24 := rfl
  refine call_meets F.slot_str_split (typeIs_str _ _ _) F.entry_str_split (F.args_str_split_2 _ _) (meets_str_split_sep (sS l) (sS [c]) t u h1 rfl hf (by rw [sS_length]; omega) (by rw [hsp']; omega)) ?_
  rw [hsp']
  have e : Eff C.q s { s with toks := s.toks + (ps.map sS).length, heap := s.heap.push { cls := .type "list", data := .seq (strsFrom s.toks (ps.map sS)).toArray } } := Eff.push (by omega)
  refine ⟨e, ?_⟩
  have := RdAll.list (w := C.w) (s := { s with toks := s.toks + (ps.map sS).length, heap := s.heap.push { cls := .type "list", data := .seq (strsFrom s.toks (ps.map sS)).toArray } }) (F := C.F own) (strsFrom_rd (ps.map sS) s.toks) ⟨_, Heap.get?_push_size _ rfl, rfl, 0, rfl⟩ fun q => by
    obtain ⟨o, ho⟩ := hlv _ q
    exact absurd (Heap.lt_size ho) (Nat.lt_irrefl _)
  rw [List.map_map] at this
  exact this

theorem c_int_num {m : Nat} (h : m < 10 ^ 10) : OpN C own (fun vs => PySem.call (.type "int") vs) [.str (sS (digs m))] (.int m) := fun s vs _ _ _ _ r => by
  obtain ⟨v, vs', rfl, r1, r2⟩ := r.cons_inv
  obtain ⟨t, rfl⟩ := r1.str_inv
  obtain rfl := r2.nil_inv
  rw [← text_num]
  exact KIN.call_num (by omega) (by omega) ⟨Eff.tok, .int _ _⟩
theorem c_str_num {m : Nat} (h : m < 10 ^ 10) : OpN C own (fun vs => PySem.call (.type "str") vs) [.int m] (.str (sS (digs m))) := fun s vs _ _ _ _ r => by
  obtain ⟨v, vs', rfl, r1, r2⟩ := r.cons_inv
  obtain ⟨t, rfl⟩ := r1.int_inv
  obtain rfl := r2.nil_inv
  refine P.str_of_int ?_ ?_
  · have : ((m : Int).natAbs) = m := by omega
    rw [this]
    by_cases h0 : m = 0
    · subst h0; decide
    · have : m.log2 < 34 := (Nat.log2_lt h0).mpr (by omega)
      omega
  · show Eff _ _ _ ∧ Rd _ _ _ (.str (Str.ofString (toString (m : Int))) _) _
    rw [text_num]
    exact ⟨Eff.tok, .str _ _⟩
theorem c_len_list {ds : List D} (h : ds.length ≤ 1000000) : OpN C own (fun vs => PySem.call (.builtin "len") vs) [.list ds] (.int ds.length) := fun s vs _ _ _ _ r => by
  obtain ⟨v, vs', rfl, r1, r2⟩ := r.cons_inv
  obtain ⟨l, xs, rfl, hl, hf, r5⟩ := r1.list_inv
  obtain rfl := r2.nil_inv
  refine PyProof.Rows.len_list hl (by rw [List.size_toArray, r5.1]; omega) ⟨Eff.tok (by omega), ?_⟩
  rw [List.size_toArray, r5.1]
  exact .int _ _
end
theorem bi_int : BI "int" (.type "int") := ⟨by decide, by decide, by decide +kernel, fun w => by kernel_rfl⟩
theorem bi_str : BI "str" (.type "str") := ⟨by decide, by decide, by decide +kernel, fun w => by kernel_rfl⟩
end Mine

end

-- part MO4
section
open PySem PySem.W PyProof.Rows PySem.Calls
set_option maxRecDepth 100000
set_option linter.unusedVariables false
namespace Mine

section
variable {C : Cx} {ρ : List (Str × D)} {own R : List Own} {rest : List Stmt} {Φ : Flow → Shared → Prop}

/-- an expression gives a new object of the activation's own -/
noncomputable def EvN (C : Cx) (ρ : List (Str × D)) (own : List Own) (e : Expr) (d : D) : Prop :=
  ∀ s, St C ρ own s → wpAny C.M C.A (eval e C.env) (fun v s' => ∃ a, v = .ref a ∧ Eff C.q s s' ∧ s.heap.get? a = none ∧ OwnRd C.w s' (fun b => C.F own b ∨ b = a) a d) NoE s

theorem Ex.assignN {x : Str} {p pos : Pos} {e : Expr} {d : D} (he : EvN C ρ own e d) (hr : ∀ a, Ex C ((x, .addr a) :: ρ) (.ob a d :: own) rest Φ)
    (hx : autoParam (storable C x = true) Mine.tacI) (hs : autoParam (swapsWith e (some (.Name x p)) pos.line C.env = pure false) Mine.tacI) : Ex C ρ own (.Assign [.Name x p] e pos :: rest) Φ := fun s S =>
  wpAny_execs_cons (wpAny_Assign_Name (wpAny_mono (he s S) (fun v s₁ ⟨a, hv, e₁, hn, ho⟩ => by
    subst hv
    have S₁ : St C ρ (.ob a d :: own) s₁ := S.adds (xs := [.ob a d]) e₁ (fun b hb => by
      obtain rfl : b = a := List.mem_singleton.mp hb
      exact hn) (List.nodup_cons.mpr ⟨(fun h => nomatch h), List.nodup_nil⟩) fun z hz => by
        obtain rfl := List.mem_singleton.mp hz
        exact OwnRd.mono (fun _ h => h) (fun b o hb _ h => ⟨h, fun q => hb (q.imp id fun q => List.mem_singleton.mp q)⟩) (Nat.le_refl _) ho
    exact store_name S₁ hx (.addr a) fun s₂ S₂ => hr a s₂ S₂) fun _ _ x => x) hs)

theorem EvN.list {es : List Expr} {pos : Pos} {ds : List D} (h : EvL C ρ own pos es ds) (hz : autoParam (ds.length ≤ sizeLine) Mine.tacB) : EvN C ρ own (.List es pos) (.plist ds) := fun s S =>
  List_ (wpAny_mono (h.2.2 s S) (fun vs s₁ ⟨e₁, r₁⟩ => by
    have S₁ := S.eff e₁
    refine wpAny_newObj_type ⟨_, rfl, e₁.trans Eff.push, ?_, ?_⟩ (by show vs.toArray.size ≤ sizeLine; rw [List.size_toArray, r₁.1]; exact hz)
    · cases h : s.heap.get? s₁.heap.objs.size with
      | none => rfl
      | some o =>
        have := e₁.2.1 _ o (.inr (not_T2 (size_gt S₁.tabs))) h
        rw [pushed_none] at this; cases this
    · refine .plist ⟨0, Heap.get?_push_size _ rfl⟩ (r₁.mono (s' := { s₁ with heap := s₁.heap.push _ }) (fun b o hb _ e => ⟨Heap.get?_push_of_some _ e, fun q => q.elim hb fun q => ?_⟩) (Nat.le_refl _))
      subst q; rw [pushed_none] at e; cases e) fun _ _ x => x)

/-- an own list, read -/
noncomputable def HasO (C : Cx) (ρ : List (Str × D)) (own : List Own) (a : Addr) (d : D) : Prop := ∀ s, St C ρ own s → OwnRd C.w s (C.F own) a d
theorem HasO.mem {a : Addr} {d : D} (h : Own.ob a d ∈ own) : HasO C ρ own a d := fun s S => S.owns _ h

theorem Ev.itemO {value slice : Expr} {pos : Pos} {a : Addr} {ds : List D} {k : Int} {d : D} (hv : Ev C ρ own value (.addr a)) (hi : Ev C ρ own slice (.int k)) (ho : HasO C ρ own a (.list ds)) (h0 : 0 ≤ k) (hk : k < 2 ^ 62) (hd : ds[k.toNat]? = some d)
    (hs : autoParam (∀ o i, subscripted slice false o i = operate [o, i] (getItem o i)) Mine.tacF) : Ev C ρ own (.Subscript value slice pos) d := fun s S => by
  refine Subscript_ (wpAny_mono (hv s S) (fun x s₁ ⟨e₁, r₁⟩ => wpAny_mono (hi s₁ (S.eff e₁)) (fun b s₂ ⟨e₂, r₂⟩ => ?_) fun _ _ x => x) fun _ _ x => x)
  have S₂ := (S.eff e₁).eff e₂
  rw [r₁.addr_inv]
  obtain ⟨u, rfl⟩ := r₂.int_inv
  cases ho s₂ S₂ with
  | list hl r =>
    rename_i vs
    have hlt : k.toNat < vs.length := by rw [r.1]; exact (List.getElem?_eq_some_iff.mp hd).1
    exact tail_any hl.typeIs slot_list_getitem.lookup (wpAny_getItem_list (x := vs[k.toNat]) hl h0 (by omega) (by simp) ⟨e₁.trans e₂, r.2 _ _ _ (List.getElem?_eq_getElem hlt) hd⟩) (hs _ _)

theorem set_rd {w : World} {s : Shared} {F : Addr → Prop} {vs : List Value} {ds : List D} {v : Value} {d : D} (r : RdAll w s F vs ds) (hv : Rd w s F v d) (k : Nat) : RdAll w s F (vs.set k v) (ds.set k d) := by
  refine ⟨by simp [r.1], fun i u e hu he => ?_⟩
  rw [List.getElem?_set] at hu he
  by_cases hi : k = i
  · rw [if_pos hi] at hu he
    split at hu
    · split at he
      · cases hu; cases he; exact hv
      · cases he
    · cases hu
  · rw [if_neg hi] at hu he
    exact r.2 i u e hu he

theorem St.setO {a : Addr} {ds ds' : List D} {s : Shared} {h' : Heap} {vs' : List Value} {tk : Nat} (S : St C ρ (.ob a (.list ds) :: own) s) (hs : Heap.SameBut a s.heap h') (hl : h'.IsList a vs'.toArray) (hr : RdAll C.w s (C.F (.ob a (.list ds) :: own)) vs' ds') (ht : s.toks ≤ tk := by exact Nat.le_refl _) :
    St C ρ (.ob a (.list ds') :: own) { s with heap := h', toks := tk } := by
  have hFa : C.F (.ob a (.list ds) :: own) a := .inr (.inr (.inr (.head _)))
  have hO : OwnRd C.w s (C.F (.ob a (.list ds) :: own)) a (.list ds) := S.owns _ (.head _)
  refine S.set (x' := .ob a (.list ds')) rfl rfl (fun b o hb e => by rw [hs.2 b hb]; exact e) (fun o us q t e hd => ?_) ?_ ht
  · cases hO with
    | list h _ =>
      obtain ⟨o', ho', _, n, hdo⟩ := h
      rw [e] at ho'; cases ho'
      rw [hd] at hdo; cases hdo
  · exact OwnRd.list hl (hr.mono (same_rd hs hFa) ht)

/-- own[k] = e -/
theorem Ex.setItem {o i e : Expr} {a : Addr} {ds : List D} {k : Int} {d : D} {p pos : Pos} (he : Ev C ρ (.ob a (.list ds) :: own) e d) (ho : Ev C ρ (.ob a (.list ds) :: own) o (.addr a)) (hi : Ev C ρ (.ob a (.list ds) :: own) i (.int k)) (h0 : 0 ≤ k) (hk : k < ds.length)
    (hz : ds.length ≤ 1000000) (hr : Ex C ρ (.ob a (.list (ds.set k.toNat d)) :: own) rest Φ) (hs : autoParam (swapsWith e (some (.Subscript o i p)) pos.line C.env = pure false) Mine.tacI) :
    Ex C ρ (.ob a (.list ds) :: own) (.Assign [.Subscript o i p] e pos :: rest) Φ := Ex.one fun s S => by
  refine wpAny_Assign_Subscript (wpAny_mono (he s S) (fun v s₁ ⟨e₁, r₁⟩ => wpAny_mono (ho s₁ (S.eff e₁)) (fun ov s₂ ⟨e₂, r₂⟩ => wpAny_mono (hi s₂ ((S.eff e₁).eff e₂)) (fun iv s₃ ⟨e₃, r₃⟩ => ?_) fun _ _ x => x) fun _ _ x => x) fun _ _ x => x) hs
  have S₁ := S.eff e₁
  have S₂ := S₁.eff e₂
  have S₃ := S₂.eff e₃
  rw [r₂.addr_inv]
  obtain ⟨u, rfl⟩ := r₃.int_inv
  have hO : OwnRd C.w s₃ (C.F (.ob a (.list ds) :: own)) a (.list ds) := S₃.owns _ (.head _)
  have r₁' := (r₁.eff S₁.tabs e₂).eff S₂.tabs e₃
  cases hO with
  | list hl r =>
    rename_i vs
    have hln : vs.length = ds.length := r.1
    refine wpAny_setItem_list hl h0 (by omega) (by rw [List.size_toArray, hln]; exact hk) fun h' hl' hs' => ?_
    exact hr _ (S₃.setO (vs' := vs.set k.toNat v) hs' (by simpa using hl') (set_rd r r₁' _))

/-- own.append(e) -/
theorem Ex.append {o e : Expr} {a : Addr} {ds : List D} {d : D} {apos cpos pos : Pos} {pl : Sem Bool} (ho : Ev C ρ (.ob a (.plist ds) :: own) o (.addr a)) (he : Ev C ρ (.ob a (.plist ds) :: own) e d) (hz : ds.length ≤ 1000000)
    (hr : Ex C ρ (.ob a (.plist (ds ++ [d])) :: own) rest Φ)
    (hc : autoParam (eval (.Call (.Attribute o "append" apos) [e] [] cpos) C.env = (do
      let ov ← eval o C.env
      standAt apos.atName
      let (f, first) ← holding [ov] (getMethod ov "append" pl)
      callWith cpos f first (backTo cpos (starEach [e] C.env)) [])) Mine.tacI)
    (hst : autoParam (starEach [e] C.env = (false, eval e C.env) :: starEach [] C.env) Mine.tacI) (hi : autoParam (interactive C.env = false) Mine.tacI) (hs : autoParam (swapsWith (.Call (.Attribute o "append" apos) [e] [] cpos) none pos.line C.env = pure false) Mine.tacI) :
    Ex C ρ (.ob a (.plist ds) :: own) (.Expr (.Call (.Attribute o "append" apos) [e] [] cpos) pos :: rest) Φ := Ex.one fun s S => by
  refine wpAny_Expr (MethodCall_ (pl := pl) (wpAny_mono (ho s S) (fun v s₁ ⟨e₁, r₁⟩ => ?_) fun _ _ x => x) hc) hi hs
  rw [r₁.addr_inv]
  have S₁ := S.eff e₁
  have hO : OwnRd C.w s₁ (C.F (.ob a (.plist ds) :: own)) a (.plist ds) := S₁.owns _ (.head _)
  obtain ⟨n₁, ho₁⟩ : ∃ n vs, s₁.heap.get? a = some { cls := .type "list", data := .seq vs n } := by
    cases hO with | plist hl _ => exact let ⟨n, e⟩ := hl; ⟨n, _, e⟩
  obtain ⟨vs₁, ho₁⟩ := ho₁
  refine Calls.getMethod_list_append ho₁ rfl rfl ?_
  have hargs := EvL.cons (pos := cpos) he EvL.nil hst
  refine callWith_builtin hargs.1 (wpAny_mono (wp_evalArgs S₁ hargs) (fun x s₂ ⟨vs, hx, e₂, r₂⟩ => ?_) fun _ _ x => x)
  subst hx
  have S₂ := S₁.eff e₂
  obtain ⟨v, vs', rfl, r3, r4⟩ := r₂.cons_inv
  obtain rfl := r4.nil_inv
  have hO : OwnRd C.w s₂ (C.F (.ob a (.plist ds) :: own)) a (.plist ds) := S₂.owns _ (.head _)
  cases hO with
  | plist hl r =>
    rename_i us
    refine wpAny_list_append_plain hl (fun h' hl' hs' => ?_) (by rw [List.size_toArray, r.1]; have : sizeLine = 2 ^ 24 := rfl; omega)
    have hFa : C.F (.ob a (.plist ds) :: own) a := .inr (.inr (.inr (.head _)))
    have S₃ : St C ρ (.ob a (.plist (ds ++ [d])) :: own) { s₂ with heap := h' } := by
      refine S₂.set (x' := .ob a (.plist (ds ++ [d]))) (tk := s₂.toks) rfl rfl (fun b o hb e => by rw [hs'.2 b hb]; exact e) (fun o us q t e hd => ?_) ?_
      · obtain ⟨n, e'⟩ := hl
        rw [e] at e'; cases e'
        cases hd
      · refine OwnRd.plist (vs := us ++ [v]) (by simpa using hl') ?_
        have k := same_rd hs' hFa
        exact (r.mono k (by exact Nat.le_refl _)).append (.cons (r3.mono k (by exact Nat.le_refl _)) .nil)
    exact hr _ S₃

/-- an own list as one that is stored into -/
theorem Ex.asList {a : Addr} {ds : List D} {b : List Stmt} (h : Ex C ρ (.ob a (.list ds) :: own) b Φ) : Ex C ρ (.ob a (.plist ds) :: own) b Φ := fun s S => h s (by
  have hO : OwnRd C.w s (C.F (.ob a (.plist ds) :: own)) a (.plist ds) := S.owns _ (.head _)
  have hk : OwnRd C.w s (C.F (.ob a (.plist ds) :: own)) a (.list ds) := by cases hO with | plist hl r => exact .list hl.isList r
  have hD : ∀ o vs q t, s.heap.get? a = some o → o.data = .fields vs → vs[1]? ≠ some (.str q t) := fun o vs q t e hd => by
    cases hO with
    | plist hl _ =>
      obtain ⟨n, e'⟩ := hl
      rw [e] at e'; cases e'
      cases hd
  exact S.set (x' := .ob a (.list ds)) (h' := s.heap) (tk := s.toks) rfl rfl (fun _ _ _ e => e) hD hk)
end
end Mine

end

-- part MN1
section
open PySem PySem.W PyProof.Rows PySem.Calls
set_option maxRecDepth 100000
set_option linter.unusedVariables false
namespace Mine

theorem rep_one (x : Value) : ∀ n : Nat, List.foldl (fun x1 x2 => x1 ++ x2) #[] (List.replicate n (#[x] : Array Value)) = (List.replicate n x).toArray := by
  have h : ∀ (n : Nat) (acc : List Value), (List.replicate n (#[x] : Array Value)).foldl (fun x1 x2 => x1 ++ x2) acc.toArray = (acc ++ List.replicate n x).toArray := by
    intro n
    induction n with
    | zero => intro acc; simp
    | succ n ih =>
      intro acc
      rw [List.replicate_succ, List.foldl_cons]
      have : acc.toArray ++ #[x] = (acc ++ [x]).toArray := by simp
      rw [this, ih]
      simp [List.replicate_succ]
  intro n
  have := h n []
  simpa using this

section
variable {C : Cx} {ρ : List (Str × D)} {own R : List Own} {rest : List Stmt} {Φ : Flow → Shared → Prop}

/-- [d] * n -/
theorem EvN.rep {e er : Expr} {lp pos : Pos} {d : D} {n : Int} (he : Ev C ρ own e d) (hr : Ev C ρ own er (.int n)) (h0 : 0 ≤ n) (hn : n ≤ 1000000) (hst : autoParam (starEach [e] C.env = (false, eval e C.env) :: starEach [] C.env) Mine.tacI) :
    EvN C ρ own (.BinOp (.List [e] lp) .Mult er pos) (.list (List.replicate n.toNat d)) := fun s S => by
  refine wpAny_BinOp (List_ (wpAny_mono ((EvL.cons he EvL.nil hst).2.2 s S) (fun vs s₁ ⟨e₁, r₁⟩ => ?_) fun _ _ x => x))
  obtain ⟨v, vs', rfl, r3, r4⟩ := r₁.cons_inv
  obtain rfl := r4.nil_inv
  refine wpAny_newObj_type ?_ (by show 1 ≤ sizeLine; decide)
  have S₁ := S.eff e₁
  have e₂ : Eff C.q s₁ { s₁ with heap := s₁.heap.push { cls := .type "list", data := .seq [v].toArray } } := Eff.push (tk := s₁.toks)
  have S₂ := S₁.eff e₂
  have ho : (s₁.heap.push { cls := .type "list", data := .seq [v].toArray }).get? s₁.heap.objs.size = some { cls := .type "list", data := .seq [v].toArray } := Heap.get?_push_size _ rfl
  have hsz := size_gt S₁.tabs
  refine wpAny_mono (hr _ S₂) (fun iv s₃ ⟨e₃, r₃⟩ => ?_) fun _ _ x => x
  obtain ⟨u, rfl⟩ := r₃.int_inv
  have S₃ := S₂.eff e₃
  have hl := e₃.2.1 _ _ (.inr (not_T2 hsz)) ho
  have hnew : s.heap.get? s₃.heap.objs.size = none := by
    cases h : s.heap.get? s₃.heap.objs.size with
    | none => rfl
    | some o =>
      have := ((e₁.trans e₂).trans e₃).2.1 _ o (.inr (not_T2 (size_gt S₃.tabs))) h
      rw [pushed_none] at this; cases this
  refine wpAny_binaryOp_repeat_ref (T := "list") (U := "int") (by decide) ⟨_, hl, rfl⟩ (fun s' => typeIs_int s' n u) noFill_list_mul F.fills_int_mul F.slot_int_rmul repeat_list F.slot_int_index.lookup
    (call_meets F.slot_int_rmul (typeIs_int s₃ n u) F.entry_int_rmul (F.args_int_rmul_2 _ _) (int___rmul___int_list n u s₁.heap.objs.size [v].toArray 0)
      ⟨hl, rfl, ⟨_, hl, rfl⟩, call_meets F.slot_list_mul ⟨_, hl, rfl⟩ F.entry_list_mul (F.args_list_mul_2 _ _)
        (AutoListH.list___mul___list_int_3 s₁.heap.objs.size [v].toArray 0 n u (by simp [Builtin.List.listFitsIndex]; omega) (by simp; omega) (by have e1 : [v].toArray.size = 1 := rfl; simp only [Builtin.List.listTooLong, sizeLine, e1]; simp; omega))
        ⟨hl, ?_⟩⟩)
  have e4 : Eff C.q s₃ { s₃ with heap := s₃.heap.push { cls := .type "list", data := .seq (List.foldl (fun x1 x2 => x1 ++ x2) #[] (List.replicate (if [v].toArray.isEmpty = true then 0 else n.toNat) [v].toArray)) } } := Eff.push (tk := s₃.toks)
  refine ⟨_, rfl, ((e₁.trans e₂).trans e₃).trans e4, hnew, ?_⟩
  refine OwnRd.list (vs := List.replicate n.toNat v) ⟨_, Heap.get?_push_size _ rfl, rfl, 0, ?_⟩ ⟨by simp, fun i x y hx hy => ?_⟩
  · have := rep_one v n.toNat
    show Data.seq (List.foldl (fun x1 x2 => x1 ++ x2) #[] (List.replicate (if [v].toArray.isEmpty = true then 0 else n.toNat) [v].toArray)) 0 = _
    have hne : ([v].toArray.isEmpty = true) = False := by simp
    simp only [hne, if_false]
    rw [← this]
  · rw [List.getElem?_replicate] at hx hy
    split at hx
    · rename_i hi
      rw [if_pos hi] at hy
      cases hx; cases hy
      have r5 := (r3.eff S₁.tabs e₂).eff S₂.tabs e₃
      refine r5.mono (fun b o hb _ e => ⟨Heap.get?_push_of_some _ e, fun q => q.elim hb fun q => ?_⟩) (by exact Nat.le_refl _)
      subst q; rw [pushed_none] at e; cases e
    · cases hx
end
end Mine

end

-- part MN2
section
open PySem PySem.W PyProof.Rows PySem.Calls
set_option maxRecDepth 100000
set_option linter.unusedVariables false
namespace Mine

theorem cd51 : ∃ o : Obj, (∀ w, (KF w).lookup 51 = some o) ∧ o.cls = .type "code" ∧ ∃ vs file tf flags tg inF text tt, o.data = .fields vs ∧ vs[11]? = some (.ref 47) ∧ vs.getD 11 .none = .ref 47 ∧ vs.getD 18 .none = .str file tf ∧
    vs.getD 7 .none = .int flags tg ∧ vs.getD 9 .none = .bool inF ∧ vs.getD 10 .none = .int text tt := ⟨_, fun w => by rfl, by rfl, _, _, _, _, _, _, _, _, by rfl, by rfl, by rfl, by rfl, by rfl, by rfl, by rfl⟩
theorem cd58 : ∃ o : Obj, (∀ w, (KF w).lookup 58 = some o) ∧ o.cls = .type "code" ∧ ∃ vs file tf flags tg inF text tt, o.data = .fields vs ∧ vs[11]? = some (.ref 54) ∧ vs.getD 11 .none = .ref 54 ∧ vs.getD 18 .none = .str file tf ∧
    vs.getD 7 .none = .int flags tg ∧ vs.getD 9 .none = .bool inF ∧ vs.getD 10 .none = .int text tt := ⟨_, fun w => by rfl, by rfl, _, _, _, _, _, _, _, _, by rfl, by rfl, by rfl, by rfl, by rfl, by rfl, by rfl⟩
theorem hd51 {w : World} {h : Heap} (X : (KF w).In h) : CodeHd h 51 47 :=
  let ⟨o, ho, hc, vs, file, tf, flags, tg, inF, text, tt, h1, h2, h3, h4, h5, h6, h7⟩ := cd51
  ⟨o, vs, file, tf, flags, tg, inF, text, tt, X 51 o (ho w), hc, h1, h2, h3, h4, h5, h6, h7, by decide⟩
theorem hd58 {w : World} {h : Heap} (X : (KF w).In h) : CodeHd h 58 54 :=
  let ⟨o, ho, hc, vs, file, tf, flags, tg, inF, text, tt, h1, h2, h3, h4, h5, h6, h7⟩ := cd58
  ⟨o, vs, file, tf, flags, tg, inF, text, tt, X 58 o (ho w), hc, h1, h2, h3, h4, h5, h6, h7, by decide⟩

theorem good_builtins {w : World} {h : Heap} (G : Good w h) {P : Addr} (hP : T2 P) : ∃ mg, h.Ns mainGlobals mg ∧ h.BuiltinsAt mg P := by
  obtain ⟨mg, h1, bm, ob, h2, h3, h4, h5, h6, h7, h8⟩ := G.ns
  refine ⟨mg, h1, bm, ob, h2, h3, ?_, ?_, h5, h6, h7, h8⟩
  · rintro rfl
    obtain ⟨o, es, ep, e, hd, _⟩ := h1
    rw [e] at h5; cases h5; rw [hd] at h8; cases h8
  · rintro rfl; exact h4 hP

theorem codeRec_keep {h h' : Heap} {c : Addr} {q : Str} (x : h.CodeRec (.ref c) q) (k : ∀ o, h.get? c = some o → h'.get? c = some o) : h'.CodeRec (.ref c) q := by
  obtain ⟨c', o, vs, t, e1, e2, e3, e4⟩ := x
  cases e1
  exact ⟨_, o, vs, t, rfl, k o e2, e3, e4⟩

theorem tab_step {h h' : Heap} {P P' : Addr} {line col line' col' : Nat} {qual qual' : Str} (hPP : P' ≠ P) (t : TabOk h P' line' col' qual') (tP : TabOk h P line col qual) (hx : Heap.ExtBut P h h') : TabOk h' P' line' col' qual' :=
  t.keep (fun o e => hx _ o hPP e) fun a o vs hd ⟨q, tt, hv⟩ e => hx a o (by
    rintro rfl
    obtain ⟨ps, h1, h2⟩ := tP
    rw [h1] at e; cases e; cases hd
    rcases h2 with rfl | ⟨c', rfl, _⟩
    · simp at hv
    · simp [rawInt] at hv) e

/-- a table of the two, with its place -/
structure TabFor (P : Addr) (line col : Nat) (qual : Str) : Prop where
  t2 : T2 P
  get : ∀ h, Tabs h → TabOk h P line col qual
  set : ∀ h h', Tabs h → Heap.ExtBut P h h' → TabOk h' P line col qual → Tabs h'
theorem tab47 : TabFor 47 33 4 "_int2digits.<locals>.inner" := ⟨.inl rfl, fun h t => t.t1, fun h h' t hx k => ⟨k, tab_step (by decide) t.t2 t.t1 hx⟩⟩
theorem tab54 : TabFor 54 48 4 "_digits2int.<locals>.inner" := ⟨.inr rfl, fun h t => t.t2, fun h h' t hx k => ⟨tab_step (by decide) t.t1 t.t2 hx, k⟩⟩

section
variable {C : Cx} {ρ : List (Str × D)} {own R : List Own} {rest : List Stmt} {Φ : Flow → Shared → Prop}

/-- a def within a def -/
theorem Ex.def {name : Str} {params : Arguments} {body : List Stmt} {scope : Scope} {pos : Pos} {clos : List (Str × Addr)} {c P : Addr} {qual : Str} (hq : C.q = false) (hcode : C.env.code = .ref c) (hhd : ∀ h, (KF C.w).In h → CodeHd h c P)
    (tf : TabFor P pos.line pos.col qual) (hqual : qualnameIn C.env name name = qual) (hcl : closureFor scope C.env = pure clos) (hx : storable C name = true)
    (hr : ∀ doc pm ctv c', Ex C ((name, .made (fnX name qual params body scope clos .none .none doc pm none (.ref c') ctv)) :: ρ) own rest Φ)
    (hd0 : autoParam (params.defaults = []) Mine.tacI) (hk0 : autoParam (params.kw_defaults = []) Mine.tacI) (ha : autoParam (annTrees params none C.env = []) Mine.tacI) :
    Ex C ρ own (.FunctionDef name params body [] none [] scope none name pos :: rest) Φ := Ex.one fun s S => by
  refine nestDef_K hd0 hk0 ha ?_
  rw [hqual]
  obtain ⟨mg, hns, hbt⟩ := good_builtins S.good tf.t2
  have hgP : mainGlobals ≠ P := fun q => T2_3 (q ▸ tf.t2)
  have fin : ∀ (doc pm ctv : Value) (c' : Addr) (h' : Heap) (tk : Tok), Heap.ExtBut P s.heap h' → s.heap.objs.size ≤ h'.objs.size → h'.CodeRec (.ref c') qual → TabOk h' P pos.line pos.col qual → s.toks ≤ tk → ¬ C.F own c' →
      wpAny C.M C.A (storeName C.env name (.ref h'.objs.size)) (fun _ s'' => Then C rest Φ .next s'') NoE { s with heap := h'.push (fnMade name qual params body scope clos doc pm c' ctv), toks := tk } := by
    intro doc pm ctv c' h' tk hx' hsz hrec htab htk hF
    have hx2 : Heap.ExtBut P s.heap (h'.push (fnMade name qual params body scope clos doc pm c' ctv)) := fun b o hb e => Heap.get?_push_of_some _ (hx' b o hb e)
    have htab2 : TabOk (h'.push (fnMade name qual params body scope clos doc pm c' ctv)) P pos.line pos.col qual := htab.keep (fun o e => Heap.get?_push_of_some _ e) fun a o _ _ _ e => Heap.get?_push_of_some _ e
    have e : Eff C.q s { s with heap := h'.push (fnMade name qual params body scope clos doc pm c' ctv), toks := tk } := by
      refine ⟨⟨_, _, rfl⟩, fun a o hqa e => hx2 a o ?_ e, fun t => tf.set _ _ t hx2 htab2, htk⟩
      rintro rfl
      rcases hqa with h | h
      · rw [hq] at h; cases h
      · exact h tf.t2
    have hnF : ∀ b, s.heap.objs.size ≤ b → ¬ C.F own b := fun b hb q => by
      obtain ⟨_, o, ho, _⟩ := S.fLive q
      exact absurd (Heap.lt_size ho) (Nat.not_lt.mpr hb)
    refine store_name (S.eff e) hx (.made (c' := c') (Heap.get?_push_size _ rfl) rfl (codeRec_keep hrec fun o e => Heap.get?_push_of_some _ e) (hnF _ hsz) hF) fun s₂ S₂ => ?_
    exact hr doc pm ctv c' s₂ S₂
  obtain ⟨ps, hP, hps⟩ := tf.get _ S.tabs
  refine wpAny_with_toks (n := s.toks) (Nat.le_refl _) ?_
  rcases hps with rfl | ⟨c', rfl, hrec⟩
  · refine makeFunction_K hcl S.ok.glob hns hcode (hhd _ S.good.K) hP trivial rfl hgP hbt fun c' ctv doc h' tk hx' hge hlt hrec htb htk => ?_
    refine fin doc _ ctv c' h' tk hx' (Nat.le_of_lt (Nat.lt_of_le_of_lt hge hlt)) hrec ⟨_, htb, .inr ⟨c', by simp, hrec⟩⟩ htk fun q => ?_
    obtain ⟨_, o, ho, _⟩ := S.fLive q
    exact absurd (Heap.lt_size ho) (Nat.not_lt.mpr hge)
  · refine makeFunction_hit (cv := .ref c') hcl S.ok.glob hns hcode (hhd _ S.good.K) hP (by simp [TriplesOk, rawInt]) (by simp [codeAmong, rawInt]) hbt fun ctv doc h' tk hk hsz htk => ?_
    refine fin doc _ ctv c' h' tk (fun b o _ e => hk b o e) hsz (codeRec_keep hrec fun o e => hk _ o e) ⟨_, hk _ _ hP, .inr ⟨c', rfl, codeRec_keep hrec fun o e => hk _ o e⟩⟩ htk fun q => ?_
    obtain ⟨_, o, ho, hn⟩ := S.fLive q
    obtain ⟨c'', o', vs, t, e1, e2, e3, e4⟩ := hrec
    cases e1
    rw [ho] at e2; cases e2
    exact hn vs _ t e3 e4
end
end Mine

end

-- part MN3
section
open PySem PySem.W PyProof.Rows PySem.Calls
set_option maxRecDepth 100000
set_option linter.unusedVariables false
namespace Mine

/-- the activation of a made def -/
noncomputable def mkN (C : Cx) (own : List Own) (n : Nat) (s : Shared) (fd : FuncData) (f : Addr) : Cx where
  w := C.w
  A := C.A.deeper (callEnv fd s.heap.objs.size f)
  n := n
  q := C.q
  s₀ := s
  F₀ := C.F own
  X := fun b => b ∈ ownA own
  env := callEnv fd s.heap.objs.size f
  fresh := []

noncomputable def retv : Flow → Value
  | .ret v => v
  | _ => .none

theorem lookup_reverse {α : Type} {x : Str} {v : α} {l : List (Str × α)} (hn : (l.map (·.1)).Nodup) (h : l.lookup x = some v) : l.reverse.lookup x = some v := by
  have key : ∀ {l : List (Str × α)} {v : α}, (x, v) ∈ l → ∃ u, l.lookup x = some u ∧ (x, u) ∈ l := by
    intro l
    induction l with
    | nil => intro v h; exact nomatch h
    | cons p r ih =>
      intro v h
      obtain ⟨y, u⟩ := p
      by_cases hy : x = y
      · subst hy; exact ⟨u, lookup_cons_eq, .head _⟩
      · rw [lookup_cons_ne hy]
        rcases List.mem_cons.mp h with h | h
        · cases h; exact absurd rfl hy
        · obtain ⟨u', h1, h2⟩ := ih h; exact ⟨u', h1, .tail _ h2⟩
  have uniq : ∀ {l : List (Str × α)} {u v : α}, (l.map (·.1)).Nodup → (x, u) ∈ l → (x, v) ∈ l → u = v := by
    intro l
    induction l with
    | nil => intro u v _ h; exact nomatch h
    | cons p r ih =>
      intro u v hn h1 h2
      simp only [List.map_cons, List.nodup_cons] at hn
      rcases List.mem_cons.mp h1 with g1 | g1 <;> rcases List.mem_cons.mp h2 with g2 | g2
      · rw [← g1] at g2; injection g2 with _ g2; exact g2.symm
      · exact absurd (List.mem_map.mpr ⟨_, g2, rfl⟩) (by rw [← g1] at hn; exact hn.1)
      · exact absurd (List.mem_map.mpr ⟨_, g1, rfl⟩) (by rw [← g2] at hn; exact hn.1)
      · exact ih hn.2 g1 g2
  have hm : (x, v) ∈ l := by
    clear hn
    induction l with
    | nil => cases h
    | cons p r ih =>
      obtain ⟨y, u⟩ := p
      by_cases hy : x = y
      · subst hy; rw [lookup_cons_eq] at h; cases h; exact .head _
      · rw [lookup_cons_ne hy] at h; exact .tail _ (ih h)
  obtain ⟨u, h1, h2⟩ := key (List.mem_reverse.mpr hm)
  rw [h1, uniq hn (List.mem_reverse.mp h2) hm]

section
variable {C : Cx} {ρ : List (Str × D)} {own R : List Own} {rest : List Stmt} {Φ : Flow → Shared → Prop}

/-- the caller's own state behind the call -/
theorem St.back {own' : List Own} {ρ' : List (Str × D)} {n : Nat} {s s' : Shared} {fd : FuncData} {f : Addr} (S : St C ρ own s) (S' : St (mkN C own n s fd f) ρ' own' s') (hA : ownA own' = ownA own) :
    St C ρ own' s' ∧ ∀ v d, Rd C.w s' ((mkN C own n s fd f).F own') v d → Rd C.w s' (C.F own') v d := by
  have hFF : ∀ a, C.F own' a → (mkN C own n s fd f).F own' a := fun a h => by
    have h : C.F own a := by unfold Cx.F at h ⊢; rw [hA] at h; exact h
    by_cases ho : a ∈ ownA own
    · exact .inr (.inr (.inr (by rw [hA]; exact ho)))
    · exact .inl ⟨h, ho⟩
  have hF : C.F own' = C.F own := by unfold Cx.F; rw [hA]
  have rb : ∀ v d, Rd C.w s' ((mkN C own n s fd f).F own') v d → Rd C.w s' (C.F own') v d := fun v d r => r.mono (fun a o hf _ e => ⟨e, fun q => hf (hFF a q)⟩) (Nat.le_refl _)
  have kn : ∀ a o, a ∉ ownA own → ¬ T2 a → s.heap.get? a = some o → s'.heap.get? a = some o := fun a o hx ht e => S'.keep a o hx (.inr ht) e
  have kl : ∀ a o, a = C.env.locals → s.heap.get? a = some o → s'.heap.get? a = some o := fun a o ha e => kn a o (fun q => (S.ownNew a q).2.1 ha) (ha ▸ S.ok.locT) e
  have kc : ∀ x a o, C.env.cells.lookup x = some a → s.heap.get? a = some o → s'.heap.get? a = some o := fun x a o ha e => kn a o (fun q => (S.ownNew a q).2.2.2 x ha) (S.ok.cellT x a ha) e
  have kr : ∀ a o, ¬ C.F own a → Solid o → s.heap.get? a = some o → s'.heap.get? a = some o ∧ ¬ C.F own' a := fun a o hf hs e =>
    ⟨kn a o (fun q => hf (.inr (.inr (.inr q)))) (fun ht => S.tabs.notSolid ht e hs) e, by rw [hF]; exact hf⟩
  refine ⟨⟨S.ok, ?_, fun a o hx hq e => ?_, fun a o hx e => ?_, S'.tabs, Nat.le_trans S.tk S'.tk, ?_, fun x c hc => ?_, fun x d hd => ?_, fun x hx => ?_, by rw [hA]; exact S.ownNew, by rw [hA]; exact S.nodup⟩, rb⟩
  · obtain ⟨h, tk, h1⟩ := S.same
    obtain ⟨h', tk', h2⟩ := S'.same
    have h2 : s' = { s with heap := h', toks := tk' } := h2
    exact ⟨h', tk', by rw [h2, h1]⟩
  · have e' := S.keep a o hx hq e
    refine S'.keep a o (fun q => ?_) hq e'
    rcases (S.ownNew a q).1 with h | h
    · rw [h] at e; cases e
    · exact hx h
  · obtain ⟨o', e'⟩ := S.live a o hx e
    by_cases ho : a ∈ ownA own
    · exact S'.live a o' ho e'
    · exact ⟨o', kn a o' ho (S.ok.xT a hx) e'⟩
  · obtain ⟨m, hm⟩ := S.ns
    exact ⟨m, ns_at hm fun o e => kl _ o rfl e⟩
  · obtain ⟨v, o, ho, r⟩ := S.cells x c hc
    exact ⟨v, o, kc x c o hc ho, r⟩
  · obtain ⟨v, hv, hr⟩ := S.vars x d hd
    exact ⟨v, ⟨hv.1, hv.2.imp (fun ⟨h1, m, h2, h3⟩ => ⟨h1, m, ns_at h2 fun o e => kl _ o rfl e, h3⟩) fun ⟨h1, c, h2, o, h3, h4⟩ => ⟨h1, c, h2, o, kc x c o h2 h3, h4⟩⟩, hr.mono kr S'.tk⟩
  · exact (S'.owns x hx).mono (fun _ _ _ h => h) (fun a o hf _ e => ⟨e, fun q => hf (hFF a q)⟩) (Nat.le_refl _)

/-- a call of a made def -/
theorem call_made {fd : FuncData} {body : List Stmt} {names : List Str} {ds : List D} {ρf : List (Str × D)} {own' : List Own} {d : D} {n : Nat} {s : Shared} {v : Value} {vs : List Value}
    (S : St C ρ own s) (rf : Rd C.w s (C.F own) v (.made fd)) (rv : RdAll C.w s (C.F own) vs ds) (hb : fd.body = .stmts body) (hgl : fd.globals = mainGlobals) (hbl : fd.builtins = builtinsNs)
    (hco : fd.scope.isCoroutine = false) (hgen : fd.scope.isGenerator = false) (hk : fd.scope.kind = .function)
    (hbind : ∀ us : List Value, us.length = names.length → bindArgs fd ⟨us, []⟩ = pure (names.zip us))
    (hloc : (names.all fun x => fd.scope.names.lookup x == some .local && !(x == ("__debug__" : Str))) = true) (hnd : names.Nodup) (hlen : names.length = ds.length)
    (hnc : (fd.scope.names.all fun x => !(x.2 == .cell)) = true) (hsub : Sub ρf ρ)
    (hfree : ∀ x d, ρf.lookup x = some d → fd.scope.names.lookup x = some .free ∧ C.env.kindOf x ≠ some .local ∧ (x == ("__classdict__" : Str)) = false ∧ fd.closure.lookup x = C.env.cells.lookup x)
    (hcl : ∀ x c, fd.closure.lookup x = some c → C.env.cells.lookup x = some c) (hn : n + 1 ≤ C.n)
    (h : ∀ f, Ex (mkN C own n s fd f) (names.zip ds ++ ρf) own body (fun fl s' => St (mkN C own n s fd f) [] own' s' ∧ Rd C.w s' ((mkN C own n s fd f).F own') (retv fl) d)) (hA : ownA own' = ownA own) :
    wpAny C.M C.A (call v vs) (fun v s' => St C ρ own' s' ∧ Rd C.w s' (C.F own') v d ∧ (ownA own = [] → Eff C.q s s')) NoE s := by
  obtain ⟨f, c', rfl, ho, hcd, hrec, hf1, hf2⟩ := rf.made_inv
  have G := S.good
  have R := S.ok.room.le hn
  have hlv : names.length = vs.length := by rw [hlen, rv.1]
  have hzn : ((names.zip vs).map (·.1)) = names := List.map_fst_zip (Nat.le_of_eq hlv)
  have hlx : ∀ x ∈ names, fd.scope.names.lookup x = some .local ∧ (x == ("__debug__" : Str)) = false := fun x hx => by
    have := List.all_eq_true.mp hloc x hx
    simpa using this
  refine wpAny_call ?_
  refine codeAny_call_def (by have := R.2.1; omega +splitDisjunctions) ho rfl G.nolimit (by rw [hcd]; exact hrec) hb (BindsTo.of_eq (hbind vs hlv.symm)) (fun x hx q => ?_) (fun y hy => (hlx y.1 (hzn ▸ List.mem_map_of_mem (f := (·.1)) hy)).1) (fun h₀ hns hk₀ => ?_) hco hgen hk
  · have := List.all_eq_true.mp hnc x hx
    rw [q] at this; cases this
  have hz := size_gt S.tabs
  have hL : s.heap.get? s.heap.objs.size = none := get_none_of_le (Nat.le_refl _)
  have hFn : ∀ a o, s.heap.get? a = some o → ¬ C.F own a → ¬ (mkN C own n s fd f).F own a := fun a o e hf q => by
    rcases q with q | q | ⟨x, q⟩ | q
    · exact hf q.1
    · have q : a = s.heap.objs.size := q
      subst q; rw [hL] at e; cases e
    · exact hf (.inr (.inr (.inl ⟨x, hcl x a q⟩)))
    · exact hf (.inr (.inr (.inr q)))
  have hcells : ∀ x c, fd.closure.lookup x = some c → ∃ u, s.heap.IsCell c u := fun x c hc => S.cells x c (hcl x c hc)
  have kr : ∀ a o, ¬ C.F own a → Solid o → s.heap.get? a = some o → h₀.get? a = some o ∧ ¬ (mkN C own n s fd f).F own a := fun a o hf _ e => ⟨hk₀ a o e, hFn a o e hf⟩
  have S1 : St (mkN C own n s fd f) (names.zip ds ++ ρf) own { s with heap := h₀, toks := s.toks + (names.zip vs).length } := by
    refine ⟨⟨?_, R.deeper, hk, hgl, hbl, hL, not_T2 hz, fun y c hc => ?_, fun y c hc => S.ok.cellT y c (hcl y c hc), (fun y c hy _ => nomatch hy), fun y z c hy hz' => S.ok.apart y z c (hcl _ _ hy) (hcl _ _ hz'), fun a ha => S.fLive ha, fun a ha => (S.ownNew a ha).2.2.1⟩,
      ⟨_, _, rfl⟩, fun a o _ _ e => hk₀ a o e, fun a o _ e => ⟨o, hk₀ a o e⟩, S.tabs.keep hk₀, Nat.le_add_right _ _, ⟨_, hns⟩, fun y c hc => ?_, fun y e hy => ?_, fun x hx => ?_, fun a ha => ?_, S.nodup⟩
    · obtain ⟨g, hg, hX, hkg⟩ := S.ok.base
      refine ⟨g, hg, fun a ha => ?_, fun a o ht e => S.keep a o (fun q => ?_) (.inr ht) (hkg a o ht e)⟩
      · have hn := S.ownNew a ha
        rcases hn.1 with h1 | h1
        · cases q : g.get? a with
          | none => rfl
          | some o => have := hkg a o hn.2.2.1 q; rw [h1] at this; cases this
        · exact hX a h1
      · rw [hX a q] at e; cases e
    · obtain ⟨u, o, e, _⟩ := hcells y c hc
      rintro rfl
      have e' : s.heap.get? s.heap.objs.size = some o := e
      rw [hL] at e'; cases e'
    · obtain ⟨u, o, e, r⟩ := hcells y c hc
      exact ⟨u, o, hk₀ _ _ e, r⟩
    · by_cases hyn : y ∈ names
      · have hl1 : ∃ d', (names.zip ds).lookup y = some d' := by
          obtain ⟨i, hi⟩ := List.mem_iff_getElem?.mp hyn
          have : ∀ {names : List Str} {ds : List D}, names.length = ds.length → y ∈ names → ∃ d', (names.zip ds).lookup y = some d' := by
            intro names
            induction names with
            | nil => intro ds _ h; exact nomatch h
            | cons a r ih =>
              intro ds hl h
              cases ds with
              | nil => cases hl
              | cons d0 ds =>
                by_cases hy : y = a
                · subst hy; exact ⟨d0, lookup_cons_eq⟩
                · rw [List.zip_cons_cons, lookup_cons_ne hy]
                  exact ih (by simpa using hl) ((List.mem_cons.mp h).resolve_left hy)
          exact this hlen hyn
        obtain ⟨d', hd'⟩ := hl1
        have hy2 : e = d' := by
          rw [List.lookup_append, hd'] at hy
          exact (Option.some.inj hy).symm
        subst hy2
        obtain ⟨u, hu1, hu2⟩ := zip_lookup rv hd'
        have hx := hlx y hyn
        exact ⟨u, ⟨hx.2, .inl ⟨hx.1, _, hns, lookup_reverse (by rw [hzn]; exact hnd) hu1⟩⟩, hu2.mono kr (Nat.le_add_right _ _)⟩
      · have hno : (names.zip ds).lookup y = none := by
          cases q : (names.zip ds).lookup y with
          | none => rfl
          | some d' => exact absurd (List.of_mem_zip (mem_of_lookup q)).1 hyn
        rw [List.lookup_append, hno] at hy
        have hy : ρf.lookup y = some e := hy
        obtain ⟨h1, h2, h3, h4⟩ := hfree y e hy
        obtain ⟨u, ⟨hdb, hu⟩, hr⟩ := S.vars y e (hsub.get hy)
        rcases hu with ⟨q, _⟩ | ⟨_, c, hc, o, e1, e2⟩
        · exact absurd q h2
        · exact ⟨u, ⟨hdb, .inr ⟨.inr ⟨h1, h3⟩, c, h4.trans hc, o, hk₀ _ _ e1, e2⟩⟩, hr.mono kr (Nat.le_add_right _ _)⟩
    · exact (S.owns x hx).mono (fun a _ o e => hk₀ a o e) kr (Nat.le_add_right _ _)
    · have hn := S.ownNew a ha
      obtain ⟨o, e, _⟩ := (S.fLive (a := a) (.inr (.inr (.inr ha)))).2
      refine ⟨.inr ha, ?_, hn.2.2.1, fun x q => hn.2.2.2 x (hcl x a q)⟩
      rintro rfl
      have e' : s.heap.get? s.heap.objs.size = some o := e
      rw [hL] at e'; cases e'
  refine wpAny_mono (h f _ S1) (fun fl s' ⟨S', r'⟩ => ?_) fun _ _ x => x.elim
  have b := S.back S' hA
  exact ⟨b.1, b.2 _ _ r', fun e => S'.ret fun a (q : a ∈ ownA own) => by rw [e] at q; exact nomatch q⟩
end
end Mine

end

-- part MN4
section
open PySem PySem.W PyProof.Rows PySem.Calls
set_option maxRecDepth 100000
set_option linter.unusedVariables false
namespace Mine

section
variable {C : Cx} {ρ : List (Str × D)} {own R : List Own} {rest : List Stmt} {Φ : Flow → Shared → Prop}

theorem wp_callMade {x : Str} {p cpos : Pos} {args : List Expr} {ds : List D} {fd : FuncData} {Q : Value → Shared → Prop} {s : Shared} (S : St C ρ own s) (hx : ρ.lookup x = some (.made fd)) (ha : EvL C ρ own cpos args ds)
    (hcall : ∀ s' v vs, Eff C.q s s' → St C ρ own s' → Rd C.w s' (C.F own) v (.made fd) → RdAll C.w s' (C.F own) vs ds → wpAny C.M C.A (PySem.call v vs) Q NoE s') : wpAny C.M C.A (eval (.Call (.Name x p) args [] cpos) C.env) Q NoE s := by
  refine wpAny_Call_ofName (wpAny_mono (Ev.name hx s S) (fun v s₁ ⟨e₁, r₁⟩ => ?_) fun _ _ x => x)
  have S₁ := S.eff e₁
  obtain ⟨f, c', rfl, ho, hcd, hrec, hf1, hf2⟩ := r₁.made_inv
  show wpAny C.M C.A (callWith cpos (.ref f) [] (backTo cpos (starEach args C.env)) []) _ _ _
  refine callWith_function (o := { cls := .type "function", data := .func fd }) (fd := fd) (wpAny_mono (wp_evalArgs S₁ ha) (fun x s₂ ⟨vs, hx, e₂, r₂⟩ => ?_) fun _ _ x => x)
  subst hx
  have S₂ := S₁.eff e₂
  have r₁' := r₁.eff S₁.tabs e₂
  obtain ⟨f', c'', e, ho', _⟩ := r₁'.made_inv
  cases e
  exact ⟨⟨ho', rfl⟩, hcall s₂ _ vs (e₁.trans e₂) S₂ r₁' r₂⟩

/-- f(..) as a statement that changes what is own -/
theorem Ex.callMade {x : Str} {p cpos pos : Pos} {args : List Expr} {ds : List D} {fd : FuncData} {own' : List Own} (hx : ρ.lookup x = some (.made fd)) (ha : EvL C ρ own cpos args ds)
    (hcall : ∀ s v vs, St C ρ own s → Rd C.w s (C.F own) v (.made fd) → RdAll C.w s (C.F own) vs ds → wpAny C.M C.A (PySem.call v vs) (fun v s' => St C ρ own' s' ∧ v = .none) NoE s)
    (hr : Ex C ρ own' rest Φ) (hi : autoParam (interactive C.env = false) Mine.tacI) (hs : autoParam (swapsWith (.Call (.Name x p) args [] cpos) none pos.line C.env = pure false) Mine.tacI) : Ex C ρ own (.Expr (.Call (.Name x p) args [] cpos) pos :: rest) Φ :=
  Ex.one fun s S => wpAny_Expr (wp_callMade S hx ha fun s' v vs _ S' rf rv => wpAny_mono (hcall s' v vs S' rf rv) (fun v s'' ⟨S'', e⟩ => by subst e; exact hr s'' S'') fun _ _ x => x) hi hs

theorem Ev.callMade {x : Str} {p cpos : Pos} {args : List Expr} {ds : List D} {fd : FuncData} {d : D} (hx : ρ.lookup x = some (.made fd)) (ha : EvL C ρ own cpos args ds)
    (hcall : ∀ s v vs, St C ρ own s → Rd C.w s (C.F own) v (.made fd) → RdAll C.w s (C.F own) vs ds → wpAny C.M C.A (PySem.call v vs) (fun v s' => Eff C.q s s' ∧ Rd C.w s' (C.F own) v d) NoE s) :
    Ev C ρ own (.Call (.Name x p) args [] cpos) d := fun s S => wp_callMade S hx ha fun s' v vs e S' rf rv => wp_eff e (hcall s' v vs S' rf rv)
end

/-- the nested def of a def -/
structure InK (b : List Stmt) where
  name : Str
  params : Arguments
  body : List Stmt
  scope : Scope
  pos : Pos
  rest : List Stmt
  eq : b = .FunctionDef name params body [] none [] scope none name pos :: rest

noncomputable def in52 : InK (k52.body.drop 1) := ⟨_, _, _, _, _, _, by rfl⟩
noncomputable def in59 : InK k59.body := ⟨_, _, _, _, _, _, by rfl⟩

/-! digits -/
noncomputable def digL (n k : Nat) (x : Int) : List Int := (List.range k).map fun j => x / 2 ^ (n * j) % 2 ^ n
theorem digL_length (n k : Nat) (x : Int) : (digL n k x).length = k := by simp [digL]
theorem digL_one {n : Nat} {x : Int} (h0 : 0 ≤ x) (h : x < 2 ^ n) : digL n 1 x = [x] := by
  simp [digL, Int.emod_eq_of_lt h0 h]
theorem digL_add (n k l : Nat) (x : Int) : digL n (k + l) x = digL n k (x % 2 ^ (n * k)) ++ digL n l (x / 2 ^ (n * k)) := by
  unfold digL
  rw [List.range_add, List.map_append, List.map_map]
  congr 1
  · refine List.map_congr_left fun j hj => ?_
    have hj : j < k := List.mem_range.mp hj
    have e : n * k = n * j + (n + n * (k - j - 1)) := by
      have : k = j + (1 + (k - j - 1)) := by omega
      calc n * k = n * (j + (1 + (k - j - 1))) := by rw [← this]
        _ = _ := by rw [Nat.mul_add, Nat.mul_add, Nat.mul_one]
    have p1 := two_pow_pos (n * j)
    have p2 := two_pow_pos n
    have p3 := two_pow_pos (n * (k - j - 1))
    rw [e, Int.pow_add, Int.pow_add]
    have h1 : x % (2 ^ (n * j) * (2 ^ n * 2 ^ (n * (k - j - 1)))) / 2 ^ (n * j) = x / 2 ^ (n * j) % (2 ^ n * 2 ^ (n * (k - j - 1))) := by
      have q := Int.mul_ediv_add_emod x (2 ^ (n * j) * (2 ^ n * 2 ^ (n * (k - j - 1))))
      have r0 := Int.emod_nonneg x (b := 2 ^ (n * j) * (2 ^ n * 2 ^ (n * (k - j - 1)))) (by have := Int.mul_pos p1 (Int.mul_pos p2 p3); omega)
      have r1 := Int.emod_lt_of_pos x (Int.mul_pos p1 (Int.mul_pos p2 p3))
      generalize x % (2 ^ (n * j) * (2 ^ n * 2 ^ (n * (k - j - 1)))) = r at *
      generalize x / (2 ^ (n * j) * (2 ^ n * 2 ^ (n * (k - j - 1)))) = t at *
      have hx : x = 2 ^ (n * j) * (2 ^ n * 2 ^ (n * (k - j - 1)) * t) + r := by rw [← q]; grind
      have h2 : x / 2 ^ (n * j) = (2 ^ n * 2 ^ (n * (k - j - 1))) * t + r / 2 ^ (n * j) := by
        rw [hx, Int.add_comm, Int.add_mul_ediv_left _ _ (by omega), Int.add_comm]
      rw [h2, Int.add_comm, Int.add_mul_emod_self_left, Int.emod_eq_of_lt (Int.ediv_nonneg r0 (by omega))]
      rw [Int.ediv_lt_iff_lt_mul p1, Int.mul_comm]; exact r1
    rw [h1, Int.emod_emod_of_dvd _ (Int.dvd_mul_right _ _)]
  · refine List.map_congr_left fun j _ => ?_
    show x / 2 ^ (n * (k + j)) % 2 ^ n = _
    rw [Nat.mul_add, Int.pow_add, Int.ediv_ediv_of_nonneg (Int.le_of_lt (two_pow_pos _))]
end Mine

end

-- part MO5
section
open PySem PySem.W PyProof.Rows PySem.Calls
set_option maxRecDepth 100000
set_option linter.unusedVariables false
namespace Mine

section
variable {C : Cx} {ρ : List (Str × D)} {own R : List Own} {rest : List Stmt} {Φ : Flow → Shared → Prop}

/-- own.reverse() -/
theorem Ex.reverse {o : Expr} {a : Addr} {ds : List D} {apos cpos pos : Pos} {pl : Sem Bool} (ho : Ev C ρ (.ob a (.plist ds) :: own) o (.addr a)) (hz : ds.length ≤ 1000000)
    (hr : Ex C ρ (.ob a (.plist ds.reverse) :: own) rest Φ)
    (hc : autoParam (eval (.Call (.Attribute o "reverse" apos) [] [] cpos) C.env = (do
      let ov ← eval o C.env
      standAt apos.atName
      let (f, first) ← holding [ov] (getMethod ov "reverse" pl)
      callWith cpos f first (backTo cpos (starEach [] C.env)) [])) Mine.tacI)
    (hi : autoParam (interactive C.env = false) Mine.tacI) (hs : autoParam (swapsWith (.Call (.Attribute o "reverse" apos) [] [] cpos) none pos.line C.env = pure false) Mine.tacI) :
    Ex C ρ (.ob a (.plist ds) :: own) (.Expr (.Call (.Attribute o "reverse" apos) [] [] cpos) pos :: rest) Φ := Ex.one fun s S => by
  refine wpAny_Expr (MethodCall_ (pl := pl) (wpAny_mono (ho s S) (fun v s₁ ⟨e₁, r₁⟩ => ?_) fun _ _ x => x) hc) hi hs
  rw [r₁.addr_inv]
  have S₁ := S.eff e₁
  have hO : OwnRd C.w s₁ (C.F (.ob a (.plist ds) :: own)) a (.plist ds) := S₁.owns _ (.head _)
  cases hO with
  | plist hl r =>
    rename_i us
    obtain ⟨n, ho'⟩ := id hl
    refine getMethod_list_of F.slot_list_reverse F.type_list_reverse hl.isList ⟨_, ho', rfl⟩ ?_
    refine callWith_builtin rfl (evalArgs_nil3 ?_)
    refine call_meets F.slot_list_reverse ⟨_, ho', rfl⟩ F.entry_list_reverse (F.args_list_reverse_1 _) (AutoListH.list_reverse_list_0 a us.toArray n (by rw [List.size_toArray, r.1]; have : sizeLine = 2 ^ 24 := rfl; omega)) ⟨ho', ?_⟩
    have hs' := Heap.SameBut.update s₁.heap a (Obj.mapSeq fun x => x.reverse)
    have hFa : C.F (.ob a (.plist ds) :: own) a := .inr (.inr (.inr (.head _)))
    have hl' : (s₁.heap.update a (Obj.mapSeq fun x => x.reverse)).PlainList a us.reverse.toArray := by
      exact ⟨_, by rw [get?_update_seq ho' (fun x => x.reverse)]; simp [seqObj]; rfl⟩
    have S₃ : St C ρ (.ob a (.plist ds.reverse) :: own) { s₁ with heap := s₁.heap.update a (Obj.mapSeq fun x => x.reverse) } := by
      refine S₁.set (x' := .ob a (.plist ds.reverse)) (tk := s₁.toks) rfl rfl (fun b o hb e => by rw [hs'.2 b hb]; exact e) (fun o us q t e hd => ?_) ?_
      · rw [e] at ho'; cases ho'
        cases hd
      · refine OwnRd.plist (vs := us.reverse) hl' ?_
        exact RdAll.reverse (r.mono (same_rd hs' hFa) (by exact Nat.le_refl _))
    exact hr _ S₃
end
end Mine

end

-- part F52
section
open PySem PySem.W PyProof.Rows PySem.Calls
set_option maxRecDepth 100000
set_option linter.unusedVariables false
namespace Mine

noncomputable abbrev fd52 (clos : List (Str × Addr)) (doc pm cv ctv : Value) : FuncData := fnX in52.name "_int2digits.<locals>.inner" in52.params in52.body in52.scope clos .none .none doc pm none cv ctv

structure At52 (C : Cx) (clos : List (Str × Addr)) : Prop where
  k1 : C.env.kindOf "a_digits" ≠ some .local
  k2 : C.env.kindOf "inner" ≠ some .local
  k3 : C.env.kindOf "n" ≠ some .local
  c1 : clos.lookup ("a_digits" : Str) = C.env.cells.lookup ("a_digits" : Str)
  c2 : clos.lookup ("inner" : Str) = C.env.cells.lookup ("inner" : Str)
  c3 : clos.lookup ("n" : Str) = C.env.cells.lookup ("n" : Str)
  sub : ∀ x c, clos.lookup x = some c → C.env.cells.lookup x = some c

theorem lookup3 {x a b c : Str} {da db dc d : D} (h : List.lookup x [(a, da), (b, db), (c, dc)] = some d) : x = a ∨ x = b ∨ x = c := by
  by_cases ha : x = a
  · exact .inl ha
  · rw [lookup_cons_ne ha] at h
    by_cases hb : x = b
    · exact .inr (.inl hb)
    · rw [lookup_cons_ne hb] at h
      by_cases hc : x = c
      · exact .inr (.inr hc)
      · rw [lookup_cons_ne hc] at h; cases h

theorem bitXor_low {x : Int} {m : Nat} (h0 : 0 ≤ x) : Builtin.bitXor x (x / 2 ^ m * 2 ^ m) = x % 2 ^ m := by
  obtain ⟨n, rfl⟩ := Int.eq_ofNat_of_zero_le h0
  have e : (n : Int) / 2 ^ m * 2 ^ m = ((n >>> m <<< m : Nat) : Int) := by
    rw [Nat.shiftLeft_eq, Nat.shiftRight_eq_div_pow]; simp
  have e2 : n &&& (n >>> m <<< m) = n >>> m <<< m := by
    refine Nat.eq_of_testBit_eq fun i => ?_
    rw [Nat.testBit_and, Nat.testBit_shiftLeft, Nat.testBit_shiftRight]
    by_cases h : i ≥ m
    · have : m + (i - m) = i := by omega
      rw [this]; simp
    · simp [h]
  have e3 := Int.emod_add_mul_ediv (n : Int) (2 ^ m)
  rw [bitXor_and, e, bitAnd_nat, e2, ← e]
  grind

theorem inner52 {a : Addr} {n : Nat} {clos : List (Str × Addr)} {doc pm cv ctv : Value} (hn : 1 ≤ n) : ∀ (k : Nat) (C : Cx) (ρ : List (Str × D)) (ds : List Int) (x : Int) (L R : Nat) (s : Shared) (v : Value) (vs : List Value), At52 C clos → k + 1 ≤ C.n → L + 1 ≤ R → R - L ≤ 2 ^ k →
    R ≤ ds.length → n * ds.length ≤ 1000000 → 0 ≤ x → x < 2 ^ (n * (R - L)) → Sub [("a_digits", .addr a), ("inner", .made (fd52 clos doc pm cv ctv)), ("n", .int n)] ρ → St C ρ [.ob a (.list (dInts ds))] s →
    Rd C.w s (C.F [.ob a (.list (dInts ds))]) v (.made (fd52 clos doc pm cv ctv)) → RdAll C.w s (C.F [.ob a (.list (dInts ds))]) vs [.int x, .int L, .int R] →
    wpAny C.M C.A (call v vs) (fun v s' => St C ρ [.ob a (.list (dInts (ds.take L ++ digL n (R - L) x ++ ds.drop R)))] s' ∧ v = .none) NoE s := by
  intro k
  induction k using Nat.strongRecOn with
  | ind k ih =>
  intro C ρ ds x L R s v vs hC hCn hLR hk hR hnd hx0 hx hs S rf rv
  have hds : ds.length ≤ 1000000 := Nat.le_trans (Nat.le_mul_of_pos_left _ hn) hnd
  refine wpAny_mono (call_made (names := ["x", "L", "R"]) (ρf := [("a_digits", .addr a), ("inner", .made (fd52 clos doc pm cv ctv)), ("n", .int n)]) (own' := [.ob a (.list (dInts (ds.take L ++ digL n (R - L) x ++ ds.drop R)))]) (d := .none) (n := k) S rf rv rfl rfl rfl rfl rfl rfl
    (fun us hu => ?_) (by kernel_rfl) (by decide) rfl (by kernel_rfl) hs (fun y d hy => ?_) hC.sub hCn (fun f => ?_) rfl) (fun v s' h => ⟨h.1, h.2.1.none_inv⟩) fun _ _ x => x
  · match us, hu with
    | [_, _, _], _ => rfl
  · rcases lookup3 hy with rfl | rfl | rfl
    · exact ⟨by kernel_rfl, hC.k1, by decide, hC.c1⟩
    · exact ⟨by kernel_rfl, hC.k2, by decide, hC.c2⟩
    · exact ⟨by kernel_rfl, hC.k3, by decide, hC.c3⟩
  refine Ex.ite (c := ((L : Int) + 1 == (R : Int))) (EvB.cmp (Ev.bin (Ev.name rfl) Ev.int o_add) (Ev.name rfl) o_eq) (fun h => ?_) (fun h => Ex.done ?_)
  · have h : L + 1 = R := by have := eq_of_beq h; omega
    subst h
    refine Ex.setItem (Ev.name rfl) (Ev.name rfl) (Ev.name rfl) (Int.natCast_nonneg L) (by simp; omega) (by simp; omega) ?_
    refine Ex.retNone fun s S => ⟨?_, .none⟩
    have e : (dInts ds).set (L : Int).toNat (.int x) = dInts (ds.take L ++ digL n (L + 1 - L) x ++ ds.drop (L + 1)) := by
      have e1 : L + 1 - L = 1 := by omega
      rw [e1] at hx
      rw [Int.toNat_natCast, e1, digL_one hx0 (by simpa using hx), List.set_eq_take_append_cons_drop, if_pos (by simp; omega)]
      simp
    rw [← e]
    exact S.sub trivial
  · have h2 : L + 2 ≤ R := by
      have : ¬ ((L : Int) + 1 = (R : Int)) := fun q => by rw [q] at h; simp at h
      omega
    have hM : ∃ M k1 k2 : Nat, (L + R) / 2 = M ∧ M = L + k1 ∧ R = L + k1 + k2 ∧ 1 ≤ k1 ∧ 1 ≤ k2 ∧ k1 ≤ k2 ∧ k2 ≤ k1 + 1 := ⟨(L + R) / 2, (L + R) / 2 - L, R - (L + R) / 2, rfl, by omega, by omega, by omega, by omega, by omega, by omega⟩
    obtain ⟨M, k1, k2, hM, rfl, rfl, g1, g2, g3, g4⟩ := hM
    obtain ⟨k', rfl⟩ : ∃ k', k = k' + 1 := by
      cases k with
      | zero => omega
      | succ k' => exact ⟨k', rfl⟩
    have hk2 : k2 ≤ 2 ^ k' ∧ k1 ≤ 2 ^ k' := by
      rw [Nat.pow_succ] at hk; omega
    have r1 : L + k1 + k2 - L = k1 + k2 := by omega
    rw [r1] at hx
    rw [r1, digL_add]
    have hnk : n * (k1 + k2) ≤ 1000000 := Nat.le_trans (Nat.mul_le_mul_left _ (by omega)) hnd
    have hnk1 : n * k1 ≤ 1000000 := Nat.le_trans (Nat.mul_le_mul_left _ (by omega)) hnd
    have hnn : n ≤ 1000000 := Nat.le_trans (by have := Nat.mul_le_mul_left n g1; omega) hnk1
    have hxb : Builtin.Int.intBits x ≤ n * (k1 + k2) := bits_lt hx0 hx
    have p1 := two_pow_pos (n * k1)
    have hu0 : 0 ≤ x / 2 ^ (n * k1) := Int.ediv_nonneg hx0 (by omega)
    have hu1 : x / 2 ^ (n * k1) < 2 ^ (n * k2) := by
      rw [Int.ediv_lt_iff_lt_mul p1, ← Int.pow_add]
      have : n * k2 + n * k1 = n * (k1 + k2) := by rw [← Nat.mul_add, Nat.add_comm]
      rw [this]; exact hx
    refine Ex.assign (Ev.as (d' := .int ((L + k1 : Nat) : Int)) (Ev.bin (Ev.bin (Ev.name rfl) (Ev.name rfl) o_add) Ev.int (o_shr (by decide))) ?_) ?_
    · congr 1
      show ((L : Int) + ((L + k1 + k2 : Nat) : Int)).fdiv (2 ^ 1) = _
      rw [fdiv_pow]; omega
    refine Ex.assign (Ev.as (d' := .int ((n * k1 : Nat) : Int)) (Ev.bin (Ev.bin (Ev.name rfl) (Ev.name rfl) o_sub) (Ev.name rfl) (o_mul (IntMulOk.of_left ?_))) ?_) ?_
    · exact bits_lt (by omega) (by omega)
    · congr 1
      have : ((L + k1 : Nat) : Int) - (L : Int) = (k1 : Int) := by omega
      rw [this, Int.mul_comm]; simp
    refine Ex.assign (Ev.as (d' := .int (x / 2 ^ (n * k1))) (Ev.bin (Ev.name rfl) (Ev.name rfl) (o_shr (Int.natCast_nonneg _))) (congrArg _ fdiv_pow)) ?_
    refine Ex.assign (Ev.as (d' := .int (x % 2 ^ (n * k1))) (Ev.bin (Ev.name rfl) (Ev.bin (Ev.name rfl) (Ev.name rfl) (o_shl (Int.natCast_nonneg _) (shl_ok (bits_lt hu0 hu1) ?_))) o_xor) (congrArg _ (bitXor_low hx0))) ?_
    · have : n * k2 + n * k1 = n * (k1 + k2) := by rw [← Nat.mul_add, Nat.add_comm]
      omega
    have hl1 : (ds.take L ++ digL n k1 (x % 2 ^ (n * k1)) ++ ds.drop (L + k1)).length = ds.length := by simp [digL_length]; omega
    refine Ex.callMade (own' := [.ob a (.list (dInts (ds.take L ++ digL n k1 (x % 2 ^ (n * k1)) ++ ds.drop (L + k1))))]) rfl (EvL.cons (Ev.name rfl) (EvL.cons (Ev.name rfl) (EvL.cons (Ev.name rfl) EvL.nil))) (fun s v vs S rf rv => ?_) ?_
    · have := ih k' (Nat.lt_succ_self _) _ _ ds (x % 2 ^ (n * k1)) L (L + k1) s v vs ⟨by nofun, by nofun, by nofun, rfl, rfl, rfl, fun _ _ h => h⟩ (Nat.le_refl _) (by omega) (by omega) (by omega) hnd (Int.emod_nonneg _ (by omega)) ?_ ?_ S rf rv
      · rwa [Nat.add_sub_cancel_left] at this
      · rw [Nat.add_sub_cancel_left]; exact Int.emod_lt_of_pos _ p1
      · exact ⟨rfl, rfl, rfl, trivial⟩
    refine Ex.callMade (own' := [.ob a (.list (dInts (ds.take L ++ (digL n k1 (x % 2 ^ (n * k1)) ++ digL n k2 (x / 2 ^ (n * k1))) ++ ds.drop (L + k1 + k2))))]) rfl (EvL.cons (Ev.name rfl) (EvL.cons (Ev.name rfl) (EvL.cons (Ev.name rfl) EvL.nil))) (fun s v vs S rf rv => ?_) ?_
    · have := ih k' (Nat.lt_succ_self _) _ _ (ds.take L ++ digL n k1 (x % 2 ^ (n * k1)) ++ ds.drop (L + k1)) (x / 2 ^ (n * k1)) (L + k1) (L + k1 + k2) s v vs ⟨by nofun, by nofun, by nofun, rfl, rfl, rfl, fun _ _ h => h⟩ (Nat.le_refl _) (by omega) (by omega) (by omega) (by rw [hl1]; exact hnd) hu0 ?_ ?_ S rf rv
      · rw [Nat.add_sub_cancel_left] at this
        have t1 : (ds.take L ++ digL n k1 (x % 2 ^ (n * k1)) ++ ds.drop (L + k1)).take (L + k1) = ds.take L ++ digL n k1 (x % 2 ^ (n * k1)) := List.take_left' (by simp [digL_length]; omega)
        have t2 : (ds.take L ++ digL n k1 (x % 2 ^ (n * k1)) ++ ds.drop (L + k1)).drop (L + k1 + k2) = ds.drop (L + k1 + k2) := by
          have e : (ds.take L ++ digL n k1 (x % 2 ^ (n * k1))).length = L + k1 := by simp [digL_length]; omega
          rw [List.drop_append, e, List.drop_eq_nil_of_le (by omega), List.drop_drop]
          simp
        rw [t1, t2] at this
        simpa using this
      · rw [Nat.add_sub_cancel_left]; exact hu1
      · exact ⟨rfl, rfl, rfl, trivial⟩
    exact Ex.nil fun s S => ⟨S.sub trivial, .none⟩
end Mine

end

-- part F52b
section
open PySem PySem.W PyProof.Rows PySem.Calls
set_option maxRecDepth 100000
set_option linter.unusedVariables false
namespace Mine

section
variable {C : Cx} {ρ : List (Str × D)} {own R : List Own}
/-- len of an own list -/
theorem Ev.lenO {x : Str} {p pos : Pos} {e : Expr} {a : Addr} {ds : List D} (hx : x = "len") (he : Ev C ρ own e (.addr a)) (ho : HasO C ρ own a (.list ds)) (hz : ds.length ≤ 1000000) (hk : autoParam (C.env.kindOf x = some .globalImplicit) Mine.tacI)
    (hst : autoParam (starEach [e] C.env = (false, eval e C.env) :: starEach [] C.env) Mine.tacI) : Ev C ρ own (.Call (.Name x p) [e] [] pos) (.int ds.length) := fun s S => by
  subst hx
  refine wp_bcall S bi_len (EvL.cons he EvL.nil hst) (fun s₂ vs e₂ S₂ r => ?_) hk
  obtain ⟨v, vs', rfl, r1, r2⟩ := r.cons_inv
  obtain rfl := r2.nil_inv
  rw [r1.addr_inv]
  have hO : OwnRd C.w s₂ (C.F own) a (.list ds) := ho s₂ S₂
  cases hO with
  | list hl hr =>
    refine PyProof.Rows.len_list hl (by rw [List.size_toArray, hr.1]; omega +splitDisjunctions) ⟨e₂.trans (Eff.tok (by omega +splitDisjunctions)), ?_⟩
    rw [List.size_toArray, hr.1]
    exact .int _ _
end

theorem cloF_sub {cells : List (Str × Addr)} {names : List (Str × NameKind)} {x : Str} {c : Addr} (h : (cloF cells names []).lookup x = some c) : cells.lookup x = some c := by
  rcases cloF_mem (mem_of_lookup h) with h' | h'
  · exact nomatch h'
  · exact h'.1

theorem cloF_eq {cells : List (Str × Addr)} {names : List (Str × NameKind)} {x : Str} (hx : (x, .free) ∈ names) (h : (cells.lookup x).isSome = true) : (cloF cells names []).lookup x = cells.lookup x := by
  obtain ⟨c, hc⟩ := Option.isSome_iff_exists.mp h
  rw [hc, cloF_lookup hc hx]

theorem noPylong' {a b : Int} (hb : 0 < b) (h : (Builtin.Int.intBits a : Int) ≤ 4000) : Builtin.divisionGoesByPylong a b = false := noPylong hb (by omega +splitDisjunctions)

theorem fn52 {w : World} {lvl k n len : Nat} {x : Int} (hn : 1 ≤ n) (hx : 0 ≤ x) (hlen : len = (Builtin.Int.intBits x + n - 1) / n) (hz : n * len ≤ 1000000) (hk : len ≤ 2 ^ k) (hl : k + 1 ≤ lvl) (hb : Builtin.Int.intBits x + n ≤ 1000000) :
    Fn w false (lvl + 1) 52 [.int x, .int n] (.list (dInts (digL n len x))) := by
  refine k52.fn ["a", "n"] (by kernel_rfl) (by decide) rfl (bind2 fun _ _ => rfl) fun A s F R => ?_
  refine Ex.assignN (EvN.rep Ev.int (Ev.as (d' := .int (len : Int)) (Ev.bin (Ev.bin (Ev.bin (Ev.meth (Ev.name rfl) gm_bit_length EvL.nil c_bit_length) (Ev.name rfl) o_add) Ev.int o_sub) (Ev.name rfl) (o_fdiv (by omega +splitDisjunctions) (noPylong' (by omega +splitDisjunctions) ?_))) ?_) (Int.natCast_nonneg _) ?_) fun a => ?_
  · have : Builtin.Int.intBits ((Builtin.Int.intBits x : Int) + (n : Int) - 1) ≤ 64 := bits_lt (by omega +splitDisjunctions) (by omega +splitDisjunctions)
    omega +splitDisjunctions
  · congr 1
    rw [Int.fdiv_eq_ediv_of_nonneg _ (by omega +splitDisjunctions), hlen]
    have : (Builtin.Int.intBits x : Int) + (n : Int) - 1 = ((Builtin.Int.intBits x + n - 1 : Nat) : Int) := by omega +splitDisjunctions
    rw [this]; simp
  · have : len ≤ n * len := Nat.le_mul_of_pos_left _ hn
    omega +splitDisjunctions
  have hll : len ≤ 1000000 := Nat.le_trans (Nat.le_mul_of_pos_left _ hn) hz
  have hrep : List.replicate (len : Int).toNat (D.int 0) = dInts (List.replicate len 0) := by simp
  rw [hrep]
  refine Ex.def rfl rfl (fun h => hd51) tab47 rfl (closure_eq rfl) rfl fun doc pm ctv c' => ?_
  have hres : ∀ ds : List Int, ds = digL n len x → ∀ ρ : List (Str × D), ρ.lookup ("a_digits" : Str) = some (D.addr a) → Ex (mkC w A lvl false s F k52.fd 52) ρ [.ob a (.list (dInts ds))] (k52.body.drop 3) (Ret (mkC w A lvl false s F k52.fd 52) (.list (dInts (digL n len x)))) := fun ds e ρ hρ => by
    subst e
    exact Ex.freeze (x := "a_digits") (Ex.retn (Ev.name rfl) fun _ => id) hρ fun _ => id
  by_cases hx0 : x = 0
  · subst hx0
    refine Ex.ite (c := false) (EvB.plain (Ev.name rfl) tr_int) (fun h => nomatch h) fun _ => Ex.done (hres _ ?_ _ rfl)
    have : len = 0 := by rw [hlen]; exact Nat.div_eq_of_lt (by show 0 + n - 1 < n; omega +splitDisjunctions)
    rw [this]; rfl
  · refine Ex.ite (c := true) (EvB.as (EvB.plain (Ev.name rfl) tr_int) (by simpa using hx0)) (fun _ => ?_) (fun h => nomatch h)
    have hbx : x < 2 ^ (n * len) := by
      refine lt_bits hx ?_
      have := Nat.div_add_mod (Builtin.Int.intBits x + n - 1) n
      have h2 := Nat.mod_lt (Builtin.Int.intBits x + n - 1) (show 0 < n by omega +splitDisjunctions)
      rw [← hlen] at this
      omega +splitDisjunctions
    have hl1 : 1 ≤ len := by
      rcases Nat.eq_zero_or_pos len with h | h
      · rw [h] at hbx; simp at hbx; omega +splitDisjunctions
      · exact h
    refine Ex.callMade (own' := [.ob a (.list (dInts (digL n len x)))]) rfl (EvL.cons (Ev.name rfl) (EvL.cons Ev.int (EvL.cons (Ev.lenO rfl (Ev.name rfl) (HasO.mem (.head _)) (by simp; omega +splitDisjunctions)) EvL.nil))) (fun s' v vs S rf rv => ?_) ?_
    · have := inner52 (a := a) (n := n) hn k _ _ (List.replicate len 0) x 0 len s' v vs ⟨by nofun, by nofun, by nofun, ?_, ?_, ?_, fun _ _ h => cloF_sub h⟩ (show k + 1 ≤ lvl from hl) (by omega +splitDisjunctions) (by omega +splitDisjunctions) (by simp) (by simpa using hz) hx (by simpa using hbx) ⟨rfl, rfl, rfl, trivial⟩ S rf (by simpa using rv)
      · simpa using this
      all_goals exact cloF_eq (by simp) (by rfl)
    · exact Ex.done (hres _ rfl _ rfl)
end Mine

end

-- part F59
section
open PySem PySem.W PyProof.Rows PySem.Calls
set_option maxRecDepth 100000
set_option linter.unusedVariables false
namespace Mine

noncomputable abbrev fd59 (clos : List (Str × Addr)) (doc pm cv ctv : Value) : FuncData := fnX in59.name "_digits2int.<locals>.inner" in59.params in59.body in59.scope clos .none .none doc pm none cv ctv

structure At59 (C : Cx) (clos : List (Str × Addr)) : Prop where
  k1 : C.env.kindOf "digits" ≠ some .local
  k2 : C.env.kindOf "inner" ≠ some .local
  k3 : C.env.kindOf "n" ≠ some .local
  c1 : clos.lookup ("digits" : Str) = C.env.cells.lookup ("digits" : Str)
  c2 : clos.lookup ("inner" : Str) = C.env.cells.lookup ("inner" : Str)
  c3 : clos.lookup ("n" : Str) = C.env.cells.lookup ("n" : Str)
  sub : ∀ x c, clos.lookup x = some c → C.env.cells.lookup x = some c

noncomputable def valL (n : Nat) : List Int → Int
  | [] => 0
  | d :: r => d + 2 ^ n * valL n r

theorem valL_append (n : Nat) (b : List Int) : ∀ a : List Int, valL n (a ++ b) = valL n b * 2 ^ (n * a.length) + valL n a
  | [] => by simp [valL]
  | d :: r => by
    show d + 2 ^ n * valL n (r ++ b) = valL n b * 2 ^ (n * (r.length + 1)) + (d + 2 ^ n * valL n r)
    rw [valL_append n b r, Nat.mul_add, Int.pow_add, Nat.mul_one]
    grind
theorem valL_nonneg {n : Nat} : ∀ {ds : List Int}, (∀ d ∈ ds, 0 ≤ d ∧ d < 2 ^ n) → 0 ≤ valL n ds ∧ valL n ds < 2 ^ (n * ds.length)
  | [], _ => by simp [valL]
  | d :: r, h => by
    obtain ⟨h1, h2⟩ := valL_nonneg (n := n) (ds := r) fun e he => h e (.tail _ he)
    obtain ⟨h3, h4⟩ := h d (.head _)
    have p := two_pow_pos n
    have q : 2 ^ n * valL n r ≤ 2 ^ n * (2 ^ (n * r.length) - 1) := Int.mul_le_mul_of_nonneg_left (by omega) (by omega)
    have q2 := Int.mul_nonneg (Int.le_of_lt p) h1
    have e : (2 : Int) ^ (n * (d :: r).length) = 2 ^ n * 2 ^ (n * r.length) := by
      show (2 : Int) ^ (n * (r.length + 1)) = _
      rw [Nat.mul_add, Nat.mul_one, Nat.add_comm, Int.pow_add]
    rw [e]
    show 0 ≤ d + 2 ^ n * valL n r ∧ d + 2 ^ n * valL n r < _
    rw [Int.mul_sub] at q
    omega

noncomputable def seg (ds : List Int) (L R : Nat) : List Int := (ds.drop L).take (R - L)

theorem tr_list {C : Cx} {own : List Own} {ds : List D} (h : ds.length ≤ 1000000) : Tr C own (.list ds) (ds.length != 0) := fun s x _ rx => by
  obtain ⟨a, vs, rfl, hl, hf, r⟩ := rx.list_inv
  refine wpAny_truthy_list hl (by rw [List.size_toArray, r.1]; omega) ?_
  refine ⟨Eff.tok (by omega), ?_⟩
  have := r.1
  cases vs with
  | nil => rw [← this]; rfl
  | cons a b => rw [← this]; simp

theorem inner59 {n : Nat} {clos : List (Str × Addr)} {doc pm cv ctv : Value} {ds : List Int} (hn : 1 ≤ n) (hds : ∀ d ∈ ds, 0 ≤ d ∧ d < 2 ^ n) (hnd : n * ds.length ≤ 1000000) : ∀ (k : Nat) (C : Cx) (ρ : List (Str × D)) (L R : Nat) (s : Shared) (v : Value) (vs : List Value), At59 C clos → k + 1 ≤ C.n → L + 1 ≤ R → R - L ≤ 2 ^ k →
    R ≤ ds.length → Sub [("digits", .list (dInts ds)), ("inner", .made (fd59 clos doc pm cv ctv)), ("n", .int n)] ρ → St C ρ [] s →
    Rd C.w s (C.F []) v (.made (fd59 clos doc pm cv ctv)) → RdAll C.w s (C.F []) vs [.int L, .int R] →
    wpAny C.M C.A (call v vs) (fun v s' => Eff C.q s s' ∧ Rd C.w s' (C.F []) v (.int (valL n (seg ds L R)))) NoE s := by
  intro k
  induction k using Nat.strongRecOn with
  | ind k ih =>
  intro C ρ L R s v vs hC hCn hLR hk hR hs S rf rv
  have hdl : ds.length ≤ 1000000 := Nat.le_trans (Nat.le_mul_of_pos_left _ hn) hnd
  refine wpAny_mono (call_made (names := ["L", "R"]) (ρf := [("digits", .list (dInts ds)), ("inner", .made (fd59 clos doc pm cv ctv)), ("n", .int n)]) (own' := []) (d := .int (valL n (seg ds L R))) (n := k) S rf rv rfl rfl rfl rfl rfl rfl
    (fun us hu => ?_) (by kernel_rfl) (by decide) rfl (by kernel_rfl) hs (fun y d hy => ?_) hC.sub hCn (fun f => ?_) rfl) (fun v s' h => ⟨h.2.2 rfl, h.2.1⟩) fun _ _ x => x
  · match us, hu with
    | [_, _], _ => rfl
  · rcases lookup3 hy with rfl | rfl | rfl
    · exact ⟨by kernel_rfl, hC.k1, by decide, hC.c1⟩
    · exact ⟨by kernel_rfl, hC.k2, by decide, hC.c2⟩
    · exact ⟨by kernel_rfl, hC.k3, by decide, hC.c3⟩
  refine Ex.ite (c := ((L : Int) + 1 == (R : Int))) (EvB.cmp (Ev.bin (Ev.name rfl) Ev.int o_add) (Ev.name rfl) o_eq) (fun h => ?_) (fun h => Ex.done ?_)
  · have h : L + 1 = R := by have := eq_of_beq h; omega
    subst h
    have hL : L < ds.length := by omega
    have e : valL n (seg ds L (L + 1)) = ds[L] := by
      unfold seg
      rw [Nat.add_sub_cancel_left, List.drop_eq_getElem_cons hL]
      show ds[L] + 2 ^ n * 0 = _
      rw [Int.mul_zero, Int.add_zero]
    refine Ex.ret (Ev.as (d' := .int (valL n (seg ds L (L + 1)))) (Ev.item (Ev.name rfl) (Ev.name rfl) (i_list (d := .int ds[L]) (Int.natCast_nonneg L) (by omega) (by simp [hL]))) (by rw [e])) (fun v s s' _ _ S r => ⟨S.sub trivial, r⟩)
  · have h2 : L + 2 ≤ R := by
      have : ¬ ((L : Int) + 1 = (R : Int)) := fun q => by rw [q] at h; simp at h
      omega
    have hM : ∃ M k1 k2 : Nat, (L + R) / 2 = M ∧ M = L + k1 ∧ R = L + k1 + k2 ∧ 1 ≤ k1 ∧ 1 ≤ k2 ∧ k1 ≤ k2 ∧ k2 ≤ k1 + 1 := ⟨(L + R) / 2, (L + R) / 2 - L, R - (L + R) / 2, rfl, by omega, by omega, by omega, by omega, by omega, by omega⟩
    obtain ⟨M, k1, k2, hM, rfl, rfl, g1, g2, g3, g4⟩ := hM
    obtain ⟨k', rfl⟩ : ∃ k', k = k' + 1 := by
      cases k with
      | zero => omega
      | succ k' => exact ⟨k', rfl⟩
    have hk2 : k2 ≤ 2 ^ k' ∧ k1 ≤ 2 ^ k' := by
      rw [Nat.pow_succ] at hk; omega
    have hnk : n * (k1 + k2) ≤ 1000000 := Nat.le_trans (Nat.mul_le_mul_left _ (by omega)) hnd
    have hnk1 : n * k1 ≤ 1000000 := Nat.le_trans (Nat.mul_le_mul_left _ (by omega)) hnd
    have hseg : seg ds L (L + k1 + k2) = seg ds L (L + k1) ++ seg ds (L + k1) (L + k1 + k2) := by
      unfold seg
      have e1 : L + k1 + k2 - L = k1 + k2 := by omega
      rw [e1, Nat.add_sub_cancel_left, Nat.add_sub_cancel_left, List.take_add, List.drop_drop]
    have hsl : (seg ds L (L + k1)).length = k1 := by unfold seg; simp; omega
    have hsl2 : (seg ds (L + k1) (L + k1 + k2)).length = k2 := by unfold seg; simp; omega
    have hmem : ∀ L R, ∀ d ∈ seg ds L R, 0 ≤ d ∧ d < 2 ^ n := fun L R d hd => hds d (List.mem_of_mem_drop (List.mem_of_mem_take hd))
    have v2 := valL_nonneg (hmem (L + k1) (L + k1 + k2))
    rw [hsl2] at v2
    have ev : valL n (seg ds L (L + k1 + k2)) = valL n (seg ds (L + k1) (L + k1 + k2)) * 2 ^ (n * k1) + valL n (seg ds L (L + k1)) := by rw [hseg, valL_append, hsl]
    refine Ex.assign (Ev.as (d' := .int ((L + k1 : Nat) : Int)) (Ev.bin (Ev.bin (Ev.name rfl) (Ev.name rfl) o_add) Ev.int (o_shr (by decide))) ?_) ?_
    · congr 1
      show ((L : Int) + ((L + k1 + k2 : Nat) : Int)).fdiv (2 ^ 1) = _
      rw [fdiv_pow]; omega
    refine Ex.assign (Ev.as (d' := .int ((n * k1 : Nat) : Int)) (Ev.bin (Ev.bin (Ev.name rfl) (Ev.name rfl) o_sub) (Ev.name rfl) (o_mul (IntMulOk.of_left ?_))) ?_) ?_
    · exact bits_lt (by omega) (by omega)
    · congr 1
      have : ((L + k1 : Nat) : Int) - (L : Int) = (k1 : Int) := by omega
      rw [this, Int.mul_comm]; simp
    have hat : ∀ s f, At59 (mkN C [] (k' + 1) s (fd59 clos doc pm cv ctv) f) clos := fun s f => ⟨by nofun, by nofun, by nofun, rfl, rfl, rfl, fun _ _ h => h⟩
    refine Ex.ret (Ev.as (d' := .int (valL n (seg ds L (L + k1 + k2)))) (Ev.bin (Ev.bin (Ev.callMade rfl (EvL.cons (Ev.name rfl) (EvL.cons (Ev.name rfl) EvL.nil)) (fun s v vs S rf rv =>
      ih k' (Nat.lt_succ_self _) _ _ (L + k1) (L + k1 + k2) s v vs (hat _ _) (Nat.le_refl _) (by omega) (by omega) (by omega) ⟨rfl, rfl, rfl, trivial⟩ S rf rv)) (Ev.name rfl) (o_shl (Int.natCast_nonneg _) (shl_ok (bits_lt v2.1 v2.2) ?_))) (Ev.callMade rfl (EvL.cons (Ev.name rfl) (EvL.cons (Ev.name rfl) EvL.nil)) (fun s v vs S rf rv =>
      ih k' (Nat.lt_succ_self _) _ _ L (L + k1) s v vs (hat _ _) (Nat.le_refl _) (by omega) (by omega) (by omega) ⟨rfl, rfl, rfl, trivial⟩ S rf rv)) o_add) ?_) (fun v s s' _ _ S r => ⟨S.sub trivial, r⟩)
    · have : n * k2 + n * k1 = n * (k1 + k2) := by rw [← Nat.mul_add, Nat.add_comm]
      omega
    · rw [ev, Int.toNat_natCast]

theorem fn59 {w : World} {lvl k n : Nat} {ds : List Int} (hn : 1 ≤ n) (hds : ∀ d ∈ ds, 0 ≤ d ∧ d < 2 ^ n) (hz : n * ds.length ≤ 1000000) (hk : ds.length ≤ 2 ^ k) (hl : k + 1 ≤ lvl) :
    Fn w false (lvl + 1) 59 [.list (dInts ds), .int n] (.int (valL n ds)) := by
  have hdl : ds.length ≤ 1000000 := Nat.le_trans (Nat.le_mul_of_pos_left _ hn) hz
  refine k59.fn ["digits", "n"] (by kernel_rfl) (by decide) rfl (bind2 fun _ _ => rfl) fun A s F R => ?_
  refine Ex.def rfl rfl (fun h => hd58) tab54 rfl (closure_eq rfl) rfl fun doc pm ctv c' => ?_
  refine Ex.retn (Ev.as (Ev.ite (EvB.plain (Ev.name rfl) (tr_list (by simpa using hdl))) (fun h => Ev.callMade rfl (EvL.cons Ev.int (EvL.cons (Ev.bcall bi_len (EvL.cons (Ev.name rfl) EvL.nil) (c_len_list (by simpa using hdl))) EvL.nil)) (d := .int (valL n (seg ds 0 ds.length))) (fun s' v vs S rf rv => ?_)) (fun h => Ev.int)) ?_) fun _ => id
  · have h1 : 1 ≤ ds.length := by
      have : (dInts ds).length ≠ 0 := by simpa using h
      simp at this
      exact Nat.pos_of_ne_zero fun q => this (List.eq_nil_of_length_eq_zero q)
    refine inner59 hn hds hz k _ _ 0 ds.length s' v vs ⟨by nofun, by nofun, by nofun, ?_, ?_, ?_, fun _ _ h => cloF_sub h⟩ (show k + 1 ≤ lvl from hl) (by omega) (by omega) (Nat.le_refl _) ⟨rfl, rfl, rfl, trivial⟩ S rf (by simpa using rv)
    all_goals exact cloF_eq (by simp) (by rfl)
  · cases ds with
    | nil => rfl
    | cons d r => simp [seg]
end Mine

end

-- part F66
section
open PySem PySem.W PyProof.Rows PySem.Calls
set_option maxRecDepth 100000
set_option linter.unusedVariables false
namespace Mine

/-- what is taken of a after i digits from above -/
noncomputable def topV (a : Int) (n len i : Nat) : Int := a / 2 ^ (n * (len - i))
/-- the quotient's digits, the highest first -/
noncomputable def quoL (a b : Int) (n len i : Nat) : List Int := (List.range i).map fun j => ((topV a n len j % b) * 2 ^ n + topV a n len (j + 1) % 2 ^ n) / b

theorem topV_succ {a : Int} {n len i : Nat} (h : i < len) : topV a n len (i + 1) / 2 ^ n = topV a n len i := by
  unfold topV
  rw [Int.ediv_ediv_of_nonneg (Int.le_of_lt (two_pow_pos _)), ← Int.pow_add]
  have : n * (len - (i + 1)) + n = n * (len - i) := by
    have : len - i = (len - (i + 1)) + 1 := by omega
    rw [this, Nat.mul_add, Nat.mul_one]
  rw [this]

theorem quoL_val {a b : Int} {n len : Nat} (hb : 0 < b) (ha : 0 ≤ a) (h0 : a < 2 ^ (n * len)) : ∀ i, i ≤ len → valL n (quoL a b n len i).reverse = topV a n len i / b
  | 0, _ => by
    show 0 = topV a n len 0 / b
    unfold topV
    rw [Nat.sub_zero, Int.ediv_eq_zero_of_lt ha h0, Int.zero_ediv]
  | i + 1, h => by
    have ih := quoL_val hb ha h0 i (by omega)
    have hp := Int.ediv_nonneg ha (Int.le_of_lt (two_pow_pos (n * (len - (i + 1)))))
    have hh := halves (a := topV a n len (i + 1)) (h := n) hb hp
    rw [topV_succ (by omega)] at hh
    unfold quoL at ih ⊢
    rw [List.range_succ, List.map_append, List.reverse_append]
    show _ + 2 ^ n * valL n (List.map _ (List.range i)).reverse = _
    rw [ih, ← hh.1]
    grind

theorem fn66 {w : World} {lvl : Nat} {a b : Int} (ha : 0 ≤ a) (hb : 0 < b) (hab : Builtin.Int.intBits a ≤ 1000) (hbb : Builtin.Int.intBits b ≤ 1000) (hl : 14 ≤ lvl) : Fn w false (lvl + 1) 66 [.int a, .int b] (.tup [.int (a / b), .int (a % b)]) := by
  obtain ⟨n, hn⟩ : ∃ n, n = Builtin.Int.intBits b := ⟨_, rfl⟩
  obtain ⟨len, hlen⟩ : ∃ len, len = (Builtin.Int.intBits a + n - 1) / n := ⟨_, rfl⟩
  have hn1 : 1 ≤ n := by
    rcases Nat.eq_zero_or_pos n with h | h
    · have := lt_bits (m := 0) (Int.le_of_lt hb) (by omega)
      simp at this; omega
    · exact h
  have hb2 : b < 2 ^ n := lt_bits (Int.le_of_lt hb) (by omega)
  have hb1 : 2 ^ (n - 1) ≤ b := by
    refine Int.not_lt.mp fun h => ?_
    have := bits_lt (Int.le_of_lt hb) h
    omega
  have hdm := Nat.div_add_mod (Builtin.Int.intBits a + n - 1) n
  have hmd := Nat.mod_lt (Builtin.Int.intBits a + n - 1) (show 0 < n by omega)
  rw [← hlen] at hdm
  have hnl : n * len ≤ 2000 := by omega
  have hll : len ≤ 2000 := Nat.le_trans (Nat.le_mul_of_pos_left _ hn1) hnl
  have h0 : a < 2 ^ (n * len) := lt_bits ha (by omega)
  have hp := two_pow_pos n
  have hdig : ∀ i, i < len → (dInts (digL n len a)).reverse[i]? = some (.int (topV a n len (i + 1) % 2 ^ n)) := fun i hi => by
    rw [List.getElem?_reverse (by simp [digL_length]; omega)]
    have e : (dInts (digL n len a)).length = len := by simp [digL_length]
    rw [e]
    unfold digL dInts
    rw [List.getElem?_map, List.getElem?_map, List.getElem?_range (by omega)]
    unfold topV
    have : len - 1 - i = len - (i + 1) := by omega
    rw [this]; rfl
  have htop : ∀ i, 0 ≤ topV a n len i := fun i => Int.ediv_nonneg ha (Int.le_of_lt (two_pow_pos _))
  have hr : ∀ i, 0 ≤ topV a n len i % b ∧ topV a n len i % b < b := fun i => ⟨Int.emod_nonneg _ (by omega), Int.emod_lt_of_pos _ hb⟩
  have hd : ∀ i, 0 ≤ topV a n len i % 2 ^ n ∧ topV a n len i % 2 ^ n < 2 ^ n := fun i => ⟨Int.emod_nonneg _ (by omega), Int.emod_lt_of_pos _ hp⟩
  have hab2 : ∀ i j, (topV a n len i % b) * 2 ^ n + topV a n len j % 2 ^ n < b * 2 ^ n := fun i j => by
    have h1 := hr i
    have h2 := hd j
    have : (topV a n len i % b + 1) * 2 ^ n ≤ b * 2 ^ n := Int.mul_le_mul_of_nonneg_right (by omega) (by omega)
    rw [Int.add_mul] at this
    omega
  have hab0 : ∀ i j, 0 ≤ (topV a n len i % b) * 2 ^ n + topV a n len j % 2 ^ n := fun i j => by
    have h1 := Int.mul_nonneg (hr i).1 (Int.le_of_lt hp)
    have h2 := hd j
    omega
  refine k66.fn ["a", "b"] (by kernel_rfl) (by decide) rfl (bind2 fun _ _ => rfl) fun A s F R => ?_
  refine Ex.assign (Ev.as (d' := .int n) (Ev.meth (Ev.name rfl) gm_bit_length EvL.nil c_bit_length) (by rw [hn])) ?_
  refine Ex.assign (Ev.call (fn52 (w := w) (lvl := lvl - 1) (k := 11) hn1 ha hlen (by omega) (by omega) (by omega) (by omega)) (g52 w) (k52.hK w) (EvL.cons (Ev.name rfl) (EvL.cons (Ev.name rfl) EvL.nil)) (hn := by show lvl - 1 + 1 ≤ lvl; omega)) ?_
  refine Ex.assign Ev.int ?_
  refine Ex.assignN (EvN.list EvL.nil) fun qa => ?_
  refine Ex.for (items := (dInts (digL n len a)).reverse) (R := []) (fun i => [("r", .int (topV a n len i % b)), ("n", .int n), ("b", .int b), ("q_digits", .addr qa)]) (fun i => [.ob qa (.plist (dInts (quoL a b n len i)))]) (It.rev rfl (Ev.name rfl)) ⟨?_, rfl, rfl, rfl, trivial⟩ rfl (fun i d R' hdi => ?_) ?_
  · show some (D.int 0) = some (.int (topV a n len 0 % b))
    unfold topV
    rw [Nat.sub_zero, Int.ediv_eq_zero_of_lt ha h0]; rfl
  · have hi : i < len := by
      have := (List.getElem?_eq_some_iff.mp hdi).1
      simpa [digL_length] using this
    rw [hdig i hi] at hdi
    cases hdi
    have hv : topV a n len (i + 1) % b = ((topV a n len i % b) * 2 ^ n + topV a n len (i + 1) % 2 ^ n) % b := by
      have hh := halves (a := topV a n len (i + 1)) (h := n) hb (htop _)
      rw [topV_succ hi] at hh
      exact hh.2.symm
    refine Ex.unpack (Ev.call (fn38 (w := w) 0 _ b n hn1 (by omega) (by omega) hb1 hb2 (hab0 i (i + 1)) (hab2 i (i + 1))) (g38 w) (k38.hK w) (EvL.cons (Ev.bin (Ev.bin (Ev.name rfl) (Ev.name rfl) (o_shl (Int.natCast_nonneg _) ?_)) (Ev.name rfl) o_add) (EvL.cons (Ev.name rfl) (EvL.cons (Ev.name rfl) EvL.nil))) (hn := by show 1 ≤ lvl; omega)) ?_ rfl
    · exact shl_ok (m := 1000) (bits_lt (hr i).1 (Int.lt_trans (hr i).2 (lt_bits (Int.le_of_lt hb) hbb))) (by omega)
    refine Ex.append (Ev.name rfl) (Ev.name rfl) ?_ ?_
    · simp [quoL]; omega
    have e : dInts (quoL a b n len i) ++ [D.int (((topV a n len i % b) * 2 ^ n + topV a n len (i + 1) % 2 ^ n) / b)] = dInts (quoL a b n len (i + 1)) := by
      unfold quoL
      rw [List.range_succ, List.map_append, dInts, dInts, List.map_append]; rfl
    rw [e]
    refine Ex.turn ⟨?_, rfl, rfl, rfl, trivial⟩
    rw [hv]; rfl
  · have hlr : (dInts (digL n len a)).reverse.length = len := by simp [digL_length]
    rw [hlr]
    have hql : (quoL a b n len len).length = len := by simp [quoL]
    refine Ex.reverse (Ev.name rfl) (by simp [hql]; omega) ?_
    refine Ex.freeze (x := "q_digits") ?_ rfl fun _ => id
    have erev : frz (.plist (dInts (quoL a b n len len)).reverse) = .list (dInts (quoL a b n len len).reverse) := by
      show D.list _ = _
      rw [dInts, dInts, List.map_reverse]
    rw [erev]
    have hqd : ∀ d ∈ (quoL a b n len len).reverse, 0 ≤ d ∧ d < 2 ^ n := fun d hd' => by
      obtain ⟨j, _, rfl⟩ := List.mem_map.mp (List.mem_reverse.mp hd')
      refine ⟨Int.ediv_nonneg (hab0 _ _) (Int.le_of_lt hb), ?_⟩
      rw [Int.ediv_lt_iff_lt_mul hb, Int.mul_comm (2 ^ n) b]
      exact hab2 _ _
    refine Ex.assign (Ev.call (fn59 (w := w) (lvl := lvl - 1) (k := 11) hn1 hqd (by simp [hql]; omega) (by simp [hql]; omega) (by omega)) (g59 w) (k59.hK w) (EvL.cons (Ev.name rfl) (EvL.cons (Ev.name rfl) EvL.nil)) (hn := by show lvl - 1 + 1 ≤ lvl; omega)) ?_
    have e1 := quoL_val hb ha h0 len (Nat.le_refl _)
    have e2 : topV a n len len = a := by unfold topV; simp
    rw [e2] at e1
    rw [e1]
    refine Ex.retn (Ev.tuple (EvL.cons (Ev.name rfl) (EvL.cons (Ev.as (d' := .int (a % b)) (Ev.name rfl) (by rw [e2])) EvL.nil))) fun _ => id
end Mine

end

-- part F73
section
open PySem PySem.W PyProof.Rows PySem.Calls
set_option maxRecDepth 100000
set_option linter.unusedVariables false
namespace Mine

theorem bits_900 {x : Int} (h0 : 0 ≤ x) (h : x ≤ 2 ^ 900) : Builtin.Int.intBits x ≤ 1000 := bits_lt h0 (by
  have : (2 : Int) ^ 900 < 2 ^ 1000 := by decide +kernel
  omega)

theorem fn73p {w : World} {lvl : Nat} {a b : Int} (hb : 0 < b) (ha0 : 0 ≤ a) (ha' : a ≤ 2 ^ 900) (hb' : b ≤ 2 ^ 900) (hl : 15 ≤ lvl) : Fn w false (lvl + 1) 73 [.int a, .int b] (.tup [.int (a / b), .int (a % b)]) := by
  refine k73.fn ["a", "b"] (by kernel_rfl) (by decide) rfl (bind2 fun _ _ => rfl) fun A s F R => ?_
  refine Ex.ite (c := false) (EvB.as (EvB.cmp (Ev.name rfl) Ev.int o_eq) (by simp; omega)) (fun h => nomatch h) fun _ => ?_
  refine Ex.ite (c := false) (EvB.as (EvB.cmp (Ev.name rfl) Ev.int o_lt) (decide_eq_false (by omega))) (fun h => nomatch h) fun _ => ?_
  refine Ex.ite (c := false) (EvB.as (EvB.cmp (Ev.name rfl) Ev.int o_lt) (decide_eq_false (by omega))) (fun h => nomatch h) fun _ => ?_
  exact Ex.ret (Ev.call (fn66 (w := w) (lvl := lvl - 1) ha0 hb (bits_900 ha0 ha') (bits_900 (by omega) hb') (by omega)) (g66 w) (k66.hK w) (EvL.cons (Ev.name rfl) (EvL.cons (Ev.name rfl) EvL.nil)) (hn := by show lvl - 1 + 1 ≤ lvl; omega)) fun v s s' _ _ S' r => ⟨S'.ret fun _ => id, r.out fun _ => id⟩

theorem fn73n {w : World} {lvl : Nat} {a b : Int} (hb : 0 < b) (ha : -(2 ^ 900) ≤ a) (ha' : a ≤ 2 ^ 900) (hb' : b ≤ 2 ^ 900) (hl : 16 ≤ lvl) : Fn w false (lvl + 1) 73 [.int a, .int b] (.tup [.int (a / b), .int (a % b)]) := by
  by_cases ha0 : 0 ≤ a
  · exact fn73p hb ha0 ha' hb' (by omega)
  refine k73.fn ["a", "b"] (by kernel_rfl) (by decide) rfl (bind2 fun _ _ => rfl) fun A s F R => ?_
  refine Ex.ite (c := false) (EvB.as (EvB.cmp (Ev.name rfl) Ev.int o_eq) (by simp; omega)) (fun h => nomatch h) fun _ => ?_
  refine Ex.ite (c := false) (EvB.as (EvB.cmp (Ev.name rfl) Ev.int o_lt) (decide_eq_false (by omega))) (fun h => nomatch h) fun _ => ?_
  refine Ex.ite (c := true) (EvB.as (EvB.cmp (Ev.name rfl) Ev.int o_lt) (decide_eq_true (by omega))) (fun _ => ?_) fun h => nomatch h
  have hq : (-a - 1) / b = -(a / b) - 1 ∧ (-a - 1) % b = b - a % b - 1 := by
    have e := Int.mul_ediv_add_emod a b
    have r0 := Int.emod_nonneg a (Int.ne_of_gt hb)
    have r1 := Int.emod_lt_of_pos a hb
    exact ediv_emod_of (by grind) (by omega) (by omega)
  refine Ex.unpack (Ev.call (fn73p (w := w) (lvl := lvl - 1) (a := -a - 1) hb (by omega) (by omega) hb' (by omega)) (g73 w) (k73.hK w) (EvL.cons (Ev.un (Ev.name rfl) o_inv) (EvL.cons (Ev.name rfl) EvL.nil)) (hn := by show lvl - 1 + 1 ≤ lvl; omega)) ?_ rfl
  refine Ex.ret (Ev.as (Ev.tuple (EvL.cons (Ev.un (Ev.name rfl) o_inv) (EvL.cons (Ev.bin (Ev.name rfl) (Ev.un (Ev.name rfl) o_inv) o_add) EvL.nil))) ?_) fun v s s' _ _ S' r => ⟨S'.ret fun _ => id, r.out fun _ => id⟩
  rw [hq.1, hq.2]
  unfold Builtin.bitNot
  congr 3
  · congr 1; omega
  · congr 2; omega

theorem fn73 {w : World} {lvl : Nat} {q b : Int} (hb0 : b ≠ 0) (ha : -(2 ^ 900) ≤ q * b) (ha' : q * b ≤ 2 ^ 900) (hb : -(2 ^ 900) ≤ b) (hb' : b ≤ 2 ^ 900) (hl : 17 ≤ lvl) : Fn w false (lvl + 1) 73 [.int (q * b), .int b] (.tup [.int q, .int 0]) := by
  by_cases hp : 0 < b
  · have := fn73n (w := w) (lvl := lvl) (a := q * b) hp ha ha' hb' (by omega)
    rwa [Int.mul_ediv_cancel _ hb0, Int.mul_emod_left] at this
  have e : -(q * b) = q * (-b) := by grind
  refine k73.fn ["a", "b"] (by kernel_rfl) (by decide) rfl (bind2 fun _ _ => rfl) fun A s F R => ?_
  refine Ex.ite (c := false) (EvB.as (EvB.cmp (Ev.name rfl) Ev.int o_eq) (by simp; omega)) (fun h => nomatch h) fun _ => ?_
  refine Ex.ite (c := true) (EvB.as (EvB.cmp (Ev.name rfl) Ev.int o_lt) (decide_eq_true (by omega))) (fun _ => ?_) fun h => nomatch h
  have c := fn73n (w := w) (lvl := lvl - 1) (a := -(q * b)) (b := -b) (by omega) (by omega) (by omega) (by omega) (by omega)
  have e1 : -(q * b) / -b = q := by rw [e, Int.mul_ediv_cancel _ (by omega)]
  have e2 : -(q * b) % -b = 0 := by rw [e, Int.mul_emod_left]
  rw [e1, e2] at c
  refine Ex.unpack (Ev.call c (g73 w) (k73.hK w) (EvL.cons (Ev.un (Ev.name rfl) o_neg) (EvL.cons (Ev.un (Ev.name rfl) o_neg) EvL.nil)) (hn := by show lvl - 1 + 1 ≤ lvl; omega)) ?_ rfl
  exact Ex.ret (Ev.as (Ev.tuple (EvL.cons (Ev.name rfl) (EvL.cons (Ev.un (Ev.name rfl) o_neg) EvL.nil))) rfl) fun v s s' _ _ S' r => ⟨S'.ret fun _ => id, r.out fun _ => id⟩
end Mine

end

-- part MN5
section
open PySem PySem.W PyProof.Rows PySem.Calls
set_option maxRecDepth 100000
set_option linter.unusedVariables false
namespace Mine

theorem Ex.perm {C : Cx} {ρ : List (Str × D)} {own own' : List Own} {b : List Stmt} {Φ : Flow → Shared → Prop} (h : Ex C ρ own' b Φ) (hp : own.Perm own') : Ex C ρ own b Φ := fun s S => h s (S.perm hp)

theorem RdAll.ints {w : World} {s : Shared} {F : Addr → Prop} : ∀ {vs : List Value} {ns : List Int}, RdAll w s F vs (dInts ns) → IntsAre vs ns
  | vs, [], r => by rw [r.nil_inv]; exact .nil
  | vs, n :: ns, r => by
    obtain ⟨v, vs', rfl, h1, h2⟩ := r.cons_inv
    obtain ⟨t, rfl⟩ := h1.int_inv
    exact .cons n t (RdAll.ints h2)

theorem bi_list : BI "list" (.type "list") := ⟨by decide, by decide, by decide +kernel, fun w => by kernel_rfl⟩

section
variable {C : Cx} {ρ : List (Str × D)} {own : List Own}
theorem o_eq_ints {a b : List Int} (hn : 11 ≤ C.n) : Op2 C own (compareOp .Eq) (.list (dInts a)) (.list (dInts b)) (.bool (decide (a = b))) := fun s x y _ _ _ R rx ry => by
  obtain ⟨l, xs, rfl, hl, hf, r⟩ := rx.list_inv
  obtain ⟨l', ys, rfl, hl', hf', r'⟩ := ry.list_inv
  have := R.2.2
  exact ke_eq_ints hl hl' r.ints r'.ints (by omega) ⟨Eff.refl _ _, .bool _⟩

/-- list(xs) of a frozen list -/
theorem EvN.listOf {x : Str} {p pos : Pos} {e : Expr} {ds : List D} (hx : x = "list") (he : Ev C ρ own e (.list ds)) (hz : ds.length ≤ 1000000) (hk : autoParam (C.env.kindOf x = some .globalImplicit) Mine.tacI)
    (hst : autoParam (starEach [e] C.env = (false, eval e C.env) :: starEach [] C.env) Mine.tacI) : EvN C ρ own (.Call (.Name x p) [e] [] pos) (.list ds) := fun s S => by
  subst hx
  refine wp_tcall S bi_list (EvL.cons he EvL.nil hst) (fun s₂ vs e₂ S₂ r => ?_) hk
  obtain ⟨v, vs', rfl, r1, r2⟩ := r.cons_inv
  obtain rfl := r2.nil_inv
  obtain ⟨l, xs, rfl, hl, hf, r3⟩ := r1.list_inv
  obtain ⟨o, ho, hc, n, hd⟩ := hl
  refine call_list_seq (hsz := by rw [List.size_toArray, r3.1]; have : sizeLine = 2 ^ 24 := rfl; omega) l (.inl rfl) ho hc hd fun h' c' hk' hD => ?_
  have e₃ : Eff C.q s₂ { s₂ with heap := h' } := Eff.of (tk := s₂.toks) hk'
  refine ⟨_, rfl, e₂.trans e₃, ?_, ?_⟩
  · cases q : s.heap.get? s₂.heap.objs.size with
    | none => rfl
    | some o' =>
      have := e₂.2.1 _ o' (.inr (not_T2 (size_gt S₂.tabs))) q
      rw [pushed_none] at this; cases this
  · refine .list (vs := xs) ⟨_, hD, rfl, _, rfl⟩ (r3.mono (s' := { s₂ with heap := h' }) (F' := fun b => C.F own b ∨ b = s₂.heap.objs.size) (fun b o' hb _ e => ⟨hk' b o' e, fun q => Or.elim q hb fun q => ?_⟩) (Nat.le_refl _))
    subst q; rw [pushed_none] at e; cases e
end

/-- an outer own object, read within a comprehension -/
theorem HasO.outer {C : Cx} {ρ ρ' : List (Str × D)} {own own' : List Own} {s : Shared} {scope : Scope} {L a : Addr} {d : D} (S : St C ρ own s) (h : Own.ob a d ∈ own) (hsc : (scope.names.all fun x => !(x.2 == .cell)) = true) :
    HasO (compC C own s scope L) ρ' own' a d := fun s₁ S₁ => by
  have hO : OwnRd C.w s (C.F own) a d := S.owns _ h
  have hcell : ∀ x c, (compC C own s scope L).env.cells.lookup x = some c → C.env.cells.lookup x = some c := fun x c hc => by
    have e : cellsFrom (L + 1) scope.names (cloF C.env.cells scope.names []) = cloF C.env.cells scope.names [] := by
      have : ∀ (names : List (Str × NameKind)) (n : Nat) (acc : List (Str × Addr)), (names.all fun x => !(x.2 == .cell)) = true → cellsFrom n names acc = acc := by
        intro names
        induction names with
        | nil => intro n acc _; rfl
        | cons p r ih =>
          intro n acc hp
          obtain ⟨y, k⟩ := p
          simp only [List.all_cons, Bool.and_eq_true] at hp
          unfold cellsFrom
          rw [if_neg (by simpa using hp.1)]
          exact ih _ _ hp.2
      exact this _ _ _ hsc
    have hc : (cellsFrom (L + 1) scope.names (cloF C.env.cells scope.names [])).lookup x = some c := hc
    rw [e] at hc
    rcases cloF_mem (mem_of_lookup hc) with h' | h'
    · exact nomatch h'
    · exact h'.1
  have k : ∀ b o, s.heap.get? b = some o → Solid o → s₁.heap.get? b = some o := fun b o e hs => S₁.keep b o id (.inr fun ht => S.tabs.notSolid ht e hs) e
  obtain ⟨ht, o, ho, hr⟩ := S.fLive (a := a) (.inr (.inr (.inr (List.mem_filterMap.mpr ⟨_, h, rfl⟩))))
  refine hO.mono (fun o e => S₁.keep a o id (.inr ht) e) (fun b o hb hs e => ⟨k b o e hs, fun q => ?_⟩) S₁.tk
  rcases q with ⟨q, _⟩ | q | ⟨x, q⟩ | q
  · exact hb q
  · have q : b = L := q
    have hL : s.heap.get? L = none := S₁.ok.loc
    have e : s.heap.get? b = some o := e
    rw [← q, e] at hL; cases hL
  · exact hb (.inr (.inr (.inl ⟨x, hcell x b q⟩)))
  · have := (S₁.ownNew b q).1.resolve_right id
    have this : s.heap.get? b = none := this
    have e : s.heap.get? b = some o := e
    rw [e] at this; cases this

section
variable {C : Cx} {ρ ρc : List (Str × D)} {own : List Own} {elt iter : Expr} {x y : Str} {px py pos spos : Pos} {scope : Scope} {items : List D} {rest : List Stmt} {Φ : Flow → Shared → Prop}

theorem zip_snoc {α β : Type} {ps : List α} {qs : List β} (h : ps.length = qs.length) (p : α) (q : β) : (ps ++ [p]).zip (qs ++ [q]) = ps.zip qs ++ [(p, q)] := by
  rw [List.zip_append h]; rfl

/-- y = [new for x in items] -/
theorem Ex.compOwn (f : D → D) (ρc : List (Str × D)) (hit : It C ρ own iter items) (hz : items.length ≤ sizeLine) (hρ : Sub ρc ρ)
    (turn : ∀ (s : Shared) (L : Addr) (own' : List Own) (i : Nat) (d : D), items[i]? = some d → St C ρ own s → EvN (compC C own s scope L) ((x, d) :: ρc) own' elt (f d))
    (hr : ∀ a (ps : List Addr), ps.length = items.length → Ex C ((y, .addr a) :: ρ) (.ob a (.list (ps.map D.addr)) :: ((ps.zip items).map fun z => Own.ob z.1 (f z.2)) ++ own) rest Φ)
    (K : autoParam (CompOk C scope) Mine.tacC)
    (hρf : autoParam ((ρc.all fun y => scope.names.lookup y.1 == some .free && (!(y.1 == ("__classdict__" : Str)) && !(C.env.kindOf y.1 == some .local))) = true) Mine.tacI) (hxρ : autoParam (ρc.lookup x = none) Mine.tacI)
    (hx : autoParam (∀ s L, storable (compC C own s scope L) x = true) Mine.tacF) (hy : autoParam (storable C y = true) Mine.tacI) (hs : autoParam (∀ x, foldedSetIterable iter C.env x = pure x) Mine.tacH)
    (hsw : autoParam (swapsWith (.ListComp elt [⟨.Name x px, iter, [], 0⟩] scope pos) (some (.Name y py)) spos.line C.env = pure false) Mine.tacI) :
    Ex C ρ own (.Assign [.Name y py] (.ListComp elt [⟨.Name x px, iter, [], 0⟩] scope pos) spos :: rest) Φ := fun s S => by
  refine wpAny_execs_cons (wpAny_Assign_Name ?_ hsw)
  rw [eval_ListComp]
  refine comp_core (use := none) rfl K hit hz hρ hρf hxρ (fun i acc js => ∃ ps : List Addr, ps.length = i ∧ i ≤ items.length ∧ acc = ps.map D.addr ∧ js = ((ps.zip (items.take i)).map fun z => Own.ob z.1 (f z.2))) ⟨[], rfl, Nat.zero_le _, rfl, rfl⟩ (fun i acc js h => ?_) S (hx s) (fun L i d acc js R hd hJ a s₁ S₁ => ?_) (fun s₅ a L acc js hJ S₅ => ?_) hs
  · obtain ⟨ps, h1, _, rfl, _⟩ := h
    simp [h1]
  · obtain ⟨ps, hpl, hile, rfl, rfl⟩ := hJ
    have hlt := (List.getElem?_eq_some_iff.mp hd).1
    have htk : items.take (i + 1) = items.take i ++ [d] := by rw [List.take_add_one, hd]; rfl
    refine wpAny_mono (ifs_nil (q := true)) (fun ok s₂ ⟨e, hok⟩ => ?_) fun _ _ x => x.elim
    subst hok
    have S₂ := S₁.eff (C := compC C own s scope L) e.quiet
    refine wpAny_mono (turn s L _ i d hd S s₂ S₂) (fun v s₃ ⟨p, hv, e₃, hn, hO⟩ => ?_) fun _ _ x => x.elim
    subst hv
    have hA : ownA [Own.ob p (f d)] = [p] := rfl
    have S₃ := S₂.adds (xs := [.ob p (f d)]) e₃ (fun b hb => by
      rw [hA] at hb
      obtain rfl := List.mem_singleton.mp hb
      exact hn) (by rw [hA]; exact List.nodup_cons.mpr ⟨(fun h => nomatch h), List.nodup_nil⟩) (fun z hz' => by
      obtain rfl := List.mem_singleton.mp hz'
      exact OwnRd.mono (fun _ h => h) (fun b o hb _ h => ⟨h, fun q => hb (q.imp id fun q => by rw [hA] at q; exact List.mem_singleton.mp q)⟩) (Nat.le_refl _) hO)
    refine ⟨.addr p, _, ⟨ps ++ [p], by simp [hpl], hlt, by simp, rfl⟩, S₃.perm ?_, .addr p⟩
    rw [htk, zip_snoc (by simp; omega), List.map_append]
    show ([Own.ob p (f d)] ++ (_ :: (_ ++ R))).Perm _
    refine (List.perm_append_comm).trans ?_
    show (_ :: ((_ ++ R) ++ [Own.ob p (f d)])).Perm (_ :: ((_ ++ [Own.ob p (f d)]) ++ R))
    refine List.Perm.cons _ ?_
    rw [List.append_assoc, List.append_assoc]
    exact List.Perm.append_left _ List.perm_append_comm
  · obtain ⟨ps, hpl, _, rfl, rfl⟩ := hJ
    rw [List.take_length] at S₅
    refine let ⟨m, hm⟩ := S₅.ns; ⟨m, hm, fun h' hs' => ?_⟩
    obtain ⟨e, hb, hnd, hk⟩ := comp_end S₅ hs'
    have S₆ := S.adds (xs := .ob a (.plist (ps.map D.addr)) :: ((ps.zip items).map fun z => Own.ob z.1 (f z.2))) e hb hnd fun z hz' =>
      (hk z hz').mono (fun _ _ _ h => h) (fun b o hf _ h => ⟨h, fun q => hf (q.imp id fun q => .inl q)⟩) (Nat.le_refl _)
    exact store_name S₆ hy (.addr a) fun s₇ S₇ => Ex.asList (hr a ps hpl) s₇ S₇
end
end Mine

end

-- part MN6
section
open PySem PySem.W PyProof.Rows PySem.Calls
set_option maxRecDepth 100000
set_option linter.unusedVariables false
namespace Mine

section
variable {C : Cx} {ρ : List (Str × D)} {own : List Own} {rest : List Stmt} {Φ : Flow → Shared → Prop}

/-- store into an own list: the target alone -/
theorem wp_assignItem {o i : Expr} {p : Pos} {a : Addr} {ds : List D} {k : Int} {d : D} {v : Value} {s : Shared} {Q : Unit → Shared → Prop} (S : St C ρ (.ob a (.list ds) :: own) s) (hv : Rd C.w s (C.F (.ob a (.list ds) :: own)) v d)
    (ho : Ev C ρ (.ob a (.list ds) :: own) o (.addr a)) (hi : Ev C ρ (.ob a (.list ds) :: own) i (.int k)) (h0 : 0 ≤ k) (hk : k < ds.length) (hz : ds.length ≤ 1000000)
    (h : ∀ s', St C ρ (.ob a (.list (ds.set k.toNat d)) :: own) s' → (∀ u e, Rd C.w s (C.F (.ob a (.list ds) :: own)) u e → Rd C.w s' (C.F (.ob a (.list ds) :: own)) u e) → Q () s') :
    wpAny C.M C.A (assign (.Subscript o i p) C.env v) Q NoE s := by
  rw [assign_Subscript]
  refine wpAny_bind (wpAny_holding (wpAny_mono (ho s S) (fun ov s₂ ⟨e₂, r₂⟩ => ?_) fun _ _ x => x))
  have S₂ := S.eff e₂
  refine wpAny_bind (wpAny_holding (wpAny_mono (hi s₂ S₂) (fun iv s₃ ⟨e₃, r₃⟩ => ?_) fun _ _ x => x))
  have S₃ := S₂.eff e₃
  rw [r₂.addr_inv]
  obtain ⟨u, rfl⟩ := r₃.int_inv
  have hO : OwnRd C.w s₃ (C.F (.ob a (.list ds) :: own)) a (.list ds) := S₃.owns _ (.head _)
  have hv' := (hv.eff S.tabs e₂).eff S₂.tabs e₃
  cases hO with
  | list hl r =>
    rename_i vs
    have hln : vs.length = ds.length := r.1
    refine wpAny_bind (wpAny_standAt (wpAny_bind (wpAny_holding (wpAny_setItem_list hl h0 (by omega) (by rw [List.size_toArray, hln]; exact hk) fun h' hl' hs' => ?_))))
    refine wpAny_release ?_
    have hFa : C.F (.ob a (.list ds) :: own) a := .inr (.inr (.inr (.head _)))
    refine h _ (S₃.setO (vs' := vs.set k.toNat v) hs' (by simpa using hl') (set_rd r hv' _)) fun u' e' ru => ?_
    exact ((ru.eff S.tabs e₂).eff S₂.tabs e₃).mono (s' := { s₃ with heap := h' }) (same_rd hs' hFa) (Nat.le_refl _)

/-- own[i], own[j] = e1, e2 -/
theorem Ex.swapItems {o1 i o2 j e : Expr} {p1 p2 tp pos : Pos} {kk : Nat} {a : Addr} {ds : List D} {k1 k2 : Int} {d1 d2 : D} (he : Ev C ρ (.ob a (.list ds) :: own) e (.tup [d1, d2]))
    (ho1 : Ev C ρ (.ob a (.list ds) :: own) o1 (.addr a)) (hi : Ev C ρ (.ob a (.list ds) :: own) i (.int k1))
    (ho2 : Ev C ρ (.ob a (.list (ds.set k1.toNat d1)) :: own) o2 (.addr a)) (hj : Ev C ρ (.ob a (.list (ds.set k1.toNat d1)) :: own) j (.int k2))
    (h1 : 0 ≤ k1) (h1' : k1 < ds.length) (h2 : 0 ≤ k2) (h2' : k2 < ds.length) (hz : ds.length ≤ 1000000)
    (hr : Ex C ρ (.ob a (.list ((ds.set k1.toNat d1).set k2.toNat d2)) :: own) rest Φ)
    (hs : autoParam (swapsWithSole [.Tuple [.Subscript o1 i p1, .Subscript o2 j p2] kk tp] e pos.line C.env = pure false) Mine.tacI) (hw : autoParam (swappedStores [.Tuple [.Subscript o1 i p1, .Subscript o2 j p2] kk tp] e C.env = pure none) Mine.tacI)
    (hn : autoParam ((assignEach [.Subscript o1 i p1, .Subscript o2 j p2] C.env).map (·.2) = [PySem.assign (.Subscript o1 i p1) C.env, PySem.assign (.Subscript o2 j p2) C.env]) Mine.tacI)
    (hst : autoParam ((assignEach [.Subscript o1 i p1, .Subscript o2 j p2] C.env).findIdx? (·.1) = none) Mine.tacI) :
    Ex C ρ (.ob a (.list ds) :: own) (.Assign [.Tuple [.Subscript o1 i p1, .Subscript o2 j p2] kk tp] e pos :: rest) Φ := Ex.one fun s S =>
  Assign_Tuple (wpAny_mono (he s S) (fun v s₁ ⟨e₁, r₁⟩ => by
    have S₁ := S.eff e₁
    obtain ⟨t, vs, rfl, ht, hf, r⟩ := r₁.tup_inv
    obtain ⟨v1, vs', rfl, r2, r'⟩ := r.cons_inv
    obtain ⟨v2, vs'', rfl, r3, r''⟩ := r'.cons_inv
    obtain rfl := r''.nil_inv
    refine assign_Tuple_tuple S.ok.room.1 ht (by have := congrArg List.length hn; simpa using this) hst fun h' hx' => ?_
    have e₂ := extBut_eff (q := C.q) hx'
    have S₂ := S₁.eff e₂
    rw [hn]
    refine assignInOrder_cons (wp_assignItem S₂ (r2.eff S₁.tabs e₂) ho1 hi h1 h1' hz fun s₃ S₃ k3 => ?_)
    refine assignInOrder_cons (wp_assignItem S₃ (k3 _ _ (r3.eff S₁.tabs e₂)) ho2 hj h2 (by simpa using h2') (by simpa using hz) fun s₄ S₄ _ => ?_)
    exact assignInOrder_nil (hr s₄ S₄)) fun _ _ x => x) hs hw
end
end Mine

end

-- part F198
section
open PySem PySem.W PyProof.Rows PySem.Calls
set_option maxRecDepth 100000
set_option linter.unusedVariables false
namespace Mine

noncomputable abbrev Mx := Nat → Nat → Int
noncomputable def rowL (g : Nat → Int) : List Int := [g 0, g 1, g 2, g 3]
noncomputable abbrev adL (p : Nat → Addr) : List D := [.addr (p 0), .addr (p 1), .addr (p 2), .addr (p 3)]
noncomputable abbrev rowO (p : Nat → Addr) (f : Mx) (k : Nat) : Own := .ob (p k) (.list (dInts (rowL (f k))))
noncomputable abbrev ownM (R : Addr) (p : Nat → Addr) (f : Mx) : List Own := .ob R (.list (adL p)) :: (List.range 4).map (rowO p f)

noncomputable def swapN (s t : Nat) (k : Nat) : Nat := if k = s then t else if k = t then s else k
noncomputable def fitB (s : Nat) (f : Mx) : List Nat := (List.range' s (4 - s)).filter fun r => f r s != 0
noncomputable def gB (s : Nat) (last : Int) (f : Mx) (a c : Nat) : Int := (f a c * f s s - f a s * f s c) / (if 0 < s then last else 1)
noncomputable def elimF (s : Nat) (last : Int) (f : Mx) (i j : Nat) : Mx := fun a c => if (s < a ∧ a < s + 1 + i ∧ s < c ∧ c < 4) ∨ (a = s + 1 + i ∧ s < c ∧ c < s + 1 + j) then gB s last f a c else f a c

structure BS where
  f : Mx
  p : Nat → Addr
  turns : Int
  last : Int
noncomputable def swB (s t : Nat) (b : BS) : Mx := fun k c => b.f (swapN s t k) c
noncomputable def stepB (s : Nat) (b : BS) (t : Nat) : BS := ⟨elimF s b.last (swB s t b) (3 - s) 0, fun k => b.p (swapN s t k), if t = s then b.turns else -b.turns, swB s t b s s⟩
noncomputable def runB (f : Mx) (p : Nat → Addr) : Nat → Option BS
  | 0 => some ⟨f, p, 1, 1⟩
  | s + 1 => (runB f p s).bind fun b => ((fitB s b.f).head?).map fun t => stepB s b t

theorem range4_perm {r : Nat} (h : r < 4) : (List.range 4).Perm (r :: (List.range 4).filter (· != r)) := by
  match r, h with
  | 0, _ => decide
  | 1, _ => decide
  | 2, _ => decide
  | 3, _ => decide
theorem swap_perm {s t : Nat} (hs : s < 4) (ht : t < 4) : ((List.range 4).map (swapN s t)).Perm (List.range 4) := by
  have : ∀ s, s < 4 → ∀ t, t < 4 → ((List.range 4).map (swapN s t)).Perm (List.range 4) := by decide
  exact this s hs t ht

/-- one row ahead of the others -/
theorem own_front {R : Addr} {p : Nat → Addr} {f : Mx} {R' : List Own} {r : Nat} (h : r < 4) : (ownM R p f ++ R').Perm (rowO p f r :: ((.ob R (.list (adL p)) :: ((List.range 4).filter (· != r)).map (rowO p f)) ++ R')) := by
  refine List.Perm.append_right R' (l₂ := rowO p f r :: (.ob R (.list (adL p)) :: ((List.range 4).filter (· != r)).map (rowO p f))) ?_
  refine (List.Perm.cons _ ((range4_perm h).map (rowO p f))).trans ?_
  exact List.Perm.swap ..
theorem others_eq {p : Nat → Addr} {f f' : Mx} {r : Nat} (h : ∀ k, k ≠ r → f k = f' k) : ((List.range 4).filter (· != r)).map (rowO p f) = ((List.range 4).filter (· != r)).map (rowO p f') := by
  refine List.map_congr_left fun k hk => ?_
  have : k ≠ r := by simpa using (List.mem_filter.mp hk).2
  show Own.ob (p k) _ = Own.ob (p k) _
  rw [h k this]
theorem rowL_get {g : Nat → Int} {c : Nat} (h : c < 4) : (dInts (rowL g))[c]? = some (.int (g c)) := by
  match c, h with
  | 0, _ => rfl
  | 1, _ => rfl
  | 2, _ => rfl
  | 3, _ => rfl
theorem adL_get {p : Nat → Addr} {c : Nat} (h : c < 4) : (adL p)[c]? = some (.addr (p c)) := by
  match c, h with
  | 0, _ => rfl
  | 1, _ => rfl
  | 2, _ => rfl
  | 3, _ => rfl
theorem rowL_set {g : Nat → Int} {c : Nat} {v : Int} (h : c < 4) : (dInts (rowL g)).set c (.int v) = dInts (rowL fun k => if k = c then v else g k) := by
  match c, h with
  | 0, _ => rfl
  | 1, _ => rfl
  | 2, _ => rfl
  | 3, _ => rfl
theorem adL_swap {p : Nat → Addr} {s t : Nat} (hs : s < 4) (ht : t < 4) : ((adL p).set s (.addr (p t))).set t (.addr (p s)) = adL fun k => p (swapN s t k) := by
  match s, hs, t, ht with
  | 0, _, 0, _ | 0, _, 1, _ | 0, _, 2, _ | 0, _, 3, _ | 1, _, 0, _ | 1, _, 1, _ | 1, _, 2, _ | 1, _, 3, _ | 2, _, 0, _ | 2, _, 1, _ | 2, _, 2, _ | 2, _, 3, _ | 3, _, 0, _ | 3, _, 1, _ | 3, _, 2, _ | 3, _, 3, _ => rfl

section
variable {C : Cx} {ρ : List (Str × D)} {own : List Own}
/-- rows[r][c] -/
theorem Ev.cell {o r c : Expr} {p1 p2 : Pos} {R : Addr} {p : Nat → Addr} {f : Mx} {a b : Nat} (ho : Ev C ρ own o (.addr R)) (hr : Ev C ρ own r (.int a)) (hc : Ev C ρ own c (.int b)) (h1 : HasO C ρ own R (.list (adL p))) (h2 : HasO C ρ own (p a) (.list (dInts (rowL (f a)))))
    (ha : a < 4) (hb : b < 4) (hs1 : autoParam (∀ o i, subscripted r false o i = operate [o, i] (getItem o i)) Mine.tacF) (hs2 : autoParam (∀ o i, subscripted c false o i = operate [o, i] (getItem o i)) Mine.tacF) :
    Ev C ρ own (.Subscript (.Subscript o r p1) c p2) (.int (f a b)) :=
  Ev.itemO (Ev.itemO ho hr h1 (Int.natCast_nonneg a) (by omega) (by rw [Int.toNat_natCast]; exact adL_get ha) hs1) hc h2 (Int.natCast_nonneg b) (by omega) (by rw [Int.toNat_natCast]; exact rowL_get hb) hs2
theorem HasO.row {R : Addr} {p : Nat → Addr} {f : Mx} {R' : List Own} {r : Nat} (h : r < 4) : HasO C ρ (ownM R p f ++ R') (p r) (.list (dInts (rowL (f r)))) :=
  HasO.mem (List.mem_append_left _ (.tail _ (List.mem_map.mpr ⟨r, List.mem_range.mpr h, rfl⟩)))
end

theorem iteC {α : Type} {p q : Prop} [Decidable p] [Decidable q] {x y : α} (h : p ↔ q) : (if p then x else y) = if q then x else y := by
  by_cases hp : p
  · rw [if_pos hp, if_pos (h.mp hp)]
  · rw [if_neg hp, if_neg fun z => hp (h.mpr z)]
theorem elim_step {s i j : Nat} {last : Int} {f : Mx} (a c : Nat) (h : a = s + 1 + i) (hc : c = s + 1 + j) : (fun k => if k = c then gB s last f a c else elimF s last f i j a k) = elimF s last f i (j + 1) a := by
  funext k
  by_cases hk : k = c
  · subst hk
    have h1 : s < k := hc ▸ Nat.lt_of_lt_of_le (Nat.lt_succ_self s) (Nat.le_add_right _ _)
    have h2 : k < s + 1 + (j + 1) := hc ▸ Nat.lt_succ_self (s + 1 + j)
    rw [if_pos rfl]
    exact (if_pos (Or.inr ⟨h, h1, h2⟩)).symm
  · rw [if_neg hk]
    exact iteC ⟨fun x => x.imp id fun y => ⟨y.1, y.2.1, Nat.lt_succ_of_lt y.2.2⟩, fun x => x.imp id fun y => ⟨y.1, y.2.1, Nat.lt_of_le_of_ne (Nat.le_of_lt_succ y.2.2) (hc ▸ hk)⟩⟩
theorem elim_other {s i j : Nat} {last : Int} {f : Mx} (k : Nat) (h : k ≠ s + 1 + i) : elimF s last f i j k = elimF s last f i (j + 1) k := by
  funext c
  have e : ∀ X : Prop, ((s < k ∧ k < s + 1 + i ∧ s < c ∧ c < 4) ∨ (k = s + 1 + i ∧ X)) ↔ (s < k ∧ k < s + 1 + i ∧ s < c ∧ c < 4) := fun X => ⟨fun x => x.resolve_right fun y => h y.1, Or.inl⟩
  exact iteC ((e _).trans (e _).symm)
end Mine

end

-- part F198b
section
open PySem PySem.W PyProof.Rows PySem.Calls
set_option maxRecDepth 100000
set_option linter.unusedVariables false
namespace Mine

noncomputable def body198 : List Stmt := match k198.body.drop 3 with | .For _ _ b _ _ :: _ => b | _ => []
noncomputable abbrev C198 (w : World) (A : Around) (lvl : Nat) (sh : Shared) (F : Addr → Prop) : Cx := mkC w A lvl false sh F k198.fd 198

/-- what a step wants of the matrix ahead of it -/
structure FitM (s : Nat) (last : Int) (f : Mx) : Prop where
  size : ∀ a c, a < 4 → c < 4 → -(2 ^ 400) ≤ f a c ∧ f a c ≤ 2 ^ 400
  lsize : -(2 ^ 400) ≤ last ∧ last ≤ 2 ^ 400
  exact_ : 0 < s → last ≠ 0 ∧ ∀ a c, s < a → a < 4 → s < c → c < 4 → gB s last f a c * last = f a c * f s s - f a s * f s c

theorem bits_400 {x : Int} (h1 : -(2 ^ 400) ≤ x) (h2 : x ≤ 2 ^ 400) : Builtin.Int.intBits x ≤ 2 ^ 20 := by
  have : Builtin.Int.intBits x ≤ 401 := by
    rw [intBits_le_iff']
    have e : (2 : Int) ^ 400 = ((2 ^ 400 : Nat) : Int) := by decide +kernel
    have e2 : (2 : Nat) ^ 400 < 2 ^ 401 := by decide +kernel
    rw [e] at h1 h2
    omega +splitDisjunctions
  omega +splitDisjunctions
theorem mul_400 {x y : Int} (hx : -(2 ^ 400) ≤ x ∧ x ≤ 2 ^ 400) (hy : -(2 ^ 400) ≤ y ∧ y ≤ 2 ^ 400) : -(2 ^ 800) ≤ x * y ∧ x * y ≤ 2 ^ 800 := by
  have key : ∀ a b : Int, 0 ≤ a → a ≤ 2 ^ 400 → 0 ≤ b → b ≤ 2 ^ 400 → 0 ≤ a * b ∧ a * b ≤ 2 ^ 800 := fun a b h1 h2 h3 h4 => by
    refine ⟨Int.mul_nonneg h1 h3, ?_⟩
    have := Int.mul_le_mul h2 h4 h3 (by decide +kernel)
    have e : (2 : Int) ^ 400 * 2 ^ 400 = 2 ^ 800 := by decide +kernel
    rw [e] at this; exact this
  rcases Int.le_total 0 x with h1 | h1 <;> rcases Int.le_total 0 y with h2 | h2
  · have := key x y h1 hx.2 h2 hy.2; omega +splitDisjunctions
  · have := key x (-y) h1 hx.2 (by omega +splitDisjunctions) (by omega +splitDisjunctions)
    rw [Int.mul_neg] at this; omega +splitDisjunctions
  · have := key (-x) y (by omega +splitDisjunctions) (by omega +splitDisjunctions) h2 hy.2
    rw [Int.neg_mul] at this; omega +splitDisjunctions
  · have := key (-x) (-y) (by omega +splitDisjunctions) (by omega +splitDisjunctions) (by omega +splitDisjunctions) (by omega +splitDisjunctions)
    rw [Int.neg_mul_neg] at this; omega +splitDisjunctions

theorem elim_read {s i j : Nat} {last : Int} {f : Mx} {a c : Nat} (h : c ≤ s ∨ a ≤ s) : elimF s last f i j a c = f a c := by
  unfold elimF; rw [if_neg (by omega +splitDisjunctions)]
theorem elim_here {s i j : Nat} {last : Int} {f : Mx} : elimF s last f i j (s + 1 + i) (s + 1 + j) = f (s + 1 + i) (s + 1 + j) := by
  unfold elimF; rw [if_neg (by omega +splitDisjunctions)]

theorem elim_walk {w : World} {A : Around} {lvl : Nat} {sh : Shared} {F : Addr → Prop} (hl : 18 ≤ lvl) {s : Nat} (hs : s < 3) {f : Mx} {p : Nat → Addr} {last turns : Int} {R : Addr} {ρ : List (Str × D)} {R' : List Own} {Φ : Flow → Shared → Prop} (H : FitM s last f)
    (hsub : Sub [("rows", .addr R), ("head", .addr (p s)), ("step", .int s), ("last", .int last), ("turns", .int turns)] ρ)
    (hr : Ex (C198 w A lvl sh F) [("rows", .addr R), ("head", .addr (p s)), ("step", .int s), ("last", .int last), ("turns", .int turns)] (ownM R p (elimF s last f (3 - s) 0) ++ R') (body198.drop 5) Φ) :
    Ex (C198 w A lvl sh F) ρ (ownM R p f ++ R') (body198.drop 4) Φ := by
  have e0 : elimF s last f 0 0 = f := by
    funext a c; unfold elimF; rw [if_neg (by omega +splitDisjunctions)]
  refine Ex.for (items := rangeD ((s : Int) + 1) (3 - s)) (R := R') (fun i => [("rows", .addr R), ("head", .addr (p s)), ("step", .int s), ("last", .int last), ("turns", .int turns)]) (fun i => ownM R p (elimF s last f i 0))
    (It.range2 rfl (Ev.bin (Ev.name (hsub.get rfl)) Ev.int o_add) Ev.int (by omega +splitDisjunctions) (by omega +splitDisjunctions) (by omega +splitDisjunctions) (by omega +splitDisjunctions)) hsub (by rw [e0]) (fun i d R2 hd => ?_) ?_
  · have hi : i < 3 - s := by
      have := (List.getElem?_eq_some_iff.mp hd).1
      simpa using this
    have hd' : d = .int ((s + 1 + i : Nat) : Int) := by
      rw [List.getElem?_map, List.getElem?_range hi] at hd
      cases hd
      show D.int _ = _
      (congr 1; try omega +splitDisjunctions)
    subst hd'
    refine Ex.for (items := rangeD ((s : Int) + 1) (3 - s)) (R := R2) (fun j => [("rows", .addr R), ("head", .addr (p s)), ("step", .int s), ("last", .int last), ("turns", .int turns), ("r", .int ((s + 1 + i : Nat) : Int))]) (fun j => ownM R p (elimF s last f i j))
      (It.range2 rfl (Ev.bin (Ev.name rfl) Ev.int o_add) Ev.int (by omega +splitDisjunctions) (by omega +splitDisjunctions) (by omega +splitDisjunctions) (by omega +splitDisjunctions)) ⟨rfl, rfl, rfl, rfl, rfl, rfl, trivial⟩ rfl (fun j d R3 hd => ?_) ?_
    · have hj : j < 3 - s := by
        have := (List.getElem?_eq_some_iff.mp hd).1
        simpa using this
      have hd' : d = .int ((s + 1 + j : Nat) : Int) := by
        rw [List.getElem?_map, List.getElem?_range hj] at hd
        cases hd
        show D.int _ = _
        (congr 1; try omega +splitDisjunctions)
      subst hd'
      have h1 : s < 4 := by omega +splitDisjunctions
      have ha : s + 1 + i < 4 := by omega +splitDisjunctions
      have hc : s + 1 + j < 4 := by omega +splitDisjunctions
      have z1 := H.size _ _ ha hc
      have z2 := H.size s s h1 h1
      have z3 := H.size _ _ ha h1
      have z4 := H.size _ _ h1 hc
      have rd : ∀ (ρ' : List (Str × D)), HasO (C198 w A lvl sh F) ρ' (ownM R p (elimF s last f i j) ++ R3) R (.list (adL p)) := fun ρ' => HasO.mem (.head _)
      have hrow : ∀ (ρ' : List (Str × D)) r, r < 4 → HasO (C198 w A lvl sh F) ρ' (ownM R p (elimF s last f i j) ++ R3) (p r) (.list (dInts (rowL (elimF s last f i j r)))) := fun ρ' r h => HasO.row h
      have q1 : elimF s last f i j (s + 1 + i) (s + 1 + j) = f (s + 1 + i) (s + 1 + j) := elim_here
      have q2 : elimF s last f i j s s = f s s := elim_read (.inl (Nat.le_refl _))
      have q3 : elimF s last f i j (s + 1 + i) s = f (s + 1 + i) s := elim_read (.inl (Nat.le_refl _))
      have q4 : elimF s last f i j s (s + 1 + j) = f s (s + 1 + j) := elim_read (.inr (Nat.le_refl _))
      refine Ex.assign (Ev.as (d' := .int (f (s + 1 + i) (s + 1 + j) * f s s - f (s + 1 + i) s * f s (s + 1 + j))) (Ev.bin
        (Ev.bin (Ev.cell (p := p) (f := elimF s last f i j) (a := s + 1 + i) (b := s + 1 + j) (Ev.name rfl) (Ev.name rfl) (Ev.name rfl) (rd _) (hrow _ _ ha) ha hc)
          (Ev.itemO (Ev.name rfl) (Ev.name rfl) (hrow _ s h1) (Int.natCast_nonneg s) (by omega +splitDisjunctions) (by rw [Int.toNat_natCast]; exact rowL_get h1)) (o_mul ?_))
        (Ev.bin (Ev.cell (p := p) (f := elimF s last f i j) (a := s + 1 + i) (b := s) (Ev.name rfl) (Ev.name rfl) (Ev.name rfl) (rd _) (hrow _ _ ha) ha h1)
          (Ev.itemO (Ev.name rfl) (Ev.name rfl) (hrow _ s h1) (Int.natCast_nonneg _) (by omega +splitDisjunctions) (by rw [Int.toNat_natCast]; exact rowL_get hc)) (o_mul ?_)) o_sub) (by rw [q1, q2, q3, q4])) ?_
      · rw [q1, q2]; exact IntMulOk.of_bits (bits_400 z1.1 z1.2) (bits_400 z2.1 z2.2)
      · rw [q3, q4]; exact IntMulOk.of_bits (bits_400 z3.1 z3.2) (bits_400 z4.1 z4.2)
      have store : ∀ (ρ' : List (Str × D)), Sub [("part", .int (gB s last f (s + 1 + i) (s + 1 + j))), ("c", .int ((s + 1 + j : Nat) : Int)), ("rows", .addr R), ("head", .addr (p s)), ("step", .int s), ("last", .int last), ("turns", .int turns), ("r", .int ((s + 1 + i : Nat) : Int))] ρ' →
          Ex (C198 w A lvl sh F) ρ' (ownM R p (elimF s last f i j) ++ R3) (match (match body198.drop 4 with | .For _ _ b _ _ :: _ => b | _ => []) with | .For _ _ b _ _ :: _ => b.drop 2 | _ => [])
            (Turn (C198 w A lvl sh F) [("rows", .addr R), ("head", .addr (p s)), ("step", .int s), ("last", .int last), ("turns", .int turns), ("r", .int ((s + 1 + i : Nat) : Int))] (ownM R p (elimF s last f i (j + 1)) ++ R3) (Turn (C198 w A lvl sh F) [("rows", .addr R), ("head", .addr (p s)), ("step", .int s), ("last", .int last), ("turns", .int turns)] (ownM R p (elimF s last f (i + 1) 0) ++ R2) Φ)) := by
        intro ρ' hρ'
        refine Ex.sub ?_ hρ'
        refine Ex.perm ?_ (own_front ha)
        refine Ex.setItem (Ev.name rfl) (Ev.itemO (Ev.name rfl) (Ev.name rfl) (HasO.mem (.tail _ (.head _))) (Int.natCast_nonneg _) (by omega +splitDisjunctions) (by rw [Int.toNat_natCast]; exact adL_get ha)) (Ev.name rfl) (Int.natCast_nonneg _) (by show ((s + 1 + j : Nat) : Int) < 4; omega +splitDisjunctions) (by show 4 ≤ 1000000; decide) ?_
        rw [Int.toNat_natCast, rowL_set hc, elim_step _ _ rfl rfl, others_eq (f' := elimF s last f i (j + 1)) fun k hk => elim_other k hk]
        refine Ex.perm ?_ (own_front ha).symm
        exact Ex.turn ⟨rfl, rfl, rfl, rfl, rfl, rfl, trivial⟩
      by_cases hs0 : 0 < s
      · obtain ⟨hl0, hex⟩ := H.exact_ hs0
        have hex := hex _ _ (by omega +splitDisjunctions) ha (by omega +splitDisjunctions) hc
        have m1 := mul_400 z1 z2
        have m2 := mul_400 z3 z4
        have e9 : (2 : Int) ^ 800 + 2 ^ 800 ≤ 2 ^ 900 := by decide +kernel
        have e8 : (2 : Int) ^ 400 ≤ 2 ^ 900 := by decide +kernel
        have hls := H.lsize
        refine Ex.ite (c := true) (EvB.as (EvB.cmp (Ev.name rfl) Ev.int o_gt) (decide_eq_true (by omega +splitDisjunctions))) (fun _ => ?_) (fun h => nomatch h)
        refine Ex.unpack (Ev.call (fn73 (w := w) (lvl := lvl - 1) (q := gB s last f (s + 1 + i) (s + 1 + j)) hl0 (by rw [hex]; omega +splitDisjunctions) (by rw [hex]; omega +splitDisjunctions) (by omega +splitDisjunctions) (by omega +splitDisjunctions) (by omega +splitDisjunctions)) (g73 w) (k73.hK w) (EvL.cons (Ev.as (Ev.name rfl) (by rw [hex])) (EvL.cons (Ev.name rfl) EvL.nil)) (hn := by show lvl - 1 + 1 ≤ lvl; omega +splitDisjunctions)) ?_ rfl
        refine Ex.ite (c := false) (EvB.cmp (Ev.name rfl) Ev.int o_ne) (fun h => nomatch h) fun _ => Ex.done (Ex.done (store _ ⟨rfl, rfl, rfl, rfl, rfl, rfl, rfl, rfl, trivial⟩))
      · have hs0' : s = 0 := by omega +splitDisjunctions
        refine Ex.ite (c := false) (EvB.as (EvB.cmp (Ev.name rfl) Ev.int o_gt) (decide_eq_false (by omega +splitDisjunctions))) (fun h => nomatch h) fun _ => Ex.done (store _ ⟨?_, rfl, rfl, rfl, rfl, rfl, rfl, rfl, trivial⟩)
        show some (D.int _) = some (D.int _)
        unfold gB
        rw [if_neg hs0, Int.ediv_one]
    · have e : elimF s last f i (3 - s) = elimF s last f (i + 1) 0 := by
        funext a c
        have h4 : s + 1 + (3 - s) = 4 := by omega +splitDisjunctions
        refine iteC ⟨fun x => ?_, fun x => ?_⟩
        · rcases x with ⟨p, q, r, t⟩ | ⟨p, q, r⟩
          · exact .inl ⟨p, Nat.lt_succ_of_lt q, r, t⟩
          · exact .inl ⟨p ▸ Nat.lt_of_lt_of_le (Nat.lt_succ_self s) (Nat.le_add_right _ _), p ▸ Nat.lt_succ_self (s + 1 + i), q, h4 ▸ r⟩
        · rcases x with ⟨p, q, r, t⟩ | ⟨_, q, r⟩
          · rcases Nat.lt_or_eq_of_le (Nat.le_of_lt_succ q) with z | z
            · exact .inl ⟨p, z, r, t⟩
            · exact .inr ⟨z, r, h4.symm ▸ t⟩
          · exact absurd (Nat.lt_of_lt_of_le q (Nat.le_of_lt_succ r)) (Nat.lt_irrefl _)
      rw [show (rangeD ((s : Int) + 1) (3 - s)).length = 3 - s by simp, e]
      exact Ex.turn ⟨rfl, rfl, rfl, rfl, rfl, trivial⟩
  · rw [show (rangeD ((s : Int) + 1) (3 - s)).length = 3 - s by simp]
    exact hr
end Mine

end

-- part F198c
section
open PySem PySem.W PyProof.Rows PySem.Calls
set_option maxRecDepth 100000
set_option linter.unusedVariables false
namespace Mine

noncomputable def runF (f : Mx) : Nat → Option (Mx × Int × Int)
  | 0 => some (f, 1, 1)
  | s + 1 => (runF f s).bind fun b => ((fitB s b.1).head?).map fun t => (elimF s b.2.2 (fun k c => b.1 (swapN s t k) c) (3 - s) 0, (if t = s then b.2.1 else -b.2.1), b.1 (swapN s t s) s)
noncomputable def detB (f : Mx) : Int := match runF f 3 with | some b => b.2.1 * b.1 3 3 | none => 0

theorem run_rel (f : Mx) (p : Nat → Addr) : ∀ s, match runF f s with | none => runB f p s = none | some b => ∃ p', runB f p s = some ⟨b.1, p', b.2.1, b.2.2⟩
  | 0 => ⟨p, rfl⟩
  | s + 1 => by
    have ih := run_rel f p s
    cases h : runF f s with
    | none =>
      rw [h] at ih
      have e1 : runF f (s + 1) = none := by
        show (runF f s).bind _ = _
        rw [h]; rfl
      rw [e1]
      show (runB f p s).bind _ = none
      rw [ih]; rfl
    | some b =>
      rw [h] at ih
      obtain ⟨p', e⟩ := ih
      have e1 : runF f (s + 1) = ((fitB s b.1).head?).map fun t => (elimF s b.2.2 (fun k c => b.1 (swapN s t k) c) (3 - s) 0, (if t = s then b.2.1 else -b.2.1), b.1 (swapN s t s) s) := by
        show (runF f s).bind _ = _
        rw [h]; rfl
      have e2 : runB f p (s + 1) = ((fitB s b.1).head?).map fun t => stepB s ⟨b.1, p', b.2.1, b.2.2⟩ t := by
        show (runB f p s).bind _ = _
        rw [e]; rfl
      rw [e1, e2]
      cases (fitB s b.1).head? with
      | none => rfl
      | some t => exact ⟨_, rfl⟩

theorem runF_none {f : Mx} {i : Nat} (h : runF f (i + 1) = none) : ∀ j, i + 1 ≤ j → runF f j = none := by
  intro j hj
  obtain ⟨k, rfl⟩ : ∃ k, j = i + 1 + k := ⟨j - (i + 1), by omega +splitDisjunctions⟩
  induction k with
  | zero => exact h
  | succ k ih =>
    show (runF f (i + 1 + k)).bind _ = none
    rw [ih (by omega +splitDisjunctions)]; rfl

noncomputable def fitG (s : Nat) (g : Mx) : D → Option D
  | .int r => if g r.toNat s != 0 then some (.int r) else none
  | _ => none
theorem fitG_list {s : Nat} {g : Mx} (hs : s < 4) : (rangeD (s : Int) (4 - s)).filterMap (fitG s g) = dInts ((fitB s g).map fun r : Nat => (r : Int)) := by
  have key : ∀ (n a : Nat), ((List.range' a n).map fun r : Nat => D.int (r : Int)).filterMap (fitG s g) = dInts (((List.range' a n).filter fun r => g r s != 0).map fun r : Nat => (r : Int)) := by
    intro n
    induction n with
    | zero => intro a; rfl
    | succ n ih =>
      intro a
      rw [List.range'_succ, List.map_cons, List.filterMap_cons, List.filter_cons]
      have e : fitG s g (.int (a : Int)) = if g a s != 0 then some (.int a) else none := by
        show (if g (a : Int).toNat s != 0 then _ else _) = _
        rw [Int.toNat_natCast]
      rw [e]
      cases h : g a s != 0 with
      | true => simp only [if_true]; rw [ih]; rfl
      | false => simp only [Bool.false_eq_true, if_false]; exact ih _
  have := key (4 - s) s
  have e : rangeD (s : Int) (4 - s) = (List.range' s (4 - s)).map fun r : Nat => D.int (r : Int) := by
    unfold rangeD
    rw [List.range'_eq_map_range, List.map_map]
    refine List.map_congr_left fun k _ => ?_
    show D.int _ = D.int _
    congr 1
  rw [e, this]; rfl

theorem fit_head {s t : Nat} {g : Mx} {r : List Nat} (h : fitB s g = t :: r) : s ≤ t ∧ t < 4 ∧ g t s ≠ 0 := by
  have hm : t ∈ fitB s g := by rw [h]; exact .head _
  have := List.mem_filter.mp hm
  have h1 := List.mem_range'_1.mp this.1
  refine ⟨h1.1, by omega +splitDisjunctions, by simpa using this.2⟩

noncomputable abbrev tableD (f : Mx) : D := .list ((List.range 4).map fun k => .list (dInts (rowL (f k))))

theorem swap_same {s : Nat} : swapN s s = fun k => k := by
  funext k; unfold swapN
  by_cases h : k = s
  · rw [if_pos h, h]
  · rw [if_neg h, if_neg h]

theorem own_swap {R : Addr} {p : Nat → Addr} {f : Mx} {s t : Nat} {R' : List Own} (hs : s < 4) (ht : t < 4) : ((.ob R (.list (adL fun k => p (swapN s t k))) :: (List.range 4).map (rowO p f)) ++ R').Perm (ownM R (fun k => p (swapN s t k)) (fun k c => f (swapN s t k) c) ++ R') := by
  refine List.Perm.append_right R' (List.Perm.cons _ ?_)
  have e : (List.range 4).map (rowO (fun k => p (swapN s t k)) (fun k c => f (swapN s t k) c)) = ((List.range 4).map (swapN s t)).map (rowO p f) := by rw [List.map_map]; rfl
  rw [e]
  exact ((swap_perm hs ht).map (rowO p f)).symm

end Mine

end

-- part MO6
section
open PySem PySem.W PyProof.Rows PySem.Calls
set_option maxRecDepth 100000
set_option linter.unusedVariables false
namespace Mine

theorem g161a : ∀ w, plainGet (KF w) 161 "comp_select_list" = true := fun w => by kernel_rfl
theorem g161b : ∀ w, hasDictIn (KF w) 161 = true := fun w => by kernel_rfl
theorem g161c : ∀ w, findIn (KF w) (.ref 161) "comp_select_list" = some none := fun w => by kernel_rfl
theorem g161d : ∀ w, findIn (KF w) (.ref 161) "compare" = some (some (.ref 158)) := fun w => by kernel_rfl
theorem g161e : ∀ w, typeIn (KF w) (.ref 158) = some (.type "function") := fun w => by kernel_rfl
theorem g161f : ∀ w, makesIn (KF w) 161 = true := fun w => by kernel_rfl
theorem g161g : ∀ w, findIn (KF w) (.ref 161) "__init__" = some (some (.ref 151)) := fun w => by kernel_rfl
theorem g161h : ∀ w, typeIn (KF w) (.ref 151) = some (.type "function") := fun w => by kernel_rfl
theorem g161i : ∀ w, findIn (KF w) (.ref 161) "__setattr__" = some (some (.builtin "object.__setattr__")) := fun w => by kernel_rfl
theorem g161j : ∀ w, plainOver (KF w) 161 = true := fun w => by kernel_rfl
theorem g161k : ∀ w, takerIn (KF w) 161 "comp_select_list" = some none := fun w => by kernel_rfl
theorem g161l : ∀ w, keepIn (KF w) (.ref 161) = true := fun w => by kernel_rfl
theorem g158l : ∀ w, keepIn (KF w) (.ref 158) = true := fun w => by kernel_rfl

section
variable {C : Cx} {ρ : List (Str × D)} {own : List Own}

theorem Ev.attr {x : Str} {p pos : Pos} {attr : Str} {d : D} (ha : attr = "comp_select_list") (hx : ρ.lookup x = some (.inst d)) : Ev C ρ own (.Attribute (.Name x p) attr pos) d := fun s S => by
  subst ha
  refine Attribute_name (wpAny_mono (Ev.name hx s S) (fun v s₁ ⟨e₁, r₁⟩ => ?_) fun _ _ x => x)
  have S₁ := S.eff e₁
  obtain ⟨a, dx, od, u, rfl, ho, hdx, hc, hl, hl2, hf, hf', hr⟩ := r₁.inst_inv
  have X := S₁.good.K
  have I : InstAt s₁.heap a (instObj 161 dx) 161 (some od) := ⟨ho, rfl, rfl, hdx⟩
  refine get_value X I (plainGet_of (g161a C.w)).1 (findObj_own (g161b C.w) (g161c C.w) rfl hl) ?_ ⟨e₁.trans Eff.tok, hr.eff S₁.tabs (Eff.tok (q := C.q))⟩
  cases hr <;> rfl

theorem Ev.methI {o : Expr} {name : Str} {apos pos : Pos} {args : List Expr} {d0 : D} {ds : List D} {d : D} {pl : Sem Bool} {q : Bool} {n : Nat} {e0 : Expr} {es : List Expr} (hn : name = "compare") (ho : Ev C ρ own o (.inst d0)) (ha : EvL C ρ own pos args ds)
    (hc : Fn C.w q n 158 (.inst d0 :: ds) d) (hq : autoParam ((q || !C.q) = true) Mine.tacI) (hlv : autoParam (n ≤ C.n) Mine.tacA)
    (hargs : autoParam (args = e0 :: es) Mine.tacI) (hst : autoParam (starEach (e0 :: es) C.env = (false, eval e0 C.env) :: starEach es C.env) Mine.tacI) (hpl : autoParam ((backTo pos (starEach es C.env)).any (·.1) = false) Mine.tacI)
    (he : autoParam (eval (.Call (.Attribute o name apos) args [] pos) C.env = (do
      let ov ← eval o C.env
      standAt apos.atName
      let (f, first) ← holding [ov] (getMethod ov name pl)
      callWith pos f first (backTo pos (starEach args C.env)) [])) Mine.tacI) : Ev C ρ own (.Call (.Attribute o name apos) args [] pos) d := fun s S => by
  subst hn
  subst hargs
  refine MethodCall_ (pl := pl) (wpAny_mono (ho s S) (fun v s₁ ⟨e₁, r₁⟩ => ?_) fun _ _ x => x) he
  have S₁ := S.eff e₁
  obtain ⟨a, dx, od, u, rfl, hoa, hdx, hcd, hl, hl2, hf, hf', hr⟩ := r₁.inst_inv
  have I : InstAt s₁.heap a (instObj 161 dx) 161 (some od) := ⟨hoa, rfl, rfl, hdx⟩
  refine method_fn S₁.good.K I (plainGet_of (g161a C.w)).1 (plainGet_of (g161a C.w)).2 (g161d C.w) (g161e C.w) (by show (lookIn "compare" od).map _ = _; rw [hl2]; rfl) ?_
  refine callWith_K S₁.good.K (g158l C.w) (wpAny_mono (ha.2.2 s₁ S₁) (fun vs s₂ ⟨e₂, r₂⟩ => ⟨(S₁.eff e₂).good.K, ?_⟩) fun _ _ x => x) hst hpl
  have S₂ := S₁.eff e₂
  refine wpAny_mono (hc C.A s₂ (C.F own) _ S₂.good S₂.tabs (S.ok.room.le hlv) (fun a h => S₂.fLive h) (.cons (r₁.eff S₁.tabs e₂) r₂)) (fun v s₃ ⟨e₃, r₃⟩ => ⟨(e₁.trans e₂).trans ?_, r₃⟩) fun _ _ x => x
  simp only [Bool.or_eq_true, Bool.not_eq_true'] at hq
  rcases hq with rfl | hq
  · exact e₃.quiet
  · rw [hq]
    exact ⟨e₃.1, fun a o h e => e₃.2.1 a o (.inr (h.resolve_left (by nofun))) e, e₃.2.2⟩
end
end Mine

end

-- part F158
section
open PySem PySem.W PyProof.Rows PySem.Calls
set_option maxRecDepth 100000
set_option linter.unusedVariables false
namespace Mine

theorem Ex.noCase {C : Cx} {ρ : List (Str × D)} {own : List Own} {b : List Stmt} {Φ : Flow → Shared → Prop} {x : Str} {d : D} (h : ρ.lookup x = some d) (hk : C.env.kindOf x = none) : Ex C ρ own b Φ := fun s S => by
  obtain ⟨v, ⟨_, hv⟩, _⟩ := S.vars x d h
  rcases hv with ⟨q, _⟩ | ⟨q | ⟨q, _⟩, _⟩ <;> rw [hk] at q <;> cases q

noncomputable def cmpI (way a0 a1 b0 b1 : Int) : Int := if a0 < b0 then -way else if a0 > b0 then way else if a1 < b1 then -way else if a1 > b1 then way else 0

theorem fn158 {w : World} {n : Nat} {way a0 a1 b0 b1 : Int} : Fn w true (n + 1) 158 [.inst (.list [.tup [.int 0, .int way], .tup [.int 1, .int way]]), .tup [.int a0, .int a1], .tup [.int b0, .int b1]] (.int (cmpI way a0 a1 b0 b1)) := by
  refine k158.fn ["self", "left", "right"] (by kernel_rfl) (by decide) rfl (bind3 fun _ _ _ => rfl) fun A s F R => ?_
  have fin : ∀ (i : Nat) (x y v : Int) (R' : List Own) (ρ' : List (Str × D)), i < 2 → [a0, a1][i]? = some x → [b0, b1][i]? = some y → (x < y → cmpI way a0 a1 b0 b1 = -way) → (x > y → cmpI way a0 a1 b0 b1 = way) → (x = y → Sub ρ' [("left", .tup [.int a0, .int a1]), ("right", .tup [.int b0, .int b1])]) →
      Ex (mkC w A n true s F k158.fd 158) [("direction", .int way), ("index", .int i), ("left", .tup [.int a0, .int a1]), ("right", .tup [.int b0, .int b1])] ([] ++ R') (match k158.body with | .For _ _ b _ _ :: _ => b | _ => []) (Turn (mkC w A n true s F k158.fd 158) ρ' ([] ++ R') (Ret (mkC w A n true s F k158.fd 158) (.int (cmpI way a0 a1 b0 b1)))) := by
    intro i x y v R' ρ' hi hx hy h1 h2 h3
    refine Ex.assign (d := .int x) (Ev.item (Ev.name rfl) (Ev.name rfl) (i_tup (Int.natCast_nonneg i) (by omega +splitDisjunctions) ?_)) ?_
    · match i, hi with
      | 0, _ => cases hx; rfl
      | 1, _ => cases hx; rfl
    refine Ex.assign (d := .int y) (Ev.item (Ev.name rfl) (Ev.name rfl) (i_tup (Int.natCast_nonneg i) (by omega +splitDisjunctions) ?_)) ?_
    · match i, hi with
      | 0, _ => cases hy; rfl
      | 1, _ => cases hy; rfl
    refine Ex.ite (EvB.cmp (Ev.name rfl) (Ev.name rfl) o_lt) (fun h => ?_) fun h => Ex.done ?_
    · rw [h1 (of_decide_eq_true h)]
      exact Ex.ret (Ev.un (Ev.name rfl) o_neg) fun v s s' _ _ S' r => ⟨S'.ret fun _ => id, r.out fun _ => id⟩
    refine Ex.ite (EvB.cmp (Ev.name rfl) (Ev.name rfl) o_gt) (fun h' => ?_) fun h' => Ex.done ?_
    · rw [h2 (of_decide_eq_true h')]
      exact Ex.ret (Ev.name rfl) fun v s s' _ _ S' r => ⟨S'.ret fun _ => id, r.out fun _ => id⟩
    have e : x = y := by
      have := of_decide_eq_false h
      have := of_decide_eq_false h'
      omega +splitDisjunctions
    refine Ex.nil fun s S => ?_
    exact (S.sub (ρ' := [("left", .tup [.int a0, .int a1]), ("right", .tup [.int b0, .int b1])]) ⟨rfl, rfl, trivial⟩).sub (h3 e)
  refine Ex.forT (items := [.tup [.int 0, .int way], .tup [.int 1, .int way]]) (R := []) (xs := ["index", "direction"]) (fun i => [.int i, .int way])
    (fun i => if i = 0 ∨ (i = 1 ∧ a0 = b0) ∨ (i = 2 ∧ a0 = b0 ∧ a1 = b1) then [("left", .tup [.int a0, .int a1]), ("right", .tup [.int b0, .int b1])] else [("0", .none)]) (fun _ => [])
    (It.list (Ev.attr rfl rfl)) (by rw [if_pos (.inl rfl)]; exact ⟨rfl, rfl, trivial⟩) rfl (fun i d hd => ?_) (fun i R' hi => ?_) ?_
  · match i, hd with
    | 0, hd => cases hd; exact ⟨rfl, rfl⟩
    | 1, hd => cases hd; exact ⟨rfl, rfl⟩
  · have hi : i < 2 := hi
    by_cases hc : i = 0 ∨ (i = 1 ∧ a0 = b0) ∨ (i = 2 ∧ a0 = b0 ∧ a1 = b1)
    · rw [if_pos hc]
      match i, hi with
      | 0, _ =>
        refine fin 0 a0 b0 0 R' _ (by decide) rfl rfl (fun h => ?_) (fun h => ?_) fun h => ?_
        · unfold cmpI; rw [if_pos h]
        · unfold cmpI; rw [if_neg (by omega +splitDisjunctions), if_pos h]
        · rw [if_pos (by omega +splitDisjunctions)]; exact ⟨rfl, rfl, trivial⟩
      | 1, _ =>
        have h0 : a0 = b0 := by omega +splitDisjunctions
        refine fin 1 a1 b1 0 R' _ (by decide) rfl rfl (fun h => ?_) (fun h => ?_) fun h => ?_
        · unfold cmpI; rw [if_neg (by omega +splitDisjunctions), if_neg (by omega +splitDisjunctions), if_pos h]
        · unfold cmpI; rw [if_neg (by omega +splitDisjunctions), if_neg (by omega +splitDisjunctions), if_neg (by omega +splitDisjunctions), if_pos h]
        · rw [if_pos (by omega +splitDisjunctions)]; exact ⟨rfl, rfl, trivial⟩
    · rw [if_neg hc]
      exact Ex.noCase (x := "0") (d := .none) rfl rfl
  · show Ex _ (if (2 : Nat) = 0 ∨ ((2 : Nat) = 1 ∧ a0 = b0) ∨ ((2 : Nat) = 2 ∧ a0 = b0 ∧ a1 = b1) then _ else _) _ _ _
    by_cases hc : (2 : Nat) = 0 ∨ ((2 : Nat) = 1 ∧ a0 = b0) ∨ ((2 : Nat) = 2 ∧ a0 = b0 ∧ a1 = b1)
    · rw [if_pos hc]
      have e : cmpI way a0 a1 b0 b1 = 0 := by
        unfold cmpI; rw [if_neg (by omega +splitDisjunctions), if_neg (by omega +splitDisjunctions), if_neg (by omega +splitDisjunctions), if_neg (by omega +splitDisjunctions)]
      rw [e]
      exact Ex.retn Ev.int fun _ => id
    · rw [if_neg hc]
      exact Ex.noCase (x := "0") (d := .none) rfl rfl
end Mine

end

-- part F198d
section
open PySem PySem.W PyProof.Rows PySem.Calls
set_option maxRecDepth 100000
set_option linter.unusedVariables false
namespace Mine

noncomputable def stI (a : Addr) : Option BS → List (Str × D)
  | some b => [("rows", .addr a), ("turns", .int b.turns), ("last", .int b.last)]
  | none => [("0", .none)]
noncomputable def stO (a : Addr) (p : Nat → Addr) (f : Mx) : Option BS → List Own
  | some b => ownM a b.p b.f
  | none => ownM a p f

theorem fn198 {w : World} {lvl : Nat} (hl : 18 ≤ lvl) {f : Mx} (H : ∀ s g tu la t, s < 3 → runF f s = some (g, tu, la) → (fitB s g).head? = some t → FitM s la (fun k c => g (swapN s t k) c))
    (Hs : ∀ g tu la, runF f 3 = some (g, tu, la) → -(2 ^ 400) ≤ g 3 3 ∧ g 3 3 ≤ 2 ^ 400) (Ht : ∀ g tu la, runF f 3 = some (g, tu, la) → -(2 ^ 400) ≤ tu ∧ tu ≤ 2 ^ 400) :
    Fn w false (lvl + 1) 198 [tableD f] (.int (detB f)) := by
  refine k198.fn ["table"] (by kernel_rfl) (by decide) rfl (bind1 fun _ => rfl) fun A sh F R => ?_
  refine Ex.compOwn (items := (List.range 4).map fun k => .list (dInts (rowL (f k)))) (fun d => d) [] (It.list (Ev.name rfl)) (by exact Nat.le_of_ble_eq_true rfl) trivial (fun s L own' i d hd S => ?_) fun a ps hps => ?_
  · rw [List.getElem?_map] at hd
    obtain ⟨k, _, rfl⟩ := Option.map_eq_some_iff.mp hd
    exact EvN.listOf rfl (Ev.name rfl) (by show 4 ≤ 1000000; decide)
  obtain ⟨p0, p1, p2, p3, rfl⟩ : ∃ p0 p1 p2 p3, ps = [p0, p1, p2, p3] := by
    match ps, hps with
    | [p0, p1, p2, p3], _ => exact ⟨p0, p1, p2, p3, rfl⟩
  obtain ⟨p, hp⟩ : ∃ p : Nat → Addr, p = fun k => match k with | 0 => p0 | 1 => p1 | 2 => p2 | _ => p3 := ⟨_, rfl⟩
  have hown : ((.ob a (.list ([p0, p1, p2, p3].map D.addr)) :: (([p0, p1, p2, p3].zip ((List.range 4).map fun k => D.list (dInts (rowL (f k))))).map fun z => Own.ob z.1 z.2)) ++ ([] : List Own)) = ownM a p f ++ [] := by
    subst hp; rfl
  rw [hown]
  refine Ex.assign Ev.int ?_
  refine Ex.assign Ev.int ?_
  refine Ex.for (items := rangeD 0 3) (R := []) (fun i => stI a (runB f p i)) (fun i => stO a p f (runB f p i)) (It.range1 rfl Ev.int (by decide)) ⟨rfl, rfl, rfl, trivial⟩ rfl (fun i d R' hd => ?_) ?_
  · have hi : i < 3 := (List.getElem?_eq_some_iff.mp hd).1
    have hd' : d = .int (i : Int) := by
      rw [List.getElem?_map, List.getElem?_range hi] at hd
      cases hd
      show D.int _ = _
      congr 1; omega +splitDisjunctions
    subst hd'
    have hrel := run_rel f p i
    cases hrF : runF f i with
    | none =>
      rw [hrF] at hrel
      rw [hrel]
      exact Ex.noCase (x := "0") (d := .none) rfl rfl
    | some b =>
      rw [hrF] at hrel
      obtain ⟨p', hb⟩ := hrel
      obtain ⟨g, tu, la⟩ := b
      have hb : runB f p i = some ⟨g, p', tu, la⟩ := hb
      rw [hb]
      have hsucc : runB f p (i + 1) = ((fitB i g).head?).map fun t => stepB i ⟨g, p', tu, la⟩ t := by
        show (runB f p i).bind _ = _
        rw [hb]; rfl
      have hsuccF : runF f (i + 1) = ((fitB i g).head?).map fun t => (elimF i la (fun k c => g (swapN i t k) c) (3 - i) 0, (if t = i then tu else -tu), g (swapN i t i) i) := by
        show (runF f i).bind _ = _
        rw [hrF]; rfl
      have hi4 : i < 4 := by omega +splitDisjunctions
      show Ex (C198 w A lvl sh F) [("step", .int i), ("rows", .addr a), ("turns", .int tu), ("last", .int la)] (ownM a p' g ++ R') body198 _
      refine exAssignComp (fitG i g) [("rows", .addr a), ("step", .int i)] (It.range2 (n := 4 - i) rfl (Ev.name rfl) Ev.int (by omega +splitDisjunctions) (by omega +splitDisjunctions) (by omega +splitDisjunctions) (by omega +splitDisjunctions)) (by simp [sizeLine]; omega +splitDisjunctions) ⟨rfl, rfl, trivial⟩ (fun s L own' k d hd S => ?_) ?_
      · have hk : k < 4 - i := by
          have := (List.getElem?_eq_some_iff.mp hd).1
          simpa using this
        have hd' : d = .int ((i + k : Nat) : Int) := by
          rw [List.getElem?_map, List.getElem?_range hk] at hd
          cases hd
          show D.int _ = _
          (congr 1; try omega +splitDisjunctions)
        subst hd'
        have hik : i + k < 4 := by omega +splitDisjunctions
        have e : fitG i g (.int ((i + k : Nat) : Int)) = if g (i + k) i != 0 then some (.int ((i + k : Nat) : Int)) else none := by
          show (if g ((i + k : Nat) : Int).toNat i != 0 then _ else _) = _
          rw [Int.toNat_natCast]
        rw [e]
        cases hc : g (i + k) i != 0 with
        | true => exact ⟨ifs_one (EvB.as (EvB.cmp (Ev.cell (p := p') (f := g) (a := i + k) (b := i) (Ev.name rfl) (Ev.name rfl) (Ev.name rfl) (HasO.outer S (.head _) rfl) (HasO.outer S (List.mem_append_left _ (.tail _ (List.mem_map.mpr ⟨i + k, List.mem_range.mpr hik, rfl⟩))) rfl) hik hi4) Ev.int o_ne) hc), Ev.name rfl⟩
        | false => exact ifs_one (EvB.as (EvB.cmp (Ev.cell (p := p') (f := g) (a := i + k) (b := i) (Ev.name rfl) (Ev.name rfl) (Ev.name rfl) (HasO.outer S (.head _) rfl) (HasO.outer S (List.mem_append_left _ (.tail _ (List.mem_map.mpr ⟨i + k, List.mem_range.mpr hik, rfl⟩))) rfl) hik hi4) Ev.int o_ne) hc)
      rw [fitG_list hi4]
      have hn : 11 ≤ (C198 w A lvl sh F).n := by show 11 ≤ lvl; omega +splitDisjunctions
      cases hfit : fitB i g with
      | nil =>
        have hdet : detB f = 0 := by
          have h0 : runF f (i + 1) = none := by rw [hsuccF, hfit]; rfl
          unfold detB
          rw [runF_none h0 3 (by omega +splitDisjunctions)]
        refine Ex.ite (c := true) (EvB.cmp (Ev.name rfl) (Ev.as (d' := .list (dInts [])) (Ev.list EvL.nil) rfl) (o_eq_ints hn)) (fun _ => ?_) (fun h => nomatch h)
        rw [hdet]
        exact Ex.ret Ev.int fun v s s' _ _ S' r => ⟨S'.ret fun _ => id, r.out fun _ => id⟩
      | cons t rr =>
        obtain ⟨ht1, ht2, ht3⟩ := fit_head hfit
        have hFit := H i g tu la t hi hrF (by rw [hfit]; rfl)
        have hst : runB f p (i + 1) = some ⟨elimF i la (fun k c => g (swapN i t k) c) (3 - i) 0, fun k => p' (swapN i t k), if t = i then tu else -tu, g (swapN i t i) i⟩ := by rw [hsucc, hfit]; rfl
        refine Ex.ite (c := false) (EvB.as (EvB.cmp (Ev.name rfl) (Ev.as (d' := .list (dInts [])) (Ev.list EvL.nil) rfl) (o_eq_ints hn)) (by simp)) (fun h => nomatch h) (fun _ => Ex.done ?_)
        have cont : ∀ (ρ' : List (Str × D)), Sub [("step", .int i), ("rows", .addr a), ("turns", .int (if t = i then tu else -tu)), ("last", .int la)] ρ' →
            Ex (C198 w A lvl sh F) ρ' (ownM a (fun k => p' (swapN i t k)) (fun k c => g (swapN i t k) c) ++ R') (body198.drop 3) (Turn (C198 w A lvl sh F) (stI a (runB f p (i + 1))) (stO a p f (runB f p (i + 1)) ++ R') (Ret (C198 w A lvl sh F) (.int (detB f)))) := by
          intro ρ' hρ'
          refine Ex.sub ?_ hρ'
          refine Ex.assign (d := .addr (p' (swapN i t i))) (Ev.itemO (Ev.name rfl) (Ev.name rfl) (HasO.mem (.head _)) (Int.natCast_nonneg i) (by omega +splitDisjunctions) (by rw [Int.toNat_natCast]; exact adL_get (p := fun k => p' (swapN i t k)) hi4)) ?_
          refine elim_walk hl hi (p := fun k => p' (swapN i t k)) hFit ⟨rfl, rfl, rfl, rfl, rfl, trivial⟩ ?_
          refine Ex.assign (d := .int (g (swapN i t i) i)) (Ev.as (Ev.itemO (Ev.name rfl) (Ev.name rfl) (HasO.row (p := fun k => p' (swapN i t k)) hi4) (Int.natCast_nonneg i) (by omega +splitDisjunctions) (by rw [Int.toNat_natCast]; exact rowL_get hi4)) ?_) ?_
          · rw [elim_read (.inl (Nat.le_refl _))]
          · rw [hst]
            exact Ex.turn ⟨rfl, rfl, rfl, trivial⟩
        by_cases hti : t = i
        · subst hti
          refine Ex.ite (c := false) (EvB.as (EvB.cmp (Ev.item (Ev.name rfl) Ev.int (i_list (d := .int (t : Int)) (by decide) (by decide) rfl)) (Ev.name rfl) o_ne) (by simp)) (fun h => nomatch h) (fun _ => Ex.done ?_)
          have e1 : (fun k => p' (swapN t t k)) = p' := by rw [swap_same]
          have e2 : (fun k c => g (swapN t t k) c) = g := by rw [swap_same]
          rw [e1, e2] at cont
          exact cont _ ⟨rfl, rfl, by rw [if_pos rfl]; rfl, rfl, trivial⟩
        · refine Ex.ite (c := true) (EvB.as (EvB.cmp (Ev.item (Ev.name rfl) Ev.int (i_list (d := .int (t : Int)) (by decide) (by decide) rfl)) (Ev.name rfl) o_ne) (by simpa using fun q => hti (by omega +splitDisjunctions))) (fun _ => ?_) (fun h => nomatch h)
          have hfi : ∀ own', Ev (C198 w A lvl sh F) (("fit", .list (dInts ((t :: rr).map fun r : Nat => (r : Int)))) :: [("step", .int i), ("rows", .addr a), ("turns", .int tu), ("last", .int la)]) own' (.Subscript (.Name "fit" ⟨176, 29, 176, 32⟩) (.Constant (.int 0) 0 ⟨176, 33, 176, 34⟩) ⟨176, 29, 176, 35⟩) (.int (t : Int)) := fun own' => Ev.item (Ev.name rfl) Ev.int (i_list (by decide) (by decide) rfl)
          refine Ex.swapItems (k1 := (i : Int)) (k2 := (t : Int)) (d1 := .addr (p' t)) (d2 := .addr (p' i)) (Ev.tuple (EvL.cons (Ev.itemO (Ev.name rfl) (Ev.item (Ev.name rfl) Ev.int (i_list (d := .int (t : Int)) (by decide) (by decide) rfl)) (HasO.mem (.head _)) (Int.natCast_nonneg t) (by omega +splitDisjunctions) (by rw [Int.toNat_natCast]; exact adL_get ht2)) (EvL.cons (Ev.itemO (Ev.name rfl) (Ev.name rfl) (HasO.mem (.head _)) (Int.natCast_nonneg i) (by omega +splitDisjunctions) (by rw [Int.toNat_natCast]; exact adL_get hi4)) EvL.nil)))
            (Ev.name rfl) (Ev.name rfl) (Ev.name rfl) (Ev.item (Ev.name rfl) Ev.int (i_list (d := .int (t : Int)) (by decide) (by decide) rfl)) (Int.natCast_nonneg i) (by show (i : Int) < 4; omega +splitDisjunctions) (Int.natCast_nonneg t) (by show (t : Int) < 4; omega +splitDisjunctions) (by show 4 ≤ 1000000; decide) ?_
          rw [Int.toNat_natCast, Int.toNat_natCast, adL_swap hi4 ht2]
          refine Ex.assign (Ev.un (Ev.name rfl) o_neg) ?_
          refine Ex.done ?_
          refine Ex.perm (cont _ ⟨rfl, rfl, by rw [if_neg hti]; rfl, rfl, trivial⟩) (own_swap hi4 ht2)
  · have hrel := run_rel f p 3
    have e3 : (rangeD 0 3).length = 3 := rfl
    rw [e3]
    cases hrF : runF f 3 with
    | none =>
      rw [hrF] at hrel
      rw [hrel]
      exact Ex.noCase (x := "0") (d := .none) rfl rfl
    | some b =>
      rw [hrF] at hrel
      obtain ⟨p', hb⟩ := hrel
      obtain ⟨g, tu, la⟩ := b
      have hb : runB f p 3 = some ⟨g, p', tu, la⟩ := hb
      rw [hb]
      have hdet : detB f = tu * g 3 3 := by unfold detB; rw [hrF]
      rw [hdet]
      have z1 := Ht g tu la hrF
      have z2 := Hs g tu la hrF
      refine Ex.retn (Ev.bin (Ev.name rfl) (Ev.cell (p := p') (f := g) (a := 3) (b := 3) (Ev.name rfl) Ev.int Ev.int (HasO.mem (.head _)) (HasO.row (by decide)) (by decide) (by decide)) (o_mul (IntMulOk.of_bits (bits_400 z1.1 z1.2) (bits_400 z2.1 z2.2)))) fun _ => id
end Mine

end

-- part PD1
section
open PySem PySem.W PyProof.Rows PySem.Calls
set_option maxRecDepth 100000
set_option maxHeartbeats 1000000
set_option linter.unusedVariables false
namespace Mine

noncomputable def m1 (g : Mx) (a c : Nat) : Int := g a c * g 0 0 - g a 0 * g 0 c
noncomputable def d3 (g : Mx) (a c : Nat) : Int := g 0 0 * (g 1 1 * g a c - g 1 c * g a 1) - g 0 1 * (g 1 0 * g a c - g 1 c * g a 0) + g 0 c * (g 1 0 * g a 1 - g 1 1 * g a 0)
noncomputable def det4 (g : Mx) : Int :=
  g 0 0 * (g 1 1 * (g 2 2 * g 3 3 - g 2 3 * g 3 2) - g 1 2 * (g 2 1 * g 3 3 - g 2 3 * g 3 1) + g 1 3 * (g 2 1 * g 3 2 - g 2 2 * g 3 1))
  - g 0 1 * (g 1 0 * (g 2 2 * g 3 3 - g 2 3 * g 3 2) - g 1 2 * (g 2 0 * g 3 3 - g 2 3 * g 3 0) + g 1 3 * (g 2 0 * g 3 2 - g 2 2 * g 3 0))
  + g 0 2 * (g 1 0 * (g 2 1 * g 3 3 - g 2 3 * g 3 1) - g 1 1 * (g 2 0 * g 3 3 - g 2 3 * g 3 0) + g 1 3 * (g 2 0 * g 3 1 - g 2 1 * g 3 0))
  - g 0 3 * (g 1 0 * (g 2 1 * g 3 2 - g 2 2 * g 3 1) - g 1 1 * (g 2 0 * g 3 2 - g 2 2 * g 3 0) + g 1 2 * (g 2 0 * g 3 1 - g 2 1 * g 3 0))
theorem m1_d3 (g : Mx) (a c : Nat) : m1 g a c * m1 g 1 1 - m1 g a 1 * m1 g 1 c = g 0 0 * d3 g a c := by
  unfold m1 d3; grind
theorem d3_det4 (g : Mx) : d3 g 3 3 * d3 g 2 2 - d3 g 3 2 * d3 g 2 3 = m1 g 1 1 * det4 g := by
  unfold m1 d3 det4; grind
theorem det_swap (g : Mx) {s t : Nat} (hs : s < 3) (h1 : s ≤ t) (h2 : t < 4) : det4 (fun k c => g (swapN s t k) c) = if t = s then det4 g else -det4 g := by
  match s, t, hs, h1, h2 with
  | 0, 0, _, _, _ | 1, 1, _, _, _ | 2, 2, _, _, _ => simp [swapN, det4]
  | 0, 1, _, _, _ | 0, 2, _, _, _ | 0, 3, _, _, _ | 1, 2, _, _, _ | 1, 3, _, _, _ | 2, 3, _, _, _ => simp only [swapN, det4]; simp; grind
end Mine

end

-- part PD2
section
open PySem PySem.W PyProof.Rows PySem.Calls
set_option maxRecDepth 100000
set_option maxHeartbeats 1000000
set_option linter.unusedVariables false
namespace Mine

/-- the state of the elimination, told by the rows in their present order -/
noncomputable def InvB (f : Mx) : Nat → Mx → Int → Int → Prop
  | 0, g, tu, la => g = f ∧ tu = 1 ∧ la = 1
  | 1, g, tu, la => ∃ G : Mx, (∀ a, ∃ b, b < 4 ∧ (a < 4 → ∀ c, G a c = f b c)) ∧ (tu = 1 ∨ tu = -1) ∧ tu * det4 G = det4 f ∧ G 0 0 ≠ 0 ∧ la = G 0 0 ∧ ∀ a c, 1 ≤ a → a < 4 → 1 ≤ c → c < 4 → g a c = m1 G a c
  | 2, g, tu, la => ∃ G : Mx, (∀ a, ∃ b, b < 4 ∧ (a < 4 → ∀ c, G a c = f b c)) ∧ (tu = 1 ∨ tu = -1) ∧ tu * det4 G = det4 f ∧ G 0 0 ≠ 0 ∧ m1 G 1 1 ≠ 0 ∧ la = m1 G 1 1 ∧ ∀ a c, 2 ≤ a → a < 4 → 2 ≤ c → c < 4 → g a c = d3 G a c
  | _, g, tu, la => ∃ G : Mx, (∀ a, ∃ b, b < 4 ∧ (a < 4 → ∀ c, G a c = f b c)) ∧ (tu = 1 ∨ tu = -1) ∧ tu * det4 G = det4 f ∧ g 3 3 = det4 G
theorem swap_lt {s t k : Nat} (hs : s < 4) (ht : t < 4) (hk : k < 4) : swapN s t k < 4 := by unfold swapN; split <;> (try split) <;> omega
theorem inv0 {f g : Mx} {tu la : Int} (h : runF f 1 = some (g, tu, la)) : InvB f 1 g tu la := by
  have h : ((fitB 0 f).head?).map (fun t => (elimF 0 1 (fun k c => f (swapN 0 t k) c) (3 - 0) 0, (if t = 0 then (1 : Int) else -1), f (swapN 0 t 0) 0)) = some (g, tu, la) := h
  cases hf : fitB 0 f with
  | nil => rw [hf] at h; cases h
  | cons t r =>
    rw [hf] at h
    obtain ⟨_, h2, h3⟩ := fit_head hf
    cases h
    have hsw := det_swap f (s := 0) (t := t) (by decide) (Nat.zero_le _) h2
    have h0 : swapN 0 t 0 = t := by unfold swapN; rw [if_pos rfl]
    refine ⟨fun k c => f (swapN 0 t k) c, fun a => ?_, ?_, ?_, ?_, rfl, fun a c a1 a2 c1 c2 => ?_⟩
    · by_cases ha : a < 4
      · exact ⟨swapN 0 t a, swap_lt (by decide) h2 ha, fun _ _ => rfl⟩
      · exact ⟨0, by decide, fun q => absurd q ha⟩
    · split <;> simp
    · rw [hsw]; split <;> simp
    · show f (swapN 0 t 0) 0 ≠ 0
      rw [h0]; exact h3
    · unfold elimF
      rw [if_pos (by omega)]
      unfold gB m1
      simp
theorem swap_idx {s t k : Nat} (hs : s < t ∨ s = t) (hk : k < s) : swapN s t k = k := by unfold swapN; rw [if_neg (by omega), if_neg (by omega)]
theorem swap_ge {s t k : Nat} (hst : s ≤ t) (hk : s ≤ k) : s ≤ swapN s t k := by unfold swapN; split <;> (try split) <;> omega
theorem inv1 {f g1 g : Mx} {tu1 la1 tu la : Int} (h1 : runF f 1 = some (g1, tu1, la1)) (I : InvB f 1 g1 tu1 la1) (h : runF f 2 = some (g, tu, la)) : InvB f 2 g tu la := by
  have h : (runF f 1).bind (fun b => ((fitB 1 b.1).head?).map fun t => (elimF 1 b.2.2 (fun k c => b.1 (swapN 1 t k) c) (3 - 1) 0, (if t = 1 then b.2.1 else -b.2.1), b.1 (swapN 1 t 1) 1)) = some (g, tu, la) := h
  rw [h1] at h
  have h : ((fitB 1 g1).head?).map (fun t => (elimF 1 la1 (fun k c => g1 (swapN 1 t k) c) (3 - 1) 0, (if t = 1 then tu1 else -tu1), g1 (swapN 1 t 1) 1)) = some (g, tu, la) := h
  obtain ⟨G, i1, i2, i3, i4, i5, i6⟩ := I
  cases hf : fitB 1 g1 with
  | nil => rw [hf] at h; cases h
  | cons t r =>
    rw [hf] at h
    obtain ⟨q1, q2, q3⟩ := fit_head hf
    cases h
    have hsw := det_swap G (s := 1) (t := t) (by decide) q1 q2
    have h0 : swapN 1 t 0 = 0 := swap_idx (by omega) (by decide)
    have hm : ∀ a c, 1 ≤ a → a < 4 → 1 ≤ c → c < 4 → g1 (swapN 1 t a) c = m1 (fun k c => G (swapN 1 t k) c) a c := fun a c a1 a2 c1 c2 => by
      rw [i6 _ _ (swap_ge q1 a1) (swap_lt (by decide) q2 a2) c1 c2]
      unfold m1
      simp only [h0]
    refine ⟨fun k c => G (swapN 1 t k) c, fun a => ?_, ?_, ?_, ?_, ?_, hm 1 1 (by decide) (by decide) (by decide) (by decide), fun a c a1 a2 c1 c2 => ?_⟩
    · by_cases ha : a < 4
      · obtain ⟨b, hb, e⟩ := i1 (swapN 1 t a)
        exact ⟨b, hb, fun _ c => e (swap_lt (by decide) q2 ha) c⟩
      · exact ⟨0, by decide, fun q => absurd q ha⟩
    · split <;> omega
    · rw [hsw, ← i3]; split <;> grind
    · show G (swapN 1 t 0) 0 ≠ 0
      rw [h0]; exact i4
    · rw [← hm 1 1 (by decide) (by decide) (by decide) (by decide)]
      have : swapN 1 t 1 = t := by unfold swapN; rw [if_pos rfl]
      rw [this]; exact q3
    · unfold elimF
      rw [if_pos (by omega)]
      unfold gB
      simp only
      rw [hm a c (by omega) a2 (by omega) c2, hm 1 1 (by decide) (by decide) (by decide) (by decide), hm a 1 (by omega) a2 (by decide) (by decide), hm 1 c (by decide) (by decide) (by omega) c2, m1_d3, if_pos (by decide), i5]
      show G (swapN 1 t 0) 0 * _ / _ = _
      rw [h0, Int.mul_ediv_cancel_left _ i4]
theorem inv2 {f g1 g : Mx} {tu1 la1 tu la : Int} (h1 : runF f 2 = some (g1, tu1, la1)) (I : InvB f 2 g1 tu1 la1) (h : runF f 3 = some (g, tu, la)) : InvB f 3 g tu la := by
  have h : (runF f 2).bind (fun b => ((fitB 2 b.1).head?).map fun t => (elimF 2 b.2.2 (fun k c => b.1 (swapN 2 t k) c) (3 - 2) 0, (if t = 2 then b.2.1 else -b.2.1), b.1 (swapN 2 t 2) 2)) = some (g, tu, la) := h
  rw [h1] at h
  have h : ((fitB 2 g1).head?).map (fun t => (elimF 2 la1 (fun k c => g1 (swapN 2 t k) c) (3 - 2) 0, (if t = 2 then tu1 else -tu1), g1 (swapN 2 t 2) 2)) = some (g, tu, la) := h
  obtain ⟨G, i1, i2, i3, i4, i7, i5, i6⟩ := I
  cases hf : fitB 2 g1 with
  | nil => rw [hf] at h; cases h
  | cons t r =>
    rw [hf] at h
    obtain ⟨q1, q2, q3⟩ := fit_head hf
    cases h
    have hsw := det_swap G (s := 2) (t := t) (by decide) q1 q2
    have h0 : swapN 2 t 0 = 0 := swap_idx (by omega) (by decide)
    have h1' : swapN 2 t 1 = 1 := swap_idx (by omega) (by decide)
    have hm : ∀ a c, 2 ≤ a → a < 4 → 2 ≤ c → c < 4 → g1 (swapN 2 t a) c = d3 (fun k c => G (swapN 2 t k) c) a c := fun a c a1 a2 c1 c2 => by
      rw [i6 _ _ (swap_ge q1 a1) (swap_lt (by decide) q2 a2) c1 c2]
      unfold d3
      simp only [h0, h1']
    refine ⟨fun k c => G (swapN 2 t k) c, fun a => ?_, ?_, ?_, ?_⟩
    · by_cases ha : a < 4
      · obtain ⟨b, hb, e⟩ := i1 (swapN 2 t a)
        exact ⟨b, hb, fun _ c => e (swap_lt (by decide) q2 ha) c⟩
      · exact ⟨0, by decide, fun q => absurd q ha⟩
    · split <;> omega
    · rw [hsw, ← i3]; split <;> grind
    · have e1 : m1 (fun k c => G (swapN 2 t k) c) 1 1 = m1 G 1 1 := by unfold m1; simp only [h0, h1']
      unfold elimF
      rw [if_pos (by omega)]
      unfold gB
      simp only
      rw [hm 3 3 (by decide) (by decide) (by decide) (by decide), hm 2 2 (by decide) (by decide) (by decide) (by decide), hm 3 2 (by decide) (by decide) (by decide) (by decide), hm 2 3 (by decide) (by decide) (by decide) (by decide), d3_det4, if_pos (by decide), i5, e1, Int.mul_ediv_cancel_left _ i7]
end Mine

end

-- part PD3
section
open PySem PySem.W PyProof.Rows PySem.Calls
set_option maxRecDepth 100000
set_option maxHeartbeats 1000000
set_option linter.unusedVariables false
namespace Mine
theorem fit_none {s : Nat} {g : Mx} (h : fitB s g = []) {a : Nat} (h1 : s ≤ a) (h2 : a < 4) : g a s = 0 := by
  have := List.filter_eq_nil_iff.mp h a (List.mem_range'_1.mpr (by omega +splitDisjunctions))
  simpa using this
theorem zero0 {f : Mx} (h : fitB 0 f = []) : det4 f = 0 := by
  have e0 := fit_none h (Nat.zero_le 0) (by decide)
  have e1 := fit_none h (Nat.zero_le 1) (by decide)
  have e2 := fit_none h (Nat.zero_le 2) (by decide)
  have e3 := fit_none h (Nat.zero_le 3) (by decide)
  unfold det4
  rw [e0, e1, e2, e3]
  grind
theorem zero1 {G : Mx} (h0 : G 0 0 ≠ 0) (e1 : m1 G 1 1 = 0) (e2 : m1 G 2 1 = 0) (e3 : m1 G 3 1 = 0) : det4 G = 0 := by
  have k : G 0 0 * (G 0 0 * det4 G) = m1 G 1 1 * (m1 G 2 2 * m1 G 3 3 - m1 G 2 3 * m1 G 3 2) - m1 G 2 1 * (m1 G 1 2 * m1 G 3 3 - m1 G 1 3 * m1 G 3 2) + m1 G 3 1 * (m1 G 1 2 * m1 G 2 3 - m1 G 1 3 * m1 G 2 2) := by
    unfold m1 det4; grind
  rw [e1, e2, e3] at k
  simp only [Int.zero_mul, Int.sub_self, Int.add_zero, Int.mul_eq_zero] at k
  exact (k.resolve_left h0).resolve_left h0
theorem zero2 {G : Mx} (h0 : m1 G 1 1 ≠ 0) (e1 : d3 G 2 2 = 0) (e2 : d3 G 3 2 = 0) : det4 G = 0 := by
  have k := d3_det4 G
  rw [e1, e2] at k
  simp only [Int.mul_zero, Int.zero_mul, Int.sub_self] at k
  exact (Int.mul_eq_zero.mp k.symm).resolve_left h0
end Mine

end

-- part PD4
section
open PySem PySem.W PyProof.Rows PySem.Calls
set_option maxRecDepth 100000
set_option maxHeartbeats 1000000
set_option linter.unusedVariables false
namespace Mine
theorem runF_succ {f : Mx} {s : Nat} {b : Mx × Int × Int} (h : runF f s = some b) (hn : runF f (s + 1) = none) : fitB s b.1 = [] := by
  have hn : (runF f s).bind (fun b => ((fitB s b.1).head?).map fun t => (elimF s b.2.2 (fun k c => b.1 (swapN s t k) c) (3 - s) 0, (if t = s then b.2.1 else -b.2.1), b.1 (swapN s t s) s)) = none := hn
  rw [h] at hn
  have hn : ((fitB s b.1).head?).map (fun t => (elimF s b.2.2 (fun k c => b.1 (swapN s t k) c) (3 - s) 0, (if t = s then b.2.1 else -b.2.1), b.1 (swapN s t s) s)) = none := hn
  cases hf : fitB s b.1 with
  | nil => rfl
  | cons t r => rw [hf] at hn; cases hn
theorem inv_all {f : Mx} : ∀ s, s ≤ 3 → ∀ g tu la, runF f s = some (g, tu, la) → InvB f s g tu la := by
  have i1 : ∀ g tu la, runF f 1 = some (g, tu, la) → InvB f 1 g tu la := fun g tu la h => inv0 h
  have i2 : ∀ g tu la, runF f 2 = some (g, tu, la) → InvB f 2 g tu la := fun g tu la h => by
    cases h1 : runF f 1 with
    | none => exact absurd (runF_none h1 2 (by decide)) (by rw [h]; simp)
    | some b => exact inv1 h1 (i1 _ _ _ h1) h
  intro s hs g tu la h
  match s, hs with
  | 0, _ => cases h; exact ⟨rfl, rfl, rfl⟩
  | 1, _ => exact i1 g tu la h
  | 2, _ => exact i2 g tu la h
  | 3, _ =>
    cases h2 : runF f 2 with
    | none => exact absurd (runF_none h2 3 (by decide)) (by rw [h]; simp)
    | some b => exact inv2 h2 (i2 _ _ _ h2) h
theorem detB_eq (f : Mx) : detB f = det4 f := by
  unfold detB
  cases h3 : runF f 3 with
  | some b =>
    obtain ⟨G, _, _, h, e⟩ := inv_all 3 (Nat.le_refl 3) _ _ _ h3
    show b.2.1 * b.1 3 3 = det4 f
    rw [e, h]
  | none =>
    show 0 = det4 f
    cases h1 : runF f 1 with
    | none => rw [zero0 (runF_succ (b := (f, 1, 1)) rfl h1)]
    | some b1 =>
      obtain ⟨G, _, ht, h, g0, _, hm⟩ := inv_all 1 (by decide) _ _ _ h1
      cases h2 : runF f 2 with
      | none =>
        have hf := runF_succ h1 h2
        rw [← h, zero1 g0 (by rw [← hm 1 1 (by decide) (by decide) (by decide) (by decide)]; exact fit_none hf (by decide) (by decide)) (by rw [← hm 2 1 (by decide) (by decide) (by decide) (by decide)]; exact fit_none hf (by decide) (by decide)) (by rw [← hm 3 1 (by decide) (by decide) (by decide) (by decide)]; exact fit_none hf (by decide) (by decide))]
        simp
      | some b2 =>
        obtain ⟨G, _, ht, h, g0, g1, _, hm⟩ := inv_all 2 (by decide) _ _ _ h2
        have hf := runF_succ h2 h3
        rw [← h, zero2 g1 (by rw [← hm 2 2 (by decide) (by decide) (by decide) (by decide)]; exact fit_none hf (by decide) (by decide)) (by rw [← hm 3 2 (by decide) (by decide) (by decide) (by decide)]; exact fit_none hf (by decide) (by decide))]
        simp
end Mine

end

-- part PD5
section
open PySem PySem.W PyProof.Rows PySem.Calls
set_option maxRecDepth 100000
set_option maxHeartbeats 1000000
set_option linter.unusedVariables false
namespace Mine
theorem nab_mul {x y : Int} {A B : Nat} (hx : x.natAbs ≤ A) (hy : y.natAbs ≤ B) : (x * y).natAbs ≤ A * B := by
  rw [Int.natAbs_mul]; exact Nat.mul_le_mul hx hy
theorem nab_sub {x y : Int} {A B : Nat} (hx : x.natAbs ≤ A) (hy : y.natAbs ≤ B) : (x - y).natAbs ≤ A + B := by omega +splitDisjunctions
noncomputable def Small (f : Mx) : Prop := ∀ a c, a < 4 → c < 4 → (f a c).natAbs ≤ 9
end Mine

end

-- part MD1
section
open PySem PySem.W PyProof.Rows PySem.Calls
set_option maxRecDepth 100000
set_option linter.unusedVariables false
namespace Mine

noncomputable def storedD (l : List (Int × D)) (k : Int) (d : D) : List (Int × D) := if l.any (fun p => p.1 = k) then l.map (fun p => if p.1 = k then (p.1, d) else p) else l ++ [(k, d)]
noncomputable def valueD (l : List (Int × D)) (k : Int) : Option D := (l.find? fun p => p.1 = k).map (·.2)

noncomputable def RdKV (w : World) (s : Shared) (F : Addr → Prop) (kvs : List (Int × Value)) (ds : List (Int × D)) : Prop :=
  kvs.map (·.1) = ds.map (·.1) ∧ ∀ (i : Nat) (v : Value) (d : D), (kvs.map (·.2))[i]? = some v → (ds.map (·.2))[i]? = some d → Rd w s F v d

section
variable {w : World} {s : Shared} {F : Addr → Prop}
theorem RdKV.nil : RdKV w s F [] [] := ⟨rfl, fun i v d h => by simp at h⟩
theorem RdKV.cons {k : Int} {v : Value} {d : D} {kvs : List (Int × Value)} {ds : List (Int × D)} (h : Rd w s F v d) (r : RdKV w s F kvs ds) : RdKV w s F ((k, v) :: kvs) ((k, d) :: ds) := by
  refine ⟨by simp [r.1], fun i v' d' h1 h2 => ?_⟩
  cases i with
  | zero => simp at h1 h2; subst h1 h2; exact h
  | succ i => simp only [List.map_cons, List.getElem?_cons_succ] at h1 h2; exact r.2 i v' d' h1 h2
theorem RdKV.uncons {k k' : Int} {v : Value} {d : D} {kvs : List (Int × Value)} {ds : List (Int × D)} (r : RdKV w s F ((k, v) :: kvs) ((k', d) :: ds)) : k = k' ∧ Rd w s F v d ∧ RdKV w s F kvs ds := by
  have h := r.1
  simp only [List.map_cons, List.cons.injEq] at h
  exact ⟨h.1, r.2 0 v d rfl rfl, h.2, fun i v' d' h1 h2 => r.2 (i + 1) v' d' (by simpa using h1) (by simpa using h2)⟩
theorem RdKV.len {kvs : List (Int × Value)} {ds : List (Int × D)} (r : RdKV w s F kvs ds) : kvs.length = ds.length := by
  have := congrArg List.length r.1
  simpa using this
theorem RdKV.any {kvs : List (Int × Value)} {ds : List (Int × D)} {k : Int} (r : RdKV w s F kvs ds) : kvs.any (fun p => p.1 = k) = ds.any (fun p => p.1 = k) := by
  have e1 : kvs.any (fun p => p.1 = k) = (kvs.map (·.1)).any (fun x => x = k) := by rw [List.any_map]; rfl
  have e2 : ds.any (fun p => p.1 = k) = (ds.map (·.1)).any (fun x => x = k) := by rw [List.any_map]; rfl
  rw [e1, e2, r.1]
theorem RdKV.put {k : Int} {v : Value} {d : D} (h : Rd w s F v d) : ∀ {kvs : List (Int × Value)} {ds : List (Int × D)}, RdKV w s F kvs ds → RdKV w s F (kvs.map (fun p => if p.1 = k then (p.1, v) else p)) (ds.map (fun p => if p.1 = k then (p.1, d) else p))
  | [], [], _ => .nil
  | [], _ :: _, r => absurd r.len (by simp)
  | _ :: _, [], r => absurd r.len (by simp)
  | (a, x) :: kvs, (b, y) :: ds, r => by
    obtain ⟨rfl, h1, h2⟩ := r.uncons
    rw [List.map_cons, List.map_cons]
    by_cases ha : a = k
    · simp only [ha, if_true]; exact .cons h (RdKV.put h h2)
    · simp only [ha, if_false]; exact .cons h1 (RdKV.put h h2)
theorem RdKV.snoc {k : Int} {v : Value} {d : D} (h : Rd w s F v d) : ∀ {kvs : List (Int × Value)} {ds : List (Int × D)}, RdKV w s F kvs ds → RdKV w s F (kvs ++ [(k, v)]) (ds ++ [(k, d)])
  | [], [], _ => .cons h .nil
  | [], _ :: _, r => absurd r.len (by simp)
  | _ :: _, [], r => absurd r.len (by simp)
  | (a, x) :: kvs, (b, y) :: ds, r => by
    obtain ⟨rfl, h1, h2⟩ := r.uncons
    exact .cons h1 (RdKV.snoc h h2)
theorem RdKV.stored {kvs : List (Int × Value)} {ds : List (Int × D)} {k : Int} {v : Value} {d : D} (h : Rd w s F v d) (r : RdKV w s F kvs ds) : RdKV w s F (PySem.stored kvs k v) (storedD ds k d) := by
  unfold PySem.stored storedD
  rw [r.any]
  split
  · exact r.put h
  · exact r.snoc h
theorem RdKV.value {k : Int} : ∀ {kvs : List (Int × Value)} {ds : List (Int × D)}, RdKV w s F kvs ds → ((valueAt kvs k).isSome = (valueD ds k).isSome) ∧ ∀ d, valueD ds k = some d → ∃ v, valueAt kvs k = some v ∧ Rd w s F v d
  | [], [], _ => ⟨rfl, fun d h => nomatch h⟩
  | [], _ :: _, r => absurd r.len (by simp)
  | _ :: _, [], r => absurd r.len (by simp)
  | (a, x) :: kvs, (b, y) :: ds, r => by
    obtain ⟨rfl, h1, h2⟩ := r.uncons
    unfold valueAt valueD
    rw [List.find?_cons, List.find?_cons]
    by_cases ha : a = k
    · simp only [ha, decide_true]
      exact ⟨rfl, fun d h => by cases h; exact ⟨x, rfl, h1⟩⟩
    · simp only [ha, decide_false]
      exact RdKV.value h2
theorem RdKV.mono {s' : Shared} {F' : Addr → Prop} {kvs : List (Int × Value)} {ds : List (Int × D)} (hk : ∀ a o, ¬ F a → Solid o → s.heap.get? a = some o → s'.heap.get? a = some o ∧ ¬ F' a) (ht : s.toks ≤ s'.toks) (r : RdKV w s F kvs ds) : RdKV w s' F' kvs ds :=
  ⟨r.1, fun i v d h1 h2 => (r.2 i v d h1 h2).mono hk ht⟩
end
theorem Rd.dict_inv {w : World} {s : Shared} {F : Addr → Prop} {v : Value} {ds : List (Int × D)} (r : Rd w s F v (.dict ds)) : ∃ a kvs, v = .ref a ∧ s.heap.DictOf (intKind PG w) a kvs ∧ (a == sysModules) = false ∧ ¬ F a ∧ RdKV w s F kvs ds := by
  cases r with
  | dict ht hm hf hl hr => exact ⟨_, _, rfl, ht, hm, hf, hl, hr⟩
theorem OwnRd.dict_inv {w : World} {s : Shared} {F : Addr → Prop} {a : Addr} {ds : List (Int × D)} (r : OwnRd w s F a (.dict ds)) : ∃ kvs, s.heap.DictOf (intKind PG w) a kvs ∧ (a == sysModules) = false ∧ RdKV w s F kvs ds := by
  cases r with
  | dict ht hm hl hr => exact ⟨_, ht, hm, hl, hr⟩

theorem not_modules {h : Heap} (t : Tabs h) : (h.objs.size == sysModules) = false := by
  have := size_gt t
  show (h.objs.size == 1) = false
  simp; omega

section
variable {C : Cx} {ρ : List (Str × D)} {own R : List Own} {rest : List Stmt} {Φ : Flow → Shared → Prop}

theorem EvN.dict {pos : Pos} : EvN C ρ own (.Dict [] [] pos) (.dict []) := fun s S => by
  refine wpAny_Dict_empty ⟨_, rfl, Eff.push (tk := s.toks), pushed_none s, ?_⟩
  exact .dict (kvs := []) (Heap.DictOf.new _) (not_modules S.tabs) rfl fun i v d h => by simp at h

theorem St.setD {a : Addr} {ds ds' : List (Int × D)} {s : Shared} {h' : Heap} {kvs' : List (Int × Value)} {tk : Nat} (S : St C ρ (.ob a (.dict ds) :: own) s) (hs : Heap.SameBut a s.heap h') (hl : h'.DictOf (intKind PG C.w) a kvs') (hm : (a == sysModules) = false)
    (hr : RdKV C.w s (C.F (.ob a (.dict ds) :: own)) kvs' ds') (ht : s.toks ≤ tk := by first | exact Nat.le_refl _ | exact Nat.le_succ _) : St C ρ (.ob a (.dict ds') :: own) { s with heap := h', toks := tk } := by
  have hFa : C.F (.ob a (.dict ds) :: own) a := .inr (.inr (.inr (.head _)))
  have hO : OwnRd C.w s (C.F (.ob a (.dict ds) :: own)) a (.dict ds) := S.owns _ (.head _)
  refine S.set (x' := .ob a (.dict ds')) rfl rfl (fun b o hb e => by rw [hs.2 b hb]; exact e) (fun o us q t e hd => ?_) ?_ ht
  · obtain ⟨kvs, ⟨o', es, ep, ho', _, hdo, _⟩, _⟩ := hO.dict_inv
    rw [e] at ho'; cases ho'
    rw [hd] at hdo; cases hdo
  · have r2 := hr.mono (s' := { s with heap := h', toks := tk }) (same_rd hs hFa) ht
    exact OwnRd.dict hl hm r2.1 r2.2

/-- own[k] = e -/
theorem Ex.setKey {o i e : Expr} {a : Addr} {ds : List (Int × D)} {k : Int} {d : D} {p pos : Pos} (he : Ev C ρ (.ob a (.dict ds) :: own) e d) (ho : Ev C ρ (.ob a (.dict ds) :: own) o (.addr a)) (hi : Ev C ρ (.ob a (.dict ds) :: own) i (.int k))
    (hz : ds.length ≤ 1000000) (hr : Ex C ρ (.ob a (.dict (storedD ds k d)) :: own) rest Φ) (hs : autoParam (swapsWith e (some (.Subscript o i p)) pos.line C.env = pure false) Mine.tacI) :
    Ex C ρ (.ob a (.dict ds) :: own) (.Assign [.Subscript o i p] e pos :: rest) Φ := Ex.one fun s S => by
  refine wpAny_Assign_Subscript (wpAny_mono (he s S) (fun v s₁ ⟨e₁, r₁⟩ => wpAny_mono (ho s₁ (S.eff e₁)) (fun ov s₂ ⟨e₂, r₂⟩ => wpAny_mono (hi s₂ ((S.eff e₁).eff e₂)) (fun iv s₃ ⟨e₃, r₃⟩ => ?_) fun _ _ x => x) fun _ _ x => x) fun _ _ x => x) hs
  have S₁ := S.eff e₁
  have S₂ := S₁.eff e₂
  have S₃ := S₂.eff e₃
  rw [r₂.addr_inv]
  obtain ⟨u, rfl⟩ := r₃.int_inv
  have hO : OwnRd C.w s₃ (C.F (.ob a (.dict ds) :: own)) a (.dict ds) := S₃.owns _ (.head _)
  have r₁' := (r₁.eff S₁.tabs e₂).eff S₂.tabs e₃
  obtain ⟨kvs, hd, hm, hkv⟩ := hO.dict_inv
  refine wpAny_setItem_pairs (intKind_is _ _ _ _) hd (fun h' hd' hs' => ?_) (by rw [hkv.len]; have : sizeLine = 2 ^ 24 := rfl; omega)
  exact hr _ (S₃.setD hs' hd' hm (hkv.stored r₁'))

/-- own[k] op= e -/
theorem Ex.augKey {o i e : Expr} {op : Operator} {a : Addr} {ds : List (Int × D)} {k : Int} {d0 d1 d : D} {p pos : Pos} (ho : Ev C ρ (.ob a (.dict ds) :: own) o (.addr a)) (hi : Ev C ρ (.ob a (.dict ds) :: own) i (.int k)) (hk : valueD ds k = some d0)
    (he : Ev C ρ (.ob a (.dict ds) :: own) e d1) (hop : Op2 C (.ob a (.dict ds) :: own) (inplaceOp op) d0 d1 d)
    (hz : ds.length ≤ 1000000) (hr : Ex C ρ (.ob a (.dict (storedD ds k d)) :: own) rest Φ)
    (hst : ∀ ov iv new, augStore i ov iv new = (do holding [new, ov, iv] (PySem.setItem ov iv new); release [new, ov, iv] []; pure .next) := by intros; rfl) :
    Ex C ρ (.ob a (.dict ds) :: own) (.AugAssign (.Subscript o i p) op e pos :: rest) Φ := Ex.one fun s S => by
  refine wpAny_AugAssign_SubscriptAny (wpAny_mono (ho s S) (fun ov s₁ ⟨e₁, r₁⟩ => wpAny_mono (hi s₁ (S.eff e₁)) (fun iv s₂ ⟨e₂, r₂⟩ => ?_) fun _ _ x => x) fun _ _ x => x) hst
  have S₁ := S.eff e₁
  have S₂ := S₁.eff e₂
  rw [r₁.addr_inv]
  obtain ⟨u, rfl⟩ := r₂.int_inv
  have hO : OwnRd C.w s₂ (C.F (.ob a (.dict ds) :: own)) a (.dict ds) := S₂.owns _ (.head _)
  obtain ⟨kvs, hd, hm, hkv⟩ := hO.dict_inv
  obtain ⟨v, hv, rv⟩ := hkv.value.2 d0 hk
  refine wpAny_getItem_of (intKind_is _ _ _ _) hd.mapOf hv ?_
  have e₃ : Eff C.q s₂ { s₂ with toks := s₂.toks + 1 } := Eff.tok
  have S₃ := S₂.eff e₃
  refine wpAny_mono (he _ S₃) (fun ev s₄ ⟨e₄, r₄⟩ => ?_) fun _ _ x => x
  have S₄ := S₃.eff e₄
  have rv' := (rv.eff S₂.tabs e₃).eff S₃.tabs e₄
  refine wpAny_mono (hop s₄ v ev S₄.good S₄.tabs S₄.live' S.ok.room rv' r₄) (fun nv s₅ ⟨e₅, r₅⟩ => ?_) fun _ _ x => x
  have S₅ := S₄.eff e₅
  have hO5 : OwnRd C.w s₅ (C.F (.ob a (.dict ds) :: own)) a (.dict ds) := S₅.owns _ (.head _)
  obtain ⟨kvs5, hd5, hm5, hkv5⟩ := hO5.dict_inv
  refine wpAny_setItem_pairs (intKind_is _ _ _ _) hd5 (fun h' hd' hs' => ?_) (by rw [hkv5.len]; have : sizeLine = 2 ^ 24 := rfl; omega)
  exact hr _ (S₅.setD hs' hd' hm5 (hkv5.stored r₅))

/-- k in own -/
theorem EvB.inKey {l r : Expr} {pos : Pos} {a : Addr} {ds : List (Int × D)} {k : Int} (hl : Ev C ρ own l (.int k)) (hr : Ev C ρ own r (.addr a)) (ho : HasO C ρ own a (.dict ds)) (hm : autoParam (behindInMarks .In r = false) Mine.tacJ) :
    EvB C ρ own (.Compare l [.In] [r] pos) (valueD ds k).isSome := fun s S =>
  wpAny_isTrue_Compare1 (wpAny_mono (hl s S) (fun x s₁ ⟨e₁, r₁⟩ => wpAny_mono (hr s₁ (S.eff e₁)) (fun y s₂ ⟨e₂, r₂⟩ => by
    have S₂ := (S.eff e₁).eff e₂
    rw [r₂.addr_inv]
    obtain ⟨u, rfl⟩ := r₁.int_inv
    obtain ⟨kvs, hd, hm, hkv⟩ := (ho s₂ S₂).dict_inv
    refine wpAny_in_of (intKind_is _ _ _ _) hm hd.mapOf ?_
    rw [hkv.value.1]
    exact wpAny_truthy_bool ⟨(e₁.trans e₂).trans Eff.tok, rfl⟩) fun _ _ x => x) fun _ _ x => x) hm
end

section
variable {C : Cx} {ρ : List (Str × D)} {own : List Own}
theorem Ev.typ {x : Str} {pos : Pos} {T : String} (b : BI x (.type T)) (hk : autoParam (C.env.kindOf x = some .globalImplicit) Mine.tacI) : Ev C ρ own (.Name x pos) (.typ T) := fun s S => load_bi b hk S ⟨Eff.refl _ _, .typ T⟩
end
end Mine

end

-- part MD2
section
open PySem PySem.W PyProof.Rows PySem.Calls
set_option maxRecDepth 100000
set_option linter.unusedVariables false
namespace Mine

theorem bi_isinstance : BI "isinstance" (.builtin "isinstance") := ⟨by decide, by decide, PyProof.Rows.boot_isinstance, fun w => by kernel_rfl⟩
theorem bi_tuple : BI "tuple" (.type "tuple") := ⟨by decide, by decide, PyProof.Rows.boot_tuple, fun w => by kernel_rfl⟩

theorem call_meetsIn {w : World} {A : Around} {E : Value → Shared → Prop} {s : Shared} {T : String} {name : Str} {id : String} {B : Builtin} {self : Value} {rest : List Value} {S : PySem.Spec} {Q : Value → Shared → Prop} (slot : Slot T name id) (hT : s.TypeIs self T)
    (entry : entryFor table id = some B) (args : argsOk id ⟨self :: rest, []⟩) (g : MeetsIn PG w (B ⟨self :: rest, []⟩) S) (h : S A (wants Q E) s) :
    wpAny (model PG w) A (PySem.call (.builtin id) (self :: rest)) Q E s :=
  wpAny_call (codeAny_call_builtin slot.plain entry (slot.check _ _ _ _ _ _ _ _ hT args (g A (wants Q E) s h)))

section
variable {C : Cx} {ρ : List (Str × D)} {own : List Own}
theorem c_isTuple' {i : Int} : OpN C own (fun vs => PySem.call (.builtin "isinstance") vs) [.int i, .typ "tuple"] (.bool false) := fun s vs _ _ _ _ r => by
  obtain ⟨v, vs', rfl, r1, r2⟩ := r.cons_inv
  obtain ⟨t, rfl⟩ := r1.int_inv
  obtain ⟨v', vs'', rfl, r3, r4⟩ := r2.cons_inv
  rw [r3.typ_inv]
  obtain rfl := r4.nil_inv
  exact call_isinstance (isinstance_false_int (by decide +kernel) F.isi_meta_tuple F.sub_int_tuple) ⟨Eff.tok, .bool _⟩

/-- a view of a dict -/
theorem wp_view {o : Expr} {name : Str} {apos pos : Pos} {id T : String} {B : Builtin} {ds : List (Int × D)} {pl : Sem Bool} {s : Shared} {Q : Value → Shared → Prop} (S : St C ρ own s) (ho : Ev C ρ own o (.dict ds)) (slot : Slot "dict" name id) (hty : typeOf (.builtin id) = pure (.type "method_descriptor"))
    (entry : entryFor table id = some B) (args : ∀ a, argsOk id ⟨[a], []⟩)
    (g : ∀ d, (d == sysModules) = false → MeetsIn PG C.w (B ⟨[.ref d], []⟩) (fun _ R s => (∃ kvs, s.heap.DictOf (intKind PG C.w) d kvs) ∧ R (.ok (.ret (.ref s.heap.objs.size))) { s with heap := s.heap.push { cls := .type T, data := .fields #[.ref d] } }))
    (h : ∀ s₁ a kvs, Eff C.q s s₁ → St C ρ own s₁ → s₁.heap.DictOf (intKind PG C.w) a kvs → ¬ C.F own a → RdKV C.w s₁ (C.F own) kvs ds → Q (.ref s₁.heap.objs.size) { s₁ with heap := s₁.heap.push { cls := .type T, data := .fields #[.ref a] } })
    (he : eval (.Call (.Attribute o name apos) [] [] pos) C.env = (do
      let ov ← eval o C.env
      standAt apos.atName
      let (f, first) ← holding [ov] (getMethod ov name pl)
      callWith pos f first (backTo pos (starEach [] C.env)) [])) : wpAny C.M C.A (eval (.Call (.Attribute o name apos) [] [] pos) C.env) Q NoE s := by
  refine MethodCall_ (pl := pl) (wpAny_mono (ho s S) (fun v s₁ ⟨e₁, r₁⟩ => ?_) fun _ _ x => x) he
  have S₁ := S.eff e₁
  obtain ⟨a, kvs, rfl, hd, hm, hf, hkv⟩ := r₁.dict_inv
  refine getMethod_builtin hd.typeIs F.plainAttrs_dict slot hty (fun b q => by cases q; exact hd.mapOf.noDict _ rfl) ?_
  refine callWith_builtin rfl (evalArgs_nil3 ?_)
  exact call_meetsIn slot hd.typeIs entry (args _) (g a hm) ⟨⟨kvs, hd⟩, h s₁ a kvs e₁ S₁ hd hf hkv⟩

/-- over a dict's values -/
theorem It.values {o : Expr} {name : Str} {apos pos : Pos} {ds : List (Int × D)} {pl : Sem Bool} (hn : name = "values") (ho : Ev C ρ own o (.dict ds))
    (he : autoParam (eval (.Call (.Attribute o name apos) [] [] pos) C.env = (do
      let ov ← eval o C.env
      standAt apos.atName
      let (f, first) ← holding [ov] (getMethod ov name pl)
      callWith pos f first (backTo pos (starEach [] C.env)) [])) Mine.tacI) : It C ρ own (.Call (.Attribute o name apos) [] [] pos) (ds.map (·.2)) := fun s S => by
  subst hn
  refine wp_view S ho F.slot_dict_values F.type_dict_values F.entry_dict_values F.args_dict_values_1 (fun d hd => meets_dict_values (intKind PG C.w) d hd) (fun s₁ a kvs e₁ S₁ hd hf hkv => ?_) he
  have e₂ : Eff C.q s₁ { s₁ with heap := s₁.heap.push { cls := .type "dict_values", data := .fields #[.ref a] } } := Eff.push (tk := s₁.toks)
  have S₂ := S₁.eff e₂
  have hd2 := hd.push { cls := .type "dict_values", data := .fields #[.ref a] }
  obtain ⟨ep, hat⟩ := hd2.dictAt
  refine wpAny_pyIter_values ⟨_, Heap.get?_push_size _ rfl, rfl, rfl⟩ hat ?_
  have hne : a ≠ (s₁.heap.push { cls := .type "dict_values", data := .fields #[.ref a] }).objs.size := Nat.ne_of_lt hat.lt_size
  have hkv2 := hkv.mono (s' := { s₁ with heap := s₁.heap.push { cls := .type "dict_values", data := .fields #[.ref a] } }) (keep_rd S₁.tabs e₂ _) (Nat.le_refl _)
  have hr2 : RdAll C.w { s₁ with heap := s₁.heap.push { cls := .type "dict_values", data := .fields #[.ref a] } } (C.F own) (kvs.map (·.2)) (ds.map (·.2)) := ⟨by simp [hkv.len], hkv2.2⟩
  refine it_push S (e₁.trans e₂) rfl (W := Walks.dictValues (knd := intKind PG C.w) S.ok.room.1 _ a hne kvs ep) (ghs (kvs.map (·.2)) (ds.map (·.2))) (ghs_ownA _ _) (by simp [hkv.len]) (fun i h x => ?_) (fun i v hi hP => ?_) ?_ (fun b hb hbn => ?_) (ghs_ok hr2)
  · obtain ⟨o, ho, hc, hdd⟩ := x.1
    exact ⟨o, _, _, ho, hc, hdd, by decide, by simp⟩
  · obtain ⟨k, hk⟩ := hP
    exact ghs_rd hr2.1 (by rw [List.getElem?_map, hk]; rfl)
  · exact ⟨⟨_, Heap.get?_push_size _ rfl, rfl, rfl⟩, hat.keep fun b o e => Heap.get?_push_of_some _ e⟩
  · rcases List.mem_cons.mp hb with rfl | hb
    · exact absurd rfl hbn
    · have hb : b = a := by simpa using hb
      subst hb
      obtain ⟨oa, es, ep', hoa, hca, _⟩ := hd2
      exact ⟨hf, oa, hoa, .inl (by rw [hca.1]; nofun)⟩
end
end Mine

end

-- part MD3
section
open PySem PySem.W PyProof.Rows PySem.Calls
set_option maxRecDepth 100000
set_option linter.unusedVariables false
namespace Mine

section
variable {C : Cx} {ρ : List (Str × D)} {own R : List Own} {rest : List Stmt} {Φ : Flow → Shared → Prop}

noncomputable abbrev itemsW (w : World) (it a : Addr) (kvs : List (Int × Value)) (ep i : Nat) : Own := .wk it [it, a] (fun h => (∃ ok ov, IsItemIter h it a i kvs.length ep ok ov) ∧ h.DictAt (intKind PG w) a kvs ep)

/-- for k, v in d.items() -/
theorem Ex.forItems {elts : List Expr} {k : Nat} {px pos : Pos} {o : Expr} {name : Str} {apos cpos : Pos} {body : List Stmt} {dd : List (Int × D)} {xs : List Str} {pl : Sem Bool} (I : Nat → List (Str × D)) (O : Nat → List Own) (hnm : name = "items") (ho : Ev C ρ own o (.dict dd))
    (hs : Sub (I 0) ρ) (hown : O 0 ++ R = own) (hl : xs.length = 2)
    (hb : ∀ (i : Nat) (p : Int × D) (R' : List Own), dd[i]? = some p → Ex C (pushAll xs [.int p.1, p.2] (I i)) (O i ++ R') body (Turn C (I (i + 1)) (O (i + 1) ++ R') Φ))
    (hr : Ex C (I dd.length) (O dd.length ++ R) rest Φ) (hn : autoParam (nameList elts = some xs) Mine.tacI) (hx : autoParam (xs.all (storable C) = true) Mine.tacI) (hX : autoParam (∀ a, ¬ C.X a) Mine.tacG) (hf : autoParam (∀ x, foldedSetIterable (.Call (.Attribute o name apos) [] [] cpos) C.env x = pure x) Mine.tacH)
    (he : autoParam (eval (.Call (.Attribute o name apos) [] [] cpos) C.env = (do
      let ov ← eval o C.env
      standAt apos.atName
      let (f, first) ← holding [ov] (getMethod ov name pl)
      callWith cpos f first (backTo cpos (starEach [] C.env)) [])) Mine.tacI) :
    Ex C ρ own (.For (.Tuple elts k px) (.Call (.Attribute o name apos) [] [] cpos) body [] pos :: rest) Φ := Ex.one fun s S => by
  subst hnm
  refine wpAny_For (wp_view S ho F.slot_dict_items F.type_dict_items F.entry_dict_items F.args_dict_items_1 (fun d hd => meets_dict_items (intKind PG C.w) d hd) (fun s₁ a kvs e₁ S₁ hd hfa hkv => ?_) he) hf
  have e₂ : Eff C.q s₁ { s₁ with heap := s₁.heap.push { cls := .type "dict_items", data := .fields #[.ref a] } } := Eff.push (tk := s₁.toks)
  have S₂ := S₁.eff e₂
  have hd2 := hd.push { cls := .type "dict_items", data := .fields #[.ref a] }
  obtain ⟨ep, hat⟩ := hd2.dictAt
  generalize hH : s₁.heap.push { cls := .type "dict_items", data := .fields #[.ref a] } = h₂ at *
  refine wpAny_pyIter_items (s := { s₁ with heap := h₂ }) (v := s₁.heap.objs.size) ⟨_, by rw [← hH]; exact Heap.get?_push_size _ rfl, rfl, rfl⟩ hat ?_
  have hne : a ≠ h₂.objs.size := Nat.ne_of_lt hat.lt_size
  have e₃ : Eff C.q { s₁ with heap := h₂ } { s₁ with heap := h₂.push { cls := .type "dict_itemiterator", data := .fields #[.none, .bool false, .ref a, .int 0 0, .int kvs.length 0, .int ep 0, .none, .none] } } := Eff.push (tk := s₁.toks)
  have S₃ := S₂.eff e₃
  have hkv3 := (hkv.mono (s' := { s₁ with heap := h₂ }) (keep_rd S₁.tabs e₂ _) (Nat.le_refl _)).mono (keep_rd S₂.tabs e₃ _) (Nat.le_refl _)
  have hlen := hkv.len
  have hr3 : RdAll C.w { s₁ with heap := h₂.push { cls := .type "dict_itemiterator", data := .fields #[.none, .bool false, .ref a, .int 0 0, .int kvs.length 0, .int ep 0, .none, .none] } } (C.F own) (kvs.map (·.2)) (dd.map (·.2)) := ⟨by simp [hlen], hkv3.2⟩
  -- the iterator joins
  have Sg := S₃.ghosts (ghs_ownA (kvs.map (·.2)) (dd.map (·.2))) (ghs_ok hr3)
  have SI : St C ρ (itemsW C.w h₂.objs.size a kvs ep 0 :: (own ++ ghs (kvs.map (·.2)) (dd.map (·.2)))) { s₁ with heap := h₂.push { cls := .type "dict_itemiterator", data := .fields #[.none, .bool false, .ref a, .int 0 0, .int kvs.length 0, .int ep 0, .none, .none] } } := by
    have S2g := S₂.ghosts (own := own) (g := ghs (kvs.map (·.2)) (dd.map (·.2))) (ghs_ownA _ _) (ghs_ok ⟨by simp [hlen], (hkv.mono (s' := { s₁ with heap := h₂ }) (keep_rd S₁.tabs e₂ _) (Nat.le_refl _)).2⟩)
    refine S2g.add (a := h₂.objs.size) (pushed_none _) e₃ rfl ?_
    refine ⟨⟨⟨_, _, Heap.get?_push_size _ rfl⟩, hat.keep fun b o e => Heap.get?_push_of_some _ e⟩, ⟨_, Heap.get?_push_size _ rfl, fun vs q t e => by cases e; simp⟩, ?_, fun b hb hbn => ?_⟩
    · rintro x y ⟨⟨ok, ov, h1⟩, h2⟩ hk
      exact ⟨⟨ok, ov, hk _ (.head _) _ h1⟩, h2.at' fun o e => hk _ (.tail _ (.head _)) o e⟩
    · have hb : b = a := by
        rcases List.mem_cons.mp hb with q | q
        · exact absurd q hbn
        · simpa using q
      subst hb
      obtain ⟨oa, es, hoa, hca, _⟩ := hat
      refine ⟨fun q => ?_, oa, Heap.get?_push_of_some _ hoa, .inl (by rw [hca.1]; nofun)⟩
      have hA : ownA (itemsW C.w h₂.objs.size b kvs ep 0 :: (own ++ ghs (kvs.map (·.2)) (dd.map (·.2)))) = h₂.objs.size :: ownA own := by
        show h₂.objs.size :: ownA (own ++ ghs (kvs.map (·.2)) (dd.map (·.2))) = _
        congr 1
        have := ownA_append own (ghs (kvs.map (·.2)) (dd.map (·.2)))
        rw [ghs_ownA, List.append_nil] at this
        exact this
      rcases q with q | q | q | q
      · exact hfa (.inl q)
      · exact hfa (.inr (.inl q))
      · exact hfa (.inr (.inr (.inl q)))
      · rw [hA] at q
        rcases List.mem_cons.mp q with q | q
        · exact hne q
        · exact hfa (.inr (.inr (.inr q)))
  clear S₃ Sg hr3
  generalize hIt : h₂.objs.size = it at *
  subst hown
  have h00 : C.s₀.heap.get? it = none := by
    have := (SI.ownNew it (.head _)).1
    exact this.resolve_right (hX _)
  have SI0 : St C (I 0) (itemsW C.w it a kvs ep 0 :: ((O 0 ++ R) ++ ghs (kvs.map (·.2)) (dd.map (·.2)))) _ := SI.sub hs
  refine codeAny_mono (R := fun r s' => match r with | .ok f => Then C rest Φ f s' | .error _ => False) (codeAny_forLoop_any (fun n s => ∃ i, n = dd.length + 1 - i ∧ i ≤ dd.length ∧ St C (I i) (itemsW C.w it a kvs ep i :: ((O i ++ R) ++ ghs (kvs.map (·.2)) (dd.map (·.2)))) s) (fun n s₃ ⟨i, hni, hi, Si⟩ => ?_) (dd.length + 1) ⟨0, rfl, Nat.zero_le _, SI0⟩) fun r s' h => ?_
  · have hO := Si.owns _ (.head _)
    obtain ⟨⟨⟨ok, ov, hit⟩, hda⟩, _, _, hfp⟩ := hO
    have hD : ∀ o vs q t, s₃.heap.get? it = some o → o.data = .fields vs → vs[1]? ≠ some (.str q t) := fun o vs q t e hd' => by
      rw [hit] at e; cases e; cases hd'; simp
    by_cases hlt : i < dd.length
    · have hlt' : i < kvs.length := by omega +splitDisjunctions
      obtain ⟨⟨kk, vv⟩, hx'⟩ : ∃ p, kvs[i]? = some p := ⟨kvs[i], by simp [hlt']⟩
      refine wpAny_pyNext_items_item hit hda hx' fun key h' hkey hout hT hsz hk => ?_
      obtain ⟨tkk, rfl⟩ := Value.isInt_shape hkey
      refine wpAny_letOwnedTupleGo_items hout fun h'' hit'' hs'' => ?_
      have hTI : s₃.heap.objs.size ≠ it := Nat.ne_of_gt (Heap.lt_size hit)
      have hk'' : ∀ b o, b ≠ it → s₃.heap.get? b = some o → h''.get? b = some o := fun b o hb e => hs''.extBut b o hb (hk b o hb e)
      have S4 : St C (I i) (itemsW C.w it a kvs ep (i + 1) :: ((O i ++ R) ++ ghs (kvs.map (·.2)) (dd.map (·.2)))) { s₃ with heap := h'' } := by
        refine Si.set (x' := itemsW C.w it a kvs ep (i + 1)) (tk := s₃.toks) rfl rfl hk'' hD ⟨⟨⟨_, _, hit''⟩, hda.at' fun o e => hk'' a o (by rintro rfl; exact absurd rfl hne) e⟩, ⟨_, hit'', fun vs q t e => by cases e; simp⟩, ?_, fun b hb hbn => ?_⟩
        · rintro x y ⟨⟨ok, ov, h1⟩, h2⟩ hk
          exact ⟨⟨ok, ov, hk _ (.head _) _ h1⟩, h2.at' fun o e => hk _ (.tail _ (.head _)) o e⟩
        · obtain ⟨k1, o', k2, k3⟩ := hfp b hb hbn
          exact ⟨k1, o', hk'' b o' hbn k2, k3⟩
      obtain ⟨p, hp⟩ : ∃ p, dd[i]? = some p := ⟨dd[i], by simp [hlt]⟩
      have hpk : kk = p.1 := by
        have := congrArg (fun l => l[i]?) hkv.1
        simp only [List.getElem?_map, hx', hp, Option.map_some, Option.some.injEq] at this
        exact this
      have hgh : Rd C.w { s₃ with heap := h'' } (C.F (itemsW C.w it a kvs ep (i + 1) :: ((O i ++ R) ++ ghs (kvs.map (·.2)) (dd.map (·.2))))) vv p.2 := by
        have := S4.owns (.gh vv p.2) (.tail _ (List.mem_append.mpr (.inr (List.mem_map.mpr ⟨(vv, p.2), ?_, rfl⟩))))
        · exact this
        · refine List.mem_iff_getElem?.mpr ⟨i, ?_⟩
          rw [List.getElem?_zip_eq_some, List.getElem?_map, List.getElem?_map, hx', hp]
          exact ⟨rfl, rfl⟩
      have hTn : ¬ C.F (itemsW C.w it a kvs ep (i + 1) :: ((O i ++ R) ++ ghs (kvs.map (·.2)) (dd.map (·.2)))) s₃.heap.objs.size := fun q => by
        have q' : C.F (itemsW C.w it a kvs ep i :: ((O i ++ R) ++ ghs (kvs.map (·.2)) (dd.map (·.2)))) s₃.heap.objs.size := q
        exact Si.fresh q'
      have hrT : Rd C.w { s₃ with heap := h'' } (C.F (itemsW C.w it a kvs ep (i + 1) :: ((O i ++ R) ++ ghs (kvs.map (·.2)) (dd.map (·.2))))) (.ref s₃.heap.objs.size) (.tup [.int p.1, p.2]) := by
        subst hpk
        refine RdAll.tup (vs := [.int p.1 tkk, vv]) (.cons (.int _ _) (.cons hgh .nil)) ⟨_, hs''.extBut _ _ hTI hT, rfl, 0, rfl⟩ hTn
      refine wpAny_mono (wp_unpack (Q := fun _ s' => St C (pushAll xs [.int p.1, p.2] (I i)) (itemsW C.w it a kvs ep (i + 1) :: ((O i ++ R) ++ ghs (kvs.map (·.2)) (dd.map (·.2)))) s') S4 hn hx (by rw [hl]; rfl) hrT fun s₆ S₆ => S₆) (fun _ s₆ S₆ => ?_) fun _ _ x => x.elim
      have hperm : ∀ j, (itemsW C.w it a kvs ep (i + 1) :: ((O j ++ R) ++ ghs (kvs.map (·.2)) (dd.map (·.2)))).Perm (O j ++ (R ++ (itemsW C.w it a kvs ep (i + 1) :: ghs (kvs.map (·.2)) (dd.map (·.2))))) := fun j => by
        rw [← List.append_assoc]
        exact List.perm_middle.symm
      refine wpAny_mono (hb i p (R ++ (itemsW C.w it a kvs ep (i + 1) :: ghs (kvs.map (·.2)) (dd.map (·.2)))) hp s₆ (S₆.perm (hperm i))) (fun f s₇ h₇ => ?_) fun _ _ x => x.elim
      cases f with
      | next => exact ⟨dd.length + 1 - (i + 1), by omega +splitDisjunctions, i + 1, rfl, by omega +splitDisjunctions, St.perm h₇ (hperm (i + 1)).symm⟩
      | cont => exact ⟨dd.length + 1 - (i + 1), by omega +splitDisjunctions, i + 1, rfl, by omega +splitDisjunctions, St.perm h₇ (hperm (i + 1)).symm⟩
      | brk => exact h₇.elim
      | ret v => exact h₇
    · obtain rfl : i = dd.length := by omega +splitDisjunctions
      refine wpAny_pyNext_items_end S.ok.room.1 hit hda (by simp; omega +splitDisjunctions) fun h' hext => ?_
      have S5 : St C (I dd.length) ((O dd.length ++ R) ++ ghs (kvs.map (·.2)) (dd.map (·.2))) { s₃ with heap := h' } := Si.kill (tk := s₃.toks) rfl h00 (fun b o hb e => hext b o hb e) hD
      have S6 : St C (I dd.length) (O dd.length ++ R) { s₃ with heap := h' } := (S5.perm List.perm_append_comm).dropN
      exact wpAny_execs_nil (hr _ S6)
  · cases r with
    | ok f => exact h
    | error e => exact h.elim
end
end Mine

end

-- part F179
section
open PySem PySem.W PyProof.Rows PySem.Calls
set_option maxRecDepth 100000
set_option linter.unusedVariables false
namespace Mine

noncomputable abbrev dI (l : List (Int × Int)) : List (Int × D) := l.map fun p => (p.1, .int p.2)
noncomputable def storedI (l : List (Int × Int)) (k v : Int) : List (Int × Int) := if l.any (fun p => p.1 = k) then l.map (fun p => if p.1 = k then (p.1, v) else p) else l ++ [(k, v)]
noncomputable def valueI (l : List (Int × Int)) (k : Int) : Option Int := (l.find? fun p => p.1 = k).map (·.2)
theorem stored_dI (l : List (Int × Int)) (k v : Int) : storedD (dI l) k (.int v) = dI (storedI l k v) := by
  unfold storedD storedI dI
  rw [List.any_map]
  show (if (l.any fun p => decide (p.1 = k)) = true then _ else _) = _
  split
  · rw [List.map_map, List.map_map]
    refine List.map_congr_left fun p _ => ?_
    show (if p.1 = k then _ else _) = _
    by_cases h : p.1 = k <;> simp [h]
  · simp
theorem value_dI (l : List (Int × Int)) (k : Int) : valueD (dI l) k = (valueI l k).map D.int := by
  unfold valueD valueI dI
  rw [List.find?_map, Option.map_map, Option.map_map]
  rfl
theorem storedI_len (l : List (Int × Int)) (k v : Int) : (storedI l k v).length ≤ l.length + 1 := by
  unfold storedI
  split <;> simp
noncomputable def copyC (t : List (Int × Int)) (i : Nat) : List (Int × Int) := (t.take i).foldl (fun acc p => storedI acc p.1 p.2) []
noncomputable def bump (acc : List (Int × Int)) (p : Int × Int) : List (Int × Int) := storedI acc p.1 (match valueI acc p.1 with | some x => x + p.2 | none => p.2)
noncomputable def addC (t s : List (Int × Int)) (i : Nat) : List (Int × Int) := (s.take i).foldl bump (copyC t t.length)
theorem copyC_len (t : List (Int × Int)) : ∀ i, (copyC t i).length ≤ i
  | 0 => Nat.le_refl _
  | i + 1 => by
    by_cases h : i < t.length
    · unfold copyC
      rw [List.take_succ_eq_append_getElem h, List.foldl_append]
      exact Nat.le_trans (storedI_len _ _ _) (Nat.succ_le_succ (copyC_len t i))
    · have e : t.take (i + 1) = t.take i := by rw [List.take_of_length_le (by omega), List.take_of_length_le (by omega)]
      unfold copyC
      rw [e]
      exact Nat.le_succ_of_le (copyC_len t i)
theorem copyC_succ {t : List (Int × Int)} {i : Nat} {p : Int × Int} (h : t[i]? = some p) : copyC t (i + 1) = storedI (copyC t i) p.1 p.2 := by
  obtain ⟨hi, rfl⟩ := List.getElem?_eq_some_iff.mp h
  unfold copyC
  rw [List.take_succ_eq_append_getElem hi, List.foldl_append]; rfl
theorem addC_succ {t s : List (Int × Int)} {i : Nat} {p : Int × Int} (h : s[i]? = some p) : addC t s (i + 1) = bump (addC t s i) p := by
  obtain ⟨hi, rfl⟩ := List.getElem?_eq_some_iff.mp h
  unfold addC
  rw [List.take_succ_eq_append_getElem hi, List.foldl_append]; rfl
theorem addC_len (t s : List (Int × Int)) : ∀ i, (addC t s i).length ≤ t.length + i
  | 0 => copyC_len t _
  | i + 1 => by
    by_cases h : i < s.length
    · rw [addC_succ (List.getElem?_eq_getElem h)]
      have := addC_len t s i
      exact Nat.le_trans (storedI_len _ _ _) (by omega)
    · have e : addC t s (i + 1) = addC t s i := by unfold addC; rw [List.take_of_length_le (by omega), List.take_of_length_le (by omega)]
      rw [e]; have := addC_len t s i; omega

theorem fn179 {w : World} {n : Nat} {t s : List (Int × Int)} (ht : t.length ≤ 1000) (hs : s.length ≤ 1000) : Fn w true (n + 1) 179 [.dict (dI t), .dict (dI s)] (.dict (dI (addC t s s.length))) := by
  refine k179.fn ["target", "source"] (by kernel_rfl) (by decide) rfl (bind2 fun _ _ => rfl) fun A sh F R => ?_
  refine Ex.assignN EvN.dict fun a => ?_
  have hdl : ∀ l : List (Int × Int), (dI l).length = l.length := fun l => by simp
  refine Ex.forItems (R := []) (xs := ["func", "caller"]) (fun i => [("new_callers", .addr a), ("target", .dict (dI t)), ("source", .dict (dI s))]) (fun i => [.ob a (.dict (dI (copyC t i)))]) rfl (Ev.name rfl) ⟨rfl, rfl, rfl, trivial⟩ rfl rfl (fun i p R' hp => ?_) ?_
  · rw [List.getElem?_map, Option.map_eq_some_iff] at hp
    obtain ⟨q, hq, rfl⟩ := hp
    have hi := (List.getElem?_eq_some_iff.mp hq).1
    refine Ex.setKey (Ev.name rfl) (Ev.name rfl) (Ev.name rfl) (by rw [hdl]; have := copyC_len t i; omega) ?_
    rw [stored_dI, ← copyC_succ hq]
    exact Ex.turn ⟨rfl, rfl, rfl, trivial⟩
  rw [hdl]
  refine Ex.forItems (R := []) (xs := ["func", "caller"]) (fun i => [("new_callers", .addr a)]) (fun i => [.ob a (.dict (dI (addC t s i)))]) rfl (Ev.name rfl) ⟨rfl, trivial⟩ rfl rfl (fun i p R' hp => ?_) ?_
  · rw [List.getElem?_map, Option.map_eq_some_iff] at hp
    obtain ⟨q, hq, rfl⟩ := hp
    have hi := (List.getElem?_eq_some_iff.mp hq).1
    have hlen := addC_len t s i
    refine Ex.ite (EvB.inKey (ds := dI (addC t s i)) (Ev.name rfl) (Ev.name rfl) (HasO.mem (.head _))) (fun h => ?_) (fun h => ?_)
    · rw [value_dI] at h
      cases hv : valueI (addC t s i) q.1 with
      | none => rw [hv] at h; cases h
      | some x =>
        refine Ex.ite (c := false) (EvB.plain (Ev.bcall bi_isinstance (EvL.cons (Ev.name rfl) (EvL.cons (Ev.typ bi_tuple) EvL.nil)) c_isTuple') (fun s x _ rx => by rw [rx.bool_inv]; exact wpAny_truthy_bool ⟨Eff.refl _ _, rfl⟩)) (fun h => nomatch h) (fun _ => ?_)
        refine Ex.augKey (Ev.name rfl) (Ev.name rfl) (by rw [value_dI, hv]; rfl) (Ev.name rfl) o_iadd (by rw [hdl]; omega) ?_
        have e : storedD (dI (addC t s i)) q.1 (.int (x + q.2)) = dI (addC t s (i + 1)) := by
          rw [stored_dI, addC_succ hq]
          unfold bump; rw [hv]
        rw [e]
        refine Ex.done (Ex.done (Ex.turn ⟨rfl, trivial⟩))
    · rw [value_dI] at h
      cases hv : valueI (addC t s i) q.1 with
      | some x => rw [hv] at h; cases h
      | none =>
        refine Ex.setKey (Ev.name rfl) (Ev.name rfl) (Ev.name rfl) (by rw [hdl]; omega) ?_
        have e : storedD (dI (addC t s i)) q.1 (.int q.2) = dI (addC t s (i + 1)) := by
          rw [stored_dI, addC_succ hq]
          unfold bump; rw [hv]
        rw [e]
        exact Ex.done (Ex.turn ⟨rfl, trivial⟩)
  rw [hdl]
  exact Ex.freeze (x := "new_callers") (Ex.retn (Ev.name rfl) fun _ => id) rfl fun _ => id

theorem fn172 {w : World} {n : Nat} {a0 a1 a2 a3 b0 b1 b2 b3 : Int} {t s : List (Int × Int)} (ht : t.length ≤ 1000) (hs : s.length ≤ 1000) :
    Fn w true (n + 2) 172 [.tup [.int a0, .int a1, .int a2, .int a3, .dict (dI t)], .tup [.int b0, .int b1, .int b2, .int b3, .dict (dI s)]] (.tup [.int (b0 + a0), .int (b1 + a1), .int (b2 + a2), .int (b3 + a3), .dict (dI (addC t s s.length))]) := by
  refine k172.fn ["target", "source"] (by kernel_rfl) (by decide) rfl (bind2 fun _ _ => rfl) fun A sh F R => ?_
  refine Ex.unpack (Ev.name rfl) ?_ rfl
  refine Ex.unpack (Ev.name rfl) ?_ rfl
  refine Ex.retn (Ev.tuple (EvL.cons (Ev.bin (Ev.name rfl) (Ev.name rfl) o_add) (EvL.cons (Ev.bin (Ev.name rfl) (Ev.name rfl) o_add) (EvL.cons (Ev.bin (Ev.name rfl) (Ev.name rfl) o_add) (EvL.cons (Ev.bin (Ev.name rfl) (Ev.name rfl) o_add)
    (EvL.cons (Ev.call (fn179 (w := w) (n := n) ht hs) (g179 w) (k179.hK w) (EvL.cons (Ev.name rfl) (EvL.cons (Ev.name rfl) EvL.nil)) (hn := Nat.le_refl _)) EvL.nil)))))) fun _ => id

theorem fn186 {w : World} {n : Nat} {t : List (Int × Int)} : Fn w true (n + 1) 186 [.dict (dI t)] (.int (t.map (·.2)).sum) := by
  refine k186.fn ["callers"] (by kernel_rfl) (by decide) rfl (bind1 fun _ => rfl) fun A sh F R => ?_
  refine Ex.assign Ev.int ?_
  refine Ex.for (items := (dI t).map (·.2)) (R := []) (fun i => [("nc", .int ((t.map (·.2)).take i).sum)]) (fun i => []) (It.values rfl (Ev.name rfl)) ⟨rfl, trivial⟩ rfl (fun i d R' hd => ?_) ?_
  · rw [List.map_map, List.getElem?_map, Option.map_eq_some_iff] at hd
    obtain ⟨q, hq, rfl⟩ := hd
    obtain ⟨hi, rfl⟩ := List.getElem?_eq_some_iff.mp hq
    refine Ex.aug rfl (Ev.name rfl) o_iadd ?_
    refine Ex.turn ⟨?_, trivial⟩
    show some (D.int _) = some (D.int _)
    rw [List.take_succ_eq_append_getElem (by simpa using hi), List.sum_append]
    simp
  · have e : ((t.map (·.2)).take ((dI t).map (·.2)).length).sum = (t.map (·.2)).sum := by rw [List.take_of_length_le (by simp)]
    rw [e]
    exact Ex.retn (Ev.name rfl) fun _ => id
end Mine

end

-- part R1
section
open PySem PySem.W PyProof.Rows PySem.Calls
set_option maxRecDepth 100000
set_option linter.unusedVariables false
namespace Mine

noncomputable def QC : Array Nat := #[14, 8, 1, 2, 4294967295, 1, 1, 34, 0, 16, 34, 28, 22, 0, 4294967295, 7, 11, 13, 7, 21, 16, 34, 16, 92, 0, 15, 8, 6, 16, 92, 2, 15, 2, 0, 1, 16, 34, 1]

noncomputable def kp : Sre.Kept := { lastmark := -1, lastindex := -1, whole := true, marks := #[] }
noncomputable def kn : Sre.Kept := { lastmark := -1, lastindex := -1, whole := false, marks := #[] }

noncomputable def mkM (text : Array Nat) (lim start pc pos handed : Nat) (om : Bool) (loops : Array Sre.Loop) (inner : Option Nat) (frames : List Sre.Frame) (weight : Nat) (answer : Option Bool) (outcome : Option Sre.Outcome) (seen : Sre.Seen) : Sre.M :=
  { code := QC, text, lim, start, lastStart := lim, wholeText := false, mustAdvance := false, pc, pos, handed, outermost := om, marks := #[], lastmark := -1, lastindex := -1, loops, inner, frames, weight, answer, seen, outcome }

noncomputable def fNS (s : Nat) (first : Bool) : Sre.Frame := { wait := .nextStart, pc := 9, pos := s, outermost := first }
noncomputable def stS (text : Array Nat) (lim s : Nat) (first : Bool) : Sre.Seen → Sre.M := mkM text lim s 9 s s first #[] none [fNS s first] 1 none none
noncomputable def lp : Sre.Loop := { pc := 0, outer := none }
noncomputable def fPM (p : Nat) (first : Bool) (cnt : Int) : Sre.Frame := { wait := .possMore, pc := 11, pos := p, outermost := first, loop := 0, count := cnt, kept := kp }
noncomputable def stL (text : Array Nat) (lim s p : Nat) (first : Bool) (cnt : Int) : Sre.Seen → Sre.M := mkM text lim s 15 p p false #[lp] (some 0) [fPM p first cnt, fNS s first] 2 none none

noncomputable def Goes (n : Nat) (f g : Sre.Seen → Sre.M) : Prop := ∀ seen, ∃ seen', Sre.M.runFor n (f seen) = g seen'
theorem Goes.trans {n k : Nat} {f g h : Sre.Seen → Sre.M} (a : Goes n f g) (b : Goes k g h) : Goes (n + k) f h := fun seen => by
  obtain ⟨s1, e1⟩ := a seen
  obtain ⟨s2, e2⟩ := b s1
  refine ⟨s2, ?_⟩
  rw [← e2, ← e1]
  have : ∀ (n : Nat) (m : Sre.M), Sre.M.runFor (n + k) m = Sre.M.runFor k (Sre.M.runFor n m) := by
    intro n
    induction n with
    | zero => intro m; rw [Nat.zero_add]; rfl
    | succ n ih =>
      intro m
      rw [Nat.succ_add]
      show (if m.outcome.isSome then m else Sre.M.runFor (n + k) m.step) = Sre.M.runFor k (if m.outcome.isSome then m else Sre.M.runFor n m.step)
      split
      · rename_i h
        cases k with
        | zero => rfl
        | succ k => show m = if m.outcome.isSome then m else _; rw [if_pos h]
      · exact ih _
  exact this n _
theorem Goes.one {f g : Sre.Seen → Sre.M} (h : ∀ seen, (f seen).outcome = none ∧ ∃ seen', (f seen).step = g seen') : Goes 1 f g := fun seen => by
  obtain ⟨h1, s, h2⟩ := h seen
  refine ⟨s, ?_⟩
  show (if (f seen).outcome.isSome then f seen else (f seen).step) = _
  rw [h1, h2]; rfl

theorem pcs16 : ∀ pc, pc < 38 → QC.getD pc 0 = 16 → pc = 9 ∨ pc = 20 ∨ pc = 22 ∨ pc = 28 ∨ pc = 35 := by decide +kernel

section
variable {text : Array Nat} {lim s p : Nat} {first : Bool} {cnt : Int}

/-- a LITERAL that fits, that does not -/
theorem lit_yes {start pc pos handed : Nat} {om : Bool} {loops : Array Sre.Loop} {inner : Option Nat} {frames : List Sre.Frame} {weight w : Nat} (h0 : QC.getD pc 0 = 16) (h1 : QC.getD (pc + 1) 0 = w) (hsz : pc < 38) (hp : pos < lim) (hc : text.getD pos 0 = w) :
    Goes 1 (mkM text lim start pc pos handed om loops inner frames weight none none) (mkM text lim start (pc + 2) (pos + 1) handed om loops inner frames weight none none) := Goes.one fun seen => by
  refine ⟨rfl, seen.add 16, ?_⟩
  subst h1
  have hp : ¬ pos ≥ lim := Nat.not_le.mpr hp
  have e : (text.getD pos 0 == QC.getD (pc + 1) 0) = true := by rw [hc]; exact beq_self_eq_true _
  rcases pcs16 pc hsz h0 with rfl | rfl | rfl | rfl | rfl
  · refine (if_neg hp).trans ?_
    have ea : Sre.accepts QC 9 (text.getD pos 0) (seen.add (QC.getD (9 + 0) 0)) = .ok (true, seen.add 16) := by
      show Except.ok (text.getD pos 0 == QC.getD (9 + 1) 0, seen.add 16) = _
      rw [e]
    dsimp only [mkM, Sre.M.word]
    rw [ea]
    rfl
  · refine (if_neg hp).trans ?_
    have ea : Sre.accepts QC 20 (text.getD pos 0) (seen.add (QC.getD (20 + 0) 0)) = .ok (true, seen.add 16) := by
      show Except.ok (text.getD pos 0 == QC.getD (20 + 1) 0, seen.add 16) = _
      rw [e]
    dsimp only [mkM, Sre.M.word]
    rw [ea]
    rfl
  · refine (if_neg hp).trans ?_
    have ea : Sre.accepts QC 22 (text.getD pos 0) (seen.add (QC.getD (22 + 0) 0)) = .ok (true, seen.add 16) := by
      show Except.ok (text.getD pos 0 == QC.getD (22 + 1) 0, seen.add 16) = _
      rw [e]
    dsimp only [mkM, Sre.M.word]
    rw [ea]
    rfl
  · refine (if_neg hp).trans ?_
    have ea : Sre.accepts QC 28 (text.getD pos 0) (seen.add (QC.getD (28 + 0) 0)) = .ok (true, seen.add 16) := by
      show Except.ok (text.getD pos 0 == QC.getD (28 + 1) 0, seen.add 16) = _
      rw [e]
    dsimp only [mkM, Sre.M.word]
    rw [ea]
    rfl
  · refine (if_neg hp).trans ?_
    have ea : Sre.accepts QC 35 (text.getD pos 0) (seen.add (QC.getD (35 + 0) 0)) = .ok (true, seen.add 16) := by
      show Except.ok (text.getD pos 0 == QC.getD (35 + 1) 0, seen.add 16) = _
      rw [e]
    dsimp only [mkM, Sre.M.word]
    rw [ea]
    rfl

theorem lit_no {start pc pos handed : Nat} {om : Bool} {loops : Array Sre.Loop} {inner : Option Nat} {frames : List Sre.Frame} {weight w : Nat} (h0 : QC.getD pc 0 = 16) (h1 : QC.getD (pc + 1) 0 = w) (hsz : pc < 38) (hc : pos < lim → text.getD pos 0 ≠ w) :
    Goes 1 (mkM text lim start pc pos handed om loops inner frames weight none none) (mkM text lim start pc pos handed om loops inner frames weight (some false) none) := Goes.one fun seen => by
  refine ⟨rfl, seen.add 16, ?_⟩
  subst h1
  by_cases hp : pos ≥ lim
  · rcases pcs16 pc hsz h0 with rfl | rfl | rfl | rfl | rfl <;> exact (if_pos hp).trans rfl
  · have e : ∀ v, text.getD pos 0 ≠ v → (text.getD pos 0 == v) = false := fun v q => by simpa using q
    have e := e _ (hc (Nat.lt_of_not_le hp))
    rcases pcs16 pc hsz h0 with rfl | rfl | rfl | rfl | rfl
    · refine (if_neg hp).trans ?_
      have ea : Sre.accepts QC 9 (text.getD pos 0) (seen.add (QC.getD (9 + 0) 0)) = .ok (false, seen.add 16) := by
        show Except.ok (text.getD pos 0 == QC.getD (9 + 1) 0, seen.add 16) = _
        rw [e]
      dsimp only [mkM, Sre.M.word]
      rw [ea]
      rfl
    · refine (if_neg hp).trans ?_
      have ea : Sre.accepts QC 20 (text.getD pos 0) (seen.add (QC.getD (20 + 0) 0)) = .ok (false, seen.add 16) := by
        show Except.ok (text.getD pos 0 == QC.getD (20 + 1) 0, seen.add 16) = _
        rw [e]
      dsimp only [mkM, Sre.M.word]
      rw [ea]
      rfl
    · refine (if_neg hp).trans ?_
      have ea : Sre.accepts QC 22 (text.getD pos 0) (seen.add (QC.getD (22 + 0) 0)) = .ok (false, seen.add 16) := by
        show Except.ok (text.getD pos 0 == QC.getD (22 + 1) 0, seen.add 16) = _
        rw [e]
      dsimp only [mkM, Sre.M.word]
      rw [ea]
      rfl
    · refine (if_neg hp).trans ?_
      have ea : Sre.accepts QC 28 (text.getD pos 0) (seen.add (QC.getD (28 + 0) 0)) = .ok (false, seen.add 16) := by
        show Except.ok (text.getD pos 0 == QC.getD (28 + 1) 0, seen.add 16) = _
        rw [e]
      dsimp only [mkM, Sre.M.word]
      rw [ea]
      rfl
    · refine (if_neg hp).trans ?_
      have ea : Sre.accepts QC 35 (text.getD pos 0) (seen.add (QC.getD (35 + 0) 0)) = .ok (false, seen.add 16) := by
        show Except.ok (text.getD pos 0 == QC.getD (35 + 1) 0, seen.add 16) = _
        rw [e]
      dsimp only [mkM, Sre.M.word]
      rw [ea]
      rfl
end
end Mine

end

-- part R2
section
open PySem PySem.W PyProof.Rows PySem.Calls
set_option maxRecDepth 100000
set_option linter.unusedVariables false
namespace Mine

theorem pcs1 : ∀ pc, pc < 38 → QC.getD pc 0 = 1 → pc = 2 ∨ pc = 5 ∨ pc = 6 ∨ pc = 34 ∨ pc = 37 := by decide +kernel

section
variable {text : Array Nat} {lim s p : Nat} {first : Bool} {cnt : Int}

noncomputable def fNB (pc p : Nat) : Sre.Frame := { wait := .nextBranch, pc, pos := p, outermost := false, kept := kp }

/-- possessive repeat begins -/
theorem poss_start {handed : Nat} :
    Goes 1 (mkM text lim s 11 p handed first #[] none [fNS s first] 1 none none) (stL text lim s p first 0) := Goes.one fun seen => ⟨rfl, _, rfl⟩
theorem branch_step {p : Nat} : Goes 1 (stL text lim s p first cnt) (mkM text lim s 17 p p false #[lp] (some 0) [fNB 16 p, fPM p first cnt, fNS s first] 3 none none) := Goes.one fun seen => ⟨rfl, _, rfl⟩
theorem in_set (c : Nat) (seen : Sre.Seen) : ∃ seen', Sre.inSet QC c QC.size 19 true seen = .ok (!(c == 34 || c == 92), seen') := by
  have s1 : ∀ (n : Nat), Sre.inSet QC c (n + 1) 19 true seen = Sre.inSet QC c n 20 false (seen.add 21) := fun n => rfl
  have s2 : ∀ (n : Nat), Sre.inSet QC c (n + 1) 20 false (seen.add 21) = if c == 34 then .ok (false, (seen.add 21).add 16) else Sre.inSet QC c n 22 false ((seen.add 21).add 16) := fun n => rfl
  have s3 : ∀ (n : Nat) (z : Sre.Seen), Sre.inSet QC c (n + 1) 22 false z = if c == 92 then .ok (false, z.add 16) else Sre.inSet QC c n 24 false (z.add 16) := fun n z => rfl
  have s4 : ∀ (n : Nat) (z : Sre.Seen), Sre.inSet QC c (n + 1) 24 false z = .ok (true, z.add 0) := fun n z => rfl
  show ∃ seen', Sre.inSet QC c (37 + 1) 19 true seen = _
  rw [s1, s2, s3, s4]
  by_cases h1 : c = 34
  · subst h1; exact ⟨_, rfl⟩
  · have e1 : (c == 34) = false := by simpa using h1
    rw [e1]
    by_cases h2 : c = 92
    · subst h2; exact ⟨_, rfl⟩
    · have e2 : (c == 92) = false := by simpa using h2
      rw [e2]
      exact ⟨_, rfl⟩

theorem in_yes {p : Nat} {frames : List Sre.Frame} {w : Nat} (hp : p < lim) (h1 : text.getD p 0 ≠ 34) (h2 : text.getD p 0 ≠ 92) :
    Goes 1 (mkM text lim s 17 p p false #[lp] (some 0) frames w none none) (mkM text lim s 25 (p + 1) p false #[lp] (some 0) frames w none none) := Goes.one fun seen => by
  obtain ⟨seen', e⟩ := in_set (text.getD p 0) (seen.add 13)
  refine ⟨rfl, seen', ?_⟩
  have hn : ¬ p ≥ lim := Nat.not_le.mpr hp
  have e1 : (text.getD p 0 == 34) = false := by simpa using h1
  have e2 : (text.getD p 0 == 92) = false := by simpa using h2
  rw [e1, e2] at e
  refine (if_neg hn).trans ?_
  have ea : Sre.accepts QC 17 (text.getD p 0) (seen.add (QC.getD (17 + 0) 0)) = .ok (true, seen') := e
  dsimp only [mkM, Sre.M.word]
  rw [ea]
  rfl

theorem in_no {p : Nat} {frames : List Sre.Frame} {w : Nat} (h : p < lim → text.getD p 0 = 34) :
    Goes 1 (mkM text lim s 17 p p false #[lp] (some 0) frames w none none) (mkM text lim s 17 p p false #[lp] (some 0) frames w (some false) none) := Goes.one fun seen => by
  by_cases hp : p < lim
  · obtain ⟨seen', e⟩ := in_set (text.getD p 0) (seen.add 13)
    refine ⟨rfl, seen', ?_⟩
    have hn : ¬ p ≥ lim := Nat.not_le.mpr hp
    have e1 : (text.getD p 0 == 34) = true := by rw [h hp]; rfl
    rw [e1] at e
    refine (if_neg hn).trans ?_
    have ea : Sre.accepts QC 17 (text.getD p 0) (seen.add (QC.getD (17 + 0) 0)) = .ok (false, seen') := e
    dsimp only [mkM, Sre.M.word]
    rw [ea]
    rfl
  · exact ⟨rfl, seen.add 13, (if_pos (Nat.not_lt.mp hp)).trans rfl⟩

theorem jump_step {pos handed : Nat} {frames : List Sre.Frame} {w : Nat} : Goes 1 (mkM text lim s 25 pos handed false #[lp] (some 0) frames w none none) (mkM text lim s 34 pos handed false #[lp] (some 0) frames w none none) := Goes.one fun seen => ⟨rfl, _, rfl⟩
theorem succ_step {pc pos handed : Nat} {om : Bool} {loops : Array Sre.Loop} {inner : Option Nat} {frames : List Sre.Frame} {w : Nat} (h : QC.getD pc 0 = 1) (hsz : pc < 38) :
    Goes 1 (mkM text lim s pc pos handed om loops inner frames w none none) (mkM text lim s pc pos pos om loops inner frames w (some true) none) := Goes.one fun seen => by
  rcases pcs1 pc hsz h with rfl | rfl | rfl | rfl | rfl <;> cases om <;> exact ⟨rfl, _, rfl⟩

/-- the answers go back -/
theorem back_branch_yes {pc pos handed : Nat} {om : Bool} {pcb p : Nat} {frames : List Sre.Frame} {w : Nat} :
    Goes 1 (mkM text lim s pc pos handed om #[lp] (some 0) (fNB pcb p :: frames) (w + 1) (some true) none) (mkM text lim s pcb p handed false #[lp] (some 0) frames w (some true) none) := Goes.one fun seen => ⟨rfl, _, rfl⟩
theorem back_branch_no {pc pos handed : Nat} {om : Bool} {p : Nat} {frames : List Sre.Frame} {w : Nat} (hw : w ≤ 100) :
    Goes 1 (mkM text lim s pc pos handed om #[lp] (some 0) (fNB 16 p :: frames) (w + 1) (some false) none) (mkM text lim s 28 p p false #[lp] (some 0) (fNB 27 p :: frames) (w + 1) none none) := Goes.one fun seen => ⟨rfl, seen, by
  simp [mkM, Sre.M.step, Sre.M.resume, fNB, kp, Sre.M.say, Sre.M.alternative, Sre.M.putBack, show QC.getD 16 0 = 11 from rfl, show QC.getD 27 0 = 6 from rfl, Sre.M.attempt, Sre.M.frame]
  omega +splitDisjunctions⟩
theorem back_branch_end {pc pos handed : Nat} {om : Bool} {p : Nat} {frames : List Sre.Frame} {w : Nat} :
    Goes 1 (mkM text lim s pc pos handed om #[lp] (some 0) (fNB 27 p :: frames) (w + 1) (some false) none) (mkM text lim s 27 p handed false #[lp] (some 0) frames w (some false) none) := Goes.one fun seen => ⟨rfl, _, rfl⟩
theorem back_more_yes {pc pos handed : Nat} {om : Bool} {p : Nat} (h : p ≠ handed) (hc : 0 ≤ cnt) :
    Goes 1 (mkM text lim s pc pos handed om #[lp] (some 0) [fPM p first cnt, fNS s first] 2 (some true) none) (stL text lim s handed first (cnt + 1)) := Goes.one fun seen => ⟨rfl, seen, by
  simp only [mkM, Sre.M.step, Sre.M.resume, fPM, kp, Option.isSome_none, Bool.false_eq_true, if_false, if_true, Sre.M.possessive, Sre.M.word, show QC.getD (11 + 2) 0 = 0 from rfl, show QC.getD (11 + 3) 0 = 4294967295 from rfl, Sre.maxRepeat]
  have e : ¬ (cnt + 1 < 0) := by omega +splitDisjunctions
  simp [e, h, Sre.M.attempt, Sre.M.frame, Sre.M.keep, stL, mkM, lp, fPM, fNS, kp]⟩
theorem back_more_no {pc pos handed : Nat} {om : Bool} {p : Nat} (hc : 0 ≤ cnt) :
    Goes 1 (mkM text lim s pc pos handed om #[lp] (some 0) [fPM p first cnt, fNS s first] 2 (some false) none) (mkM text lim s 35 p p first #[] none [fNS s first] 1 none none) := Goes.one fun seen => ⟨rfl, seen, by
  simp only [mkM, Sre.M.step, Sre.M.resume, fPM, kp, Option.isSome_none, Bool.false_eq_true, if_false, if_true, Sre.M.possessive, Sre.M.word, show QC.getD (11 + 2) 0 = 0 from rfl, show QC.getD (11 + 3) 0 = 4294967295 from rfl, Sre.maxRepeat, Sre.M.putBack]
  have e : ¬ (cnt < 0) := by omega +splitDisjunctions
  simp [e, Sre.M.loopAt, lp, show QC.getD 12 0 = 22 from rfl]⟩
theorem back_start_yes {pc pos handed : Nat} {om : Bool} {loops : Array Sre.Loop} {inner : Option Nat} :
    Goes 1 (mkM text lim s pc pos handed om loops inner [fNS s first] 1 (some true) none) (mkM text lim s 9 s handed first loops inner [] 0 (some true) none) := Goes.one fun seen => ⟨rfl, _, rfl⟩
theorem back_start_no {pc pos handed : Nat} {om : Bool} (h : s < lim) :
    Goes 1 (mkM text lim s pc pos handed om #[] none [fNS s first] 1 (some false) none) (stS text lim (s + 1) false) := Goes.one fun seen => ⟨rfl, _, by
  show (if s < lim then _ else _) = _
  exact (if_pos h).trans rfl⟩
theorem back_start_end {pc pos handed : Nat} {om : Bool} (h : ¬ s < lim) :
    Goes 1 (mkM text lim s pc pos handed om #[] none [fNS s first] 1 (some false) none) (mkM text lim s 9 s handed first #[] none [] 0 (some false) none) := Goes.one fun seen => ⟨rfl, _, by
  show (if s < lim then _ else _) = _
  exact if_neg h⟩
theorem end_step {pc pos handed : Nat} {om yes : Bool} {loops : Array Sre.Loop} {inner : Option Nat} {w : Nat} :
    Goes 1 (mkM text lim s pc pos handed om loops inner [] w (some yes) none) (mkM text lim s pc pos handed om loops inner [] w (some yes) (some (if yes then .matched else .failed))) := Goes.one fun seen => ⟨rfl, _, rfl⟩
end
end Mine

end

-- part R3
section
open PySem PySem.W PyProof.Rows PySem.Calls
set_option maxRecDepth 100000
set_option linter.unusedVariables false
namespace Mine

section
variable {text : Array Nat} {lim s p : Nat} {first : Bool} {cnt : Int}

theorem scan_step (hp : s < lim) (h : text.getD s 0 ≠ 34) : Goes 2 (stS text lim s first) (stS text lim (s + 1) false) :=
  Goes.trans (n := 1) (k := 1) (lit_no (w := 34) rfl rfl (by decide) fun _ => h) (back_start_no hp)
theorem scan_all (first : Bool) : ∀ (k s : Nat), s + k ≤ lim → (∀ i, s ≤ i → i < s + k → text.getD i 0 ≠ 34) → ∃ f', Goes (2 * k) (stS text lim s first) (stS text lim (s + k) f') := by
  intro k
  induction k generalizing first with
  | zero => intro s _ _; exact ⟨first, fun seen => ⟨seen, rfl⟩⟩
  | succ k ih =>
    intro s h h2
    obtain ⟨f', g⟩ := ih false (s + 1) (by omega) fun i h3 h4 => h2 i (by omega) (by omega)
    refine ⟨f', ?_⟩
    have := Goes.trans (scan_step (first := first) (by omega) (h2 s (by omega) (by omega))) g
    rwa [show 2 + 2 * k = 2 * (k + 1) by omega, show s + 1 + k = s + (k + 1) by omega] at this

theorem char_step (hp : p < lim) (h1 : text.getD p 0 ≠ 34) (h2 : text.getD p 0 ≠ 92) (hc : 0 ≤ cnt) : Goes 6 (stL text lim s p first cnt) (stL text lim s (p + 1) first (cnt + 1)) :=
  Goes.trans (n := 1) (k := 5) branch_step (Goes.trans (n := 1) (k := 4) (in_yes hp h1 h2) (Goes.trans (n := 1) (k := 3) jump_step (Goes.trans (n := 1) (k := 2) (succ_step rfl (by decide)) (Goes.trans (n := 1) (k := 1) back_branch_yes (back_more_yes (by omega) hc)))))
theorem char_all : ∀ (k p : Nat) (cnt : Int), 0 ≤ cnt → p + k ≤ lim → (∀ i, p ≤ i → i < p + k → text.getD i 0 ≠ 34 ∧ text.getD i 0 ≠ 92) → Goes (6 * k) (stL text lim s p first cnt) (stL text lim s (p + k) first (cnt + k)) := by
  intro k
  induction k with
  | zero => intro p cnt _ _ _; rw [show cnt + ((0 : Nat) : Int) = cnt by omega]; exact fun seen => ⟨seen, rfl⟩
  | succ k ih =>
    intro p cnt hc h h2
    have g := ih (p + 1) (cnt + 1) (by omega) (by omega) fun i h3 h4 => h2 i (by omega) (by omega)
    have q := h2 p (by omega) (by omega)
    have := Goes.trans (char_step (s := s) (first := first) (by omega) q.1 q.2 hc) g
    rwa [show 6 + 6 * k = 6 * (k + 1) by omega, show p + 1 + k = p + (k + 1) by omega, show cnt + 1 + (k : Int) = cnt + ((k + 1 : Nat) : Int) by omega] at this

theorem quote_end (hp : p < lim) (h : text.getD p 0 = 34) (hc : 0 ≤ cnt) : Goes 10 (stL text lim s p first cnt) (mkM text lim s 9 s (p + 1) first #[] none [] 0 (some true) (some .matched)) :=
  Goes.trans (n := 1) (k := 9) branch_step (Goes.trans (n := 1) (k := 8) (in_no fun _ => h) (Goes.trans (n := 1) (k := 7) (back_branch_no (w := 2) (by decide)) (Goes.trans (n := 1) (k := 6) (lit_no (w := 92) rfl rfl (by decide) fun _ => by rw [h]; decide)
    (Goes.trans (n := 1) (k := 5) back_branch_end (Goes.trans (n := 1) (k := 4) (back_more_no hc) (Goes.trans (n := 1) (k := 3) (lit_yes (w := 34) rfl rfl (by decide) hp h) (Goes.trans (n := 1) (k := 2) (succ_step rfl (by decide)) (Goes.trans (n := 1) (k := 1) back_start_yes end_step))))))))

theorem found_from {a b : Nat} {pos : Nat} (h1 : pos ≤ a) (h2 : a < b) (h3 : b < lim) (hpre : ∀ i, pos ≤ i → i < a → text.getD i 0 ≠ 34) (ha : text.getD a 0 = 34) (hq : ∀ i, a < i → i < b → text.getD i 0 ≠ 34 ∧ text.getD i 0 ≠ 92) (hb : text.getD b 0 = 34) :
    ∃ n f', n ≤ 8 * lim + 20 ∧ Goes n (stS text lim pos true) (mkM text lim a 9 a (b + 1) f' #[] none [] 0 (some true) (some .matched)) := by
  obtain ⟨f', g1⟩ := scan_all (text := text) (lim := lim) true (a - pos) pos (by omega) fun i h4 h5 => hpre i h4 (by omega)
  rw [show pos + (a - pos) = a by omega] at g1
  have g2 : Goes 2 (stS text lim a f') (stL text lim a (a + 1) f' 0) := Goes.trans (n := 1) (k := 1) (lit_yes (w := 34) rfl rfl (by decide) (by omega) ha) poss_start
  have g3 := char_all (text := text) (lim := lim) (s := a) (first := f') (b - a - 1) (a + 1) 0 (by omega) (by omega) fun i h4 h5 => hq i (by omega) (by omega)
  rw [show a + 1 + (b - a - 1) = b by omega] at g3
  have g4 := quote_end (text := text) (lim := lim) (s := a) (first := f') (cnt := 0 + ((b - a - 1 : Nat) : Int)) h3 hb (by omega)
  exact ⟨_, f', by omega, Goes.trans g1 (Goes.trans g2 (Goes.trans g3 g4))⟩

theorem none_from {pos : Nat} (h1 : pos ≤ lim) (hpre : ∀ i, pos ≤ i → i < lim → text.getD i 0 ≠ 34) :
    ∃ n f', n ≤ 8 * lim + 20 ∧ Goes n (stS text lim pos true) (mkM text lim lim 9 lim lim f' #[] none [] 0 (some false) (some .failed)) := by
  obtain ⟨f', g1⟩ := scan_all (text := text) (lim := lim) true (lim - pos) pos (by omega) fun i h4 h5 => hpre i h4 (by omega)
  rw [show pos + (lim - pos) = lim by omega] at g1
  have g2 : Goes 3 (stS text lim lim f') (mkM text lim lim 9 lim lim f' #[] none [] 0 (some false) (some .failed)) :=
    Goes.trans (n := 1) (k := 2) (lit_no (w := 34) rfl rfl (by decide) fun h => absurd h (by omega)) (Goes.trans (n := 1) (k := 1) (back_start_end (by omega)) end_step)
  exact ⟨_, f', by omega, Goes.trans g1 g2⟩
end

theorem search_eq {text : Array Nat} {pos lim : Nat} (h : pos + 2 ≤ lim) : ∃ seen, Sre.forSearch QC text 0 pos lim false = stS text lim pos true seen := by
  refine ⟨({} : Sre.Seen).add 14, ?_⟩
  have hc : (decide (pos > lim) || decide (lim - pos < 2)) = false := by simp; omega
  show (if (decide (pos > lim) || decide (lim - pos < 2)) = true then _ else _) = _
  rw [hc]
  rfl
theorem search_short {text : Array Nat} {pos lim : Nat} (h : ¬ pos + 2 ≤ lim) : (Sre.M.runFor 1 (Sre.forSearch QC text 0 pos lim false)).outcome = some .failed := by
  have hc : (decide (pos > lim) || decide (lim - pos < 2)) = true := by simp; omega
  have : Sre.forSearch QC text 0 pos lim false = (if (decide (pos > lim) || decide (lim - pos < 2)) = true then _ else _) := rfl
  rw [this, if_pos hc]
  rfl

theorem search_found {text : Array Nat} {lim pos a b : Nat} (h1 : pos ≤ a) (h2 : a < b) (h3 : b < lim) (hpre : ∀ i, pos ≤ i → i < a → text.getD i 0 ≠ 34) (ha : text.getD a 0 = 34) (hq : ∀ i, a < i → i < b → text.getD i 0 ≠ 34 ∧ text.getD i 0 ≠ 92) (hb : text.getD b 0 = 34) :
    ∃ n m, n ≤ 8 * lim + 20 ∧ Sre.M.runFor n (Sre.forSearch QC text 0 pos lim false) = m ∧ m.outcome = some .matched ∧ m.start = a ∧ m.handed = b + 1 := by
  obtain ⟨seen, e⟩ := search_eq (text := text) (pos := pos) (lim := lim) (by omega)
  obtain ⟨n, f', hn, g⟩ := found_from h1 h2 h3 hpre ha hq hb
  obtain ⟨seen', e'⟩ := g seen
  exact ⟨n, _, hn, by rw [e, e'], rfl, rfl, rfl⟩
theorem search_none {text : Array Nat} {lim pos : Nat} (hpre : ∀ i, pos ≤ i → i < lim → text.getD i 0 ≠ 34) :
    ∃ n m, n ≤ 8 * lim + 20 ∧ Sre.M.runFor n (Sre.forSearch QC text 0 pos lim false) = m ∧ m.outcome = some .failed := by
  by_cases h : pos + 2 ≤ lim
  · obtain ⟨seen, e⟩ := search_eq (text := text) (pos := pos) (lim := lim) h
    obtain ⟨n, f', hn, g⟩ := none_from (text := text) (lim := lim) (pos := pos) (by omega) hpre
    obtain ⟨seen', e'⟩ := g seen
    exact ⟨n, _, hn, by rw [e, e'], rfl⟩
  · exact ⟨1, _, by omega, rfl, search_short h⟩
end Mine

end

-- part R4
section
open PySem PySem.W PyProof.Rows PySem.Calls
set_option maxRecDepth 100000
set_option linter.unusedVariables false
namespace Mine
theorem tl_buf : typeLookup (.type "bytes") "__buffer__" = pure (some (.builtin "bytes.__buffer__")) := by rw [typeLookup_type, builtinLookup_eq_fast]; kernel_rfl
theorem sp_buf (b : Array UInt8) (t : Tok) : specialOf (.bytes b t) "__buffer__" = pure (some (.builtin "bytes.__buffer__")) := by
  show (typeOf (.bytes b t) >>= fun T => typeLookup T "__buffer__") = _
  show (pure (Value.type "bytes") >>= fun T => typeLookup T "__buffer__") = _
  rw [pure_bind, tl_buf]
theorem own_buf (b : Array UInt8) (t : Tok) : Builtin.Bytes.slotIsOwn (.bytes b t) "__buffer__" = pure true := by
  unfold Builtin.Bytes.slotIsOwn
  kernel_rfl
theorem own_rel (b : Array UInt8) (t : Tok) : Builtin.Bytes.ownRelease (.bytes b t) = pure false := by
  unfold Builtin.Bytes.ownRelease
  kernel_rfl
theorem buf_eq (b : Array UInt8) (t : Tok) (id : String) (full : Bool) : Builtin.Bytes.buffer? id (.bytes b t) full = pure (some b) := by
  unfold Builtin.Bytes.buffer?
  rw [sp_buf, pure_bind]
  dsimp only
  rw [own_buf]
  simp only [pure_bind]
  rw [own_rel]
  rfl
theorem fold_count (b : Array UInt8) (c : UInt8) : ∀ n, n ≤ b.size →
    let r := ((List.range n).map (· + 0)).foldl (fun (acc : List Nat × Nat) (i : Nat) => if i ≥ acc.2 && b.extract i (i + (#[c] : Array UInt8).size) == #[c] then (i :: acc.1, i + (#[c] : Array UInt8).size) else acc) ([], 0)
    r.1.length = (b.toList.take n).count c ∧ r.2 ≤ n := by
  intro n
  induction n with
  | zero => intro _; simp
  | succ n ih =>
    intro h
    obtain ⟨h1, h2⟩ := ih (by omega)
    rw [List.range_succ, List.map_append, List.foldl_append]
    generalize ((List.range n).map (· + 0)).foldl _ _ = r at *
    have hn : n < b.size := by omega
    have e : (b.extract n (n + (#[c] : Array UInt8).size) == #[c]) = (b[n] == c) := by
      have : b.extract n (n + (#[c] : Array UInt8).size) = #[b[n]] := by
        apply Array.ext
        · simp; omega
        · intro i h3 h4
          have : i = 0 := by simp at h4; omega
          subst this
          simp
      rw [this]
      by_cases hc : b[n] = c
      · rw [hc]; simp
      · have e1 : (b[n] == c) = false := by simpa using hc
        rw [e1, beq_eq_false_iff_ne]
        intro q
        exact hc (by simpa using q)
    have e2 : b.toList.take (n + 1) = b.toList.take n ++ [b[n]] := by
      rw [List.take_succ_eq_append_getElem (by simpa using hn)]
      simp
    simp only [List.map_cons, List.map_nil, List.foldl_cons, List.foldl_nil, Nat.add_zero, e]
    rw [e2, List.count_append]
    have e3 : decide (n ≥ r.2) = true := by simpa using h2
    rw [e3, Bool.true_and]
    by_cases hc : b[n] = c
    · rw [if_pos (by simpa using hc)]
      simp [h1, hc]
    · rw [if_neg (by simpa using hc)]
      have : List.count c [b[n]] = 0 := List.count_eq_zero.mpr (by simpa using fun q => hc q.symm)
      rw [this]
      exact ⟨h1, by omega⟩

theorem occ_count (b : Array UInt8) (c : UInt8) : (Builtin.Bytes.occurrences b #[c] 0 b.size).length = b.toList.count c := by
  unfold Builtin.Bytes.occurrences
  have h := (fold_count b c b.size (Nat.le_refl _)).1
  rw [List.take_of_length_le (by simp)] at h
  rw [← h]
  have : b.size + 1 - (0 + (#[c] : Array UInt8).size) = b.size := by simp
  rw [this]
  simp only [List.length_reverse]

theorem search_eq' (b : Array UInt8) (c : UInt8) (t u : Tok) : Builtin.Bytes.searchArgs .bytes "count" ⟨[.bytes b t, .bytes #[c] u], []⟩ = pure (b, #[c], if (b.size : Int) < 1 then none else some (0, b.size)) := by
  unfold Builtin.Bytes.searchArgs
  show (Builtin.Bytes.buffer? _ (.bytes #[c] u) false >>= _) = _
  rw [buf_eq]
  show (pure (b, #[c], if (Builtin.Bytes.window b.size none none).2 - (Builtin.Bytes.window b.size none none).1 < ((#[c] : Array UInt8).size : Int) then none else some ((Builtin.Bytes.window b.size none none).1.toNat, (Builtin.Bytes.window b.size none none).2.toNat)) : Sem _) = _
  have e : Builtin.Bytes.window b.size none none = (0, (b.size : Int)) := by
    unfold Builtin.Bytes.window
    simp
    omega
  rw [e]
  simp

theorem count_eq (b : Array UInt8) (c : UInt8) (t u : Tok) : Builtin.«bytes.count» ⟨[.bytes b t, .bytes #[c] u], []⟩ = retInt ((b.toList.count c : Nat) : Int) := by
  show Builtin.Bytes.countM .bytes _ = _
  unfold Builtin.Bytes.countM
  rw [search_eq', pure_bind]
  by_cases h : (b.size : Int) < 1
  · rw [if_pos h]
    have : b.toList = [] := by
      have : b.size = 0 := by omega
      exact List.eq_nil_of_length_eq_zero (by simpa using this)
    rw [this]; rfl
  · rw [if_neg h]
    show retInt ((Builtin.Bytes.occurrences b #[c] 0 b.size).length : Int) = _
    rw [occ_count]
end Mine

end

-- part R5
section
open PySem PySem.W PyProof.Rows PySem.Calls
set_option maxRecDepth 100000
set_option linter.unusedVariables false
namespace Mine

theorem take_eq (b : Array UInt8) (t : Tok) (id : String) : Builtin.Bytes.takeBufferQuiet? id (.bytes b t) 0 = pure (some (b, none)) := by
  have e : Builtin.Bytes.takeBuffer? id (.bytes b t) 0 = pure (some (b, none)) := by
    unfold Builtin.Bytes.takeBuffer?
    rw [sp_buf, pure_bind]
    dsimp only
    rw [own_buf]
    simp only [pure_bind, buf_eq]
    rfl
  unfold Builtin.Bytes.takeBufferQuiet?
  rw [e]
  rfl

theorem wp_forRange {M : Model} {A : Around} {E : Value → Shared → Prop} {s : Shared} {β : Type} {n : Nat} {f : Nat → β → Sem (ForInStep β)} {b : β} (I : Nat → β → Prop) {Q : β → Shared → Prop} (h0 : I 0 b)
    (hstep : ∀ i c, i < n → I i c → wpAny M A (f i c) (fun r s' => s' = s ∧ ∃ c', r = .yield c' ∧ I (i + 1) c') E s) (hend : ∀ c, I n c → Q c s) : wpAny M A (forIn [:n] b f) Q E s := by
  rw [Std.Legacy.Range.forIn_eq_forIn_range']
  show wpAny M A (forIn (List.range' 0 ((n - 0 + 1 - 1) / 1) 1) b f) Q E s
  rw [Nat.div_one, Nat.add_sub_cancel, Nat.sub_zero]
  have key : ∀ (k i : Nat) (c : β), i + k = n → I i c → wpAny M A (forIn (List.range' i k 1) c f) Q E s := by
    intro k
    induction k with
    | zero => intro i c hi hI; exact wpAny_pure (hend c (by rw [show n = i by omega]; exact hI))
    | succ k ih =>
      intro i c hi hI
      rw [List.range'_succ, List.forIn_cons]
      refine wpAny_bind (wpAny_mono (hstep i c (by omega) hI) (fun r s' h => ?_) fun _ _ x => x)
      obtain ⟨rfl, c', rfl, hI'⟩ := h
      exact ih (i + 1) c' (by omega) hI'
  exact key n 0 b (by omega) h0

theorem wp_joinLetGo {M : Model} {A : Around} {E : Value → Shared → Prop} {s : Shared} {Q : Unit → Shared → Prop} (keep : List Value) (h : Q () s) : ∀ (taken : List (Value × Option Value)), (∀ x ∈ taken, x.2 = none) → wpAny M A (Builtin.Bytes.joinLetGo taken keep) Q E s
  | [], _ => wpAny_pure h
  | (x, w) :: rest, hw => by
    have : w = none := hw (x, w) (.head _)
    subst this
    unfold Builtin.Bytes.joinLetGo
    refine wpAny_bind (wpAny_letGo ?_)
    exact wp_joinLetGo keep h rest fun y hy => hw y (.tail _ hy)

theorem joined_nil (ps : List (Array UInt8)) : Builtin.Bytes.joined #[] ps = (ps.map (·.toList)).flatten.toArray := by
  have key : ∀ (ps : List (Array UInt8)) (k : Nat) (acc : Array UInt8), (ps.zipIdx k).foldl (fun out (p, i) => (if i > 0 then out ++ (#[] : Array UInt8) else out) ++ p) acc = acc ++ (ps.map (·.toList)).flatten.toArray := by
    intro ps
    induction ps with
    | nil => intro k acc; simp
    | cons p ps ih =>
      intro k acc
      rw [List.zipIdx_cons, List.foldl_cons]
      have : (if k > 0 then acc ++ (#[] : Array UInt8) else acc) = acc := by split <;> simp
      simp only [this]
      rw [ih]
      apply Array.toList_inj.mp
      simp
  have := key ps 0 #[]
  unfold Builtin.Bytes.joined
  simpa using this

theorem fold_size (ps : List (Array UInt8)) : ∀ acc : Nat, ps.foldl (fun n p => n + p.size) acc = acc + (ps.map (·.toList)).flatten.length := by
  induction ps with
  | nil => intro acc; simp
  | cons p ps ih => intro acc; rw [List.foldl_cons, ih]; simp; omega

/-- items of bytes -/
noncomputable def BytesAre (vs : List Value) (ps : List (Array UInt8)) : Prop := vs.length = ps.length ∧ ∀ (i : Nat) (v : Value) (p : Array UInt8), vs[i]? = some v → ps[i]? = some p → ∃ t, v = Value.bytes p t

theorem join_wp {prog : Program} {w : World} {A : Around} {E : Value → Shared → Prop} {s : Shared} {Q : Fin → Shared → Prop} {l : Addr} {t : Tok} {o : Obj} {n : Nat} {vs : List Value} {ps : List (Array UInt8)} (ho : s.heap.get? l = some o) (hc : o.cls = .type "list") (hd : o.data = .seq vs.toArray n) (hv : BytesAre vs ps)
    (hz : (ps.map (·.toList)).flatten.length ≤ sizeLine) (h : ∀ t k, s.toks ≤ k → Q (.done (.ret (Value.bytes (ps.map (·.toList)).flatten.toArray t))) { s with toks := k }) :
    wpAny (model prog w) A (Builtin.«bytes.join» ⟨[.bytes #[] t, .ref l], []⟩) Q E s := by
  have hT : s.TypeIs (.ref l) "list" := ⟨o, ho, hc⟩
  show wpAny _ _ (Builtin.Bytes.joinM .bytes _) _ _ _
  unfold Builtin.Bytes.joinM
  dsimp only
  refine wpAny_bind (wpAny_pure ?_)
  show wpAny _ _ (if true = true then _ else _) _ _ _
  rw [if_pos rfl]
  refine wpAny_bind ?_
  unfold Builtin.Bytes.joinItems
  refine wpAny_bind (wpAny_typeOf hT ?_)
  show wpAny _ _ (if true = true then _ else _) _ _ _
  rw [if_pos rfl]
  refine wpAny_pure (wpAny_bind (wpAny_seqItems ho hd ?_))
  dsimp only
  show wpAny _ _ (if true = true then _ else _) _ _ _
  rw [if_pos rfl]
  have hlen := hv.1
  have main : ∀ (G : Nat → Array (Array UInt8) × List (Value × Option Value) → Sem (ForInStep (Array (Array UInt8) × List (Value × Option Value)))) (K : Array (Array UInt8) × List (Value × Option Value) → Sem PySem.Fin),
      (∀ (i : Nat) (c : Array (Array UInt8) × List (Value × Option Value)) (v : Value) (p : Array UInt8), vs[i]? = some v → ps[i]? = some p → (∃ t, v = Value.bytes p t) → (c.2.any fun x => x.1.onHeap) = false → wpAny (model prog w) A (G i c) (fun r s' => s' = s ∧ r = .yield (c.1.push p, c.2 ++ [(v, none)])) E s) →
      (∀ c, c.1.toList = ps → (∀ x ∈ c.2, x.2 = none) → wpAny (model prog w) A (K c) Q E s) → wpAny (model prog w) A (forIn [:vs.toArray.size] (#[], []) G >>= K) Q E s := by
    intro G K hG hK
    have hsz : vs.toArray.size = vs.length := by simp
    rw [hsz]
    refine wpAny_bind (wp_forRange (I := fun (i : Nat) (c : Array (Array UInt8) × List (Value × Option Value)) => c.1.toList = ps.take i ∧ (∀ x ∈ c.2, x.2 = none) ∧ (c.2.any fun x => x.1.onHeap) = false) ⟨rfl, (fun _ h => nomatch h), rfl⟩ (fun i c hi hI => ?_) fun c hc => hK c (by rw [hc.1, hlen, List.take_length]) hc.2.1)
    have hv1 : vs[i]? = some vs[i] := List.getElem?_eq_getElem hi
    have hi2 : i < ps.length := by omega
    have hp1 : ps[i]? = some ps[i] := List.getElem?_eq_getElem hi2
    obtain ⟨t, ht⟩ := hv.2 i _ _ hv1 hp1
    refine wpAny_mono (hG i c _ _ hv1 hp1 ⟨t, ht⟩ hI.2.2) (fun r s' ⟨h1, h2⟩ => ⟨h1, _, h2, ?_, fun x hx => ?_, ?_⟩) fun _ _ x => x
    · rw [Array.toList_push, hI.1, List.take_succ_eq_append_getElem hi2]
    · rcases List.mem_append.mp hx with hx | hx
      · exact hI.2.1 x hx
      · rw [List.mem_singleton.mp hx]
    · rw [List.any_append, hI.2.2, ht]; rfl
  have step : ∀ (i : Nat) (c : Array (Array UInt8) × List (Value × Option Value)) (v : Value) (p : Array UInt8), vs[i]? = some v → vs.toArray.getD i .none = v := fun i c v p e => by
    simp [Array.getD, e]
    obtain ⟨h1, h2⟩ := List.getElem?_eq_some_iff.mp e
    rw [dif_pos h1]; exact h2
  have hk : (Builtin.Bytes.Kind.bytes == Builtin.Bytes.Kind.bytearray) = false := rfl
  have step' : ∀ (i : Nat) (v : Value), vs[i]? = some v → vs.toArray.getD i .none = v := fun i v e => step i (#[], []) v #[] e
  clear step
  cases vs with
  | nil =>
    show wpAny _ _ (_ >>= _) _ _ _
    refine main _ _ (fun i c v p hv hp ht ha => ?_) (fun c h1 h2 => ?_)
    · simp at hv
    · refine wpAny_bind (wpAny_pure ?_)
      have hb : Builtin.Bytes.tooLong (Array.foldl (fun x1 x2 => x1 + x2.size) ((#[] : Array UInt8).size * (c.fst.size - 1)) c.fst) = false := by
        rw [← Array.foldl_toList, h1, fold_size]
        unfold Builtin.Bytes.tooLong
        exact decide_eq_false (by simpa using hz)
      rw [if_neg (by rw [hb]; decide), h1, joined_nil]
      refine wpAny_bind ?_
      show wpAny _ _ (mkBytes _) _ _ _
      unfold mkBytes
      rw [if_neg (by simpa using hz)]
      refine wpAny_bind (wpAny_fresh (wpAny_pure (wpAny_bind (wpAny_holding (wpAny_point (wpAny_bind (wp_joinLetGo _ ?_ _ h2)))))))
      exact wpAny_pure (h _ _ (Nat.le_succ _))
  | cons x r =>
    cases r with
    | nil =>
      show wpAny _ _ (typeOf x >>= _) _ _ _
      obtain ⟨p, rfl⟩ : ∃ p, ps = [p] := by
        match ps, hlen with
        | [p], _ => exact ⟨p, rfl⟩
      obtain ⟨tv, rfl⟩ := hv.2 0 x p rfl rfl
      refine wpAny_bind (wpAny_pure ?_)
      show wpAny _ _ (if true = true then _ else _) _ _ _
      rw [if_pos rfl]
      refine wpAny_bind (wpAny_rule (wpAny_pure ?_))
      have := h tv s.toks (Nat.le_refl _)
      have e : ([p].map (·.toList)).flatten.toArray = p := by simp
      rw [e] at this
      exact this
    | cons y r =>
      show wpAny _ _ (_ >>= _) _ _ _
      refine main _ _ (fun i c v p hv hp ht ha => ?_) (fun c h1 h2 => ?_)
      · obtain ⟨tv, rfl⟩ := ht
        refine wpAny_bind (wpAny_seqItems ho hd ?_)
        dsimp only
        rw [if_neg (by rw [ha, hk]; decide), step' i _ hv]
        refine wpAny_bind (wpAny_holding ?_)
        rw [take_eq]
        refine wpAny_pure ?_
        dsimp only
        refine wpAny_bind (wpAny_seqItems ho hd ?_)
        dsimp only
        rw [if_neg (by simp)]
        exact wpAny_pure ⟨rfl, rfl⟩
      · refine wpAny_bind (wpAny_pure ?_)
        have hb : Builtin.Bytes.tooLong (Array.foldl (fun x1 x2 => x1 + x2.size) ((#[] : Array UInt8).size * (c.fst.size - 1)) c.fst) = false := by
          rw [← Array.foldl_toList, h1, fold_size]
          unfold Builtin.Bytes.tooLong
          exact decide_eq_false (by simpa using hz)
        rw [if_neg (by rw [hb]; decide), h1, joined_nil]
        refine wpAny_bind ?_
        show wpAny _ _ (mkBytes _) _ _ _
        unfold mkBytes
        rw [if_neg (by simpa using hz)]
        refine wpAny_bind (wpAny_fresh (wpAny_pure (wpAny_bind (wpAny_holding (wpAny_point (wpAny_bind (wp_joinLetGo _ ?_ _ h2)))))))
        exact wpAny_pure (h _ _ (Nat.le_succ _))
end Mine

end

-- part R6
section
open PySem PySem.W PyProof.Rows PySem.Calls
set_option maxRecDepth 100000
set_option linter.unusedVariables false
namespace Mine
open Builtin.Re

theorem runFor_add (k : Nat) : ∀ (n : Nat) (m : Sre.M), Sre.M.runFor (n + k) m = Sre.M.runFor k (Sre.M.runFor n m) := by
  intro n
  induction n with
  | zero => intro m; rw [Nat.zero_add]; rfl
  | succ n ih =>
    intro m
    rw [Nat.succ_add]
    show (if m.outcome.isSome then m else Sre.M.runFor (n + k) m.step) = Sre.M.runFor k (if m.outcome.isSome then m else Sre.M.runFor n m.step)
    split
    · rename_i h
      cases k with
      | zero => rfl
      | succ k => show m = if m.outcome.isSome then m else _; rw [if_pos h]
    · exact ih _
theorem runFor_done {m : Sre.M} (h : m.outcome.isSome = true) : ∀ n, Sre.M.runFor n m = m
  | 0 => rfl
  | n + 1 => by show (if m.outcome.isSome then m else _) = m; rw [if_pos h]

section
variable {M : Model} {A : Around} {E : Value → Shared → Prop} {s : Shared}

theorem wp_drive {Q : Sre.M → Shared → Prop} : ∀ (k turns : Nat) (m : Sre.M), k + 1 ≤ turns → (Sre.M.runFor (4 * k) m).outcome.isSome = true → Q (Sre.M.runFor (4 * k) m) s → wpAny M A (reDrive turns m) Q E s
  | k, 0, m, h, _, _ => by omega +splitDisjunctions
  | k, turns + 1, m, h, ho, hQ => by
    unfold reDrive
    show wpAny M A (if (Sre.M.runFor 4 m).outcome.isSome = true then pure (Sre.M.runFor 4 m) else do rule "sre.turn"; reDrive turns (Sre.M.runFor 4 m)) Q E s
    cases k with
    | zero =>
      have e : Sre.M.runFor 4 m = m := runFor_done ho 4
      have ho' : m.outcome.isSome = true := ho
      rw [e, if_pos ho']
      exact wpAny_pure hQ
    | succ k =>
      have e : 4 * (k + 1) = 4 + 4 * k := by omega +splitDisjunctions
      rw [e, runFor_add] at ho hQ
      by_cases h4 : (Sre.M.runFor 4 m).outcome.isSome = true
      · rw [if_pos h4]
        rw [runFor_done h4] at hQ
        exact wpAny_pure hQ
      · rw [if_neg h4]
        exact wpAny_bind (wpAny_rule (wp_drive k turns _ (by omega +splitDisjunctions) ho hQ))

theorem wp_runToEnd {Q : Option Sre.M → Shared → Prop} {n : Nat} {m m' : Sre.M} (hn : n ≤ 1000000000) (e : Sre.M.runFor n m = m') (o : Sre.Outcome) (ho : m'.outcome = some o)
    (h : match o with | .matched => Q (some m') s | .failed => Q none s | .stuck _ => False) : wpAny M A (reRunToEnd m) Q E s := by
  have ho' : m'.outcome.isSome = true := by rw [ho]; rfl
  have e4 : Sre.M.runFor (4 * n) m = m' := by
    rw [show 4 * n = n + 3 * n by omega +splitDisjunctions, runFor_add, e, runFor_done ho']
  unfold reRunToEnd
  refine wpAny_bind (wp_drive n (2 ^ 64) m (by omega +splitDisjunctions) (by rw [e4]; exact ho') ?_)
  rw [e4]
  refine wpAny_bind ?_
  refine wpAny_forIn_list _ (fun _ _ s' => s' = s) _ (fun i rest b s' hs => ?_) (fun b s' hs => ?_) _ _ rfl
  · subst hs
    split
    · exact wpAny_bind (wpAny_rule (wpAny_pure rfl))
    · exact wpAny_pure rfl
  · subst hs
    rw [ho]
    cases o with
    | matched => exact wpAny_pure h
    | failed => exact wpAny_pure h
    | stuck w => exact h.elim
end

/-- bytes by their codes -/
noncomputable def bs (l : List Nat) : Array UInt8 := (l.map Nat.toUInt8).toArray
theorem bs_text {l : List Nat} (h : ∀ c ∈ l, c < 256) : (bs l).map (·.toNat) = l.toArray := by
  apply Array.toList_inj.mp
  simp only [bs, Array.toList_map, List.map_map]
  refine (List.map_congr_left fun c hc => ?_).trans (List.map_id l)
  have := h c hc
  simp [UInt8.toNat_ofNat, Nat.toUInt8]
  omega +splitDisjunctions
theorem bs_slice {l : List Nat} {i j : Nat} : (l.toArray.extract i j).map (·.toUInt8) = bs ((l.drop i).take (j - i)) := by
  apply Array.toList_inj.mp
  simp [bs, List.extract_eq_drop_take']

end Mine

end

-- part R7
section
open PySem PySem.W PyProof.Rows PySem.Calls
set_option maxRecDepth 100000
set_option linter.unusedVariables false
namespace Mine
open Builtin.Re

theorem pat129 : ∃ o : Obj, (∀ w, (KF w).lookup 129 = some o) ∧ o.cls = .type "re.Pattern" ∧ o.dict = none ∧ ∃ vs, o.data = .fields vs ∧ vs.getD 6 .none = .int 1 0 ∧ vs.getD 5 .none = .ref 128 ∧ vs.getD 2 .none = .int 0 0 := ⟨_, fun w => by rfl, by rfl, by rfl, _, by rfl, by rfl, by rfl, by rfl⟩
theorem code128 : ∃ o : Obj, (∀ w, (KF w).lookup 128 = some o) ∧ ∃ xs n, o.data = .seq xs n ∧ (xs.map reRawOf).map (·.toNat) = QC := ⟨_, fun w => by rfl, _, _, by rfl, by decide +kernel⟩

section
variable {w : World} {A : Around} {E : Value → Shared → Prop} {s : Shared}

theorem asStr_bytes (b : Array UInt8) (t : Tok) : asStr? (.bytes b t) = pure none := rfl
theorem quiet_eq (b : Array UInt8) (t : Tok) (id : String) : Builtin.Bytes.bufferQuiet? id (.bytes b t) = pure (some b) := by
  unfold Builtin.Bytes.bufferQuiet?
  rw [buf_eq]; rfl
theorem is_bytes (b : Array UInt8) (t : Tok) : isInstance (.bytes b t) (.type "bytes") = pure true := by
  show (pure (Value.type "bytes") >>= fun T => isSubtype T (.type "bytes")) = _
  rw [pure_bind, F.sub_bytes_bytes]

noncomputable def tgt (l : List Nat) (t : Tok) : ReTarget := { pattern := .ref 129, string := .bytes (bs l) t, code := QC, text := l.toArray, kind := 1, groups := 0, pos := 0, lim := l.length }

theorem wp_target {Q : ReTarget → Shared → Prop} {l : List Nat} {t : Tok} (X : (KF w).In s.heap) (hl : ∀ c ∈ l, c < 256) (h : Q (tgt l t) s) : wpAny (model PG w) A (reWholeTarget (.ref 129) (.bytes (bs l) t)) Q E s := by
  obtain ⟨o, ho, hc, hdn, vs, hd, h6, h5, h2⟩ := pat129
  obtain ⟨o', ho', xs, n, hd', hq⟩ := code128
  unfold reWholeTarget
  refine wpAny_bind (wpAny_fieldsOf (X _ _ (ho w)) hd ?_)
  refine wpAny_bind ?_
  unfold reTextOf
  rw [asStr_bytes, pure_bind]
  dsimp only
  rw [quiet_eq, pure_bind]
  refine wpAny_pure ?_
  dsimp only
  rw [h6, h5, h2]
  show wpAny _ _ (if false = true then _ else _) _ _ _
  rw [if_neg (by decide)]
  show wpAny _ _ (if false = true then _ else _) _ _ _
  rw [if_neg (by decide)]
  refine wpAny_bind ?_
  unfold reNoCollectionInside
  show wpAny _ _ (if true = true then _ else _) _ _ _
  rw [if_pos rfl, is_bytes, pure_bind]
  show wpAny _ _ (if false = true then _ else _) _ _ _
  rw [if_neg (by decide)]
  refine wpAny_pure ?_
  refine wpAny_bind ?_
  unfold reRawItems
  refine wpAny_bind (wpAny_seqItems (X _ _ (ho' w)) hd' (wpAny_pure (wpAny_pure ?_)))
  have e : Array.map reRawOf ((some xs).getD #[]) = xs.map reRawOf := rfl
  rw [e, hq, bs_text hl]
  have e2 : l.toArray.size = l.length := by simp
  rw [e2]
  exact h
end

theorem entry_loop : entryFor table "re.Pattern.sub.loop" = some Builtin.«re.Pattern.sub.loop» := entryFor_of_tree (by kernel_rfl)
theorem entry_sub : entryFor table "re.Pattern.sub" = some Builtin.«re.Pattern.sub» := entryFor_of_tree (by kernel_rfl)
theorem entry_join : entryFor table "bytes.join" = some Builtin.«bytes.join» := entryFor_of_tree (by kernel_rfl)
theorem entry_count : entryFor table "bytes.count" = some Builtin.«bytes.count» := entryFor_of_tree (by kernel_rfl)
theorem slot_sub : Slot "re.Pattern" "sub" "re.Pattern.sub" :=
  .of (owner := "re.Pattern") (n := "sub") (by rw [typeLookup_type, builtinLookup_eq_fast]; kernel_rfl) (by decide +kernel) (by decide +kernel) (by decide +kernel)
    (by first | exact .inl (by decide +kernel) | exact .inr (by decide +kernel)) (by rw [isSubtype_type]; kernel_rfl)
theorem type_sub : typeOf (.builtin "re.Pattern.sub") = pure (.type "method_descriptor") := by show builtinType _ = _; rw [builtinType_eq_fast]; kernel_rfl
theorem slot_join : Slot "bytes" "join" "bytes.join" :=
  .of (owner := "bytes") (n := "join") (by rw [typeLookup_type, builtinLookup_eq_fast]; kernel_rfl) (by decide +kernel) (by decide +kernel) (by decide +kernel)
    (by first | exact .inl (by decide +kernel) | exact .inr (by decide +kernel)) (by rw [isSubtype_type]; kernel_rfl)
theorem slot_count : Slot "bytes" "count" "bytes.count" :=
  .of (owner := "bytes") (n := "count") (by rw [typeLookup_type, builtinLookup_eq_fast]; kernel_rfl) (by decide +kernel) (by decide +kernel) (by decide +kernel)
    (by first | exact .inl (by decide +kernel) | exact .inr (by decide +kernel)) (by rw [isSubtype_type]; kernel_rfl)
theorem type_count : typeOf (.builtin "bytes.count") = pure (.type "method_descriptor") := by show builtinType _ = _; rw [builtinType_eq_fast]; kernel_rfl
theorem args_sub_3 (a b c : Value) : argsOk "re.Pattern.sub" ⟨[a, b, c], []⟩ := by unfold argsOk; kernel_rfl
theorem args_join_2 (a b : Value) : argsOk "bytes.join" ⟨[a, b], []⟩ := by unfold argsOk; kernel_rfl
theorem args_count_2 (a b : Value) : argsOk "bytes.count" ⟨[a, b], []⟩ := by unfold argsOk; kernel_rfl
theorem pa_pat : PlainAttrs "re.Pattern" := by
  first
  | exact ⟨⟨"re.Pattern.__getattribute__", by rw [typeLookup_type, builtinLookup_eq_fast]; kernel_rfl, by decide +kernel⟩, by rw [typeLookup_type, builtinLookup_eq_fast]; kernel_rfl⟩
  | exact ⟨⟨"object.__getattribute__", by rw [typeLookup_type, builtinLookup_eq_fast]; kernel_rfl, by decide +kernel⟩, by rw [typeLookup_type, builtinLookup_eq_fast]; kernel_rfl⟩
theorem pa_bytes : PlainAttrs "bytes" := by
  first
  | exact ⟨⟨"bytes.__getattribute__", by rw [typeLookup_type, builtinLookup_eq_fast]; kernel_rfl, by decide +kernel⟩, by rw [typeLookup_type, builtinLookup_eq_fast]; kernel_rfl⟩
  | exact ⟨⟨"object.__getattribute__", by rw [typeLookup_type, builtinLookup_eq_fast]; kernel_rfl, by decide +kernel⟩, by rw [typeLookup_type, builtinLookup_eq_fast]; kernel_rfl⟩
end Mine

end

-- part R8
section
open PySem PySem.W PyProof.Rows PySem.Calls
set_option maxRecDepth 100000
set_option linter.unusedVariables false
namespace Mine
open Builtin.Re

noncomputable def enc : List (List Nat × List Nat) → List Nat → List Nat
  | [], tail => tail
  | (p, q) :: r, tail => p ++ 34 :: (q ++ 34 :: enc r tail)
noncomputable def plainS : List (List Nat × List Nat) → List Nat → List Nat
  | [], tail => tail
  | (p, q) :: r, tail => p ++ plainS r tail

theorem drop_cat {l a b : List Nat} {pos : Nat} (h : l.drop pos = a ++ b) : l.drop (pos + a.length) = b := by
  rw [← List.drop_drop, h, List.drop_left']
  rfl
theorem drop_get {l a : List Nat} {pos : Nat} (h : l.drop pos = a) {i : Nat} (hi : i < a.length) : l.toArray.getD (pos + i) 0 = a[i] := by
  have e : l[pos + i]? = some a[i] := by rw [← List.getElem?_drop, h, List.getElem?_eq_getElem hi]
  obtain ⟨h1, h2⟩ := List.getElem?_eq_some_iff.mp e
  simp [Array.getD, h1, h2]
theorem drop_len {l a : List Nat} {pos : Nat} (h : l.drop pos = a) (hp : pos ≤ l.length) : l.length = pos + a.length := by
  rw [← h]; simp; omega
theorem drop_take {l a b : List Nat} {pos : Nat} (h : l.drop pos = a ++ b) : (l.drop pos).take a.length = a := by
  rw [h, List.take_left']
  rfl

section
variable {w : World} {A : Around} {E : Value → Shared → Prop} {s : Shared}

theorem wp_push {P : Addr} {vs : List Value} {x : Value} {Q : Unit → Shared → Prop} (hl : s.heap.PlainList P vs.toArray) (hz : vs.length ≤ 1000000) (h : ∀ h', h'.PlainList P (vs ++ [x]).toArray → Heap.SameBut P s.heap h' → Q () { s with heap := h' }) :
    wpAny (model PG w) A (updateSeq P (·.push x)) Q E s := by
  obtain ⟨n, ho⟩ := hl
  refine wpAny_updateSeq ho rfl (h _ ⟨n + 1, ?_⟩ (Heap.SameBut.update ..)) (hz := by rw [List.size_toArray]; have : sizeLine = 2 ^ 24 := rfl; omega) (_hz' := by rw [Array.size_push, List.size_toArray]; have : sizeLine = 2 ^ 24 := rfl; omega)
  rw [Heap.get?_update_self _ ho (by rw [Obj.mapSeq_push_plain]; rfl), Obj.mapSeq_push_plain]
  simp

theorem wp_slice {Q : Value → Shared → Prop} {l : List Nat} {i j : Nat} (hz : l.length ≤ 1000000) (h : Q (.bytes (bs ((l.drop i).take (j - i))) s.toks) { s with toks := s.toks + 1 }) : wpAny (model PG w) A (reSlice l.toArray 1 i j) Q E s := by
  unfold reSlice
  rw [if_neg (by decide), bs_slice]
  unfold mkBytes
  rw [if_neg]
  · exact wpAny_bind (wpAny_fresh (wpAny_pure h))
  · have : (bs ((l.drop i).take (j - i))).size ≤ l.length := by simp [bs]; omega
    have : sizeLine = 2 ^ 24 := rfl
    omega

theorem BytesAre.snoc {vs : List Value} {ps : List (Array UInt8)} {p : Array UInt8} {t : Tok} (h : BytesAre vs ps) : BytesAre (vs ++ [.bytes p t]) (ps ++ [p]) := by
  refine ⟨by simp [h.1], fun i v q hv hq => ?_⟩
  rw [List.getElem?_append] at hv hq
  rw [h.1] at hv
  split at hv
  · rename_i hi
    rw [if_pos hi] at hq
    exact h.2 i v q hv hq
  · rename_i hi
    rw [if_neg hi] at hq
    have : i - ps.length = 0 := by
      have := (List.getElem?_eq_some_iff.mp hv).1
      simpa using this
    rw [this] at hv hq
    cases hv; cases hq
    exact ⟨t, rfl⟩
end
end Mine

end

-- part R9
section
open PySem PySem.W PyProof.Rows PySem.Calls
set_option maxRecDepth 100000
set_option linter.unusedVariables false
namespace Mine
open Builtin.Re

theorem K_same {w : World} {P : Addr} {h h' : Heap} (hP : (KF w).lookup P = none) (X : (KF w).In h) (hs : Heap.SameBut P h h') : (KF w).In h' := fun a o e => by
  have : a ≠ P := by rintro rfl; rw [hP] at e; cases e
  rw [hs.2 a this]; exact X a o e

theorem same_trans {P : Addr} {a b c : Heap} (h : Heap.SameBut P a b) (k : Heap.SameBut P b c) : Heap.SameBut P a c := ⟨by rw [k.1, h.1], fun x hx => by rw [k.2 x hx, h.2 x hx]⟩

noncomputable def loopArgs (l : List Nat) (t u : Tok) (n : Int) (d st : Nat) (P : Addr) : Args := ⟨[.ref 129, .bytes (bs l) t, .bytes #[] u, rawInt 0, rawInt 0, rawInt n, rawInt d, rawInt st, .bool false, .ref P, .bool false], []⟩

theorem sub_loop {w : World} {l : List Nat} {t u : Tok} {P : Addr} (hl : ∀ c ∈ l, c < 256) (hz : l.length ≤ 400000) (hP : (KF w).lookup P = none) : ∀ (segs : List (List Nat × List Nat)) (tail : List Nat) (pos : Nat) (n : Int) (acc : List Nat) (vs : List Value) (ps : List (Array UInt8)) (A : Around) (s : Shared) (R : Result → Shared → Prop),
    l.drop pos = enc segs tail → pos ≤ l.length → (∀ x ∈ segs, 34 ∉ x.1 ∧ 34 ∉ x.2 ∧ 92 ∉ x.2) → 34 ∉ tail → (KF w).In s.heap → s.heap.PlainList P vs.toArray → BytesAre vs ps → (ps.map (·.toList)).flatten = acc.map Nat.toUInt8 → acc.length ≤ pos → vs.length ≤ 2 * pos →
    (∀ h' t' k, Heap.SameBut P s.heap h' → s.toks ≤ k → R (.ok (.ret (.bytes (bs (acc ++ plainS segs tail)) t'))) { s with heap := h', toks := k }) →
    codeAny (model PG w) A (.builtin "re.Pattern.sub.loop" (loopArgs l t u n pos pos P)) R s := by
  have hsz : sizeLine = 2 ^ 24 := rfl
  intro segs
  induction segs with
  | nil =>
    intro tail pos n acc vs ps A s R hd hpos hs ht X hl' hv hacc ha hvs hR
    have hd : l.drop pos = tail := hd
    have hlen := drop_len hd hpos
    refine codeAny_builtin entry_loop ?_
    show wpAny _ _ (reWholeTarget (.ref 129) (.bytes (bs l) t) >>= _) _ _ _
    refine wpAny_bind (wp_target X hl ?_)
    dsimp only [rawInt]
    show wpAny _ _ (if true = true then _ else _) _ _ _
    rw [if_pos rfl]
    unfold reLiteralCannotBeTurned
    rw [asStr_bytes, is_bytes]
    refine wpAny_bind (wpAny_pure ?_)
    show wpAny _ _ (_ >>= _) _ _ _
    refine wpAny_bind ?_
    have hnone := search_none (text := l.toArray) (lim := l.length) (pos := pos) fun i h1 h2 => by
      have := drop_get hd (i := i - pos) (by omega)
      rw [show pos + (i - pos) = i by omega] at this
      rw [this]
      exact fun q => ht (q ▸ List.getElem_mem _)
    obtain ⟨k, m, hk, hm, ho⟩ := hnone
    have hfind : ∀ {Q : Option Sre.M → Shared → Prop} {s : Shared} {A : Around} {E : Value → Shared → Prop}, Q none s → wpAny (model PG w) A (reNextFound (tgt l t) (pos : Int).toNat false) Q E s := fun {Q s A E} hq => wp_runToEnd (by omega) (show Sre.M.runFor k (Sre.forSearch QC l.toArray 0 (pos : Int).toNat l.length false) = m by rw [Int.toNat_natCast]; exact hm) .failed ho hq
    rw [if_neg (show ¬ ((0 : Int) != 0 && decide (n ≥ 0)) = true from by simp)]
    refine hfind ?_
    dsimp only
    have fin : ∀ (h₂ : Heap) (k₂ : Nat) (vs₂ : List Value) (ps₂ : List (Array UInt8)), Heap.SameBut P s.heap h₂ → s.toks ≤ k₂ → h₂.PlainList P vs₂.toArray → BytesAre vs₂ ps₂ → (ps₂.map (·.toList)).flatten = (acc ++ tail).map Nat.toUInt8 →
        wpAny (model PG w) (A.under (Code.builtin "re.Pattern.sub.loop" (loopArgs l t u n pos pos P))) (reSlice l.toArray 1 0 0 >>= fun joiner => seqItems? (Value.ref P) >>= fun it => if (it.getD #[]).isEmpty = true then (pure joiner >>= fun v => ret v) else (PySem.call (Value.builtin "bytes.join") [joiner, Value.ref P] >>= fun v => ret v))
          (fun fin s' => match fin with | .done f => R (.ok f) s' | .again c' => c'.quiet = true ∧ codeAny (model PG w) A c' R s') (fun e s' => R (.error e) s') { s with heap := h₂, toks := k₂ } := by
      intro h₂ k₂ vs₂ ps₂ hsame hk₂ hpl hba hfl
      refine wpAny_bind (wp_slice (by omega) ?_)
      have e0 : bs ((l.drop 0).take (0 - 0)) = #[] := by simp [bs]
      rw [e0]
      obtain ⟨n', ho'⟩ := id hpl
      refine wpAny_bind (wpAny_seqItems ho' rfl ?_)
      have hout : bs (acc ++ tail) = (ps₂.map (·.toList)).flatten.toArray := by rw [hfl]; rfl
      have hsz2 : (ps₂.map (·.toList)).flatten.length ≤ sizeLine := by
        rw [hfl]; simp; omega
      cases vs₂ with
      | nil =>
        show wpAny _ _ (if true = true then _ else _) _ _ _
        rw [if_pos rfl]
        refine wpAny_bind (wpAny_pure (wpAny_pure ?_))
        have : ps₂ = [] := List.eq_nil_of_length_eq_zero hba.1.symm
        subst this
        have := hR h₂ k₂ (k₂ + 1) hsame (by omega)
        show R (.ok (.ret (.bytes #[] k₂))) _
        have e1 : bs (acc ++ plainS [] tail) = #[] := hout
        rw [e1] at this
        exact this
      | cons v vs₂ =>
        show wpAny _ _ (if false = true then _ else _) _ _ _
        rw [if_neg (by decide)]
        refine wpAny_bind (wpAny_call (codeAny_call_builtin slot_join.plain entry_join (slot_join.check _ _ _ _ _ _ _ _ (typeIs_bytes _ _ _) (args_join_2 _ _) ?_)))
        refine join_wp ho' rfl rfl hba hsz2 fun t' k' hk' => ?_
        rw [← hout]
        exact wpAny_pure (hR h₂ t' k' hsame (by have hk' : k₂ + 1 ≤ k' := hk'; omega))
    by_cases hlt : pos < l.length
    · rw [if_pos (show (pos : Int).toNat < (tgt l t).lim from by rw [Int.toNat_natCast]; exact hlt), Int.toNat_natCast]
      refine wpAny_bind (wp_slice (by omega) ?_)
      refine wpAny_bind (wp_push (s := { s with toks := s.toks + 1 }) hl' (by omega) fun h₁ hl₁ hs₁ => ?_)
      have e2 : (l.drop pos).take ((tgt l t).lim - pos) = tail := by
        rw [hd]; exact List.take_of_length_le (by show tail.length ≤ l.length - pos; omega)
      rw [e2] at hl₁
      refine fin h₁ _ _ _ hs₁ (Nat.le_succ _) hl₁ hv.snoc ?_
      rw [List.map_append, List.flatten_append, hacc, List.map_append]
      simp [bs]
    · rw [if_neg (show ¬ (pos : Int).toNat < (tgt l t).lim from by rw [Int.toNat_natCast]; exact hlt)]
      have : tail = [] := List.eq_nil_of_length_eq_zero (by omega)
      refine fin s.heap s.toks _ _ ⟨rfl, fun _ _ => rfl⟩ (Nat.le_refl _) hl' hv ?_
      rw [hacc, this, List.append_nil]
  | cons x segs ih =>
    obtain ⟨p, q⟩ := x
    intro tail pos n acc vs ps A s R hd hpos hs ht X hl' hv hacc ha hvs hR
    have hd : l.drop pos = p ++ 34 :: (q ++ 34 :: enc segs tail) := hd
    have hlen := drop_len hd hpos
    obtain ⟨hp1, hq1, hq2⟩ := hs (p, q) (.head _)
    have hda : l.drop (pos + p.length) = 34 :: (q ++ 34 :: enc segs tail) := drop_cat hd
    have hdq : l.drop (pos + p.length + 1) = q ++ 34 :: enc segs tail := drop_cat (a := [34]) hda
    have hdb : l.drop (pos + p.length + 1 + q.length) = 34 :: enc segs tail := drop_cat hdq
    have hdn : l.drop (pos + p.length + 1 + q.length + 1) = enc segs tail := drop_cat (a := [34]) hdb
    have hlen2 : l.length = pos + p.length + 1 + q.length + 1 + (enc segs tail).length := by
      rw [hlen]; simp; omega
    refine codeAny_builtin entry_loop ?_
    show wpAny _ _ (reWholeTarget (.ref 129) (.bytes (bs l) t) >>= _) _ _ _
    refine wpAny_bind (wp_target X hl ?_)
    dsimp only [rawInt]
    show wpAny _ _ (if true = true then _ else _) _ _ _
    rw [if_pos rfl]
    unfold reLiteralCannotBeTurned
    rw [asStr_bytes, is_bytes]
    refine wpAny_bind (wpAny_pure ?_)
    show wpAny _ _ (_ >>= _) _ _ _
    refine wpAny_bind ?_
    obtain ⟨k, m, hk, hm, ho, hstart, hhand⟩ := search_found (text := l.toArray) (lim := l.length) (pos := pos) (a := pos + p.length) (b := pos + p.length + 1 + q.length) (by omega) (by omega) (by omega)
      (fun i h1 h2 => by
        have := drop_get hd (i := i - pos) (by simp; omega)
        rw [show pos + (i - pos) = i by omega] at this
        rw [this, List.getElem_append_left (by omega)]
        exact fun e => hp1 (e ▸ List.getElem_mem _))
      (by have := drop_get hda (i := 0) (by simp); simpa using this)
      (fun i h1 h2 => by
        have := drop_get hdq (i := i - (pos + p.length + 1)) (by simp; omega)
        rw [show pos + p.length + 1 + (i - (pos + p.length + 1)) = i by omega] at this
        rw [this, List.getElem_append_left (by omega)]
        exact ⟨fun e => hq1 (e ▸ List.getElem_mem _), fun e => hq2 (e ▸ List.getElem_mem _)⟩)
      (by have := drop_get hdb (i := 0) (by simp); simpa using this)
    have hfind : ∀ {Q : Option Sre.M → Shared → Prop} {s : Shared} {A : Around} {E : Value → Shared → Prop}, Q (some m) s → wpAny (model PG w) A (reNextFound (tgt l t) (pos : Int).toNat false) Q E s := fun {Q s A E} hq => wp_runToEnd (by omega) (show Sre.M.runFor k (Sre.forSearch QC l.toArray 0 (pos : Int).toNat l.length false) = m by rw [Int.toNat_natCast]; exact hm) .matched ho hq
    rw [if_neg (show ¬ ((0 : Int) != 0 && decide (n ≥ 0)) = true from by simp)]
    refine hfind ?_
    dsimp only
    rw [hstart, hhand]
    have hne : ((pos + p.length + 1 + q.length + 1 : Nat) == pos + p.length) = false := by simp; omega
    rw [hne]
    have fin : ∀ (h₂ : Heap) (k₂ : Nat) (vs₂ : List Value) (ps₂ : List (Array UInt8)), Heap.SameBut P s.heap h₂ → s.toks ≤ k₂ → h₂.PlainList P vs₂.toArray → BytesAre vs₂ ps₂ → (ps₂.map (·.toList)).flatten = (acc ++ p).map Nat.toUInt8 → vs₂.length ≤ 2 * pos + 1 →
        wpAny (model PG w) (A.under (Code.builtin "re.Pattern.sub.loop" (loopArgs l t u n pos pos P))) (updateSeq P (fun x => x.push (Value.bytes #[] u)) >>= fun _ => again (Code.builtin "re.Pattern.sub.loop" (loopArgs l t u (n + 1) (pos + p.length + 1 + q.length + 1) (pos + p.length + 1 + q.length + 1) P)))
          (fun fin s' => match fin with | .done f => R (.ok f) s' | .again c' => c'.quiet = true ∧ codeAny (model PG w) A c' R s') (fun e s' => R (.error e) s') { s with heap := h₂, toks := k₂ } := by
      intro h₂ k₂ vs₂ ps₂ hsame hk₂ hpl hba hfl hvl
      refine wpAny_bind (wp_push hpl (by omega) fun h₁ hl₁ hs₁ => ?_)
      refine wpAny_pure ⟨Code.quiet_builtin _ (by decide +kernel), ?_⟩
      refine ih tail (pos + p.length + 1 + q.length + 1) (n + 1) (acc ++ p) _ (ps₂ ++ [#[]]) A _ R hdn (by omega) (fun x hx => hs x (.tail _ hx)) ht (K_same hP X (same_trans hsame hs₁)) hl₁ hba.snoc (by simp; simpa using hfl) (by simp; omega) (by simp; omega) fun h' t' k' hs' hk' => ?_
      have := hR h' t' k' (same_trans (same_trans hsame hs₁) hs') (by have hk' : k₂ ≤ k' := hk'; omega)
      have e : acc ++ p ++ plainS segs tail = acc ++ plainS ((p, q) :: segs) tail := by
        show _ = acc ++ (p ++ plainS segs tail)
        rw [List.append_assoc]
      rw [e]; exact this
    by_cases hlt : pos < pos + p.length
    · rw [if_pos (show (pos : Int).toNat < pos + p.length from by rw [Int.toNat_natCast]; exact hlt), Int.toNat_natCast]
      refine wpAny_bind (wp_slice (by omega) ?_)
      refine wpAny_bind (wp_push (s := { s with toks := s.toks + 1 }) hl' (by omega) fun h₁ hl₁ hs₁ => ?_)
      have e2 : (l.drop pos).take (pos + p.length - pos) = p := by
        rw [Nat.add_sub_cancel_left]; exact drop_take hd
      rw [e2] at hl₁
      rw [if_pos (show ((0 : Int) == 0) = true from rfl)]
      refine wpAny_bind (wpAny_pure ?_)
      rw [if_pos (show (Value.bytes #[] u != Value.none) = true from rfl)]
      refine fin h₁ _ _ _ hs₁ (Nat.le_succ _) hl₁ hv.snoc ?_ (by simp; omega)
      rw [List.map_append, List.flatten_append, hacc, List.map_append]
      simp [bs]
    · rw [if_neg (show ¬ (pos : Int).toNat < pos + p.length from by rw [Int.toNat_natCast]; exact hlt)]
      have : p = [] := List.eq_nil_of_length_eq_zero (by omega)
      rw [if_pos (show ((0 : Int) == 0) = true from rfl)]
      refine wpAny_bind (wpAny_pure ?_)
      rw [if_pos (show (Value.bytes #[] u != Value.none) = true from rfl)]
      refine fin s.heap s.toks _ _ ⟨rfl, fun _ _ => rfl⟩ (Nat.le_refl _) hl' hv ?_ (by omega)
      rw [hacc, this, List.append_nil]
end Mine

end

-- part F137
section
open PySem PySem.W PyProof.Rows PySem.Calls
set_option maxRecDepth 100000
set_option linter.unusedVariables false
namespace Mine
open Builtin.Re

theorem tl_call' : typeLookup (.type "bytes") "__call__" = pure none := by rw [typeLookup_type, builtinLookup_eq_fast]; kernel_rfl
theorem sp_call (b : Array UInt8) (t : Tok) : specialOf (.bytes b t) "__call__" = pure none := by
  show (pure (Value.type "bytes") >>= fun T => typeLookup T "__call__") = _
  rw [pure_bind, tl_call']
theorem named_sub (p a b : Value) : reNamed "re.Pattern.sub" "sub" ["repl", "string", "count"] 2 [a, b] [] = pure [some a, some b, none] := by kernel_rfl

section
variable {C : Cx} {ρ : List (Str × D)} {own : List Own}

theorem gm_sub : GetM C own (.addr 129) "sub" "re.Pattern.sub" := fun s v pl Q G r h => by
  rw [r.addr_inv] at *
  obtain ⟨o, ho, hc, hdn, _⟩ := pat129
  have e := G.K _ _ (ho C.w)
  exact getMethod_builtin ⟨o, e, hc⟩ pa_pat slot_sub type_sub (fun a q => by cases q; exact ⟨o, e, hdn⟩) h
theorem gm_count {b : Array UInt8} : GetM C own (.bytes b) "count" "bytes.count" := fun s v pl Q G r h => by
  obtain ⟨t, rfl⟩ := r.bytes_inv
  exact getMethod_builtin (typeIs_bytes _ _ _) pa_bytes slot_count type_count (fun a q => by cases q) h

theorem c_countB {b : Array UInt8} {c : UInt8} : OpN C own (fun vs => PySem.call (.builtin "bytes.count") vs) [.bytes b, .bytes #[c]] (.int (b.toList.count c : Nat)) := fun s vs _ _ _ _ r => by
  obtain ⟨v, vs', rfl, r1, r2⟩ := r.cons_inv
  obtain ⟨t, rfl⟩ := r1.bytes_inv
  obtain ⟨v', vs'', rfl, r3, r4⟩ := r2.cons_inv
  obtain ⟨u, rfl⟩ := r3.bytes_inv
  obtain rfl := r4.nil_inv
  refine wpAny_call (codeAny_call_builtin slot_count.plain entry_count (slot_count.check _ _ _ _ _ _ _ _ (typeIs_bytes _ _ _) (args_count_2 _ _) ?_))
  rw [count_eq]
  exact wpAny_bind (wpAny_mkInt (wpAny_pure ⟨Eff.tok, .int _ _⟩))

theorem c_sub {segs : List (List Nat × List Nat)} {tail : List Nat} (hl : ∀ c ∈ enc segs tail, c < 256) (hz : (enc segs tail).length ≤ 400000) (hs : ∀ x ∈ segs, 34 ∉ x.1 ∧ 34 ∉ x.2 ∧ 92 ∉ x.2) (ht : 34 ∉ tail) :
    OpN C own (fun vs => PySem.call (.builtin "re.Pattern.sub") vs) [.addr 129, .bytes #[], .bytes (bs (enc segs tail))] (.bytes (bs (plainS segs tail))) := fun s vs G T hlv _ r => by
  obtain ⟨v, vs', rfl, r1, r2⟩ := r.cons_inv
  rw [r1.addr_inv]
  obtain ⟨v', vs'', rfl, r3, r4⟩ := r2.cons_inv
  obtain ⟨u, rfl⟩ := r3.bytes_inv
  obtain ⟨v'', vs''', rfl, r5, r6⟩ := r4.cons_inv
  obtain ⟨t, rfl⟩ := r5.bytes_inv
  obtain rfl := r6.nil_inv
  generalize hL : enc segs tail = l at *
  obtain ⟨o, ho, hc, hdn, _⟩ := pat129
  have eo := G.K _ _ (ho C.w)
  refine wpAny_call (codeAny_call_builtin slot_sub.plain entry_sub (slot_sub.check _ _ _ _ _ _ _ _ ⟨o, eo, hc⟩ (args_sub_3 _ _ _) ?_))
  show wpAny _ _ (reSubstitute "re.Pattern.sub" "sub" false _) _ _ _
  unfold reSubstitute
  dsimp only
  rw [named_sub (.ref 129)]
  refine wpAny_bind (wpAny_pure ?_)
  dsimp only
  refine wpAny_bind (wpAny_pure ?_)
  rw [sp_call]
  refine wpAny_bind (wpAny_pure ?_)
  rw [if_neg (show ¬ (none : Option Value).isSome = true from by decide), asStr_bytes]
  refine wpAny_bind (wpAny_pure ?_)
  show wpAny _ _ (Builtin.Bytes.bufferQuiet? "re.Pattern.sub" (Value.bytes #[] u) >>= _) _ _ _
  rw [quiet_eq]
  refine wpAny_bind (wpAny_pure ?_)
  dsimp only
  refine wpAny_bind (wpAny_pure ?_)
  rw [if_neg (show ¬ (none : Option Value).isSome = true from by decide), if_pos (show (!(#[] : Array UInt8).contains 92) = true from by simp)]
  refine wpAny_bind (wpAny_pure ?_)
  refine wpAny_bind (wpAny_holding (wp_target G.K hl ?_))
  rw [if_neg (show ¬ ((0 : Int) == 1) = true from by decide)]
  refine wpAny_bind (wpAny_newList ?_)
  refine wpAny_pure ⟨Code.quiet_builtin _ (by decide +kernel), ?_⟩
  have hP : (KF C.w).lookup s.heap.objs.size = none := by
    cases q : (KF C.w).lookup s.heap.objs.size with
    | none => rfl
    | some o => exact absurd (Heap.lt_size (G.K _ _ q)) (Nat.lt_irrefl _)
  have X' : (KF C.w).In (s.heap.push { cls := .type "list", data := .seq #[] }) := fun a o e => Heap.get?_push_of_some _ (G.K a o e)
  refine sub_loop hl hz hP segs tail 0 0 [] [] [] C.A _ _ (by rw [List.drop_zero, hL]) (Nat.zero_le _) hs ht X' ⟨0, Heap.get?_push_size _ rfl⟩ ⟨rfl, fun i v p h => by simp at h⟩ rfl (Nat.le_refl _) (Nat.le_refl _) fun h' t' k' hs' hk' => ?_
  refine ⟨Eff.of (fun a o e => ?_) hk', .bytes _ _⟩
  have hne : a ≠ s.heap.objs.size := Nat.ne_of_lt (Heap.lt_size e)
  rw [hs'.2 a hne]
  exact Heap.get?_push_of_some _ e
end

theorem dflt137 : ∃ T : Addr, k137.fd.defaults = .ref T ∧ ∃ o : Obj, (∀ w, (KF w).lookup T = some o) ∧ ∃ n t, o.data = .seq #[.int 0 t] n := ⟨_, by rfl, _, fun w => by rfl, _, _, by rfl⟩

theorem bs_count {l : List Nat} {c : Nat} (hl : ∀ x ∈ l, x < 256) (hc : c < 256) : (bs l).toList.count c.toUInt8 = l.count c := by
  show (l.map Nat.toUInt8).count _ = _
  induction l with
  | nil => rfl
  | cons a l ih =>
    rw [List.map_cons, List.count_cons, List.count_cons, ih fun x hx => hl x (.tail _ hx)]
    have ha := hl a (.head _)
    congr 1
    by_cases h : a = c
    · subst h; simp
    · have : ¬ a.toUInt8 = c.toUInt8 := fun e => by
        have := congrArg UInt8.toNat e
        simp [Nat.toUInt8, UInt8.toNat_ofNat] at this
        omega +splitDisjunctions
      simp [h, this]

theorem fn137 {w : World} {n : Nat} {segs : List (List Nat × List Nat)} {tail : List Nat} (hl : ∀ c ∈ enc segs tail, c < 256) (hl' : ∀ c ∈ plainS segs tail, c < 256) (hz : (enc segs tail).length ≤ 400000) (hs : ∀ x ∈ segs, 34 ∉ x.1 ∧ 34 ∉ x.2 ∧ 92 ∉ x.2) (ht : 34 ∉ tail) :
    Fn w true (n + 1) 137 [.bytes (bs (enc segs tail))] (.int (((plainS segs tail).count 40 : Nat) - ((plainS segs tail).count 41 : Nat))) := by
  refine k137.fn (dsAll := [.bytes (bs (enc segs tail)), .int 0]) ["data", "depth"] (by kernel_rfl) (by decide) rfl (fun s F vs G r => ?_) fun A s F R => ?_
  · obtain ⟨T, hT, o, ho, n', t, hd⟩ := dflt137
    obtain ⟨v, vs', rfl, r1, r2⟩ := r.cons_inv
    obtain rfl := r2.nil_inv
    exact ⟨[v, .int 0 t], BindsTo.of_defaults hT (G.K _ _ (ho w)) hd rfl rfl, .cons r1 (.cons (.int _ _) .nil)⟩
  refine Ex.assign (Ev.meth (Ev.gname (g129 w)) gm_sub (EvL.cons Ev.bytes (EvL.cons (Ev.name rfl) EvL.nil)) (c_sub hl hz hs ht)) ?_
  refine Ex.retn (Ev.as (Ev.bin (Ev.bin (Ev.name rfl) (Ev.meth (Ev.name rfl) gm_count (EvL.cons (Ev.bytes (b := [40])) EvL.nil) c_countB) o_add) (Ev.meth (Ev.name rfl) gm_count (EvL.cons (Ev.bytes (b := [41])) EvL.nil) c_countB) o_sub) ?_) fun _ => id
  have e1 := bs_count (l := plainS segs tail) (c := 40) hl' (by decide)
  have e2 := bs_count (l := plainS segs tail) (c := 41) hl' (by decide)
  have q1 : (40 : Nat).toUInt8 = (40 : UInt8) := by decide
  have q2 : (41 : Nat).toUInt8 = (41 : UInt8) := by decide
  rw [q1] at e1; rw [q2] at e2
  rw [e1, e2, Int.zero_add]
end Mine

end

-- part F124
section
open PySem PySem.W PyProof.Rows PySem.Calls
set_option maxRecDepth 100000
set_option linter.unusedVariables false
namespace Mine

noncomputable def rep257 (word : List Nat) : List Nat := [50, 53, 55, 32, 34] ++ (StrLaws.dbl 34 word ++ [34, 32, 40])

theorem dbl_length (c : Nat) (l : List Nat) : l.length ≤ (StrLaws.dbl c l).length ∧ (StrLaws.dbl c l).length ≤ 2 * l.length := by
  induction l with
  | nil => exact ⟨Nat.le_refl _, Nat.le_refl _⟩
  | cons a l ih =>
    unfold StrLaws.dbl
    split <;> simp <;> omega

theorem fn124 {w : World} {n : Nat} {word : List Nat} (hz : word.length ≤ 10000) : Fn w true (n + 1) 124 [.str (sS (rep257 word))] (.str (sS word)) := by
  have hdl := dbl_length 34 word
  have hlen : (rep257 word).length = (StrLaws.dbl 34 word).length + 8 := by unfold rep257; simp
  refine k124.fn ["resp"] (by kernel_rfl) (by decide) rfl (bind1 fun _ => rfl) fun A s F R => ?_
  have hget : ∀ (u v : List Nat), word = u ++ v → ∀ j, (rep257 word)[5 + (StrLaws.dbl 34 u).length + j]? = (StrLaws.dbl 34 v ++ [34, 32, 40])[j]? := fun u v e j => by
    unfold rep257
    rw [List.getElem?_append_right (by simp; omega), e, StrLaws.dbl_append, List.append_assoc, List.getElem?_append_right (by simp; omega)]
    congr 1
    simp; omega
  have hpos : ∀ (u v : List Nat), word = u ++ v → (StrLaws.dbl 34 word).length = (StrLaws.dbl 34 u).length + (StrLaws.dbl 34 v).length := fun u v e => by rw [e, StrLaws.dbl_append, List.length_append]
  have hszL : (sS (rep257 word)).length ≤ sizeLine := by rw [sS_length]; have : sizeLine = 2 ^ 24 := rfl; omega
  have e1 : Txt.slice (sS (rep257 word)) none (some 3) = sS [50, 53, 55] := by
    rw [slice_to_sS (by decide) (by omega)]; rfl
  have e2 : Txt.slice (sS (rep257 word)) (some 3) (some 5) = sS [32, 34] := by
    rw [slice_sS (by decide) (by decide) (by omega)]; rfl
  generalize hl : rep257 word = l at *
  refine Ex.ite (c := false) (EvB.cmp (Ev.as (d' := .str (sS [50, 53, 55])) (Ev.slice (Ev.name rfl) EvP.none (EvP.some Ev.int) EvP.none (s_str hszL)) (congrArg _ e1)) (Ev.as Ev.str (congrArg _ (by decide : ("257" : Str) = sS [50, 53, 55]))) o_ne_str) (fun h => nomatch h) fun _ => Ex.done ?_
  refine Ex.ite (c := false) (EvB.cmp (Ev.as (d' := .str (sS [32, 34])) (Ev.slice (Ev.name rfl) (EvP.some Ev.int) (EvP.some Ev.int) EvP.none (s_str hszL)) (congrArg _ e2)) (Ev.as Ev.str (congrArg _ (by decide : (" \"" : Str) = sS [32, 34]))) o_ne_str) (fun h => nomatch h) fun _ => Ex.done ?_
  refine Ex.assign (d := .str (sS [])) Ev.str ?_
  refine Ex.assign Ev.int ?_
  refine Ex.assign (Ev.bcall bi_len (EvL.cons (Ev.name rfl) EvL.nil) (c_len_sS (by omega))) ?_
  refine Ex.while (α := List Nat × List Nat) (P := fun x => word = x.1 ++ x.2) (I := fun x => [("i", .int ((5 + (StrLaws.dbl 34 x.1).length : Nat) : Int)), ("dirname", .str (sS x.1)), ("n", .int l.length), ("resp", .str (sS l))]) (O := fun _ => []) (m := fun x => x.2.length) (t := fun _ => true)
    ([], word) rfl ⟨rfl, rfl, rfl, rfl, trivial⟩ rfl (fun x hx => ?_) (fun x hx _ => ?_) (fun x hx ht => nomatch ht)
  · have h1 := hpos x.1 x.2 hx
    exact EvB.as (EvB.cmp (Ev.name rfl) (Ev.name rfl) o_lt) (decide_eq_true (by omega))
  · obtain ⟨u, v⟩ := x
    have hx : word = u ++ v := hx
    have h1 := hpos u v hx
    have hg0 := hget u v hx 0
    have hg1 := hget u v hx 1
    have hun : u.length ≤ 10000 := by rw [hx, List.length_append] at hz; omega
    have hdu := dbl_length 34 u
    have t0 : ((5 + (StrLaws.dbl 34 u).length : Nat) : Int).toNat = 5 + (StrLaws.dbl 34 u).length + 0 := by omega
    have t1 : (((5 + (StrLaws.dbl 34 u).length : Nat) : Int) + 1).toNat = 5 + (StrLaws.dbl 34 u).length + 1 := by omega
    show Ex _ [("i", .int ((5 + (StrLaws.dbl 34 u).length : Nat) : Int)), ("dirname", .str (sS u)), ("n", .int l.length), ("resp", .str (sS l))] [] _ _
    cases v with
    | nil =>
      refine Ex.assign (Ev.item (Ev.name rfl) (Ev.name rfl) (i_str (c := 34) (by omega) (by omega) (by rw [sS_get, t0, hg0]; rfl))) ?_
      refine Ex.assign (Ev.bin (Ev.name rfl) Ev.int o_add) ?_
      refine Ex.ite (c := true) (EvB.cmp (Ev.name rfl) (Ev.as Ev.str (congrArg _ (by decide : ("\"" : Str) = ⟨#[34]⟩))) o_eq_str) (fun _ => ?_) (fun h => nomatch h)
      refine Ex.ite (c := true) (EvB.as (EvB.or (EvB.as (b' := false) (EvB.cmp (Ev.name rfl) (Ev.name rfl) o_ge) (decide_eq_false (by omega))) (fun _ => EvB.or (c := false) (b := true) (EvB.cmp (Ev.item (Ev.name rfl) (Ev.name rfl) (i_str (c := 32) (by omega) (by omega) (by rw [sS_get, t1, hg1]; rfl))) (Ev.as Ev.str (congrArg _ (by decide : ("\"" : Str) = ⟨#[34]⟩))) o_ne_str) fun h => nomatch h)) rfl) (fun _ => ?_) (fun h => nomatch h)
      refine Ex.brk fun s S => ?_
      show wpAny _ _ (execs (k124.body.drop 6) _) _ _ _
      have hu : word = u := by rw [hx, List.append_nil]
      rw [hu]
      exact Ex.retn (Ev.name rfl) (fun _ => id) s S
    | cons c v =>
      have hst : word = (u ++ [c]) ++ v := by rw [hx]; simp
      have hda : StrLaws.dbl 34 (u ++ [c]) = StrLaws.dbl 34 u ++ StrLaws.dbl 34 [c] := StrLaws.dbl_append 34 u [c]
      by_cases hc : c = 34
      · subst hc
        have hd1 : StrLaws.dbl 34 (34 :: v) = 34 :: 34 :: StrLaws.dbl 34 v := rfl
        have hd2 : StrLaws.dbl 34 [34] = [34, 34] := rfl
        rw [hd1] at hg0 hg1 h1
        refine Ex.assign (Ev.item (Ev.name rfl) (Ev.name rfl) (i_str (c := 34) (by omega) (by omega) (by rw [sS_get, t0, hg0]; rfl))) ?_
        refine Ex.assign (Ev.bin (Ev.name rfl) Ev.int o_add) ?_
        refine Ex.ite (c := true) (EvB.cmp (Ev.name rfl) (Ev.as Ev.str (congrArg _ (by decide : ("\"" : Str) = ⟨#[34]⟩))) o_eq_str) (fun _ => ?_) (fun h => nomatch h)
        refine Ex.ite (c := false) (EvB.as (EvB.or (EvB.as (b' := false) (EvB.cmp (Ev.name rfl) (Ev.name rfl) o_ge) (decide_eq_false (by simp only [List.length_cons] at h1; omega))) (fun _ => EvB.or (c := false) (b := false) (EvB.cmp (Ev.item (Ev.name rfl) (Ev.name rfl) (i_str (c := 34) (by omega) (by omega) (by rw [sS_get, t1, hg1]; rfl))) (Ev.as Ev.str (congrArg _ (by decide : ("\"" : Str) = ⟨#[34]⟩))) o_ne_str) fun _ => EvB.or_nil)) rfl) (fun h => nomatch h) (fun _ => ?_)
        refine Ex.done ?_
        refine Ex.assign (Ev.bin (Ev.name rfl) Ev.int o_add) ?_
        refine Ex.done ?_
        refine Ex.assign (Ev.bin (Ev.name rfl) (Ev.name rfl) (o_add_sS (y := [34]) (by simp; omega))) ?_
        refine Ex.nil fun s S => ⟨(u ++ [34], v), by simp, hst, S.sub ⟨?_, rfl, rfl, rfl, trivial⟩⟩
        show some (D.int _) = some (D.int _)
        congr 2
        rw [hda, hd2]; simp; omega
      · have hd1 : StrLaws.dbl 34 (c :: v) = c :: StrLaws.dbl 34 v := if_neg hc
        have hd2 : StrLaws.dbl 34 [c] = [c] := if_neg hc
        rw [hd1] at hg0 h1
        refine Ex.assign (Ev.item (Ev.name rfl) (Ev.name rfl) (i_str (c := c) (by omega) (by omega) (by rw [sS_get, t0, hg0]; rfl))) ?_
        refine Ex.assign (Ev.bin (Ev.name rfl) Ev.int o_add) ?_
        refine Ex.ite (c := false) (EvB.as (EvB.cmp (Ev.name rfl) (Ev.as Ev.str (congrArg _ (by decide : ("\"" : Str) = ⟨#[34]⟩))) o_eq_str) (by rw [beq_eq_false_iff_ne]; intro q; injection q with q; injection q with q; injection q with q; exact hc q)) (fun h => nomatch h) (fun _ => ?_)
        refine Ex.done ?_
        refine Ex.assign (Ev.bin (Ev.name rfl) (Ev.name rfl) (o_add_sS (y := [c]) (by simp; omega))) ?_
        refine Ex.nil fun s S => ⟨(u ++ [c], v), by simp, hst, S.sub ⟨?_, rfl, rfl, rfl, trivial⟩⟩
        show some (D.int _) = some (D.int _)
        congr 2
        rw [hda, hd2]; simp; omega
end Mine

end

-- part F117
section
open PySem PySem.W PyProof.Rows PySem.Calls
set_option maxRecDepth 100000
set_option linter.unusedVariables false
namespace Mine

/-- a reply 229 with five parts between its bars -/
noncomputable def rep229 (xs : List Nat) (p : Nat) (post : List Nat) : List Nat := [50, 50, 57, 32, 40, 124] ++ (xs ++ ([124, 124] ++ (digs p ++ ([124] ++ (41 :: post)))))

theorem fn117 {w : World} {n : Nat} {xs post : List Nat} {p : Nat} {h : D} {k : D} (hx : 124 ∉ xs) (hx' : 41 ∉ xs) (hp : p < 10 ^ 10) (hz : xs.length + post.length ≤ 100000) :
    Fn w true (n + 1) 117 [.str (sS (rep229 xs p post)), .tup [h, k]] (.tup [h, .int p]) := by
  have hd : ∀ c ∈ digs p, 48 ≤ c ∧ c ≤ 57 := digs_range p
  have hdl : (digs p).length ≤ 10 := digs_len hp
  have hd1 : 41 ∉ digs p := fun q => by have := hd _ q; omega
  have hd2 : 124 ∉ digs p := fun q => by have := hd _ q; omega
  have hlen : (rep229 xs p post).length = xs.length + (digs p).length + post.length + 10 := by unfold rep229; simp; omega
  refine k117.fn ["resp", "peer"] (by kernel_rfl) (by decide) rfl (bind2 fun _ _ => rfl) fun A s F R => ?_
  generalize hl : rep229 xs p post = l at *
  have e1 : Txt.slice (sS l) none (some 3) = sS [50, 50, 57] := by
    rw [slice_to_sS (by decide) (by omega), ← hl]; rfl
  have f1 : Txt.find (sS l) (sS [40]) = 4 := by
    have := find_one (pre := [50, 50, 57, 32]) (post := 124 :: (xs ++ ([124, 124] ++ (digs p ++ ([124] ++ (41 :: post)))))) (c := 40) (by decide)
    rw [← hl]
    exact this
  have f2 : Txt.find3 (sS l) (sS [41]) 5 = (xs.length + (digs p).length + 9 : Nat) := by
    have := find3_one (pre := [50, 50, 57, 32, 40]) (mid := [124] ++ (xs ++ ([124, 124] ++ (digs p ++ [124])))) (post := post) (c := 41) (i := 5) (by simp [hx', hd1]) rfl
    rw [← hl]
    have e : rep229 xs p post = [50, 50, 57, 32, 40] ++ (([124] ++ (xs ++ ([124, 124] ++ (digs p ++ [124])))) ++ 41 :: post) := by unfold rep229; simp
    rw [e, this]
    simp only [List.length_append, List.length_cons, List.length_nil]; push_cast; omega
  have g1 : l[5]? = some 124 := by rw [← hl]; rfl
  have g2 : l[xs.length + (digs p).length + 8]? = some 124 := by
    rw [← hl]
    unfold rep229
    rw [List.getElem?_append_right (by (simp <;> omega)), List.getElem?_append_right (by (simp <;> omega)), List.getElem?_append_right (by (simp <;> omega)), List.getElem?_append_right (by (simp <;> omega))]
    have : xs.length + (digs p).length + 8 - [50, 50, 57, 32, 40, 124].length - xs.length - [124, 124].length - (digs p).length = 0 := by simp; omega
    rw [this]; rfl
  have e2 : Txt.slice (sS l) (some 5) (some ((xs.length + (digs p).length + 9 : Nat) : Int)) = sS (joinL 124 [[], xs, [], digs p, []]) := by
    rw [slice_sS (by decide) (by omega) (by omega), ← hl]
    congr 1
    unfold rep229
    have : (((xs.length + (digs p).length + 9 : Nat) : Int) - 5).toNat = ([124] ++ (xs ++ ([124, 124] ++ (digs p ++ [124])))).length := by simp; omega
    rw [this]
    have e : (([50, 50, 57, 32, 40, 124] ++ (xs ++ ([124, 124] ++ (digs p ++ ([124] ++ (41 :: post)))))).drop (5 : Int).toNat) = ([124] ++ (xs ++ ([124, 124] ++ (digs p ++ [124])))) ++ 41 :: post := by
      show [124] ++ (xs ++ ([124, 124] ++ (digs p ++ ([124] ++ (41 :: post))))) = _
      simp
    rw [e, List.take_left']
    · simp [joinL]
    · rfl
  refine Ex.ite (c := false) (EvB.cmp (Ev.as (d' := .str (sS [50, 50, 57])) (Ev.slice (Ev.name rfl) EvP.none (EvP.some Ev.int) EvP.none (s_str ?_)) (congrArg _ e1)) (Ev.as Ev.str (congrArg _ (by decide : ("229" : Str) = sS [50, 50, 57]))) o_ne_str) (fun h => nomatch h) fun _ => Ex.done ?_
  · rw [sS_length]; have : sizeLine = 2 ^ 24 := rfl; omega
  refine Ex.assign (Ev.as (d' := .int 4) (Ev.meth (Ev.name rfl) (gm_str "find" "str.find" GM.find) (EvL.cons (Ev.as Ev.str (congrArg _ str_paren)) EvL.nil) c_find) (congrArg _ f1)) ?_
  refine Ex.ite (c := false) (EvB.cmp (Ev.name rfl) Ev.int o_lt) (fun h => nomatch h) fun _ => Ex.done ?_
  refine Ex.assign (Ev.as (d' := .int ((xs.length + (digs p).length + 9 : Nat) : Int)) (Ev.meth (Ev.name rfl) (gm_str "find" "str.find" GM.find) (EvL.cons (Ev.as Ev.str (congrArg _ str_close)) (EvL.cons (Ev.bin (Ev.name rfl) Ev.int o_add) EvL.nil)) c_find3) (congrArg _ f2)) ?_
  refine Ex.ite (c := false) (EvB.cmp (Ev.name rfl) Ev.int (by
    have := o_lt (C := mkC w A n true s F k117.fd 117) (own := []) (a := ((xs.length + (digs p).length + 9 : Nat) : Int)) (b := 0)
    rwa [decide_eq_false (by omega)] at this)) (fun h => nomatch h) fun _ => Ex.done ?_
  refine Ex.ite (c := false) (EvB.cmp (Ev.item (Ev.name rfl) (Ev.bin (Ev.name rfl) Ev.int o_add) (i_str (c := 124) (by decide) (by decide) ?_)) (Ev.item (Ev.name rfl) (Ev.bin (Ev.name rfl) Ev.int o_sub) (i_str (c := 124) ?_ ?_ ?_)) o_ne_str) (fun h => nomatch h) fun _ => Ex.done ?_
  · rw [sS_get]; exact g1
  · omega
  · omega
  · rw [sS_get]
    have : (((xs.length + (digs p).length + 9 : Nat) : Int) - 1).toNat = xs.length + (digs p).length + 8 := by omega
    rw [this]; exact g2
  refine Ex.assign (Ev.meth (Ev.as (Ev.slice (Ev.name rfl) (EvP.some (Ev.bin (Ev.name rfl) Ev.int o_add)) (EvP.some (Ev.name rfl)) EvP.none (s_str ?_)) (congrArg _ e2)) (gm_str "split" "str.split" GM.split) (EvL.cons (Ev.item (Ev.name rfl) (Ev.bin (Ev.name rfl) Ev.int o_add) (i_str (c := 124) (by decide) (by decide) ?_)) EvL.nil) (c_split rfl (by exact Nat.le_of_ble_eq_true rfl) ?_ (by decide) ?_ ?_)) ?_
  · rw [sS_length]; have : sizeLine = 2 ^ 24 := rfl; omega
  · rw [sS_get]; exact g1
  · simp [hx, hd2]
  · simp [joinL]
  · simp [joinL]; omega
  refine Ex.ite (c := false) (EvB.cmp (Ev.bcall bi_len (EvL.cons (Ev.name rfl) EvL.nil) (c_len_list (by exact Nat.le_of_ble_eq_true rfl))) Ev.int o_ne) (fun h => nomatch h) fun _ => Ex.done ?_
  refine Ex.assign (Ev.item (Ev.name rfl) Ev.int (i_tup (d := h) (by decide) (by decide) rfl)) ?_
  refine Ex.assign (Ev.tcall bi_int (EvL.cons (Ev.item (Ev.name rfl) Ev.int (i_list (d := .str (sS (digs p))) (by decide) (by decide) rfl)) EvL.nil) (c_int_num hp)) ?_
  exact Ex.retn (Ev.tuple (EvL.cons (Ev.name rfl) (EvL.cons (Ev.name rfl) EvL.nil))) fun _ => id
end Mine

end

-- part MO7
section
open PySem PySem.W PyProof.Rows PySem.Calls
set_option maxRecDepth 100000
set_option linter.unusedVariables false
namespace Mine

theorem bi_sum : BI "sum" (.builtin "sum") := ⟨by decide, by decide, by decide +kernel, fun w => by kernel_rfl⟩
theorem bi_bytes : BI "bytes" (.type "bytes") := ⟨by decide, by decide, by decide +kernel, fun w => by kernel_rfl⟩

theorem RdAll.strs {w : World} {s : Shared} {F : Addr → Prop} : ∀ {vs : List Value} {ys : List Str}, RdAll w s F vs (ys.map D.str) → StrsAre vs ys
  | vs, [], r => by rw [r.nil_inv]; exact .nil
  | vs, n :: ns, r => by
    obtain ⟨v, vs', rfl, h1, h2⟩ := r.cons_inv
    obtain ⟨t, rfl⟩ := h1.str_inv
    exact .cons n t (RdAll.strs h2)

section
variable {C : Cx} {ρ : List (Str × D)} {own : List Own}

theorem c_sum {ns : List Int} : OpN C own (fun vs => PySem.call (.builtin "sum") vs) [.list (dInts ns)] (.int ns.sum) := fun s vs _ _ _ R r => by
  obtain ⟨v, vs', rfl, r1, r2⟩ := r.cons_inv
  obtain rfl := r2.nil_inv
  obtain ⟨l, xs, rfl, hl, hf, r5⟩ := r1.list_inv
  obtain ⟨ps, hps⟩ := r5.ints.allInts.items
  rw [hps] at hl
  refine wpAny_with_toks (n := s.toks) (Nat.le_refl _) (sum_intListG R.1 hl fun h' tk t' hk htk => ⟨Eff.of hk htk, ?_⟩)
  have e : preSum (numAt ps) ps.size = ns.sum := by
    rw [preSum_eq, List.take_of_length_le (by simp), ← nums_intItems, ← hps, ← r5.ints.numsOf]
  rw [e]
  exact .int _ _

theorem c_bytes {ns : List Int} (hr : ∀ n ∈ ns, 0 ≤ n ∧ n < 256) (hz : ns.length ≤ 1000000) : OpN C own (fun vs => PySem.call (.type "bytes") vs) [.list (dInts ns)] (.bytes (byteArr ns)) := fun s vs _ _ _ R r => by
  obtain ⟨v, vs', rfl, r1, r2⟩ := r.cons_inv
  obtain rfl := r2.nil_inv
  obtain ⟨l, xs, rfl, hl, hf, r5⟩ := r1.list_inv
  have hln : xs.length = ns.length := by rw [r5.1]; simp
  refine wpAny_with_toks (n := s.toks) (Nat.le_refl _) (call_bytes_ints hl r5.ints hr (by have : sizeLine = 2 ^ 24 := rfl; omega) R.1 fun h' t k hk hle => ⟨Eff.of hk hle, .bytes _ _⟩)

theorem byteArr_bs (l : List Nat) : byteArr (l.map fun c : Nat => (c : Int)) = bs l := by
  unfold byteArr bs
  rw [List.map_map]
  congr 1

theorem join_nil_sS : ∀ ps : List (List Nat), Txt.join (sS []) (ps.map sS) = sS ps.flatten
  | [] => rfl
  | p :: ps => by
    have key : ∀ (ps : List (List Nat)) (acc : Array Nat), ((ps.map sS).foldl (fun acc p => acc ++ (sS []).cps ++ p.cps) acc) = acc ++ ps.flatten.toArray := by
      intro ps
      induction ps with
      | nil => intro acc; simp
      | cons q ps ih =>
        intro acc
        rw [List.map_cons, List.foldl_cons, ih]
        simp [sS]
    show (⟨((ps.map sS).foldl (fun acc p => acc ++ (sS []).cps ++ p.cps) (sS p).cps)⟩ : Str) = _
    rw [key]
    simp [sS]

theorem c_join {ps : List (List Nat)} (hz : ps.flatten.length + ps.length ≤ 1000000) : OpN C own (fun vs => PySem.call (.builtin "str.join") vs) [.str (sS []), .list (ps.map fun p => .str (sS p))] (.str (sS ps.flatten)) := fun s vs _ _ _ _ r => by
  obtain ⟨v, vs', rfl, r1, r2⟩ := r.cons_inv
  obtain ⟨t, rfl⟩ := r1.str_inv
  obtain ⟨v', vs'', rfl, r3, r4⟩ := r2.cons_inv
  obtain rfl := r4.nil_inv
  obtain ⟨l, xs, rfl, hl, hf, r5⟩ := r3.list_inv
  have r6 : StrsAre xs (ps.map sS) := by
    refine RdAll.strs (w := C.w) (s := s) (F := C.F own) ?_
    rw [List.map_map]; exact r5
  have hw : ((ps.map sS).map (·.length)).sum + (ps.map sS).length ≤ 1048576 := by
    have e : ((ps.map sS).map (·.length)).sum = ps.flatten.length := by
      rw [List.map_map, List.length_flatten]
      congr 1
    rw [e, List.length_map]; omega
  refine wpAny_with_toks (n := s.toks) (Nat.le_refl _) (join_listW hl (by simpa using r6) (by decide) hw fun t' k hk => ⟨Eff.tok hk, ?_⟩)
  rw [join_nil_sS]
  exact .str _ _

theorem o_in_ints {i : Int} {ns : List Int} : Op2 C own (compareOp .In) (.int i) (.list (dInts ns)) (.bool (decide (i ∈ ns))) := fun s a b _ _ _ _ ra rb => by
  obtain ⟨t, rfl⟩ := ra.int_inv
  obtain ⟨l, xs, rfl, hl, hf, r5⟩ := rb.list_inv
  refine in_list_ints hl r5.ints ⟨Eff.refl _ _, ?_⟩
  have : (ns.any fun x => x == i) = decide (i ∈ ns) := by
    rw [Bool.eq_iff_iff, List.any_eq_true]; simp
  rw [this]
  exact .bool _

theorem c_index_list {i : Int} {ns : List Int} (h : i ∈ ns) (hz : PyData.layable0 (.list (ns.map .int)) = true) : OpN C own (fun vs => PySem.call (.builtin "list.index") vs) [.list (dInts ns), .int i] (.int (ns.idxOf i : Nat)) := fun s vs _ _ _ _ r => by
  obtain ⟨v, vs', rfl, r1, r2⟩ := r.cons_inv
  obtain ⟨v', vs'', rfl, r3, r4⟩ := r2.cons_inv
  obtain ⟨t, rfl⟩ := r3.int_inv
  obtain rfl := r4.nil_inv
  obtain ⟨l, xs, rfl, hl, hf, r5⟩ := r1.list_inv
  exact index_list_ints hl r5.ints hz h ⟨Eff.tok, .int _ _⟩

theorem gm_list_index {ds : List D} : GetM C own (.nlist ds) "index" "list.index" := fun s v pl Q _ r hQ => by
  obtain ⟨l, xs, rfl, hl, hf, r5⟩ := r.nlist_inv
  refine getMethod_builtin hl.isList.typeIs PySem.F.plainAttrs_list PySem.F.slot_list_index PySem.F.type_list_index (fun a e => ?_) hQ
  cases e
  obtain ⟨n, e⟩ := hl
  exact ⟨_, e, rfl⟩
theorem OpN.weakN {f : List Value → Sem Value} {ds : List D} {es : List D} {d : D} (h : OpN C own f (.list ds :: es) d) : OpN C own f (.nlist ds :: es) d := fun s vs G T hF R r => by
  obtain ⟨v, vs', rfl, r1, r2⟩ := r.cons_inv
  exact h s _ G T hF R (.cons r1.nlist_list r2)

theorem o_add_list {a b : List D} (hz : a.length + b.length ≤ 1000000) : Op2 C own (binaryOp .Add) (.list a) (.list b) (.list (a ++ b)) := fun s x y _ T hlv _ rx ry => by
  obtain ⟨l, xs, rfl, hl, hf, r⟩ := rx.list_inv
  obtain ⟨l', ys, rfl, hl', hf', r'⟩ := ry.list_inv
  have hsz : xs.length + ys.length ≤ sizeLine := by rw [r.1, r'.1]; have : sizeLine = 2 ^ 24 := rfl; omega
  obtain ⟨⟨cls, dd, data, sl⟩, ho, hc, n, hd⟩ := id hl
  obtain ⟨⟨cls', dd', data', sl'⟩, ho', hc', n', hd'⟩ := id hl'
  simp only at hc hd hc' hd'
  subst hc hd hc' hd'
  refine concat_meets ⟨_, ho, rfl⟩ ⟨_, ho', rfl⟩ noFill_list_add seq_list_add PySem.F.slot_list_add PySem.F.entry_list_add (PySem.F.args_list_add_2 _ _) (list_addW l l' xs.toArray ys.toArray n n' dd dd' sl sl' (by simpa using hsz)) ⟨ho, ho', ?_⟩
  rw [show xs.toArray ++ ys.toArray = (xs ++ ys).toArray by simp]
  have e : Eff C.q s { s with heap := s.heap.push { cls := .type "list", data := .seq (xs ++ ys).toArray } } := Eff.push (tk := s.toks)
  refine ⟨e, RdAll.list ((r.append r').eff T e) ⟨_, Heap.get?_push_size _ rfl, rfl, 0, rfl⟩ fun q => ?_⟩
  obtain ⟨o, ho⟩ := hlv _ q
  exact absurd (Heap.lt_size ho) (Nat.lt_irrefl _)

/-- tuples of a str and an int -/
theorem o_ne_tup {x y : Str} {i j : Int} (hn : 11 ≤ C.n) : Op2 C own (compareOp .NotEq) (.tup [.str x, .int i]) (.tup [.str y, .int j]) (.bool (!(x == y && i == j))) := fun s a b _ _ _ R ra rb => by
  obtain ⟨l, xs, rfl, hl, hf, r⟩ := ra.tup_inv
  obtain ⟨l', ys, rfl, hl', hf', r'⟩ := rb.tup_inv
  obtain ⟨v, vs', rfl, r1, r2⟩ := r.cons_inv
  obtain ⟨v', vs'', rfl, r3, r4⟩ := r2.cons_inv
  obtain rfl := r4.nil_inv
  obtain ⟨t, rfl⟩ := r1.str_inv
  obtain ⟨u, rfl⟩ := r3.int_inv
  obtain ⟨v, vs', rfl, r1, r2⟩ := r'.cons_inv
  obtain ⟨v', vs'', rfl, r3, r4⟩ := r2.cons_inv
  obtain rfl := r4.nil_inv
  obtain ⟨t', rfl⟩ := r1.str_inv
  obtain ⟨u', rfl⟩ := r3.int_inv
  refine SeqAt.RcNeAt.tuples (e := fun k => if k = 0 then x == y else i == j) hl hl' (by have := R.2.2; omega) (fun k h1 h2 => ?_) PG C.w _ _ ⟨Eff.refl _ _, ?_⟩
  · match k, h1 with
    | 0, _ => exact SeqAt.EqAt.str_str x t y t'
    | 1, _ => exact SeqAt.EqAt.int_int i u j u'
  · have : (!((List.range (min [Value.str x t, Value.int i u].toArray.size [Value.str y t', Value.int j u'].toArray.size)).all (fun k => if k = 0 then x == y else i == j) && [Value.str x t, Value.int i u].toArray.size == [Value.str y t', Value.int j u'].toArray.size)) = !(x == y && i == j) := by
      show (!((List.range 2).all (fun k => if k = 0 then x == y else i == j) && true)) = _
      simp [List.range_succ]
    rw [this]
    exact .bool _

/-- tuples of two ints -/
theorem o_ne_tup2 {x y : Int} {i j : Int} (hn : 11 ≤ C.n) : Op2 C own (compareOp .NotEq) (.tup [.int x, .int i]) (.tup [.int y, .int j]) (.bool (!(x == y && i == j))) := fun s a b _ _ _ R ra rb => by
  obtain ⟨l, xs, rfl, hl, hf, r⟩ := ra.tup_inv
  obtain ⟨l', ys, rfl, hl', hf', r'⟩ := rb.tup_inv
  obtain ⟨v, vs', rfl, r1, r2⟩ := r.cons_inv
  obtain ⟨v', vs'', rfl, r3, r4⟩ := r2.cons_inv
  obtain rfl := r4.nil_inv
  obtain ⟨t, rfl⟩ := r1.int_inv
  obtain ⟨u, rfl⟩ := r3.int_inv
  obtain ⟨v, vs', rfl, r1, r2⟩ := r'.cons_inv
  obtain ⟨v', vs'', rfl, r3, r4⟩ := r2.cons_inv
  obtain rfl := r4.nil_inv
  obtain ⟨t', rfl⟩ := r1.int_inv
  obtain ⟨u', rfl⟩ := r3.int_inv
  refine SeqAt.RcNeAt.tuples (e := fun k => if k = 0 then x == y else i == j) hl hl' (by have := R.2.2; omega) (fun k h1 h2 => ?_) PG C.w _ _ ⟨Eff.refl _ _, ?_⟩
  · match k, h1 with
    | 0, _ => exact SeqAt.EqAt.int_int x t y t'
    | 1, _ => exact SeqAt.EqAt.int_int i u j u'
  · have : (!((List.range (min [Value.int x t, Value.int i u].toArray.size [Value.int y t', Value.int j u'].toArray.size)).all (fun k => if k = 0 then x == y else i == j) && [Value.int x t, Value.int i u].toArray.size == [Value.int y t', Value.int j u'].toArray.size)) = !(x == y && i == j) := by
      show (!((List.range 2).all (fun k => if k = 0 then x == y else i == j) && true)) = _
      simp [List.range_succ]
    rw [this]
    exact .bool _

/-- + of strs: the sum's token is told and positive -/
theorem o_add_strp {x y : List Nat} (hx : x ≠ []) (hy : y ≠ []) (hz : x.length + y.length ≤ 1000000) : Op2 C own (binaryOp .Add) (.strf (sS x)) (.str (sS y)) (.strp (sS (x ++ y))) := fun s a b _ _ _ _ ra rb => by
  obtain ⟨t, rfl, ht⟩ := ra.strf_inv
  obtain ⟨u, rfl⟩ := rb.str_inv
  have h1 : ((sS x).length == 0) = false := by rw [sS_length]; cases x with | nil => exact absurd rfl hx | cons a l => rfl
  have h2 : ((sS y).length == 0) = false := by rw [sS_length]; cases y with | nil => exact absurd rfl hy | cons a l => rfl
  refine P.add_str ?_
  rw [h1, h2, sS_append]
  refine ⟨by have h9 : (sS (x ++ y)).length = x.length + y.length := by rw [sS_length, List.length_append]
             have : sizeLine = 2 ^ 24 := rfl
             exact Nat.le_trans (Nat.le_of_eq h9) (Nat.le_trans hz (by rw [this]; decide)), Eff.tok, .strp _ _ (Nat.lt_of_le_of_lt (Nat.zero_le t) ht) (Nat.lt_succ_self _)⟩
theorem o_add_strp0 {x : List Nat} (hx : x ≠ []) : Op2 C own (binaryOp .Add) (.strp (sS x)) (.str (sS [])) (.strp (sS x)) := fun s a b _ _ _ _ ra rb => by
  obtain ⟨t, rfl, ht⟩ := ra.strp_inv
  obtain ⟨u, rfl⟩ := rb.str_inv
  have h1 : ((sS x).length == 0) = false := by rw [sS_length]; cases x with | nil => exact absurd rfl hx | cons a l => rfl
  refine P.add_str ?_
  rw [h1]
  exact ⟨Eff.refl _ _, .strp _ _ ht.1 ht.2⟩
end
end Mine

end

-- part F161
section
open PySem PySem.W PyProof.Rows PySem.Calls
set_option maxRecDepth 100000
set_option linter.unusedVariables false
namespace Mine

theorem fn161 {w : World} {n : Nat} {d : D} : Fn w true (n + 1) 161 [d] (.inst d) := by
  intro A s F vs G T R hF hv
  obtain ⟨v, vs', rfl, r1, r2⟩ := hv.cons_inv
  obtain rfl := r2.nil_inv
  obtain ⟨h, g, dr, tk, os⟩ := s
  refine wpAny_call ?_
  refine make_core (makes_of G.K (g161f w)) (looks_findIn G.K (g161g w)) (fun self => bind_fn G.K self (g161h w)) (.inl rfl) ?_
  have k : ∀ b o, h.get? b = some o → ((h.push emptyDict).push (instObj 161 h.objs.size)).get? b = some o := fun b o e => Heap.get?_push_of_some _ (Heap.get?_push_of_some _ e)
  have X : (KF w).In ((h.push emptyDict).push (instObj 161 h.objs.size)) := fun a o e => k a o (G.K a o e)
  have hsz : ((h.push emptyDict).push (instObj 161 h.objs.size)).objs.size = h.objs.size + 2 := by rw [Heap.size_push, Heap.size_push]
  refine codeAny_call_def (fd := k151.fd) (body := k151.body) (binds := [("self", .ref (h.objs.size + 1)), ("comp_select_list", v)]) ?_ (X _ _ (k151.hK w)) rfl (G.nolimit.keeps k) (codeRec_of X (k151.hcd w)) k151.hb (BindsTo.of_eq rfl) ?_ ?_ (fun h₀ hns hk₀ => ?_) rfl rfl rfl
  · have := R.2.1
    have e : (Code.builtin "type.__call__" ⟨[.ref 161, v], []⟩).weight = 1 := by kernel_rfl
    show A.depth + (Code.builtin "type.__call__" ⟨[.ref 161, v], []⟩).weight < _
    rw [e]; omega
  · exact fun x hx q => by
      have h0 : (k151.fd.scope.names.all fun x => !(x.2 == .cell)) = true := by kernel_rfl
      have := List.all_eq_true.mp h0 x hx
      rw [q] at this; cases this
  · intro x hx
    simp only [List.mem_cons, List.not_mem_nil, or_false] at hx
    rcases hx with rfl | rfl <;> kernel_rfl
  · have hL : h.objs.size + 2 = ((h.push emptyDict).push (instObj 161 h.objs.size)).objs.size := hsz.symm
    have hfr : ∀ b, h.objs.size ≤ b → h.get? b = none := fun b hb => get_none_of_le hb
    have gx : h₀.get? (h.objs.size + 1) = some (instObj 161 h.objs.size) := hk₀ _ _ (by
      have := Heap.get?_push_size (h.push emptyDict) (o := instObj 161 h.objs.size) rfl
      rw [Heap.size_push] at this; exact this)
    have gd : h₀.get? h.objs.size = some emptyDict := hk₀ _ _ (Heap.get?_push_of_some _ (Heap.get?_push_size h (o := emptyDict) rfl))
    have Fr0 : Fr h ((h.push emptyDict).push (instObj 161 h.objs.size)).objs.size h₀ (fun x => [(("self" : Str), Value.ref (h.objs.size + 1)), (("comp_select_list" : Str), v)].reverse.lookup x) := ⟨hns, fun b o e => hk₀ b o (k b o e), by rw [hsz]; omega⟩
    have N0 : News h ((h.push emptyDict).push (instObj 161 h.objs.size)).objs.size h₀ ([(h.objs.size + 1, instObj 161 h.objs.size)] ++ (h.objs.size, emptyDict) :: []) := fun p hp => by
      simp only [List.cons_append, List.nil_append, List.mem_cons, List.not_mem_nil, or_false] at hp
      rcases hp with rfl | rfl
      · exact ⟨gx, by rw [hsz]; show h.objs.size + 1 ≠ _; omega, hfr _ (Nat.le_succ _)⟩
      · exact ⟨gd, by rw [hsz]; show h.objs.size ≠ _; omega, hfr _ (Nat.le_refl _)⟩
    refine wpAny_execs_cons (plainObj_wpAny_Assign_Attribute (wpAny_Name (wpAny_loadName_local rfl rfl hns rfl ?_) rfl) rfl)
    refine wpAny_Name (wpAny_loadName_local rfl rfl hns rfl ?_) rfl
    have X' : (KF w).In h₀ := fun a o e => hk₀ a o (X a o e)
    have I : InstAt h₀ (h.objs.size + 1) (instObj 161 h.objs.size) 161 (some emptyDict) := ⟨gx, rfl, rfl, gd⟩
    refine set_plain (K := KF w) X' I (g161i w) ?_
    refine osa_dict (K := KF w) (od := emptyDict) (dx := h.objs.size) (pre := [(h.objs.size + 1, instObj 161 h.objs.size)]) (post := []) Fr0 N0 X' I rfl (g161j w) (g161k w) (g161b w) rfl (fun p hp => ?_) (fun p hp => nomatch hp) rfl rfl (by exact Nat.le_of_ble_eq_true rfl) fun h' F' N' => ?_
    · simp only [List.mem_cons, List.not_mem_nil, or_false] at hp
      subst hp
      show h.objs.size + 1 ≠ h.objs.size
      omega
    refine wpAny_execs_nil ⟨rfl, ?_⟩
    have nx := (N' _ (List.mem_append_left _ (.head _))).1
    have nd := (N' _ (List.mem_append_right _ (.head _))).1
    have hnF : ∀ b, h.objs.size ≤ b → ¬ F b := fun b hb q => by
      obtain ⟨_, o, ho, _⟩ := hF b q
      exact absurd (Heap.lt_size ho) (Nat.not_lt.mpr hb)
    refine ⟨Eff.of (s := ⟨h, g, dr, tk, os⟩) F'.keep (by show tk ≤ tk + 2 + 1 + 1; omega), ?_⟩
    refine .inst (dx := h.objs.size) nx nd rfl rfl rfl (hnF _ (Nat.le_succ _)) (hnF _ (Nat.le_refl _)) ?_
    exact r1.mono (fun a o hf _ e => ⟨F'.keep a o e, hf⟩) (by show tk ≤ tk + 2 + 1 + 1; omega)
end Mine

end

-- part MO8
section
open PySem PySem.W PyProof.Rows PySem.Calls
set_option maxRecDepth 100000
set_option linter.unusedVariables false
namespace Mine

section
variable {C : Cx} {ρ : List (Str × D)} {own : List Own}

/-- x.replace(y, z), z a text of the code -/
theorem Ev.replace {o e : Expr} {name : Str} {apos pos cp : Pos} {ck : Nat} {x y z : Str} {pl : Sem Bool} (hn : name = "replace") (ho : Ev C ρ own o (.str x)) (he : Ev C ρ own e (.strp y)) (hyz : (y == z) = false) (hx : x.length ≤ 100000) (hz : z.length ≤ 14)
    (hst : autoParam (starEach [e, .Constant (.str z) ck cp] C.env = [(false, eval e C.env), (false, eval (.Constant (.str z) ck cp) C.env)]) Mine.tacI)
    (hc : autoParam (eval (.Call (.Attribute o name apos) [e, .Constant (.str z) ck cp] [] pos) C.env = (do
      let ov ← eval o C.env
      standAt apos.atName
      let (f, first) ← holding [ov] (getMethod ov name pl)
      callWith pos f first (backTo pos (starEach [e, .Constant (.str z) ck cp] C.env)) [])) Mine.tacI) : Ev C ρ own (.Call (.Attribute o name apos) [e, .Constant (.str z) ck cp] [] pos) (.str (Txt.replace x y z)) := fun s S => by
  subst hn
  refine MethodCall_ (pl := pl) (wpAny_mono (ho s S) (fun v s₁ ⟨e₁, r₁⟩ => ?_) fun _ _ x => x) hc
  have S₁ := S.eff e₁
  obtain ⟨t, rfl⟩ := r₁.str_inv
  refine GM.replace ?_
  rw [hst]
  refine callWith_builtin rfl (evalArgs_plain (spliced_cons (wpAny_mono (he s₁ S₁) (fun v s₂ ⟨e₂, r₂⟩ => ?_) fun _ _ x => x)))
  have S₂ := S₁.eff e₂
  obtain ⟨u, rfl, h0, hu⟩ := r₂.strp_inv
  refine spliced_cons (Constant_str (k := ck) (pos := cp) (spliced_nil ?_))
  refine wpAny_with_toks (n := s₂.toks + 1) (Nat.le_refl _) (SC.replaceW (Nat.ne_of_gt h0) (Nat.ne_of_gt (Nat.lt_of_le_of_lt (Nat.zero_le _) hu)) (Nat.ne_of_lt hu) hyz (Nat.le_trans hx (by decide)) hz fun t' k hk => ?_)
  have hk' : s₂.toks + 1 ≤ k := hk
  exact ⟨(e₁.trans e₂).trans (Eff.tok (Nat.le_of_succ_le hk')), .str _ _⟩

/-- {k: v} -/
theorem Ev.dict1 {k v : Expr} {pos : Pos} {i j : Int} (hk : Ev C ρ own k (.int i)) (hv : Ev C ρ own v (.int j)) : Ev C ρ own (.Dict [some k] [v] pos) (.dict [(i, .int j)]) := fun s S => by
  have e₀ : Eff C.q s { s with heap := s.heap.push { cls := .type "dict", data := .dict #[] } } := Eff.push (tk := s.toks)
  refine wpAny_Dict_pairs (knd := intKind PG C.w) (pairs := [(eval k C.env, do let x ← eval v C.env; standAt pos; pure x)]) rfl (by simp) (by simp) ?_
  have S₀ := S.eff e₀
  refine evalPairs_cons (wpAny_mono (hk _ S₀) (fun kv s₁ ⟨e₁, r₁⟩ => ?_) fun _ _ x => x)
  have S₁ := S₀.eff e₁
  obtain ⟨t, rfl⟩ := r₁.int_inv
  refine wpAny_bind (wpAny_mono (hv _ S₁) (fun vv s₂ ⟨e₂, r₂⟩ => ?_) fun _ _ x => x)
  refine wpAny_bind (wpAny_standAt (wpAny_pure (evalPairs_nil ?_)))
  have S₂ := S₁.eff e₂
  have hsz : ¬ T2 s.heap.objs.size := not_T2 (size_gt S.tabs)
  have hd0 : s₂.heap.DictOf (intKind PG C.w) s.heap.objs.size [] := by
    obtain ⟨o, es, ep, h1, h2⟩ := Heap.DictOf.new (knd := intKind PG C.w) s.heap
    exact ⟨o, es, ep, (e₁.trans e₂).2.1 _ o (.inr hsz) h1, h2⟩
  refine ⟨[(i, vv)], ⟨by show Value.isInt i (.int i t) = true; simp [Value.isInt], rfl, trivial⟩, hd0, fun h' hd' hs' => ?_⟩
  obtain ⟨t', rfl⟩ := r₂.int_inv
  have e₉ := (e₀.trans e₁).trans e₂
  have hnone : s.heap.get? s.heap.objs.size = Option.none := pushed_none s
  refine ⟨⟨?_, fun a o hq e => ?_, fun _ => ?_, ?_⟩, ?_⟩
  · obtain ⟨h, tk, hh⟩ := e₉.1
    exact ⟨h', _, by rw [hh]⟩
  · have := e₉.2.1 a o hq e
    show h'.get? a = _
    rw [hs'.2 a (by rintro rfl; rw [hnone] at e; cases e)]
    exact this
  · have k : ∀ P, T2 P → ∀ o, s₂.heap.get? P = some o → h'.get? P = some o := fun P hP o e => by rw [hs'.2 P (by rintro rfl; exact hsz hP)]; exact e
    have k2 : ∀ b o vs, o.data = .fields vs → (∃ q t, vs[1]? = some (.str q t)) → s₂.heap.get? b = some o → h'.get? b = some o := fun b o vs hd _ e => by
      rw [hs'.2 b ?_]
      · exact e
      · rintro rfl
        obtain ⟨o', es, ep, ho', _, hdo, _⟩ := hd0
        rw [e] at ho'; cases ho'
        rw [hd] at hdo; cases hdo
    exact ⟨S₂.tabs.t1.keep (k 47 (.inl rfl)) k2, S₂.tabs.t2.keep (k 54 (.inr rfl)) k2⟩
  · exact Nat.le_trans e₉.2.2.2 (Nat.le_add_right _ _)
  · have hd'' : h'.DictOf (intKind PG C.w) s.heap.objs.size [(i, .int j t')] := hd'
    exact .dict hd'' (not_modules S.tabs) S.fresh rfl fun n v d h1 h2 => by
      cases n with
      | zero => cases h1; cases h2; exact .int _ _
      | succ n => simp at h1
theorem Ev.dict0 {pos : Pos} : Ev C ρ own (.Dict [] [] pos) (.dict []) := fun s S => by
  refine wpAny_Dict_empty ⟨Eff.push (tk := s.toks), ?_⟩
  exact .dict (kvs := []) (Heap.DictOf.new _) (not_modules S.tabs) S.fresh rfl fun i v d h => by simp at h

/-- t.get(k, d) -/
theorem Ev.get {o k e : Expr} {name : Str} {apos pos : Pos} {ds : List (Int × D)} {i : Int} {d : D} {pl : Sem Bool} (hn : name = "get") (ho : Ev C ρ own o (.dict ds)) (hk : Ev C ρ own k (.int i)) (he : Ev C ρ own e d)
    (hst : autoParam (starEach [k, e] C.env = [(false, eval k C.env), (false, eval e C.env)]) Mine.tacI)
    (hc : autoParam (eval (.Call (.Attribute o name apos) [k, e] [] pos) C.env = (do
      let ov ← eval o C.env
      standAt apos.atName
      let (f, first) ← holding [ov] (getMethod ov name pl)
      callWith pos f first (backTo pos (starEach [k, e] C.env)) [])) Mine.tacI) : Ev C ρ own (.Call (.Attribute o name apos) [k, e] [] pos) ((valueD ds i).getD d) := fun s S => by
  subst hn
  refine MethodCall_ (pl := pl) (wpAny_mono (ho s S) (fun v s₁ ⟨e₁, r₁⟩ => ?_) fun _ _ x => x) hc
  have S₁ := S.eff e₁
  obtain ⟨a, kvs, rfl, hd, hm, hf, hkv⟩ := r₁.dict_inv
  refine getMethod_builtin hd.typeIs F.plainAttrs_dict F.slot_dict_get F.type_dict_get (fun b q => by cases q; exact hd.mapOf.noDict _ rfl) ?_
  rw [hst]
  refine wpAny_dict_get2 (knd := intKind PG C.w) hm (wpAny_mono (hk s₁ S₁) (fun key s₂ ⟨e₂, r₂⟩ => ?_) fun _ _ x => x)
  have S₂ := S₁.eff e₂
  obtain ⟨t, rfl⟩ := r₂.int_inv
  refine wpAny_mono (he s₂ S₂) (fun dv s₃ ⟨e₃, r₃⟩ => ?_) fun _ _ x => x
  obtain ⟨a', kvs', q, hd', hm', hf', hkv'⟩ := ((r₁.eff S₁.tabs e₂).eff S₂.tabs e₃).dict_inv
  cases q
  have e₄ : Eff C.q s₃ { s₃ with toks := s₃.toks + 1 } := Eff.tok
  refine ⟨i, valueAt kvs', by show Value.isInt i (.int i t) = true; simp [Value.isInt], hd'.mapOf, (((e₁.trans e₂).trans e₃).trans e₄), ?_⟩
  obtain ⟨h1, h2⟩ := RdKV.value (k := i) hkv'
  cases hv : valueD ds i with
  | none =>
    rw [hv] at h1
    cases hv' : valueAt kvs' i with
    | none => exact r₃.eff (S₂.eff e₃).tabs e₄
    | some x => rw [hv'] at h1; cases h1
  | some d' =>
    obtain ⟨x, hx, rx⟩ := h2 d' hv
    rw [hx]
    exact rx.eff (S₂.eff e₃).tabs e₄

/-- TupleComp(..) -/
theorem Ev.cls {x : Str} {p pos : Pos} {e : Expr} {d : D} (hx : x = "TupleComp") (he : Ev C ρ own e d) (hlv : 1 ≤ C.n) (hk : autoParam (C.env.kindOf x = some .globalImplicit) Mine.tacI) (hst : autoParam (starEach [e] C.env = (false, eval e C.env) :: starEach [] C.env) Mine.tacI) :
    Ev C ρ own (.Call (.Name x p) [e] [] pos) (.inst d) := fun s S => by
  subst hx
  refine wpAny_Call_ofName (wpAny_mono (Ev.gname (g161 C.w) hk rfl s S) (fun v s₁ ⟨e₁, r₁⟩ => ?_) fun _ _ x => x)
  rw [r₁.addr_inv]
  have S₁ := S.eff e₁
  show wpAny C.M C.A (callWith pos (.ref 161) [] (backTo pos (starEach [e] C.env)) []) _ _ _
  have ha := EvL.cons (pos := pos) he EvL.nil hst
  refine callWith_K S₁.good.K (g161l C.w) (wpAny_mono (ha.2.2 s₁ S₁) (fun vs s₂ ⟨e₂, r₂⟩ => ⟨(S₁.eff e₂).good.K, ?_⟩) fun _ _ x => x) hst rfl
  have S₂ := S₁.eff e₂
  refine wpAny_mono (fn161 (n := 0) C.A s₂ (C.F own) _ S₂.good S₂.tabs (S.ok.room.le hlv) (fun a h => S₂.fLive h) r₂) (fun v s₃ ⟨e₃, r₃⟩ => ⟨(e₁.trans e₂).trans e₃.quiet, r₃⟩) fun _ _ x => x
end
end Mine

end

-- part MC6
section
open PySem PySem.W PyProof.Rows PySem.Calls
set_option maxRecDepth 100000
set_option linter.unusedVariables false
namespace Mine

section
variable {C : Cx} {ρ ρc : List (Str × D)} {own : List Own} {s s₅ : Shared} {elt iter : Expr} {x : Str} {px pos : Pos} {ifs : List Expr} {scope : Scope} {items : List D}
theorem ob_rdN {C : Cx} {own : List Own} {h : Shared} {a : Addr} {ds : List D} {F : Addr → Prop} (ho : OwnRd C.w h F a (.plist ds)) (hF : ∀ b o, ¬ F b → Solid o → h.heap.get? b = some o → ¬ C.F own b) (ha : ¬ C.F own a) : Rd C.w h (C.F own) (.ref a) (.nlist ds) := by
  cases ho with
  | plist ht hr =>
    have r := hr.mono (s' := h) (F' := C.F own) (fun b o hb hc e => ⟨e, hF b o hb hc e⟩) (Nat.le_refl _)
    exact .nlist ht ha r.1 r.2

/-- a comprehension of a known list: g says what each item gives -/
theorem evCompN (g : D → Option D) (ρc : List (Str × D)) (hit : It C ρ own iter items) (hz : items.length ≤ sizeLine) (hρ : Sub ρc ρ)
    (turn : ∀ (s : Shared) (L : Addr) (own' : List Own) (i : Nat) (d : D), items[i]? = some d → St C ρ own s → match g d with
      | some d' => (∀ s₁, St (compC C own s scope L) ((x, d) :: ρc) own' s₁ → wpAny C.M C.A (ifsOk ifs (compC C own s scope L).env) (fun ok s₂ => Eff C.q s₁ s₂ ∧ ok = true) NoE s₁) ∧ Ev (compC C own s scope L) ((x, d) :: ρc) own' elt d'
      | none => ∀ s₁, St (compC C own s scope L) ((x, d) :: ρc) own' s₁ → wpAny C.M C.A (ifsOk ifs (compC C own s scope L).env) (fun ok s₂ => Eff C.q s₁ s₂ ∧ ok = false) NoE s₁)
    (K : autoParam (CompOk C scope) Mine.tacC)
    (hρf : autoParam ((ρc.all fun y => scope.names.lookup y.1 == some .free && (!(y.1 == ("__classdict__" : Str)) && !(C.env.kindOf y.1 == some .local))) = true) Mine.tacI) (hxρ : autoParam (ρc.lookup x = none) Mine.tacI)
    (hx : autoParam (∀ s L, storable (compC C own s scope L) x = true) Mine.tacF) (hs : autoParam (∀ x, foldedSetIterable iter C.env x = pure x) Mine.tacH) :
    Ev C ρ own (.ListComp elt [⟨.Name x px, iter, ifs, 0⟩] scope pos) (.nlist (items.filterMap g)) := fun s S => by
  rw [eval_ListComp]
  refine comp_core (use := none) rfl K hit hz hρ hρf hxρ (fun i acc js => acc = (items.take i).filterMap g ∧ js = []) ⟨rfl, rfl⟩ (fun i acc js h => ?_) S (hx s) (fun L i d acc js R hd hJ a s₁ S₁ => ?_) (fun s₅ a L acc js hJ S₅ => ?_) hs
  · rw [h.1]
    exact Nat.le_trans (List.length_filterMap_le _ _) (by rw [List.length_take]; omega)
  · obtain ⟨rfl, rfl⟩ := hJ
    have hlt := (List.getElem?_eq_some_iff.mp hd).1
    have htk : items.take (i + 1) = items.take i ++ [d] := by rw [List.take_add_one, hd]; rfl
    have t := turn s L (.ob a (.plist ((items.take i).filterMap g)) :: ([] ++ R)) i d hd S
    cases hg : g d with
    | none =>
      rw [hg] at t
      refine wpAny_mono (t s₁ S₁) (fun ok s₂ ⟨e, hok⟩ => ?_) fun _ _ x => x.elim
      subst hok
      refine ⟨⟨by rw [htk, List.filterMap_append]; simp [hg], rfl⟩, S₁.eff e⟩
    | some d' =>
      rw [hg] at t
      refine wpAny_mono (t.1 s₁ S₁) (fun ok s₂ ⟨e, hok⟩ => ?_) fun _ _ x => x.elim
      subst hok
      have S₂ := S₁.eff (C := compC C own s scope L) e
      refine wpAny_mono (t.2 s₂ S₂) (fun v s₃ ⟨e', r⟩ => ?_) fun _ _ x => x.elim
      refine ⟨d', [], ⟨by rw [htk, List.filterMap_append]; simp [hg], rfl⟩, S₂.eff e', r⟩
  · obtain ⟨rfl, rfl⟩ := hJ
    refine let ⟨m, hm⟩ := S₅.ns; ⟨m, hm, fun h' hs' => ?_⟩
    obtain ⟨e, hb, _, hk⟩ := comp_end S₅ hs'
    have hk := hk _ (.head _)
    rw [List.take_length] at hk
    have hold : ∀ b, C.F own b → ∃ o, s.heap.get? b = some o := fun b h => S.live' b h
    have ha : ¬ C.F own a := fun q => by
      obtain ⟨o, ho⟩ := hold a q
      rw [hb a (.head _)] at ho; cases ho
    refine ⟨e, ob_rdN hk (fun b o hb' _ _ q => hb' (.inl q)) ha⟩

end
end Mine

end

-- part F193
section
open PySem PySem.W PyProof.Rows PySem.Calls
set_option maxRecDepth 100000
set_option linter.unusedVariables false
namespace Mine

noncomputable def opn (l : List Nat) : Int := 2 * (l.count 40 : Int) - l.length
noncomputable def stepS (l : List Nat) (c : Int) : List Nat := (l ++ List.replicate (c.fmod (opn l + 1)).toNat 41) ++ [40]
noncomputable def shapeS : List Int → Nat → List Nat
  | _, 0 => [40]
  | cs, i + 1 => stepS (shapeS cs i) (cs.getD i 0)
noncomputable def shapeL (cs : List Int) : List Nat := shapeS cs 3 ++ List.replicate (8 - (shapeS cs 3).length) 41

theorem stepS_ok {l : List Nat} {c : Int} (h : 1 ≤ opn l) : 1 ≤ opn (stepS l c) ∧ (stepS l c).count 40 = l.count 40 + 1 ∧ 0 ≤ c.fmod (opn l + 1) ∧ c.fmod (opn l + 1) ≤ opn l := by
  have h0 : 0 < opn l + 1 := by omega +splitDisjunctions
  have h1 := Int.fmod_nonneg_of_pos c h0
  have h2 := Int.fmod_lt_of_pos c h0
  have e : (List.replicate (c.fmod (opn l + 1)).toNat 41).count 40 = 0 := List.count_eq_zero.mpr fun hm => by
    have := List.eq_of_mem_replicate hm
    cases this
  have ec : (stepS l c).count 40 = l.count 40 + 1 := by
    unfold stepS
    rw [List.count_append, List.count_append, e]
    simp
  refine ⟨?_, ec, h1, by omega +splitDisjunctions⟩
  have el : (stepS l c).length = l.length + (c.fmod (opn l + 1)).toNat + 1 := by
    unfold stepS; simp; omega +splitDisjunctions
  unfold opn at *
  rw [ec, el]; push_cast; omega +splitDisjunctions

theorem shapeS_ok (cs : List Int) : ∀ i, 1 ≤ opn (shapeS cs i) ∧ (shapeS cs i).count 40 = i + 1
  | 0 => ⟨by show (1 : Int) ≤ opn [40]; decide, by show [40].count 40 = 1; decide⟩
  | i + 1 => by
    obtain ⟨h1, h2⟩ := shapeS_ok cs i
    obtain ⟨h3, h4, _⟩ := stepS_ok (c := cs.getD i 0) h1
    exact ⟨h3, by show (stepS _ _).count 40 = _; rw [h4, h2]⟩

theorem fn193 {w : World} {n : Nat} {cs : List Int} (hl : cs.length = 4) : Fn w true (n + 1) 193 [.list (dInts cs)] (.str (sS (shapeL cs))) := by
  obtain ⟨c0, c1, c2, c3, rfl⟩ : ∃ c0 c1 c2 c3, cs = [c0, c1, c2, c3] := by
    match cs, hl with
    | [a, b, c, d], _ => exact ⟨a, b, c, d, rfl⟩
  refine k193.fn ["cells"] (by kernel_rfl) (by decide) rfl (bind1 fun _ => rfl) fun A s F R => ?_
  refine Ex.assign (d := .str (sS [40])) Ev.str ?_
  have hsl : ∀ i, (shapeS [c0, c1, c2, c3] i).length ≤ 2 * (i + 1) := fun i => by
    have := shapeS_ok [c0, c1, c2, c3] i
    unfold opn at this
    omega +splitDisjunctions
  refine Ex.for (items := [.int c0, .int c1, .int c2]) (R := []) (fun i => [("shape", .str (sS (shapeS [c0, c1, c2, c3] i)))]) (fun _ => []) (It.list (Ev.slice (Ev.name rfl) EvP.none (EvP.some Ev.int) EvP.none (s_list (ds := dInts [c0, c1, c2, c3]) (by decide) (by show 4 ≤ sizeLine; decide)))) ⟨rfl, trivial⟩ rfl (fun i d R' hd => ?_) ?_
  · have hi : i < 3 := (List.getElem?_eq_some_iff.mp hd).1
    have hc : d = .int ([c0, c1, c2, c3].getD i 0) := by
      match i, hi with
      | 0, _ => cases hd; rfl
      | 1, _ => cases hd; rfl
      | 2, _ => cases hd; rfl
    subst hc
    generalize hcs : [c0, c1, c2, c3] = cs at *
    obtain ⟨h1, h2⟩ := shapeS_ok cs i
    obtain ⟨h3, h4, h5, h6⟩ := stepS_ok (c := cs.getD i 0) h1
    have hlen := hsl i
    have hb : (cs.getD i 0).fmod (opn (shapeS cs i) + 1) ≤ 1000 := by
      have : opn (shapeS cs i) ≤ 2 * (i + 1) := by
        unfold opn
        omega +splitDisjunctions
      omega +splitDisjunctions
    refine Ex.assign (Ev.as (d' := .int (opn (shapeS cs i))) (Ev.bin (Ev.bin Ev.int (Ev.meth (Ev.name rfl) (gm_str "count" "str.count" GM.count) (EvL.cons (Ev.as Ev.str (congrArg _ str_paren)) EvL.nil) c_count_sS) (o_mul (IntMulOk.of_left (by decide)))) (Ev.bcall bi_len (EvL.cons (Ev.name rfl) EvL.nil) (c_len_sS (by omega +splitDisjunctions))) o_sub) rfl) ?_
    refine Ex.assign (Ev.bin (Ev.bin (Ev.name rfl) (Ev.bin (Ev.as Ev.str (congrArg _ str_close)) (Ev.bin (Ev.name rfl) (Ev.bin (Ev.name rfl) Ev.int o_add) (o_mod (by omega +splitDisjunctions))) (o_mul_str h5 hb)) (o_add_sS ?_)) (Ev.as Ev.str (congrArg _ str_paren)) (o_add_sS ?_)) ?_
    · rw [List.length_replicate]; omega +splitDisjunctions
    · rw [List.length_append, List.length_replicate]; simp only [List.length_cons, List.length_nil]; omega +splitDisjunctions
    · exact Ex.turn ⟨rfl, trivial⟩
  · have h3 := hsl 3
    refine Ex.retn (Ev.bin (Ev.name rfl) (Ev.as (d' := .str (sS (List.replicate (8 - (shapeS [c0, c1, c2, c3] 3).length) 41))) (Ev.bin (Ev.as Ev.str (congrArg _ str_close)) (Ev.bin Ev.int (Ev.bcall bi_len (EvL.cons (Ev.name rfl) EvL.nil) (c_len_sS (by show (shapeS [c0, c1, c2, c3] 3).length ≤ _; omega +splitDisjunctions))) o_sub) (o_mul_str ?_ ?_)) ?_) (o_add_sS ?_)) fun _ => id
    · have h := shapeS_ok [c0, c1, c2, c3] 3
      show (0 : Int) ≤ 8 - ((shapeS [c0, c1, c2, c3] 3).length : Int)
      unfold opn at h
      omega +splitDisjunctions
    · show (8 : Int) - ((shapeS [c0, c1, c2, c3] 3).length : Int) ≤ 1000
      omega +splitDisjunctions
    · have e : ((8 : Int) - ((shapeS [c0, c1, c2, c3] 3).length : Int)).toNat = 8 - (shapeS [c0, c1, c2, c3] 3).length := by omega +splitDisjunctions
      show D.str (sS (List.replicate ((8 : Int) - ((shapeS [c0, c1, c2, c3] 3).length : Int)).toNat 41)) = _
      rw [e]
    · show (shapeS [c0, c1, c2, c3] 3).length + _ ≤ _
      rw [List.length_replicate]; omega +splitDisjunctions
end Mine

end

-- part PL1
section
open PySem PySem.W PyProof.Rows PySem.Calls
set_option maxRecDepth 100000
set_option linter.unusedVariables false
namespace Mine

/-! the law's data, as plain functions -/
noncomputable def firstsL : List Int := [30, 84, 51, 1212]
noncomputable def pickI (ns : List Int) (lo hi st : Option Int) : List Int := (sliceRange (sliceBounds lo hi st ns.length).1 (sliceBounds lo hi st ns.length).2.1 (sliceBounds lo hi st ns.length).2.2).filterMap (ns[·]?)
theorem pickD_ints (ns : List Int) (lo hi st : Option Int) : pickD (dInts ns) lo hi st = dInts (pickI ns lo hi st) := by
  unfold pickD pickI
  rw [List.length_map]
  show _ = List.map D.int _
  rw [List.map_filterMap]
  congr 1
  funext i
  rw [List.getElem?_map]
noncomputable def cellI (xs : List Int) (k : Nat) : Int := (firstsL.getD k 0 + (pickI xs (some k) none (some 4)).sum).fmod 1000000
noncomputable def cellN (xs : List Int) (k : Nat) : Nat := (cellI xs k).toNat
theorem cellN_eq (xs : List Int) (k : Nat) : (cellN xs k : Int) = cellI xs k := Int.toNat_of_nonneg (Int.fmod_nonneg_of_pos _ (by decide))
theorem cellN_lt (xs : List Int) (k : Nat) : cellN xs k < 1000000 := by
  have := Int.fmod_lt_of_pos (firstsL.getD k 0 + (pickI xs (some k) none (some 4)).sum) (b := 1000000) (by decide)
  have h : cellI xs k < 1000000 := this
  have := cellN_eq xs k
  omega

noncomputable abbrev cellsI (c : Nat → Nat) : List Int := [(c 0 : Int), (c 1 : Int), (c 2 : Int), (c 3 : Int)]

/-- the 14 shapes -/
noncomputable def shapes14 : List (List Nat) :=
  [[40, 40, 40, 40, 41, 41, 41, 41],
   [40, 40, 40, 41, 40, 41, 41, 41],
   [40, 40, 40, 41, 41, 40, 41, 41],
   [40, 40, 40, 41, 41, 41, 40, 41],
   [40, 40, 41, 40, 40, 41, 41, 41],
   [40, 40, 41, 40, 41, 40, 41, 41],
   [40, 40, 41, 40, 41, 41, 40, 41],
   [40, 40, 41, 41, 40, 40, 41, 41],
   [40, 40, 41, 41, 40, 41, 40, 41],
   [40, 41, 40, 40, 40, 41, 41, 41],
   [40, 41, 40, 40, 41, 40, 41, 41],
   [40, 41, 40, 40, 41, 41, 40, 41],
   [40, 41, 40, 41, 40, 40, 41, 41],
   [40, 41, 40, 41, 40, 41, 40, 41]]
noncomputable def startsN (sh : List Nat) : List Nat := (List.range 8).filter fun i => sh.getD i 0 == 40
noncomputable def endsN (sh : List Nat) : List Nat := (List.range 8).filter fun i => sh.getD i 0 == 41
noncomputable def heightI (sh : List Nat) (i : Nat) : Int := 2 * ((sh.take i).count 40 : Int) - i
noncomputable def heightsI (sh : List Nat) : List Int := (endsN sh).map (heightI sh)
noncomputable def portN (c : Nat → Nat) (m : Nat) : Nat := c m / 24 % 1000 * 4 + m
noncomputable def quoted (c : Nat → Nat) (k : Nat) : Bool := c k / 12 % 2 == 0
noncomputable def openerT (c : Nat → Nat) (k : Nat) : List Nat := [40, 97 + k] ++ (if quoted c k then [34, 40, 34] else [])
noncomputable def closerT (c : Nat → Nat) (m : Nat) : List Nat := [124, 124] ++ digs (portN c m) ++ [124, 41]
/-- a piece: p < 4 the opener p, else the closer p - 4 -/
noncomputable def pieceT (c : Nat → Nat) (p : Nat) : List Nat := if p < 4 then openerT c p else closerT c (p - 4)
noncomputable def textT (c : Nat → Nat) (ps : List Nat) : List Nat := ps.flatMap (pieceT c)
noncomputable def pieceAt (sh : List Nat) (i : Nat) : Nat := if i ∈ startsN sh then (startsN sh).idxOf i else 4 + (endsN sh).idxOf i
noncomputable def piecesN (sh : List Nat) : List Nat := (List.range 8).map (pieceAt sh)

theorem portN_lt {c : Nat → Nat} {m : Nat} (h : m < 4) : portN c m < 4000 := by
  unfold portN
  have := Nat.mod_lt (c m / 24) (y := 1000) (by decide)
  omega
theorem portN_mod {c : Nat → Nat} {m : Nat} (h : m < 4) : portN c m % 4 = m := by
  unfold portN; omega
theorem portN_inj {c : Nat → Nat} {m m' : Nat} (h : m < 4) (h' : m' < 4) (e : portN c m = portN c m') : m = m' := by
  rw [← portN_mod (c := c) h, e, portN_mod h']

theorem shape_in (c : Nat → Nat) : shapeL (cellsI c) ∈ shapes14 := by
  have key : ∀ a b d : Nat, a ≤ 1 → b ≤ 2 - a → d ≤ 3 - a - b → (([40] ++ List.replicate a 41 ++ [40] ++ List.replicate b 41 ++ [40] ++ List.replicate d 41 ++ [40]) ++ List.replicate (8 - (4 + a + b + d)) 41) ∈ shapes14 := by
    have key0 : ∀ a, a < 2 → ∀ b, b < 3 - a → ∀ d, d < 4 - a - b → (([40] ++ List.replicate a 41 ++ [40] ++ List.replicate b 41 ++ [40] ++ List.replicate d 41 ++ [40]) ++ List.replicate (8 - (4 + a + b + d)) 41) ∈ shapes14 := by decide +kernel
    exact fun a b d h1 h2 h3 => key0 a (Nat.lt_succ_of_le h1) b (by omega) d (by omega)
  have cnt : ∀ n : Nat, (List.replicate n 41).count 40 = 0 := fun n => List.count_eq_zero.mpr fun hm => by
    have := List.eq_of_mem_replicate hm
    cases this
  let a := ((c 0 : Int).fmod 2).toNat
  let b := ((c 1 : Int).fmod (3 - a)).toNat
  let d := ((c 2 : Int).fmod (4 - a - b)).toNat
  have ha : a ≤ 1 := by
    have := Int.fmod_lt_of_pos (c 0 : Int) (b := 2) (by decide)
    have := Int.fmod_nonneg_of_pos (c 0 : Int) (b := 2) (by decide)
    show ((c 0 : Int).fmod 2).toNat ≤ 1
    omega
  have hb : b ≤ 2 - a := by
    have := Int.fmod_lt_of_pos (c 1 : Int) (b := 3 - a) (by omega)
    have := Int.fmod_nonneg_of_pos (c 1 : Int) (b := 3 - a) (by omega)
    show ((c 1 : Int).fmod (3 - a)).toNat ≤ 2 - a
    omega
  have hd : d ≤ 3 - a - b := by
    have := Int.fmod_lt_of_pos (c 2 : Int) (b := 4 - a - b) (by omega)
    have := Int.fmod_nonneg_of_pos (c 2 : Int) (b := 4 - a - b) (by omega)
    show ((c 2 : Int).fmod (4 - a - b)).toNat ≤ 3 - a - b
    omega
  have s1 : shapeS (cellsI c) 1 = [40] ++ List.replicate a 41 ++ [40] := by
    show ([40] ++ List.replicate ((c 0 : Int).fmod (opn [40] + 1)).toNat 41) ++ [40] = _
    rfl
  have o1 : opn (shapeS (cellsI c) 1) + 1 = 3 - a := by
    rw [s1]; unfold opn
    rw [List.count_append, List.count_append, cnt]
    simp; omega
  have s2 : shapeS (cellsI c) 2 = [40] ++ List.replicate a 41 ++ [40] ++ List.replicate b 41 ++ [40] := by
    show (shapeS (cellsI c) 1 ++ List.replicate ((c 1 : Int).fmod (opn (shapeS (cellsI c) 1) + 1)).toNat 41) ++ [40] = _
    rw [o1, s1]
  have o2 : opn (shapeS (cellsI c) 2) + 1 = 4 - a - b := by
    rw [s2]; unfold opn
    simp only [List.count_append, cnt, List.length_append, List.length_replicate]
    simp; omega
  have s3 : shapeS (cellsI c) 3 = [40] ++ List.replicate a 41 ++ [40] ++ List.replicate b 41 ++ [40] ++ List.replicate d 41 ++ [40] := by
    show (shapeS (cellsI c) 2 ++ List.replicate ((c 2 : Int).fmod (opn (shapeS (cellsI c) 2) + 1)).toNat 41) ++ [40] = _
    rw [o2, s2]
  have l3 : (shapeS (cellsI c) 3).length = 4 + a + b + d := by
    rw [s3]
    simp; omega
  unfold shapeL
  rw [l3, s3]
  exact key a b d ha hb hd
end Mine

end

-- part F203a
section
open PySem PySem.W PyProof.Rows PySem.Calls
set_option maxRecDepth 100000
set_option linter.unusedVariables false
namespace Mine

noncomputable abbrev C203 (w : World) (A : Around) (lvl : Nat) (sh : Shared) (F : Addr → Prop) : Cx := mkC w A lvl false sh F k203.fd 203

theorem Ev.strpF {C : Cx} {ρ : List (Str × D)} {own : List Own} {e : Expr} {x : Str} (h : Ev C ρ own e (.strp x)) : Ev C ρ own e (.strf x) := fun s S => wpAny_mono (h s S) (fun _ _ ⟨e, r⟩ => ⟨e, by
  obtain ⟨t, rfl, _, ht⟩ := r.strp_inv
  exact .strf _ _ ht⟩) fun _ _ x => x
theorem Ev.strpS {C : Cx} {ρ : List (Str × D)} {own : List Own} {e : Expr} {x : Str} (h : Ev C ρ own e (.strp x)) : Ev C ρ own e (.str x) := fun s S => wpAny_mono (h s S) (fun _ _ ⟨e, r⟩ => ⟨e, by
  obtain ⟨t, rfl, _, ht⟩ := r.strp_inv
  exact .str _ _⟩) fun _ _ x => x

noncomputable def cellD (xs : List Int) : D → D
  | .int i => .int (cellI xs i.toNat)
  | _ => .none
noncomputable def keepAt (sh : List Nat) (ch : Nat) : D → Option D
  | .int i => if sh.getD i.toNat 0 == ch then some (.int i) else none
  | _ => none
noncomputable def heightD (sh : List Nat) : D → D
  | .int i => .int (heightI sh i.toNat)
  | _ => .none
noncomputable def portD (c : Nat → Nat) : D → D
  | .int i => .int (portN c i.toNat)
  | _ => .none
noncomputable def closerD : D → D
  | .int i => .strp (sS ([124, 124] ++ digs i.toNat ++ [124, 41]))
  | _ => .none
noncomputable def pieceD (c : Nat → Nat) (sh : List Nat) : D → D
  | .int i => .str (sS (pieceT c (pieceAt sh i.toNat)))
  | _ => .none
noncomputable abbrev natsD (l : List Nat) : List D := l.map fun n : Nat => D.int n

theorem range_at {n i : Nat} {d : D} (h : (rangeD 0 n)[i]? = some d) : i < n ∧ d = .int (i : Int) := by
  have hi : i < n := by
    have := (List.getElem?_eq_some_iff.mp h).1
    simpa using this
  refine ⟨hi, ?_⟩
  rw [List.getElem?_map, List.getElem?_range hi] at h
  cases h
  show D.int _ = _
  congr 1; omega

theorem cells_at {c : Nat → Nat} {k : Nat} (h : k < 4) : (dInts (cellsI c))[k]? = some (.int (c k)) := by
  match k, h with
  | 0, _ => rfl
  | 1, _ => rfl
  | 2, _ => rfl
  | 3, _ => rfl
theorem shape_len {sh : List Nat} (h : sh ∈ shapes14) : sh.length = 8 := by
  have : ∀ sh ∈ shapes14, sh.length = 8 := by decide
  exact this sh h
theorem keep_list (sh : List Nat) (ch : Nat) : ∀ l : List Nat, (l.map fun i : Nat => D.int ((0 : Int) + i)).filterMap (keepAt sh ch) = natsD (l.filter fun i => sh.getD i 0 == ch)
  | [] => rfl
  | i :: l => by
    have e : keepAt sh ch (.int ((0 : Int) + i)) = if sh.getD i 0 == ch then some (.int ((0 : Int) + i)) else none := by
      show (if sh.getD ((0 : Int) + i).toNat 0 == ch then _ else _) = _
      rw [show ((0 : Int) + i).toNat = i by omega]
    rw [List.map_cons, List.filter_cons]
    cases hc : sh.getD i 0 == ch with
    | true =>
      rw [hc] at e
      rw [List.filterMap_cons_some (by rw [e]; rfl), keep_list sh ch l]
      simp
    | false =>
      rw [hc] at e
      rw [List.filterMap_cons_none (by rw [e]; rfl), keep_list sh ch l]
      simp
theorem keep_starts {sh : List Nat} : (rangeD 0 8).filterMap (keepAt sh 40) = natsD (startsN sh) := keep_list sh 40 _
theorem keep_ends {sh : List Nat} : (rangeD 0 8).filterMap (keepAt sh 41) = natsD (endsN sh) := keep_list sh 41 _
theorem keep_at (sh : List Nat) (ch i : Nat) : keepAt sh ch (.int (i : Int)) = if sh.getD i 0 == ch then some (.int (i : Int)) else none := by
  show (if sh.getD (i : Int).toNat 0 == ch then _ else _) = _
  rw [Int.toNat_natCast]
theorem one_eq (a b : Nat) : ((⟨#[a]⟩ : Str) == sS [b]) = (a == b) := by
  show (sS [a] == sS [b]) = _
  rw [sS_beq]
  simp

section
variable {w : World} {A : Around} {lvl : Nat} {s : Shared} {F : Addr → Prop} {Φ : Flow → Shared → Prop}

/-- firsts, cells -/
theorem w203a {xs : List Int} (hx : xs.length ≤ 100000)
    (hr : Ex (C203 w A lvl s F) [("cells", .list (dInts (cellsI (cellN xs))))] [] (k203.body.drop 2) Φ) :
    Ex (C203 w A lvl s F) [("script", .list (dInts xs))] [] k203.body Φ := by
  refine Ex.assign (d := .list (dInts firstsL)) (Ev.list (EvL.cons Ev.int (EvL.cons Ev.int (EvL.cons Ev.int (EvL.cons Ev.int EvL.nil))))) ?_
  have e : (rangeD 0 4).map (cellD xs) = dInts (cellsI (cellN xs)) := by
    show [D.int (cellI xs 0), .int (cellI xs 1), .int (cellI xs 2), .int (cellI xs 3)] = [.int _, .int _, .int _, .int _]
    rw [cellN_eq, cellN_eq, cellN_eq, cellN_eq]
  refine Ex.assign (d := .list (dInts (cellsI (cellN xs)))) (Ev.as (evMap (cellD xs) [("firsts", .list (dInts firstsL)), ("script", .list (dInts xs))] (It.range1 (n := 4) rfl Ev.int (by decide)) (by decide) ⟨rfl, rfl, trivial⟩ (fun s L own' i d hd S => ?_)) (congrArg _ e)) (Ex.sub hr ⟨rfl, trivial⟩)
  obtain ⟨hi, rfl⟩ := range_at hd
  refine Ev.as (Ev.bin (Ev.bin (Ev.item (Ev.name rfl) (Ev.name rfl) (i_list (d := .int (firstsL.getD i 0)) (Int.natCast_nonneg i) (by omega) ?_)) (Ev.bcall bi_sum (EvL.cons (Ev.as (Ev.slice (Ev.name rfl) (EvP.some (Ev.name rfl)) EvP.none (EvP.some Ev.int) (s_list (ds := dInts xs) (by decide) ?_)) (congrArg _ (pickD_ints ..))) EvL.nil) c_sum) o_add) (Ev.bin Ev.int Ev.int (o_pow (by decide) (by decide))) (o_mod (by decide))) ?_
  · match i, hi with
    | 0, _ => rfl
    | 1, _ => rfl
    | 2, _ => rfl
    | 3, _ => rfl
  · rw [List.length_map]; exact Nat.le_trans hx (by decide)
  · show D.int _ = D.int (cellI xs _)
    rfl

/-- shape, starts, ends, heights -/
theorem w203b {c : Nat → Nat} {sh : List Nat} (hsh : sh ∈ shapes14) (he : shapeL (cellsI c) = sh) (hl : 2 ≤ lvl)
    (hr : Ex (C203 w A lvl s F) [("cells", .list (dInts (cellsI c))), ("starts", .nlist (natsD (startsN sh))), ("ends", .nlist (natsD (endsN sh))), ("heights", .list (dInts (heightsI sh)))] [] (k203.body.drop 6) Φ) :
    Ex (C203 w A lvl s F) [("cells", .list (dInts (cellsI c)))] [] (k203.body.drop 2) Φ := by
  refine Ex.assign (d := .str (sS sh)) (Ev.as (Ev.call (fn193 (n := 0) (cs := cellsI c) rfl) (g193 w) (k193.hK w) (EvL.cons (Ev.name rfl) EvL.nil) rfl (by show 1 ≤ lvl; omega)) (by rw [he])) ?_
  have test : ∀ {i}, i < 8 → sh[i]? = some (sh.getD i 0) := fun {i} hi => by
    have := shape_len hsh
    rw [List.getD_eq_getElem?_getD, List.getElem?_eq_getElem (by omega)]; rfl
  refine Ex.assign (Ev.as (evCompN (keepAt sh 40) [("shape", .str (sS sh))] (It.range1 (n := 8) rfl Ev.int (by decide)) (by decide) ⟨rfl, trivial⟩ (fun s L own' i d hd S => ?_)) (congrArg _ keep_starts)) ?_
  · obtain ⟨hi, rfl⟩ := range_at hd
    rw [keep_at]
    cases hc : sh.getD i 0 == 40 with
    | true => exact ⟨ifs_one (EvB.as (EvB.cmp (Ev.item (Ev.name rfl) (Ev.name rfl) (i_str (c := sh.getD i 0) (Int.natCast_nonneg i) (by omega) (by rw [Int.toNat_natCast, sS_get]; exact test hi))) (Ev.as Ev.str (congrArg _ str_paren)) o_eq_str) ((one_eq _ _).trans hc)), Ev.name rfl⟩
    | false => exact ifs_one (EvB.as (EvB.cmp (Ev.item (Ev.name rfl) (Ev.name rfl) (i_str (c := sh.getD i 0) (Int.natCast_nonneg i) (by omega) (by rw [Int.toNat_natCast, sS_get]; exact test hi))) (Ev.as Ev.str (congrArg _ str_paren)) o_eq_str) ((one_eq _ _).trans hc))
  refine Ex.assign (Ev.as (evCompN (keepAt sh 41) [("shape", .str (sS sh))] (It.range1 (n := 8) rfl Ev.int (by decide)) (by decide) ⟨rfl, trivial⟩ (fun s L own' i d hd S => ?_)) (congrArg _ keep_ends)) ?_
  · obtain ⟨hi, rfl⟩ := range_at hd
    rw [keep_at]
    cases hc : sh.getD i 0 == 41 with
    | true => exact ⟨ifs_one (EvB.as (EvB.cmp (Ev.item (Ev.name rfl) (Ev.name rfl) (i_str (c := sh.getD i 0) (Int.natCast_nonneg i) (by omega) (by rw [Int.toNat_natCast, sS_get]; exact test hi))) (Ev.as Ev.str (congrArg _ str_close)) o_eq_str) ((one_eq _ _).trans hc)), Ev.name rfl⟩
    | false => exact ifs_one (EvB.as (EvB.cmp (Ev.item (Ev.name rfl) (Ev.name rfl) (i_str (c := sh.getD i 0) (Int.natCast_nonneg i) (by omega) (by rw [Int.toNat_natCast, sS_get]; exact test hi))) (Ev.as Ev.str (congrArg _ str_close)) o_eq_str) ((one_eq _ _).trans hc))
  have hel : ∀ {j n : Nat}, (endsN sh)[j]? = some n → n < 8 := fun {j n} h => by
    have := List.mem_of_getElem? h
    unfold endsN at this
    simpa using (List.mem_filter.mp this).1
  have hz : (endsN sh).length ≤ 8 := by
    unfold endsN
    exact Nat.le_trans (List.length_filter_le _ _) (by simp)
  refine exAssignComp (fun d => some (heightD sh d)) [("shape", .str (sS sh))] (It.list (Ev.weakN (Ev.name rfl))) (by rw [List.length_map]; exact Nat.le_trans hz (by decide)) ⟨rfl, trivial⟩ (fun s L own' j d hd S => ⟨fun _ _ => ifs_nil, ?_⟩) ?_
  · rw [List.getElem?_map] at hd
    obtain ⟨n, hn, rfl⟩ := Option.map_eq_some_iff.mp hd
    have h8 := hel hn
    have hs8 := shape_len hsh
    refine Ev.as (Ev.bin (Ev.bin Ev.int (Ev.meth (Ev.as (Ev.slice (Ev.name rfl) EvP.none (EvP.some (Ev.name rfl)) EvP.none (s_str (by rw [sS_length]; exact Nat.le_trans (Nat.le_of_eq hs8) (by decide)))) (congrArg _ (slice_to_sS (Int.natCast_nonneg n) (by omega)))) (gm_str "count" "str.count" GM.count) (EvL.cons (Ev.as Ev.str (congrArg _ str_paren)) EvL.nil) c_count_sS) (o_mul (IntMulOk.of_left (by decide)))) (Ev.name rfl) o_sub) ?_
    rfl
  · rw [List.filterMap_eq_map']
    have e : (natsD (endsN sh)).map (heightD sh) = dInts (heightsI sh) := by
      rw [List.map_map]
      show _ = ((endsN sh).map (heightI sh)).map D.int
      rw [List.map_map]
      rfl
    rw [e]
    exact Ex.sub hr ⟨rfl, rfl, rfl, rfl, trivial⟩
end
end Mine

end

-- part F203b
section
open PySem PySem.W PyProof.Rows PySem.Calls
set_option maxRecDepth 100000
set_option maxHeartbeats 8000000
set_option linter.unusedVariables false
namespace Mine

theorem noPyN {n : Nat} {b : Int} (h : n < 1000000) (hb : 0 < b) : Builtin.divisionGoesByPylong (n : Int) b = false := by
  refine noPylong hb ?_
  have : Builtin.Int.intBits (n : Int) ≤ 20 := by
    rw [intBits_le_iff']
    omega
  omega
theorem str_bars : ("||" : Str) = sS [124, 124] := by decide
theorem str_barp : ("|)" : Str) = sS [124, 41] := by decide
theorem str_q : ("\"(\"" : Str) = sS [34, 40, 34] := by decide
theorem str_e : ("" : Str) = sS [] := by decide
theorem abcd_at {k : Nat} (h : k < 4) : ("abcd" : Str).cps[k]? = some (97 + k) := by
  match k, h with
  | 0, _ => rfl
  | 1, _ => rfl
  | 2, _ => rfl
  | 3, _ => rfl
theorem portD_eq {c : Nat → Nat} {m : Nat} : (((c m : Int).fdiv 24).fmod 1000) * 4 + m = ((portN c m : Nat) : Int) := by
  unfold portN
  rw [Int.fdiv_eq_ediv_of_nonneg _ (by decide), Int.fmod_eq_emod_of_nonneg _ (by decide)]
  push_cast
  rfl

theorem Ex.bodyEq {C : Cx} {ρ : List (Str × D)} {own : List Own} {b b' : List Stmt} {Φ : Flow → Shared → Prop} (h : Ex C ρ own b' Φ) (e : b = b') : Ex C ρ own b Φ := e ▸ h
theorem Ex.freezeL {C : Cx} {ρ : List (Str × D)} {own : List Own} {b : List Stmt} {Φ : Flow → Shared → Prop} {x : Str} {a : Addr} {ds : List D} (h : Ex C ((x, .list ds) :: ρ) own b Φ) (hx : ρ.lookup x = some (.addr a)) (hX : ∀ a, ¬ C.X a) : Ex C ρ (.ob a (.plist ds) :: own) b Φ :=
  Ex.freeze (d := .plist ds) h hx hX

section
variable {w : World} {A : Around} {lvl : Nat} {s : Shared} {F : Addr → Prop} {Φ : Flow → Shared → Prop}

noncomputable abbrev portsD (c : Nat → Nat) : List D := [.int (portN c 0), .int (portN c 1), .int (portN c 2), .int (portN c 3)]
noncomputable abbrev closersD (c : Nat → Nat) : List D := [.strp (sS (closerT c 0)), .strp (sS (closerT c 1)), .strp (sS (closerT c 2)), .strp (sS (closerT c 3))]
noncomputable abbrev openersD (c : Nat → Nat) : List D := [.strp (sS (openerT c 0)), .strp (sS (openerT c 1)), .strp (sS (openerT c 2)), .strp (sS (openerT c 3))]

theorem fz203 {c : Nat → Nat} {sh : List Nat} {a : Addr} {b : List Stmt} (hr : Ex (C203 w A lvl s F) [("cells", .list (dInts (cellsI c))), ("starts", .nlist (natsD (startsN sh))), ("ends", .nlist (natsD (endsN sh))), ("heights", .list (dInts (heightsI sh))), ("ports", .list (portsD c)), ("closers", .list (closersD c)), ("openers", .list (openersD c))] [] b Φ) :
    Ex (C203 w A lvl s F) [("cells", .list (dInts (cellsI c))), ("starts", .nlist (natsD (startsN sh))), ("ends", .nlist (natsD (endsN sh))), ("heights", .list (dInts (heightsI sh))), ("ports", .list (portsD c)), ("closers", .list (closersD c)), ("openers", .addr a)] [.ob a (.plist (openersD c))] b Φ := by
  have h1 := Ex.sub (ρ := [("openers", .list (openersD c)), ("cells", .list (dInts (cellsI c))), ("starts", .nlist (natsD (startsN sh))), ("ends", .nlist (natsD (endsN sh))), ("heights", .list (dInts (heightsI sh))), ("ports", .list (portsD c)), ("closers", .list (closersD c)), ("openers", .addr a)]) hr
  have h2 := h1 ⟨rfl, rfl, rfl, rfl, rfl, rfl, rfl, trivial⟩
  exact Ex.freezeL (x := "openers") h2 rfl fun _ => id

/-- ports, closers, openers -/
theorem w203c {c : Nat → Nat} {sh : List Nat} (hc : ∀ k, c k < 1000000)
    (hr : Ex (C203 w A lvl s F) [("cells", .list (dInts (cellsI c))), ("starts", .nlist (natsD (startsN sh))), ("ends", .nlist (natsD (endsN sh))), ("heights", .list (dInts (heightsI sh))), ("ports", .list (portsD c)), ("closers", .list (closersD c)), ("openers", .list (openersD c))] [] (k203.body.drop 10) Φ) :
    Ex (C203 w A lvl s F) [("cells", .list (dInts (cellsI c))), ("starts", .nlist (natsD (startsN sh))), ("ends", .nlist (natsD (endsN sh))), ("heights", .list (dInts (heightsI sh)))] [] (k203.body.drop 6) Φ := by
  refine Ex.assign (d := .list (portsD c)) (Ev.as (evMap (portD c) [("cells", .list (dInts (cellsI c)))] (It.range1 (n := 4) rfl Ev.int (by decide)) (by decide) ⟨rfl, trivial⟩ (fun s L own' i d hd S => ?_)) rfl) ?_
  · obtain ⟨hi, rfl⟩ := range_at hd
    have h1 := hc i
    refine Ev.as (Ev.bin (Ev.bin (Ev.bin (Ev.bin (Ev.item (Ev.name rfl) (Ev.name rfl) (i_list (d := .int (c i)) (Int.natCast_nonneg i) (by omega) (by rw [Int.toNat_natCast]; exact cells_at hi))) Ev.int (o_fdiv (by decide) (noPyN h1 (by decide)))) Ev.int (o_mod (by decide))) Ev.int (o_mul (IntMulOk.of_right (by decide)))) (Ev.name rfl) o_add) ?_
    rw [portD_eq]; rfl
  refine Ex.assign (d := .list (closersD c)) (Ev.as (evMap closerD [] (It.list (Ev.name rfl)) (by exact Nat.le_of_ble_eq_true rfl) trivial (fun s L own' i d hd S => ?_)) rfl) ?_
  · obtain ⟨m, hm, rfl⟩ : ∃ m, m < 4000 ∧ d = .int ((m : Nat) : Int) := by
      match i, hd with
      | 0, hd => cases hd; exact ⟨_, portN_lt (by decide), rfl⟩
      | 1, hd => cases hd; exact ⟨_, portN_lt (by decide), rfl⟩
      | 2, hd => cases hd; exact ⟨_, portN_lt (by decide), rfl⟩
      | 3, hd => cases hd; exact ⟨_, portN_lt (by decide), rfl⟩
    have hl := digs_len (m := m) (by omega)
    refine Ev.as (Ev.bin (Ev.strpF (Ev.bin (Ev.as Ev.strf (congrArg D.strf str_bars)) (Ev.tcall bi_str (EvL.cons (Ev.name rfl) EvL.nil) (c_str_num (by omega))) (o_add_strp (by decide) (digs_ne m) (by simp; omega)))) (Ev.as Ev.str (congrArg D.str str_barp)) (o_add_strp (by simp) (by decide) (by simp; omega))) rfl
  refine Ex.assignN (EvN.list EvL.nil) fun a => ?_
  refine Ex.for (items := rangeD 0 4) (R := []) (fun i => [("cells", .list (dInts (cellsI c))), ("starts", .nlist (natsD (startsN sh))), ("ends", .nlist (natsD (endsN sh))), ("heights", .list (dInts (heightsI sh))), ("ports", .list (portsD c)), ("closers", .list (closersD c)), ("openers", .addr a)])
    (fun i => [.ob a (.plist ((openersD c).take i))]) (It.range1 rfl Ev.int (by decide)) ⟨rfl, rfl, rfl, rfl, rfl, rfl, rfl, trivial⟩ rfl (fun i d R' hd => ?_) ?_
  · obtain ⟨hi, rfl⟩ := range_at hd
    have h1 := hc i
    have hn : (openersD c).take (i + 1) = (openersD c).take i ++ [.strp (sS (openerT c i))] := by
      match i, hi with
      | 0, _ => rfl
      | 1, _ => rfl
      | 2, _ => rfl
      | 3, _ => rfl
    rw [hn]
    have hqe : (((c i : Int).fdiv 12).fmod 2 == 0) = quoted c i := by
      unfold quoted
      rw [Int.fdiv_eq_ediv_of_nonneg _ (by decide), Int.fmod_eq_emod_of_nonneg _ (by decide)]
      rw [Bool.eq_iff_iff]
      simp only [beq_iff_eq]
      omega
    have hlen : ((openersD c).take i).length ≤ 1000000 := by
      rw [List.length_take]; exact Nat.le_trans (Nat.min_le_right _ _) (by show 4 ≤ 1000000; decide)
    cases hq : quoted c i with
    | true =>
      rw [hq] at hqe
      have e : openerT c i = [40] ++ [97 + i] ++ [34, 40, 34] := by unfold openerT; rw [hq]; rfl
      refine Ex.append (Ev.name rfl) (Ev.as (Ev.bin (Ev.strpF (Ev.bin (Ev.as Ev.strf (congrArg D.strf str_paren)) (Ev.item Ev.str (Ev.name rfl) (i_str (c := 97 + i) (Int.natCast_nonneg i) (by omega) (by rw [Int.toNat_natCast]; exact abcd_at hi))) (o_add_strp (x := [40]) (y := [97 + i]) (by simp) (by simp) (by simp))))
        (Ev.as (Ev.ite (c := true) (d' := .none) (EvB.as (EvB.cmp (Ev.bin (Ev.bin (Ev.item (Ev.name rfl) (Ev.name rfl) (i_list (d := .int (c i)) (Int.natCast_nonneg i) (by omega) (by rw [Int.toNat_natCast]; exact cells_at hi))) Ev.int (o_fdiv (by decide) (noPyN h1 (by decide)))) Ev.int (o_mod (by decide))) Ev.int o_eq) hqe) (fun _ => Ev.as Ev.str (congrArg D.str str_q)) (fun h => nomatch h)) (if_pos rfl))
        (o_add_strp (by simp) (by simp) (by simp))) (by rw [e])) hlen (Ex.turn ⟨rfl, rfl, rfl, rfl, rfl, rfl, rfl, trivial⟩)
    | false =>
      rw [hq] at hqe
      have e : openerT c i = [40] ++ [97 + i] := by unfold openerT; rw [hq]; rfl
      refine Ex.append (d := .strp (sS (openerT c i))) (Ev.name rfl) (Ev.as (d := .strp (sS ([40] ++ [97 + i]))) (Ev.bin (da := .strp (sS ([40] ++ [97 + i]))) (db := .str (sS [])) ((Ev.bin (Ev.as Ev.strf (congrArg D.strf str_paren)) (Ev.item Ev.str (Ev.name rfl) (i_str (c := 97 + i) (Int.natCast_nonneg i) (by omega) (by rw [Int.toNat_natCast]; exact abcd_at hi))) (o_add_strp (x := [40]) (y := [97 + i]) (by simp) (by simp) (by simp))))
        (Ev.as (Ev.ite (c := false) (d := .none) (EvB.as (EvB.cmp (Ev.bin (Ev.bin (Ev.item (Ev.name rfl) (Ev.name rfl) (i_list (d := .int (c i)) (Int.natCast_nonneg i) (by omega) (by rw [Int.toNat_natCast]; exact cells_at hi))) Ev.int (o_fdiv (by decide) (noPyN h1 (by decide)))) Ev.int (o_mod (by decide))) Ev.int o_eq) hqe) (fun h => nomatch h) (fun _ => Ev.as Ev.str (congrArg D.str str_e))) (if_neg (by decide)))
        (o_add_strp0 (x := [40] ++ [97 + i]) (by simp))) (congrArg (fun l => D.strp (sS l)) e.symm)) hlen (Ex.turn ⟨rfl, rfl, rfl, rfl, rfl, rfl, rfl, trivial⟩)
  · have e4 : (openersD c).take (rangeD 0 4).length = openersD c := List.take_of_length_le (by show 4 ≤ 4; decide)
    rw [e4]
    exact Ex.bodyEq (fz203 (a := a) hr) (by kernel_rfl)
end
end Mine

end

-- part F203c
section
open PySem PySem.W PyProof.Rows PySem.Calls
set_option maxRecDepth 100000
set_option maxHeartbeats 8000000
set_option linter.unusedVariables false
namespace Mine

theorem Ev.strpc {C : Cx} {ρ : List (Str × D)} {own : List Own} {z x t : Str} {ds : List D} {k : Nat} {pos : Pos} (hz : ρ.lookup z = some (.list (.strp t :: ds))) : Ev C ρ own (.Constant (.str x) k pos) (.strp x) := fun s S => by
  obtain ⟨v, _, r⟩ := S.vars z _ hz
  obtain ⟨a, vs, rfl, _, _, r⟩ := r.list_inv
  obtain ⟨v', vs', rfl, r1, _⟩ := r.cons_inv
  obtain ⟨u, rfl, h0, hu⟩ := r1.strp_inv
  exact Constant_str ⟨Eff.tok, .strp _ _ (Nat.lt_of_le_of_lt (Nat.zero_le _) hu) (Nat.lt_succ_self _)⟩

theorem str_257 : ("257 \"" : Str) = sS [50, 53, 55, 32, 34] := by decide
theorem str_tail : ("\" (" : Str) = sS [34, 32, 40] := by decide
theorem replace_quote (l : List Nat) : Txt.replace (sS l) (sS [34]) (sS [34, 34]) = sS (StrLaws.dbl 34 l) := by
  rw [replace_dbl (sS l) (sS [34]) (sS [34, 34]) 34 rfl rfl, sS_toList]
  rfl

noncomputable def wordT (c : Nat → Nat) (sh : List Nat) : List Nat := textT c (piecesN sh)
theorem bits_of_pieces {sh : List Nat} (h : sh ∈ shapes14) : (startsN sh).length = 4 ∧ (endsN sh).length = 4 ∧ ∀ i, i < 8 → (i ∈ startsN sh → (startsN sh).idxOf i < 4) ∧ (i ∉ startsN sh → i ∈ endsN sh ∧ (endsN sh).idxOf i < 4) := by
  have : ∀ sh ∈ shapes14, (startsN sh).length = 4 ∧ (endsN sh).length = 4 ∧ ∀ i, i < 8 → (i ∈ startsN sh → (startsN sh).idxOf i < 4) ∧ (i ∉ startsN sh → i ∈ endsN sh ∧ (endsN sh).idxOf i < 4) := by decide +kernel
  exact this sh h
theorem idx_cast (l : List Nat) (i : Nat) : (l.map fun n : Nat => (n : Int)).idxOf (i : Int) = l.idxOf i := by
  induction l with
  | nil => rfl
  | cons a l ih =>
    rw [List.map_cons, List.idxOf_cons, List.idxOf_cons, ih]
    have : ((a : Int) == (i : Int)) = (a == i) := by
      rw [Bool.eq_iff_iff]; simp only [beq_iff_eq]; omega
    rw [this]
theorem mem_cast (l : List Nat) (i : Nat) : (i : Int) ∈ (l.map fun n : Nat => (n : Int)) ↔ i ∈ l := by
  simp only [List.mem_map]
  constructor
  · rintro ⟨n, h, e⟩
    have : n = i := by omega
    exact this ▸ h
  · exact fun h => ⟨i, h, rfl⟩
theorem natsD_eq (l : List Nat) : natsD l = dInts (l.map fun n : Nat => (n : Int)) := by
  show _ = List.map D.int (List.map _ l)
  rw [List.map_map]; rfl

theorem openers_at {c : Nat → Nat} {k : Nat} (h : k < 4) : (openersD c)[k]? = some (.strp (sS (openerT c k))) := by
  match k, h with
  | 0, _ => rfl
  | 1, _ => rfl
  | 2, _ => rfl
  | 3, _ => rfl
theorem closers_at {c : Nat → Nat} {k : Nat} (h : k < 4) : (closersD c)[k]? = some (.strp (sS (closerT c k))) := by
  match k, h with
  | 0, _ => rfl
  | 1, _ => rfl
  | 2, _ => rfl
  | 3, _ => rfl
theorem layable_starts {sh : List Nat} (h : sh ∈ shapes14) : PyData.layable0 (.list ((((startsN sh).map fun n : Nat => (n : Int))).map .int)) = true ∧ PyData.layable0 (.list ((((endsN sh).map fun n : Nat => (n : Int))).map .int)) = true := by
  have : ∀ sh ∈ shapes14, PyData.layable0 (.list ((((startsN sh).map fun n : Nat => (n : Int))).map .int)) = true ∧ PyData.layable0 (.list ((((endsN sh).map fun n : Nat => (n : Int))).map .int)) = true := by decide +kernel
  exact this sh h

theorem openerT_len (c : Nat → Nat) (k : Nat) : (openerT c k).length ≤ 5 := by
  unfold openerT
  split <;> simp
theorem closerT_len {c : Nat → Nat} {k : Nat} (h : k < 4) : (closerT c k).length ≤ 14 := by
  unfold closerT
  have := digs_len (m := portN c k) (by have := portN_lt (c := c) h; omega)
  simp; omega

section
variable {w : World} {A : Around} {lvl : Nat} {s : Shared} {F : Addr → Prop} {Φ : Flow → Shared → Prop}

noncomputable abbrev rho10 (c : Nat → Nat) (sh : List Nat) : List (Str × D) := [("cells", .list (dInts (cellsI c))), ("starts", .nlist (natsD (startsN sh))), ("ends", .nlist (natsD (endsN sh))), ("heights", .list (dInts (heightsI sh))), ("ports", .list (portsD c)), ("closers", .list (closersD c)), ("openers", .list (openersD c))]
noncomputable abbrev rho12 (c : Nat → Nat) (sh : List Nat) : List (Str × D) := [("reply", .str (sS (rep257 (wordT c sh)))), ("word", .str (sS (wordT c sh))), ("cells", .list (dInts (cellsI c))), ("starts", .nlist (natsD (startsN sh))), ("ends", .nlist (natsD (endsN sh))), ("heights", .list (dInts (heightsI sh))), ("ports", .list (portsD c)), ("closers", .list (closersD c)), ("openers", .list (openersD c))]

/-- word, reply -/
theorem w203d {c : Nat → Nat} {sh : List Nat} (hsh : sh ∈ shapes14) (hw : (wordT c sh).length ≤ 1000)
    (hr : Ex (C203 w A lvl s F) (rho12 c sh) [] (k203.body.drop 12) Φ) :
    Ex (C203 w A lvl s F) (rho10 c sh) [] (k203.body.drop 10) Φ := by
  have hb := bits_of_pieces hsh
  have hly := layable_starts hsh
  have hfl : ((piecesN sh).map (pieceT c)).flatten = wordT c sh := by
    unfold wordT textT
    rw [List.flatMap_def]
  refine Ex.assign (d := .str (sS (wordT c sh))) (Ev.as (Ev.meth (Ev.as Ev.str (congrArg D.str str_e)) (gm_str "join" "str.join" GM.join) (EvL.cons (Ev.as (d' := .list (((piecesN sh).map (pieceT c)).map fun p => .str (sS p))) (evMap (pieceD c sh) [("starts", .nlist (natsD (startsN sh))), ("ends", .nlist (natsD (endsN sh))), ("closers", .list (closersD c)), ("openers", .list (openersD c))] (It.range1 (n := 8) rfl Ev.int (by decide)) (by decide) ⟨rfl, rfl, rfl, rfl, trivial⟩ (fun s L own' i d hd S => ?_)) ?_) EvL.nil) (c_join ?_)) (by rw [hfl])) ?_
  · obtain ⟨hi, rfl⟩ := range_at hd
    obtain ⟨h1, h2⟩ := hb.2.2 i hi
    have hin : decide ((i : Int) ∈ ((startsN sh).map fun n : Nat => (n : Int))) = decide (i ∈ startsN sh) := decide_eq_decide.mpr (mem_cast _ _)
    have hpd : pieceD c sh (.int (i : Int)) = .str (sS (pieceT c (pieceAt sh i))) := by
      show D.str (sS (pieceT c (pieceAt sh (i : Int).toNat))) = _
      rw [Int.toNat_natCast]
    rw [hpd]
    by_cases hm : i ∈ startsN sh
    · refine Ev.as (Ev.ite (c := true) (d' := .none) (EvB.as (EvB.cmp (Ev.name rfl) (Ev.as (Ev.weakN (Ev.name rfl)) (congrArg D.list (natsD_eq (startsN sh)))) o_in_ints) (by rw [hin]; exact decide_eq_true hm))
        (fun _ => Ev.strpS (Ev.item (Ev.name rfl) (Ev.as (Ev.meth (Ev.as (d' := .nlist (dInts ((startsN sh).map fun n : Nat => (n : Int)))) (Ev.name rfl) (congrArg D.nlist (natsD_eq (startsN sh)))) gm_list_index (EvL.cons (Ev.name rfl) EvL.nil) (OpN.weakN (c_index_list ((mem_cast _ _).mpr hm) hly.1))) (by rw [idx_cast])) (i_list (Int.natCast_nonneg _) (by have := h1 hm; omega) (by rw [Int.toNat_natCast]; exact openers_at (h1 hm))))) (fun h => nomatch h)) ?_
      rw [if_pos rfl]
      unfold pieceT pieceAt
      rw [if_pos hm, if_pos (h1 hm)]
    · have h3 := h2 hm
      refine Ev.as (Ev.ite (c := false) (d := .none) (EvB.as (EvB.cmp (Ev.name rfl) (Ev.as (Ev.weakN (Ev.name rfl)) (congrArg D.list (natsD_eq (startsN sh)))) o_in_ints) (by rw [hin]; exact decide_eq_false hm)) (fun h => nomatch h)
        (fun _ => Ev.strpS (Ev.item (Ev.name rfl) (Ev.as (Ev.meth (Ev.as (d' := .nlist (dInts ((endsN sh).map fun n : Nat => (n : Int)))) (Ev.name rfl) (congrArg D.nlist (natsD_eq (endsN sh)))) gm_list_index (EvL.cons (Ev.name rfl) EvL.nil) (OpN.weakN (c_index_list ((mem_cast _ _).mpr h3.1) hly.2))) (by rw [idx_cast])) (i_list (Int.natCast_nonneg _) (by have := h3.2; omega) (by rw [Int.toNat_natCast]; exact closers_at h3.2))))) ?_
      rw [if_neg (by decide)]
      unfold pieceT pieceAt
      rw [if_neg hm, if_neg (by omega), Nat.add_sub_cancel_left]
  · refine congrArg D.list ?_
    unfold piecesN
    rw [List.map_map, List.map_map, List.map_map]
    refine List.map_congr_left fun i _ => ?_
    show D.str (sS (pieceT c (pieceAt sh ((0 : Int) + i).toNat))) = _
    rw [show ((0 : Int) + i).toNat = i by omega]
    rfl
  · rw [hfl, List.length_map]
    unfold piecesN
    rw [List.length_map, List.length_range]; omega
  have hdl := dbl_length 34 (wordT c sh)
  refine Ex.assign (d := .str (sS (rep257 (wordT c sh)))) (Ev.as (Ev.bin (Ev.bin (Ev.as Ev.str (congrArg D.str str_257)) (Ev.as (Ev.replace rfl (Ev.name rfl) (Ev.strpc (z := "closers") rfl) (by decide) (by rw [sS_length]; omega) (by decide)) (congrArg D.str (replace_quote _))) (o_add_sS (by simp only [List.length_cons, List.length_nil]; omega))) (Ev.as Ev.str (congrArg D.str str_tail)) (o_add_sS (by simp only [List.length_append, List.length_cons, List.length_nil]; omega))) ?_) ?_
  · unfold rep257
    rw [List.append_assoc]
  · exact Ex.sub hr ⟨rfl, rfl, rfl, rfl, rfl, rfl, rfl, rfl, rfl, trivial⟩
end
end Mine

end

-- part F203d
section
open PySem PySem.W PyProof.Rows PySem.Calls
set_option maxRecDepth 100000
set_option maxHeartbeats 8000000
set_option linter.unusedVariables false
namespace Mine

/-- what _paren_depth counts in l -/
noncomputable def DepthOk (l : List Nat) (d : Int) : Prop :=
  ∃ segs tail, l = enc segs tail ∧ (∀ c ∈ l, c < 256) ∧ (∀ c ∈ plainS segs tail, c < 256) ∧ l.length ≤ 400000 ∧ (∀ x ∈ segs, 34 ∉ x.1 ∧ 34 ∉ x.2 ∧ 92 ∉ x.2) ∧ 34 ∉ tail ∧ (((plainS segs tail).count 40 : Nat) - ((plainS segs tail).count 41 : Nat) : Int) = d

noncomputable def ordD : D → D
  | .str x => .int ((x.cps[0]?).getD 0 : Nat)
  | _ => .none

section
variable {C : Cx} {ρ : List (Str × D)} {own : List Own}
/-- [ord(sign) for sign in x] -/
theorem Ev.ords {x y z : Str} {px pc po pp pq pos : Pos} {scope : Scope} {l : List Nat} (ho : z = "ord") (hx : ρ.lookup y = some (.str (sS l))) (hz : l.length ≤ 400000)
    (K : autoParam (CompOk C scope) Mine.tacC)
    (hxs : autoParam (∀ s L, storable (compC C own s scope L) x = true) Mine.tacF) (hs : autoParam (∀ v, foldedSetIterable (.Name y pp) C.env v = pure v) Mine.tacH)
    (hk : autoParam (∀ s L, (compC C own s scope L).env.kindOf z = some .globalImplicit) Mine.tacF)
    (hst : autoParam (∀ s L, starEach [Expr.Name x pc] (compC C own s scope L).env = (false, eval (Expr.Name x pc) (compC C own s scope L).env) :: starEach [] (compC C own s scope L).env) Mine.tacF) :
    Ev C ρ own (.ListComp (.Call (.Name z po) [.Name x pc] [] pq) [⟨.Name x px, .Name y pp, [], 0⟩] scope pos) (.list (dInts (l.map fun c : Nat => (c : Int)))) := by
  subst ho
  refine Ev.as (evMap ordD [] (It.str (Ev.name hx)) (by rw [List.length_map, sS_toList]; have : sizeLine = 2 ^ 24 := rfl; omega) trivial (fun s L own' i d hd S => ?_) K rfl rfl hxs hs) ?_
  · rw [List.getElem?_map] at hd
    obtain ⟨a, _, rfl⟩ := Option.map_eq_some_iff.mp hd
    exact Ev.bcall bi_ord (EvL.cons (Ev.name lookup_cons_eq) EvL.nil (hst s L)) c_ord (hk s L)
  · refine congrArg D.list ?_
    rw [sS_toList, List.map_map]
    show _ = List.map D.int (List.map _ l)
    rw [List.map_map]
    rfl
end

section
variable {w : World} {A : Around} {lvl : Nat} {s : Shared} {F : Addr → Prop} {Φ : Flow → Shared → Prop}

theorem depth_fn {n : Nat} {l : List Nat} {d : Int} (h : DepthOk l d) : Fn w true (n + 1) 137 [.bytes (bs l)] (.int d) := by
  obtain ⟨segs, tail, rfl, h1, h2, h3, h4, h5, rfl⟩ := h
  exact fn137 h1 h2 h3 h4 h5

theorem bytes_ok {l : List Nat} {d : Int} (h : DepthOk l d) : (∀ n ∈ (l.map fun c : Nat => (c : Int)), 0 ≤ n ∧ n < 256) ∧ (l.map fun c : Nat => (c : Int)).length ≤ 1000000 := by
  obtain ⟨segs, tail, _, h1, _, h3, _⟩ := h
  refine ⟨fun n hn => ?_, by rw [List.length_map]; omega⟩
  obtain ⟨c, hc, rfl⟩ := List.mem_map.mp hn
  have := h1 c hc
  omega

noncomputable abbrev rho13 (c : Nat → Nat) (sh : List Nat) : List (Str × D) := [("word", .str (sS (wordT c sh))), ("cells", .list (dInts (cellsI c))), ("starts", .nlist (natsD (startsN sh))), ("ends", .nlist (natsD (endsN sh))), ("heights", .list (dInts (heightsI sh))), ("ports", .list (portsD c)), ("closers", .list (closersD c)), ("openers", .list (openersD c))]

/-- the reply is read back; its depth is one -/
theorem w203e {c : Nat → Nat} {sh : List Nat} (hl : 2 ≤ lvl) (hw : (wordT c sh).length ≤ 1000) (hd : DepthOk (rep257 (wordT c sh)) 1)
    (hr : Ex (C203 w A lvl s F) (rho13 c sh) [] (k203.body.drop 13) (Ret (C203 w A lvl s F) (.bool true))) :
    Ex (C203 w A lvl s F) (rho12 c sh) [] (k203.body.drop 12) (Ret (C203 w A lvl s F) (.bool true)) := by
  have hb := bytes_ok hd
  have hlen : (rep257 (wordT c sh)).length ≤ 400000 := by
    obtain ⟨_, _, _, _, _, h3, _⟩ := hd
    exact h3
  refine Ex.ite (c := false) (EvB.as (EvB.or (b := false) (EvB.as (EvB.cmp (Ev.call (fn124 (n := 0) (word := wordT c sh) (by omega)) (g124 w) (k124.hK w) (EvL.cons (Ev.name rfl) EvL.nil) rfl (by show 1 ≤ lvl; omega)) (Ev.name rfl) o_ne_str) (by simp)) fun _ => EvB.or (b := false) (EvB.as (EvB.cmp (Ev.call (depth_fn (n := 0) hd) (g137 w) (k137.hK w) (EvL.cons (Ev.as (Ev.tcall bi_bytes (EvL.cons (Ev.ords rfl rfl hlen) EvL.nil) (c_bytes hb.1 hb.2)) (congrArg D.bytes (byteArr_bs _))) EvL.nil) rfl (by show 1 ≤ lvl; omega)) Ev.int o_ne) rfl) fun _ => EvB.or_nil) rfl) (fun h => nomatch h) (fun _ => ?_)
  exact Ex.done (Ex.sub hr ⟨rfl, rfl, rfl, rfl, rfl, rfl, rfl, rfl, trivial⟩)
end
end Mine

end

-- part F203e
section
open PySem PySem.W PyProof.Rows PySem.Calls
set_option maxRecDepth 100000
set_option maxHeartbeats 8000000
set_option linter.unusedVariables false
namespace Mine

noncomputable def weightI (c : Nat → Nat) (k m : Nat) : Int := ((c k : Int) + ((k : Int) + 2) * portN c m).fmod 19 - 9
noncomputable def weightF (c : Nat → Nat) (sh : List Nat) : Mx := fun k m => if (startsN sh).getD k 0 < (endsN sh).getD m 0 then weightI c k m else 0
noncomputable def wRowD (c : Nat → Nat) (sh : List Nat) : D → D
  | .int k => .list (dInts (rowL (weightF c sh k.toNat)))
  | _ => .none
noncomputable def wCellD (c : Nat → Nat) (sh : List Nat) (k : Nat) : D → D
  | .int m => .int (weightF c sh k m.toNat)
  | _ => .none

theorem starts_at {sh : List Nat} (hsh : sh ∈ shapes14) {k : Nat} (h : k < 4) : (natsD (startsN sh))[k]? = some (.int ((startsN sh).getD k 0 : Nat)) ∧ (natsD (endsN sh))[k]? = some (.int ((endsN sh).getD k 0 : Nat)) := by
  have hb := bits_of_pieces hsh
  rw [List.getElem?_map, List.getElem?_map, List.getD_eq_getElem?_getD, List.getD_eq_getElem?_getD, List.getElem?_eq_getElem (by omega : k < (startsN sh).length), List.getElem?_eq_getElem (by omega : k < (endsN sh).length)]
  exact ⟨rfl, rfl⟩
theorem ports_at {c : Nat → Nat} {k : Nat} (h : k < 4) : (portsD c)[k]? = some (.int (portN c k)) := by
  match k, h with
  | 0, _ => rfl
  | 1, _ => rfl
  | 2, _ => rfl
  | 3, _ => rfl

section
variable {C : Cx} {ρ : List (Str × D)} {own : List Own}
theorem Ev.lt2 {x y i j : Str} {p1 p2 p3 p4 p5 p6 p7 : Pos} {as bs : List D} {a b : Nat} {u v : Int} (hx : Ev C ρ own (.Name x p1) (.list as)) (hi : ρ.lookup i = some (.int (a : Int))) (hy : Ev C ρ own (.Name y p4) (.list bs)) (hj : ρ.lookup j = some (.int (b : Int)))
    (ha : a < 4) (hb : b < 4) (h1 : as[a]? = some (.int u)) (h2 : bs[b]? = some (.int v)) {r : Bool} (hr : decide (u < v) = r)
    (hm : autoParam (behindInMarks .Lt (.Subscript (.Name y p4) (.Name j p5) p6) = false) Mine.tacJ) : EvB C ρ own (.Compare (.Subscript (.Name x p1) (.Name i p2) p3) [.Lt] [.Subscript (.Name y p4) (.Name j p5) p6] p7) r :=
  EvB.as (EvB.cmp (Ev.item hx (Ev.name hi) (i_list (d := .int u) (Int.natCast_nonneg a) (by omega) (by rw [Int.toNat_natCast]; exact h1))) (Ev.item hy (Ev.name hj) (i_list (d := .int v) (Int.natCast_nonneg b) (by omega) (by rw [Int.toNat_natCast]; exact h2))) o_lt hm) hr
theorem Ev.weight {x y i j : Str} {p1 p2 p3 p4 p5 p6 p7 p8 p9 q1 q2 q3 q4 q5 q6 : Pos} {k1 k2 k3 : Nat} {as bs : List D} {a b : Nat} {u v : Int} (hx : ρ.lookup x = some (.list as)) (hi : ρ.lookup i = some (.int (a : Int))) (hy : ρ.lookup y = some (.list bs)) (hj : ρ.lookup j = some (.int (b : Int)))
    (ha : a < 4) (hb : b < 4) (h1 : as[a]? = some (.int u)) (h2 : bs[b]? = some (.int v)) (hv : Builtin.Int.intBits v ≤ 64) :
    Ev C ρ own (.BinOp (.BinOp (.BinOp (.Subscript (.Name x p1) (.Name i p2) p3) .Add (.BinOp (.BinOp (.Name i p4) .Add (.Constant (.int 2) k1 p5) p6) .Mult (.Subscript (.Name y p7) (.Name j p8) p9) q1) q2) .Mod (.Constant (.int 19) k2 q3) q4) .Sub (.Constant (.int 9) k3 q5) q6) (.int ((u + ((a : Int) + 2) * v).fmod 19 - 9)) :=
  Ev.bin (Ev.bin (Ev.bin (Ev.item (Ev.name hx) (Ev.name hi) (i_list (d := .int u) (Int.natCast_nonneg a) (by omega) (by rw [Int.toNat_natCast]; exact h1))) (Ev.bin (Ev.bin (Ev.name hi) Ev.int o_add) (Ev.item (Ev.name hy) (Ev.name hj) (i_list (d := .int v) (Int.natCast_nonneg b) (by omega) (by rw [Int.toNat_natCast]; exact h2))) (o_mul (IntMulOk.of_right hv))) o_add) Ev.int (o_mod (by decide))) Ev.int o_sub
/-- one weight: told where the opener stands ahead, else 0 -/
theorem Ev.wcell {X Y x y i j : Str} {a1 a2 a3 a4 a5 a6 a7 a8 a9 p1 p2 p3 p4 p5 p6 p7 p8 p9 q1 q2 q3 q4 q5 q6 : Pos} {k0 k1 k2 k3 : Nat} {As Bs as bs : List D} {a b U V : Nat} {u v r : Int}
    (hX : ρ.lookup X = some (.nlist As)) (hi : ρ.lookup i = some (.int (a : Int))) (hY : ρ.lookup Y = some (.nlist Bs)) (hj : ρ.lookup j = some (.int (b : Int)))
    (hx : ρ.lookup x = some (.list as)) (hy : ρ.lookup y = some (.list bs)) (ha : a < 4) (hb : b < 4)
    (H1 : As[a]? = some (.int (U : Int))) (H2 : Bs[b]? = some (.int (V : Int))) (h1 : as[a]? = some (.int u)) (h2 : bs[b]? = some (.int v)) (hv : Builtin.Int.intBits v ≤ 64)
    (hr : (if U < V then (u + ((a : Int) + 2) * v).fmod 19 - 9 else 0) = r)
    (hm : autoParam (behindInMarks .Lt (.Subscript (.Name Y a4) (.Name j a5) a6) = false) Mine.tacJ) :
    Ev C ρ own (.IfExp (.Compare (.Subscript (.Name X a1) (.Name i a2) a3) [.Lt] [.Subscript (.Name Y a4) (.Name j a5) a6] a7)
      (.BinOp (.BinOp (.BinOp (.Subscript (.Name x p1) (.Name i p2) p3) .Add (.BinOp (.BinOp (.Name i p4) .Add (.Constant (.int 2) k1 p5) p6) .Mult (.Subscript (.Name y p7) (.Name j p8) p9) q1) q2) .Mod (.Constant (.int 19) k2 q3) q4) .Sub (.Constant (.int 9) k3 q5) q6) (.Constant (.int 0) k0 a8) a9) (.int r) := by
  subst hr
  by_cases hlt : U < V
  · rw [if_pos hlt]
    exact Ev.as (Ev.ite (c := true) (d' := .none) (Ev.lt2 (Ev.weakN (Ev.name hX)) hi (Ev.weakN (Ev.name hY)) hj ha hb H1 H2 (decide_eq_true (Int.ofNat_lt.mpr hlt)) hm) (fun _ => Ev.weight hx hi hy hj ha hb h1 h2 hv) (fun h => nomatch h)) (if_pos rfl)
  · rw [if_neg hlt]
    exact Ev.as (Ev.ite (c := false) (d := .none) (Ev.lt2 (Ev.weakN (Ev.name hX)) hi (Ev.weakN (Ev.name hY)) hj ha hb H1 H2 (decide_eq_false (fun q => hlt (Int.ofNat_lt.mp q))) hm) (fun h => nomatch h) (fun _ => Ev.int)) (if_neg (by decide))
end
theorem port_bits {c : Nat → Nat} {m : Nat} (h : m < 4) : Builtin.Int.intBits ((portN c m : Nat) : Int) ≤ 64 := by
  rw [intBits_le_iff']
  have := portN_lt (c := c) h
  omega

section
variable {w : World} {A : Around} {lvl : Nat} {s : Shared} {F : Addr → Prop} {Φ : Flow → Shared → Prop}

noncomputable abbrev rho14 (c : Nat → Nat) (sh : List Nat) : List (Str × D) := ("weights", tableD (weightF c sh)) :: rho13 c sh

theorem w203f {c : Nat → Nat} {sh : List Nat} (hsh : sh ∈ shapes14) (hc : ∀ k, c k < 1000000)
    (hr : Ex (C203 w A lvl s F) (rho14 c sh) [] (k203.body.drop 14) Φ) :
    Ex (C203 w A lvl s F) (rho13 c sh) [] (k203.body.drop 13) Φ := by
  refine exAssignComp (fun d => some (wRowD c sh d)) [("cells", .list (dInts (cellsI c))), ("starts", .nlist (natsD (startsN sh))), ("ends", .nlist (natsD (endsN sh))), ("ports", .list (portsD c))] (It.range1 (n := 4) rfl Ev.int (by decide)) (by decide) ⟨rfl, rfl, rfl, rfl, trivial⟩ (fun s L own' i d hd S => ⟨fun _ _ => ifs_nil, ?_⟩) ?_
  · obtain ⟨hi, rfl⟩ := range_at hd
    have e : wRowD c sh (.int (i : Int)) = .list (dInts (rowL (weightF c sh i))) := rfl
    rw [e]
    refine Ev.as (evMap (wCellD c sh i) [("k", .int (i : Int)), ("cells", .list (dInts (cellsI c))), ("starts", .nlist (natsD (startsN sh))), ("ends", .nlist (natsD (endsN sh))), ("ports", .list (portsD c))] (It.range1 (n := 4) rfl Ev.int (by decide)) (by decide) ⟨rfl, rfl, rfl, rfl, rfl, trivial⟩ (fun s L own' j d hd S => ?_)) ?_
    · obtain ⟨hj, rfl⟩ := range_at hd
      have s1 := (starts_at hsh hi).1
      have s2 := (starts_at hsh hj).2
      have h1 := hc i
      have h2 := portN_lt (c := c) hj
      exact Ev.wcell rfl rfl rfl rfl rfl rfl hi hj s1 s2 (cells_at hi) (ports_at hj) (port_bits hj) rfl
    · rfl
  · rw [List.filterMap_eq_map']
    exact hr
end
end Mine

end

-- part F203f
section
open PySem PySem.W PyProof.Rows PySem.Calls
set_option maxRecDepth 100000
set_option maxHeartbeats 8000000
set_option linter.unusedVariables false
namespace Mine

structure Row where
  ps : List Nat
  ks : List Nat
noncomputable def linkD (sh : List Nat) (x : Nat × Nat) : D := .tup [.int ((startsN sh).getD x.1 0 : Nat), .int ((endsN sh).getD x.2 0 : Nat)]
noncomputable def linksD (sh : List Nat) (ks : List Nat) : List D := ks.zipIdx.map (linkD sh)
noncomputable def prodW (c : Nat → Nat) (ks : List Nat) : Int := ks.zipIdx.foldl (fun p x => p * weightI c x.1 x.2) 1
noncomputable def rowD (c : Nat → Nat) (sh : List Nat) (r : Row) : D := .tup [.str (sS (textT c r.ps)), .list (linksD sh r.ks), .int (prodW c r.ks)]
noncomputable def waitingN (ps : List Nat) : List Nat := (List.range 4).filter fun k => decide (k ∈ ps.takeWhile fun p => decide (p < 4))
noncomputable def takeOff (ps : List Nat) (k m : Nat) : List Nat := (ps.filter fun p => p != k).filter fun p => p != 4 + m
noncomputable def stepRow (m : Nat) (r : Row) : List Row := (waitingN r.ps).map fun k => ⟨takeOff r.ps k m, r.ks ++ [k]⟩
noncomputable def rowsN (sh : List Nat) : Nat → List Row
  | 0 => [⟨piecesN sh, []⟩]
  | m + 1 => (rowsN sh m).flatMap (stepRow m)

theorem linksD_snoc (sh : List Nat) (ks : List Nat) (k : Nat) : linksD sh (ks ++ [k]) = linksD sh ks ++ [linkD sh (k, ks.length)] := by
  unfold linksD
  rw [List.zipIdx_append, List.map_append]
  simp
theorem prodW_snoc (c : Nat → Nat) (ks : List Nat) (k : Nat) : prodW c (ks ++ [k]) = prodW c ks * weightI c k ks.length := by
  unfold prodW
  rw [List.zipIdx_append, List.foldl_append]
  simp
theorem weight_bits (c : Nat → Nat) (k m : Nat) : Builtin.Int.intBits (weightI c k m) ≤ 64 := by
  rw [intBits_le_iff']
  have h1 := Int.fmod_nonneg_of_pos ((c k : Int) + ((k : Int) + 2) * portN c m) (b := 19) (by decide)
  have h2 := Int.fmod_lt_of_pos ((c k : Int) + ((k : Int) + 2) * portN c m) (b := 19) (by decide)
  unfold weightI
  omega

/-- what the strings say at one choice -/
structure PickOk (c : Nat → Nat) (ps : List Nat) (k m : Nat) : Prop where
  find : ∃ n rest xs po, Builtin.Str.occurrences (sS (textT c ps)) (sS (openerT c k)) 0 (sS (textT c ps)).length 1 = n :: rest ∧ n + 1 ≤ (textT c ps).length ∧
    [50, 50, 57, 32, 40, 124] ++ (textT c ps).drop (n + 1) = rep229 xs (portN c m) po ∧ 124 ∉ xs ∧ 41 ∉ xs ∧ xs.length + po.length ≤ 100000
  off : ∃ l, Txt.replace (sS (textT c ps)) (sS (openerT c k)) (sS []) = sS l ∧ l.length ≤ 1000 ∧ Txt.replace (sS l) (sS (closerT c m)) (sS []) = sS (textT c (takeOff ps k m))
  size : (textT c ps).length ≤ 1000

theorem str_229p : ("229 (|" : Str) = sS [50, 50, 57, 32, 40, 124] := by decide
theorem ne_nil_beq {l : List Nat} (h : l ≠ []) : (sS l == ("" : Str)) = false := by
  rw [str_e, sS_beq]
  cases l with
  | nil => exact absurd rfl h
  | cons a l => rfl
theorem openerT_ne (c : Nat → Nat) (k : Nat) : openerT c k ≠ [] := by unfold openerT; simp
theorem closerT_ne (c : Nat → Nat) (k : Nat) : closerT c k ≠ [] := by unfold closerT; simp

section
variable {w : World} {A : Around} {lvl : Nat} {s : Shared} {F : Addr → Prop} {Φ : Flow → Shared → Prop}

noncomputable abbrev rhoB (c : Nat → Nat) (sh : List Nat) : List (Str × D) := [("cells", .list (dInts (cellsI c))), ("starts", .nlist (natsD (startsN sh))), ("ends", .nlist (natsD (endsN sh))), ("heights", .list (dInts (heightsI sh))), ("ports", .list (portsD c)), ("closers", .list (closersD c)), ("openers", .list (openersD c)), ("weights", tableD (weightF c sh))]
noncomputable abbrev rhoR (c : Nat → Nat) (sh : List Nat) (m : Nat) (a : Addr) (r : Row) : List (Str × D) := ("left", .str (sS (textT c r.ps))) :: ("links", .list (linksD sh r.ks)) :: ("product", .int (prodW c r.ks)) :: ("m", .int (m : Int)) :: ("grown", .addr a) :: rhoB c sh

noncomputable def bodyM : List Stmt := match k203.body.drop 15 with | .For _ _ b _ _ :: _ => b | _ => []
noncomputable def bodyR : List Stmt := match bodyM.drop 1 with | .For _ _ b _ _ :: _ => b | _ => []
noncomputable def bodyK : List Stmt := match bodyR.drop 3 with | .For _ _ b _ _ :: _ => b | _ => []

/-- one choice -/
theorem pick_walk {c : Nat → Nat} {sh : List Nat} (hsh : sh ∈ shapes14) (hlv : 12 ≤ lvl) {m k : Nat} (hm : m < 4) (hk : k < 4) {r : Row} (hks : r.ks.length = m) (P : PickOk c r.ps k m) {a : Addr} {pre : List D} {R' : List Own} (hpre : pre.length ≤ 1000) :
    Ex (C203 w A lvl s F) (("k", .int (k : Int)) :: rhoR c sh m a r) (.ob a (.plist pre) :: R') bodyK (Turn (C203 w A lvl s F) (rhoR c sh m a r) (.ob a (.plist (pre ++ [rowD c sh ⟨takeOff r.ps k m, r.ks ++ [k]⟩])) :: R') Φ) := by
  obtain ⟨n, rest, xs, po, h1, h2, h3, h4, h5, h6⟩ := P.find
  obtain ⟨l, o1, o2, o3⟩ := P.off
  have hsz := P.size
  refine Ex.assign (d := .int (n : Int)) (Ev.meth (Ev.name rfl) (gm_str "index" "str.index" GM.index) (EvL.cons (Ev.strpS (Ev.item (Ev.name rfl) (Ev.name rfl) (i_list (d := .strp (sS (openerT c k))) (Int.natCast_nonneg k) (by omega) (by rw [Int.toNat_natCast]; exact openers_at hk)))) EvL.nil) (c_index h1)) ?_
  have htn : ((n : Int) + 1).toNat = n + 1 := by omega
  have hsl : Txt.slice (sS (textT c r.ps)) (some ((n : Int) + 1)) none = sS ((textT c r.ps).drop (n + 1)) := by
    rw [slice_from_sS (i := (n : Int) + 1) (by omega) (by omega), htn]
  have hdl : ((textT c r.ps).drop (n + 1)).length ≤ 1000 := by rw [List.length_drop]; omega
  have hp4 : portN c m < 4000 := portN_lt hm
  refine Ex.assign (d := .tup [.str "host", .int (portN c m)]) (Ev.call (fn117 (n := 0) (k := .int (k : Int)) h4 h5 (by omega) h6) (g117 w) (k117.hK w) (EvL.cons (Ev.as (Ev.bin (Ev.as Ev.str (congrArg D.str str_229p)) (Ev.as (Ev.slice (Ev.name rfl) (EvP.some (Ev.bin (Ev.name rfl) Ev.int o_add)) EvP.none EvP.none (s_str (by rw [sS_length]; exact Nat.le_trans hsz (by decide)))) (congrArg D.str hsl)) (o_add_sS (by simp only [List.length_cons, List.length_nil]; omega))) (congrArg (fun l => D.str (sS l)) h3)) (EvL.cons (Ev.tuple (EvL.cons Ev.str (EvL.cons (Ev.name rfl) EvL.nil))) EvL.nil)) rfl (by show 1 ≤ lvl; omega)) ?_
  refine Ex.ite (c := false) (EvB.as (EvB.cmp (Ev.name rfl) (Ev.tuple (EvL.cons Ev.str (EvL.cons (Ev.item (Ev.name rfl) (Ev.name rfl) (i_list (d := .int (portN c m)) (Int.natCast_nonneg m) (by omega) (by rw [Int.toNat_natCast]; exact ports_at hm))) EvL.nil))) (o_ne_tup (by show 11 ≤ lvl; omega))) (by simp)) (fun h => nomatch h) (fun _ => Ex.done ?_)
  refine Ex.assign (d := .int (weightI c k m)) (Ev.as (Ev.bin (Ev.bin (Ev.bin (Ev.item (Ev.name rfl) (Ev.name rfl) (i_list (d := .int (c k)) (Int.natCast_nonneg k) (by omega) (by rw [Int.toNat_natCast]; exact cells_at hk))) (Ev.bin (Ev.bin (Ev.name rfl) Ev.int o_add) (Ev.item (Ev.name rfl) Ev.int (i_tup (d := .int (portN c m)) (by decide) (by decide) rfl)) (o_mul (IntMulOk.of_right (port_bits hm)))) o_add) Ev.int (o_mod (by decide))) Ev.int o_sub) rfl) ?_
  refine Ex.assign (d := .str (sS (textT c (takeOff r.ps k m)))) (Ev.as (Ev.replace rfl (Ev.as (Ev.replace rfl (Ev.name rfl) (Ev.item (Ev.name rfl) (Ev.name rfl) (i_list (d := .strp (sS (openerT c k))) (Int.natCast_nonneg k) (by omega) (by rw [Int.toNat_natCast]; exact openers_at hk))) (ne_nil_beq (openerT_ne c k)) (by rw [sS_length]; omega) (by decide)) (congrArg D.str o1)) (Ev.item (Ev.name rfl) (Ev.name rfl) (i_list (d := .strp (sS (closerT c m))) (Int.natCast_nonneg m) (by omega) (by rw [Int.toNat_natCast]; exact closers_at hm))) (ne_nil_beq (closerT_ne c m)) (by rw [sS_length]; omega) (by decide)) (congrArg D.str o3)) ?_
  have s1 := (starts_at hsh hk).1
  have s2 := (starts_at hsh hm).2
  have hll : (linksD sh r.ks).length = m := by unfold linksD; rw [List.length_map, List.length_zipIdx, hks]
  have hrow : rowD c sh ⟨takeOff r.ps k m, r.ks ++ [k]⟩ = .tup [.str (sS (textT c (takeOff r.ps k m))), .list (linksD sh r.ks ++ [.tup [.int ((startsN sh).getD k 0 : Nat), .int ((endsN sh).getD m 0 : Nat)]]), .int (prodW c r.ks * weightI c k m)] := by
    unfold rowD
    rw [linksD_snoc, prodW_snoc, hks]; rfl
  rw [hrow]
  refine Ex.append (Ev.name rfl) (Ev.tuple (EvL.cons (Ev.name rfl) (EvL.cons (Ev.bin (Ev.name rfl) (Ev.list (EvL.cons (Ev.tuple (EvL.cons (Ev.item (Ev.weakN (Ev.name rfl)) (Ev.name rfl) (i_list (Int.natCast_nonneg k) (by omega) (by rw [Int.toNat_natCast]; exact s1))) (EvL.cons (Ev.item (Ev.weakN (Ev.name rfl)) (Ev.name rfl) (i_list (Int.natCast_nonneg m) (by omega) (by rw [Int.toNat_natCast]; exact s2))) EvL.nil))) EvL.nil)) (o_add_list (by rw [hll]; simp only [List.length_cons, List.length_nil]; omega))) (EvL.cons (Ev.bin (Ev.name rfl) (Ev.name rfl) (o_mul (IntMulOk.of_right (weight_bits c k m)))) EvL.nil)))) (by omega) (Ex.turn ⟨rfl, rfl, rfl, rfl, rfl, rfl, rfl, rfl, rfl, rfl, rfl, rfl, rfl, trivial⟩)

/-- what the strings say of one row -/
structure RowOk (c : Nat → Nat) (sh : List Nat) (m : Nat) (r : Row) : Prop where
  head : ∃ ahead post, textT c r.ps = ahead ++ 41 :: post ∧ 41 ∉ ahead ∧ (∀ k, k < 4 → decide (97 + k ∈ ahead) = decide (k ∈ waitingN r.ps)) ∧ DepthOk ahead ((heightsI sh).getD m 0)
  pick : ∀ k ∈ waitingN r.ps, PickOk c r.ps k m
  size : (textT c r.ps).length ≤ 1000
  len : r.ks.length = m

theorem waiting_lt {ps : List Nat} {k : Nat} (h : k ∈ waitingN ps) : k < 4 := by
  have := (List.mem_filter.mp h).1
  simpa using this
theorem waiting_len (ps : List Nat) : (waitingN ps).length ≤ 4 := by
  unfold waitingN
  exact Nat.le_trans (List.length_filter_le _ _) (by simp)

noncomputable def waitD (ps : List Nat) : D → Option D
  | .int i => if decide (i.toNat ∈ waitingN ps) then some (.int i) else none
  | _ => none
theorem wait_list (ps : List Nat) : (rangeD 0 4).filterMap (waitD ps) = natsD (waitingN ps) := by
  have key : ∀ l : List Nat, (l.map fun i : Nat => D.int ((0 : Int) + i)).filterMap (waitD ps) = natsD (l.filter fun i => decide (i ∈ waitingN ps)) := by
    intro l
    induction l with
    | nil => rfl
    | cons i l ih =>
      have e : waitD ps (.int ((0 : Int) + i)) = if decide (i ∈ waitingN ps) then some (.int ((0 : Int) + i)) else none := by
        show (if decide (((0 : Int) + i).toNat ∈ waitingN ps) then _ else _) = _
        rw [show ((0 : Int) + i).toNat = i by omega]
      rw [List.map_cons, List.filter_cons]
      cases hc : decide (i ∈ waitingN ps) with
      | true =>
        rw [hc] at e
        rw [List.filterMap_cons_some (by rw [e]; rfl), ih]
        simp
      | false =>
        rw [hc] at e
        rw [List.filterMap_cons_none (by rw [e]; rfl), ih]
        simp
  have e : (List.range 4).filter (fun i => decide (i ∈ waitingN ps)) = waitingN ps := by
    unfold waitingN
    refine List.filter_congr fun i hi => ?_
    rw [Bool.eq_iff_iff]
    simp only [decide_eq_true_eq, List.mem_filter, List.mem_range]
    constructor
    · exact fun h => h.2
    · exact fun h => ⟨List.mem_range.mp hi, h⟩
  rw [key, e]
theorem wait_at (ps : List Nat) (i : Nat) : waitD ps (.int (i : Int)) = if decide (i ∈ waitingN ps) then some (.int (i : Int)) else none := by
  show (if decide ((i : Int).toNat ∈ waitingN ps) then _ else _) = _
  rw [Int.toNat_natCast]

/-- one row -/
theorem row_walk {c : Nat → Nat} {sh : List Nat} (hsh : sh ∈ shapes14) (hlv : 12 ≤ lvl) {m : Nat} (hm : m < 4) {r : Row} (H : RowOk c sh m r) {a : Addr} {pre : List D} {R' : List Own} (hpre : pre.length ≤ 900) :
    Ex (C203 w A lvl s F) (rhoR c sh m a r) (.ob a (.plist pre) :: R') bodyR (Turn (C203 w A lvl s F) (("m", .int (m : Int)) :: ("grown", .addr a) :: rhoB c sh) (.ob a (.plist (pre ++ (stepRow m r).map (rowD c sh))) :: R') (Ret (C203 w A lvl s F) (.bool true))) := by
  obtain ⟨ahead, post, e1, e2, e3, e4⟩ := H.head
  have hsz := H.size
  have hal : ahead.length + 1 ≤ (textT c r.ps).length := by rw [e1]; simp
  obtain ⟨rr, hocc⟩ := occ_one (pre := ahead) (post := post) e2
  rw [← e1] at hocc
  have hsl : Txt.slice (sS (textT c r.ps)) none (some (ahead.length : Int)) = sS ahead := by
    rw [slice_to_sS (Int.natCast_nonneg _) (by omega), Int.toNat_natCast, e1, List.take_left']
    rfl
  have hb := bytes_ok e4
  refine Ex.assign (d := .str (sS ahead)) (Ev.as (Ev.slice (Ev.name rfl) EvP.none (EvP.some (Ev.meth (Ev.name rfl) (gm_str "index" "str.index" GM.index) (EvL.cons (Ev.as Ev.str (congrArg D.str str_close)) EvL.nil) (c_index hocc))) EvP.none (s_str (by rw [sS_length]; exact Nat.le_trans hsz (by decide)))) (congrArg D.str hsl)) ?_
  refine exAssignComp (waitD r.ps) [("ahead", .str (sS ahead))] (It.range1 (n := 4) rfl Ev.int (by decide)) (by decide) ⟨rfl, trivial⟩ (fun s L own' i d hd S => ?_) ?_
  · obtain ⟨hi, rfl⟩ := range_at hd
    have ew := wait_at r.ps i
    have el := e3 i hi
    have et : (!(Builtin.Str.occurrences (sS ahead) (sS [97 + i]) 0 (sS ahead).length 1).isEmpty) = decide (i ∈ waitingN r.ps) := (in_one ahead (97 + i)).trans el
    cases hc : decide (i ∈ waitingN r.ps) with
    | true =>
      rw [hc] at ew et
      rw [ew]
      exact ⟨ifs_one (EvB.as (EvB.cmp (Ev.item Ev.str (Ev.name rfl) (i_str (c := 97 + i) (Int.natCast_nonneg i) (by omega) (by rw [Int.toNat_natCast]; exact abcd_at hi))) (Ev.name rfl) o_in_str) et), Ev.name rfl⟩
    | false =>
      rw [hc] at ew et
      rw [ew]
      exact ifs_one (EvB.as (EvB.cmp (Ev.item Ev.str (Ev.name rfl) (i_str (c := 97 + i) (Int.natCast_nonneg i) (by omega) (by rw [Int.toNat_natCast]; exact abcd_at hi))) (Ev.name rfl) o_in_str) et)
  rw [wait_list]
  have hh : (dInts (heightsI sh))[m]? = some (.int ((heightsI sh).getD m 0)) := by
    have hl : m < (heightsI sh).length := by unfold heightsI; rw [List.length_map, (bits_of_pieces hsh).2.1]; exact hm
    rw [List.getElem?_map, List.getD_eq_getElem?_getD, List.getElem?_eq_getElem hl]; rfl
  refine Ex.ite (c := false) (EvB.as (EvB.cmp (Ev.call (depth_fn (n := 0) e4) (g137 w) (k137.hK w) (EvL.cons (Ev.as (Ev.tcall bi_bytes (EvL.cons (Ev.ords rfl rfl (by omega)) EvL.nil) (c_bytes hb.1 hb.2)) (congrArg D.bytes (byteArr_bs _))) EvL.nil) rfl (by show 1 ≤ lvl; omega)) (Ev.item (Ev.name rfl) (Ev.name rfl) (i_list (d := .int ((heightsI sh).getD m 0)) (Int.natCast_nonneg m) (by omega) (by rw [Int.toNat_natCast]; exact hh))) o_ne) (by simp)) (fun h => nomatch h) (fun _ => Ex.done ?_)
  refine Ex.for (items := natsD (waitingN r.ps)) (R := R') (fun _ => rhoR c sh m a r) (fun i => [.ob a (.plist (pre ++ ((stepRow m r).take i).map (rowD c sh)))]) (It.list (Ev.name rfl)) ⟨rfl, rfl, rfl, rfl, rfl, rfl, rfl, rfl, rfl, rfl, rfl, rfl, rfl, trivial⟩ ?_ (fun i d R'' hd => ?_) ?_
  · rw [List.take_zero, List.map_nil, List.append_nil]; rfl
  · rw [List.getElem?_map] at hd
    obtain ⟨k, hk, rfl⟩ := Option.map_eq_some_iff.mp hd
    have hmem := List.mem_of_getElem? hk
    have hnx : pre ++ ((stepRow m r).take (i + 1)).map (rowD c sh) = (pre ++ ((stepRow m r).take i).map (rowD c sh)) ++ [rowD c sh ⟨takeOff r.ps k m, r.ks ++ [k]⟩] := by
      have : (stepRow m r)[i]? = some ⟨takeOff r.ps k m, r.ks ++ [k]⟩ := by
        unfold stepRow
        rw [List.getElem?_map, hk]; rfl
      rw [List.take_add_one, this, List.map_append, List.append_assoc]
      rfl
    have hln : (pre ++ ((stepRow m r).take i).map (rowD c sh)).length ≤ 1000 := by
      rw [List.length_append, List.length_map, List.length_take]
      have : (stepRow m r).length ≤ 4 := by unfold stepRow; rw [List.length_map]; exact waiting_len _
      omega
    rw [hnx]
    exact pick_walk hsh hlv hm (waiting_lt hmem) H.len (H.pick k hmem) hln
  · have hfin : (stepRow m r).take (natsD (waitingN r.ps)).length = stepRow m r := by
      refine List.take_of_length_le ?_
      unfold stepRow
      rw [List.length_map, List.length_map]
      exact Nat.le_refl _
    rw [hfin]
    exact Ex.turn ⟨rfl, rfl, rfl, rfl, rfl, rfl, rfl, rfl, rfl, rfl, trivial⟩
end
end Mine

end

-- part F203g
section
open PySem PySem.W PyProof.Rows PySem.Calls
set_option maxRecDepth 100000
set_option maxHeartbeats 8000000
set_option linter.unusedVariables false
namespace Mine

theorem rows_len {sh : List Nat} (h : sh ∈ shapes14) {m : Nat} (hm : m ≤ 4) : (rowsN sh m).length ≤ 24 := by
  have : ∀ sh ∈ shapes14, ∀ m, m < 5 → (rowsN sh m).length ≤ 24 := by decide +kernel
  exact this sh h m (by omega)
noncomputable def rowDs (c : Nat → Nat) (sh : List Nat) (r : Row) : List D := [.str (sS (textT c r.ps)), .list (linksD sh r.ks), .int (prodW c r.ks)]
noncomputable def grownN (sh : List Nat) (m j : Nat) : List Row := ((rowsN sh m).take j).flatMap (stepRow m)
theorem grown_len {sh : List Nat} (h : sh ∈ shapes14) {m : Nat} (hm : m ≤ 4) (j : Nat) : (grownN sh m j).length ≤ 900 := by
  unfold grownN
  have h1 := rows_len h hm
  have key : ∀ l : List Row, (l.flatMap (stepRow m)).length ≤ 4 * l.length := by
    intro l
    induction l with
    | nil => exact Nat.le_refl _
    | cons r l ih =>
      rw [List.flatMap_cons, List.length_append, List.length_cons]
      have : (stepRow m r).length ≤ 4 := by unfold stepRow; rw [List.length_map]; exact waiting_len _
      omega
  have h2 := key ((rowsN sh m).take j)
  have h3 : ((rowsN sh m).take j).length ≤ (rowsN sh m).length := by rw [List.length_take]; exact Nat.min_le_right _ _
  omega

section
variable {w : World} {A : Around} {lvl : Nat} {s : Shared} {F : Addr → Prop}

noncomputable abbrev rho16 (c : Nat → Nat) (sh : List Nat) (m : Nat) : List (Str × D) := ("rows", .list ((rowsN sh m).map (rowD c sh))) :: rhoB c sh

theorem rows_walk {c : Nat → Nat} {sh : List Nat} (hsh : sh ∈ shapes14) (hlv : 12 ≤ lvl) {m : Nat} (hm : m < 4) (H : ∀ r ∈ rowsN sh m, RowOk c sh m r) {R' : List Own} :
    Ex (C203 w A lvl s F) (("m", .int (m : Int)) :: rho16 c sh m) R' bodyM (Turn (C203 w A lvl s F) (rho16 c sh (m + 1)) R' (Ret (C203 w A lvl s F) (.bool true))) := by
  refine Ex.assignN (EvN.list EvL.nil) fun a => ?_
  refine Ex.forT (items := (rowsN sh m).map (rowD c sh)) (R := R') (xs := ["left", "links", "product"]) (fun i => match (rowsN sh m)[i]? with | some r => rowDs c sh r | none => []) (fun _ => ("m", .int (m : Int)) :: ("grown", .addr a) :: rhoB c sh) (fun j => [.ob a (.plist ((grownN sh m j).map (rowD c sh)))]) (It.list (Ev.name rfl)) ⟨rfl, rfl, rfl, rfl, rfl, rfl, rfl, rfl, rfl, rfl, trivial⟩ rfl (fun i d hd => ?_) (fun i R'' hi => ?_) ?_
  · rw [List.getElem?_map] at hd
    obtain ⟨r, hr, rfl⟩ := Option.map_eq_some_iff.mp hd
    rw [hr]
    exact ⟨rfl, rfl⟩
  · rw [List.length_map] at hi
    obtain ⟨r, hr⟩ : ∃ r, (rowsN sh m)[i]? = some r := ⟨_, List.getElem?_eq_getElem hi⟩
    have hnx : grownN sh m (i + 1) = grownN sh m i ++ stepRow m r := by
      unfold grownN
      rw [List.take_add_one, hr, List.flatMap_append]
      simp
    have hH := H r (List.mem_of_getElem? hr)
    have hl := grown_len hsh (by omega : m ≤ 4) i
    rw [hnx, List.map_append]
    have hw := row_walk (w := w) (A := A) (s := s) (F := F) hsh hlv hm hH (a := a) (pre := (grownN sh m i).map (rowD c sh)) (R' := R'') (by rw [List.length_map]; exact hl)
    have hds : (match (rowsN sh m)[i]? with | some r => rowDs c sh r | none => []) = rowDs c sh r := by rw [hr]
    rw [hds]
    exact Ex.sub hw ⟨rfl, rfl, rfl, rfl, rfl, rfl, rfl, rfl, rfl, rfl, rfl, rfl, rfl, trivial⟩
  · have hfin : grownN sh m ((rowsN sh m).map (rowD c sh)).length = rowsN sh (m + 1) := by
      unfold grownN
      rw [List.length_map, List.take_length]; rfl
    rw [hfin]
    refine Ex.assign (d := .addr a) (Ev.name rfl) ?_
    refine Ex.freezeL (x := "rows") (a := a) (ds := (rowsN sh (m + 1)).map (rowD c sh)) ?_ rfl fun _ => id
    exact Ex.turn ⟨rfl, rfl, rfl, rfl, rfl, rfl, rfl, rfl, rfl, trivial⟩

theorem w203g {c : Nat → Nat} {sh : List Nat} (hsh : sh ∈ shapes14) (hlv : 12 ≤ lvl) (H : ∀ m, m < 4 → ∀ r ∈ rowsN sh m, RowOk c sh m r)
    (hr : Ex (C203 w A lvl s F) (rho16 c sh 4) [] (k203.body.drop 16) (Ret (C203 w A lvl s F) (.bool true))) :
    Ex (C203 w A lvl s F) (rho14 c sh) [] (k203.body.drop 14) (Ret (C203 w A lvl s F) (.bool true)) := by
  refine Ex.assign (d := .list [rowD c sh ⟨piecesN sh, []⟩]) (Ev.as (Ev.list (EvL.cons (Ev.tuple (EvL.cons (Ev.name rfl) (EvL.cons (Ev.list EvL.nil) (EvL.cons Ev.int EvL.nil)))) EvL.nil)) rfl) ?_
  refine Ex.for (items := rangeD 0 4) (R := []) (fun i => rho16 c sh i) (fun _ => []) (It.range1 rfl Ev.int (by decide)) ⟨rfl, rfl, rfl, rfl, rfl, rfl, rfl, rfl, rfl, trivial⟩ rfl (fun i d R' hd => ?_) hr
  obtain ⟨hi, rfl⟩ := range_at hd
  exact rows_walk hsh hlv hi (H i hi)
end
end Mine

end

-- part F203h
section
open PySem PySem.W PyProof.Rows PySem.Calls
set_option maxRecDepth 100000
set_option maxHeartbeats 8000000
set_option linter.unusedVariables false
namespace Mine

noncomputable def wayI (c : Nat → Nat) : Int := if c 3 % 2 = 0 then 1 else -1
noncomputable def wideN (c : Nat → Nat) : Nat := 5 + (c 0 + c 1 + c 2 + c 3) % 2000
noncomputable def stepsI (sh : List Nat) : Int := (heightsI sh).sum - 4
noncomputable def hitB (way : Int) (sh ks : List Nat) (p : Nat × Nat) : Bool :=
  cmpI way ((startsN sh).getD (ks.getD p.2 0) 0 : Nat) ((endsN sh).getD p.2 0 : Nat) ((startsN sh).getD (ks.getD p.1 0) 0 : Nat) ((endsN sh).getD p.1 0 : Nat) == way
noncomputable def crossB (way : Int) (sh ks : List Nat) (p : Nat × Nat) : Bool :=
  !hitB way sh ks p && decide ((startsN sh).getD (ks.getD p.1 0) 0 < (endsN sh).getD p.2 0)
noncomputable def pairsN (x : Nat) : List (Nat × Nat) := (List.range x).flatMap fun a => (List.range a).map fun b => (a, b)
noncomputable def withinN (way : Int) (sh ks : List Nat) : Nat := (pairsN 4).countP (hitB way sh ks)
noncomputable def crossedN (way : Int) (sh ks : List Nat) : Nat := (pairsN 4).countP (crossB way sh ks)

noncomputable abbrev orderD (way : Int) : D := .inst (.list [.tup [.int 0, .int way], .tup [.int 1, .int way]])
structure Tot where
  a : Int
  b : Int
  s : Int
  t : Int
  l : List (Int × Int)
noncomputable def totD (T : Tot) : D := .tup [.int T.a, .int T.b, .int T.s, .int T.t, .dict (dI T.l)]
noncomputable def addT (c : Nat → Nat) (sh : List Nat) (T : Tot) (r : Row) : Tot :=
  let wi := withinN (wayI c) sh r.ks
  ⟨1 + T.a, wi + T.b, (if wi % 2 = 1 then -prodW c r.ks else prodW c r.ks) + T.s, 2 ^ (wideN c * wi) + T.t, addC T.l [((wi : Int), 1)] 1⟩
noncomputable def totalT (c : Nat → Nat) (sh : List Nat) (i : Nat) : Tot := ((rowsN sh 4).take i).foldl (addT c sh) ⟨0, 0, 0, 0, []⟩

section
variable {w : World} {A : Around} {lvl : Nat} {s : Shared} {F : Addr → Prop} {Φ : Flow → Shared → Prop}

noncomputable abbrev rhoS (c : Nat → Nat) (sh : List Nat) : List (Str × D) := ("steps", .int (stepsI sh)) :: ("wide", .int (wideN c : Nat)) :: ("way", .int (wayI c)) :: ("order", orderD (wayI c)) :: rhoB c sh
noncomputable abbrev rho21 (c : Nat → Nat) (sh : List Nat) : List (Str × D) := ("total", totD ⟨0, 0, 0, 0, []⟩) :: ("rows", .list ((rowsN sh 4).map (rowD c sh))) :: rhoS c sh

theorem w203h {c : Nat → Nat} {sh : List Nat} (hlv : 12 ≤ lvl)
    (hr : Ex (C203 w A lvl s F) (rho21 c sh) [] (k203.body.drop 21) Φ) :
    Ex (C203 w A lvl s F) (rho16 c sh 4) [] (k203.body.drop 16) Φ := by
  have hw : ((5 : Int) + (cellsI c).sum.fmod 2000) = ((wideN c : Nat) : Int) := by
    unfold wideN
    have e : (cellsI c).sum = ((c 0 + c 1 + c 2 + c 3 : Nat) : Int) := by
      show (c 0 : Int) + ((c 1 : Int) + ((c 2 : Int) + ((c 3 : Int) + 0))) = _
      push_cast; omega
    rw [e, Int.fmod_eq_emod_of_nonneg _ (by decide)]
    push_cast; rfl
  have hwy : (((c 3 : Int).fmod 2) == 0) = decide (c 3 % 2 = 0) := by
    rw [Int.fmod_eq_emod_of_nonneg _ (by decide), Bool.eq_iff_iff]
    simp only [beq_iff_eq, decide_eq_true_eq]
    omega
  refine Ex.assign (d := .int (stepsI sh)) (Ev.as (Ev.bin (Ev.bcall bi_sum (EvL.cons (Ev.name rfl) EvL.nil) c_sum) Ev.int o_sub) rfl) ?_
  refine Ex.assign (d := .int (wideN c : Nat)) (Ev.as (Ev.bin Ev.int (Ev.bin (Ev.bcall bi_sum (EvL.cons (Ev.name rfl) EvL.nil) c_sum) Ev.int (o_mod (by decide))) o_add) (congrArg D.int hw)) ?_
  have hway : (if decide (c 3 % 2 = 0) = true then D.int 1 else D.int (-1)) = .int (wayI c) := by
    unfold wayI
    by_cases h : c 3 % 2 = 0
    · rw [if_pos (decide_eq_true h), if_pos h]
    · rw [if_neg (by simpa using h), if_neg h]
  refine Ex.assign (d := .int (wayI c)) (Ev.as (Ev.ite (c := decide (c 3 % 2 = 0)) (EvB.as (EvB.cmp (Ev.bin (Ev.item (Ev.name rfl) Ev.int (i_list (d := .int (c 3)) (by decide) (by decide) rfl)) Ev.int (o_mod (by decide))) Ev.int o_eq) hwy) (fun _ => Ev.int) (fun _ => Ev.un Ev.int o_neg)) hway) ?_
  refine Ex.assign (d := orderD (wayI c)) (Ev.cls rfl (Ev.list (EvL.cons (Ev.tuple (EvL.cons Ev.int (EvL.cons (Ev.name rfl) EvL.nil))) (EvL.cons (Ev.tuple (EvL.cons Ev.int (EvL.cons (Ev.name rfl) EvL.nil))) EvL.nil))) (by show 1 ≤ lvl; omega)) ?_
  refine Ex.assign (d := totD ⟨0, 0, 0, 0, []⟩) (Ev.as (Ev.tuple (EvL.cons Ev.int (EvL.cons Ev.int (EvL.cons Ev.int (EvL.cons Ev.int (EvL.cons Ev.dict0 EvL.nil)))))) rfl) ?_
  exact Ex.sub hr ⟨rfl, rfl, rfl, rfl, rfl, rfl, rfl, rfl, rfl, rfl, rfl, rfl, rfl, rfl, trivial⟩
end
end Mine

end

-- part F203i
section
open PySem PySem.W PyProof.Rows PySem.Calls
set_option maxRecDepth 100000
set_option maxHeartbeats 8000000
set_option linter.unusedVariables false
namespace Mine

theorem links_at (sh ks : List Nat) {i : Nat} (h : i < ks.length) : (linksD sh ks)[i]? = some (.tup [.int ((startsN sh).getD (ks.getD i 0) 0 : Nat), .int ((endsN sh).getD i 0 : Nat)]) := by
  have e : ks.getD i 0 = ks[i] := by rw [List.getD_eq_getElem?_getD, List.getElem?_eq_getElem h]; rfl
  unfold linksD
  rw [e, List.getElem?_map, List.getElem?_zipIdx, List.getElem?_eq_getElem h]
  simp [linkD]

noncomputable def doneN (x y : Nat) : List (Nat × Nat) := pairsN x ++ (List.range y).map fun b => (x, b)
theorem done_zero (x : Nat) : doneN x 0 = pairsN x := by simp [doneN]
theorem done_full (x : Nat) : doneN x x = pairsN (x + 1) := by
  unfold doneN pairsN
  rw [List.range_succ, List.flatMap_append]
  simp
theorem done_succ (x y : Nat) : doneN x (y + 1) = doneN x y ++ [(x, y)] := by
  unfold doneN
  rw [List.range_succ, List.map_append, List.append_assoc]
  rfl

section
variable {w : World} {A : Around} {lvl : Nat} {s : Shared} {F : Addr → Prop} {Φ : Flow → Shared → Prop}

noncomputable def bodyT : List Stmt := match k203.body.drop 21 with | .For _ _ b _ _ :: _ => b | _ => []
noncomputable abbrev rhoT (c : Nat → Nat) (sh : List Nat) (T : Tot) (ks : List Nat) (p : Int) : List (Str × D) := ("links", .list (linksD sh ks)) :: ("product", .int p) :: ("total", totD T) :: rhoS c sh

/-- within and crossed -/
theorem count_walk {c : Nat → Nat} {sh : List Nat} (hlv : 12 ≤ lvl) {T : Tot} {ks : List Nat} {p : Int} (hks : ks.length = 4) {R' : List Own}
    (hr : Ex (C203 w A lvl s F) (("within", .int (withinN (wayI c) sh ks : Nat)) :: ("crossed", .int (crossedN (wayI c) sh ks : Nat)) :: rhoT c sh T ks p) R' (bodyT.drop 3) Φ) :
    Ex (C203 w A lvl s F) (rhoT c sh T ks p) R' bodyT Φ := by
  refine Ex.assign Ev.int ?_
  refine Ex.assign Ev.int ?_
  refine Ex.for (items := rangeD 0 4) (R := R') (fun x => ("within", .int ((pairsN x).countP (hitB (wayI c) sh ks) : Nat)) :: ("crossed", .int ((pairsN x).countP (crossB (wayI c) sh ks) : Nat)) :: rhoT c sh T ks p) (fun _ => []) (It.range1 rfl Ev.int (by decide)) ⟨rfl, rfl, rfl, rfl, rfl, rfl, rfl, rfl, rfl, rfl, rfl, rfl, rfl, rfl, rfl, rfl, rfl, trivial⟩ rfl (fun x d R'' hd => ?_) hr
  obtain ⟨hx, rfl⟩ := range_at hd
  refine Ex.for (items := rangeD 0 x) (R := R'') (fun y => ("within", .int ((doneN x y).countP (hitB (wayI c) sh ks) : Nat)) :: ("crossed", .int ((doneN x y).countP (crossB (wayI c) sh ks) : Nat)) :: ("x", .int (x : Int)) :: rhoT c sh T ks p) (fun _ => []) (It.range1 rfl (Ev.name rfl) (by omega)) ?_ rfl (fun y d R3 hd => ?_) ?_
  · rw [done_zero]
    exact ⟨rfl, rfl, rfl, rfl, rfl, rfl, rfl, rfl, rfl, rfl, rfl, rfl, rfl, rfl, rfl, rfl, rfl, rfl, trivial⟩
  · obtain ⟨hy, rfl⟩ := range_at hd
    have lx := links_at sh ks (i := x) (by omega)
    have ly := links_at sh ks (i := y) (by omega)
    have e1 : (doneN x (y + 1)).countP (hitB (wayI c) sh ks) = (doneN x y).countP (hitB (wayI c) sh ks) + (if hitB (wayI c) sh ks (x, y) = true then 1 else 0) := by
      rw [done_succ, List.countP_append]; simp [List.countP_cons]
    have e2 : (doneN x (y + 1)).countP (crossB (wayI c) sh ks) = (doneN x y).countP (crossB (wayI c) sh ks) + (if crossB (wayI c) sh ks (x, y) = true then 1 else 0) := by
      rw [done_succ, List.countP_append]; simp [List.countP_cons]
    rw [e1, e2]
    generalize (doneN x y).countP (hitB (wayI c) sh ks) = u
    generalize (doneN x y).countP (crossB (wayI c) sh ks) = v
    cases hh : hitB (wayI c) sh ks (x, y) with
    | true =>
      have hc : crossB (wayI c) sh ks (x, y) = false := by unfold crossB; rw [hh]; rfl
      rw [hc]
      refine Ex.ite (c := true) (EvB.as (EvB.cmp (Ev.methI rfl (Ev.name rfl) (EvL.cons (Ev.item (Ev.name rfl) (Ev.name rfl) (i_list (Int.natCast_nonneg y) (by omega) (by rw [Int.toNat_natCast]; exact ly))) (EvL.cons (Ev.item (Ev.name rfl) (Ev.name rfl) (i_list (Int.natCast_nonneg x) (by omega) (by rw [Int.toNat_natCast]; exact lx))) EvL.nil)) (fn158 (n := 0)) rfl (by show 1 ≤ lvl; omega)) (Ev.name rfl) o_eq) hh) (fun _ => ?_) (fun h => nomatch h)
      refine Ex.assign (d := .int ((u + 1 : Nat) : Int)) (Ev.as (Ev.bin (Ev.name rfl) Ev.int o_add) (congrArg D.int (by push_cast; rfl))) ?_
      exact Ex.done (Ex.turn ⟨rfl, rfl, rfl, rfl, rfl, rfl, rfl, rfl, rfl, rfl, rfl, rfl, rfl, rfl, rfl, rfl, rfl, rfl, trivial⟩)
    | false =>
      have hc : crossB (wayI c) sh ks (x, y) = decide ((startsN sh).getD (ks.getD x 0) 0 < (endsN sh).getD y 0) := by unfold crossB; rw [hh]; rfl
      rw [hc]
      refine Ex.ite (c := false) (EvB.as (EvB.cmp (Ev.methI rfl (Ev.name rfl) (EvL.cons (Ev.item (Ev.name rfl) (Ev.name rfl) (i_list (Int.natCast_nonneg y) (by omega) (by rw [Int.toNat_natCast]; exact ly))) (EvL.cons (Ev.item (Ev.name rfl) (Ev.name rfl) (i_list (Int.natCast_nonneg x) (by omega) (by rw [Int.toNat_natCast]; exact lx))) EvL.nil)) (fn158 (n := 0)) rfl (by show 1 ≤ lvl; omega)) (Ev.name rfl) o_eq) hh) (fun h => nomatch h) (fun _ => ?_)
      by_cases hlt : (startsN sh).getD (ks.getD x 0) 0 < (endsN sh).getD y 0
      · rw [decide_eq_true hlt]
        refine Ex.ite (c := true) (EvB.as (EvB.cmp (Ev.item (Ev.item (Ev.name rfl) (Ev.name rfl) (i_list (Int.natCast_nonneg x) (by omega) (by rw [Int.toNat_natCast]; exact lx))) Ev.int (i_tup (d := .int ((startsN sh).getD (ks.getD x 0) 0 : Nat)) (by decide) (by decide) rfl)) (Ev.item (Ev.item (Ev.name rfl) (Ev.name rfl) (i_list (Int.natCast_nonneg y) (by omega) (by rw [Int.toNat_natCast]; exact ly))) Ev.int (i_tup (d := .int ((endsN sh).getD y 0 : Nat)) (by decide) (by decide) rfl)) o_lt) (decide_eq_true (Int.ofNat_lt.mpr hlt))) (fun _ => ?_) (fun h => nomatch h)
        refine Ex.assign (d := .int ((v + 1 : Nat) : Int)) (Ev.as (Ev.bin (Ev.name rfl) Ev.int o_add) (congrArg D.int (by push_cast; rfl))) ?_
        exact Ex.done (Ex.done (Ex.turn ⟨rfl, rfl, rfl, rfl, rfl, rfl, rfl, rfl, rfl, rfl, rfl, rfl, rfl, rfl, rfl, rfl, rfl, rfl, trivial⟩))
      · rw [decide_eq_false hlt]
        refine Ex.ite (c := false) (EvB.as (EvB.cmp (Ev.item (Ev.item (Ev.name rfl) (Ev.name rfl) (i_list (Int.natCast_nonneg x) (by omega) (by rw [Int.toNat_natCast]; exact lx))) Ev.int (i_tup (d := .int ((startsN sh).getD (ks.getD x 0) 0 : Nat)) (by decide) (by decide) rfl)) (Ev.item (Ev.item (Ev.name rfl) (Ev.name rfl) (i_list (Int.natCast_nonneg y) (by omega) (by rw [Int.toNat_natCast]; exact ly))) Ev.int (i_tup (d := .int ((endsN sh).getD y 0 : Nat)) (by decide) (by decide) rfl)) o_lt) (decide_eq_false fun q => hlt (Int.ofNat_lt.mp q))) (fun h => nomatch h) (fun _ => ?_)
        exact Ex.done (Ex.done (Ex.turn ⟨rfl, rfl, rfl, rfl, rfl, rfl, rfl, rfl, rfl, rfl, rfl, rfl, rfl, rfl, rfl, rfl, rfl, rfl, trivial⟩))
  · have e9 : (rangeD 0 x).length = x := by simp
    rw [e9, done_full]
    exact Ex.turn ⟨rfl, rfl, rfl, rfl, rfl, rfl, rfl, rfl, rfl, rfl, rfl, rfl, rfl, rfl, rfl, rfl, rfl, trivial⟩
end
end Mine

end

-- part F203j
section
open PySem PySem.W PyProof.Rows PySem.Calls
set_option maxRecDepth 100000
set_option maxHeartbeats 8000000
set_option linter.unusedVariables false
namespace Mine

theorem way_cases (c : Nat → Nat) : wayI c = 1 ∨ wayI c = -1 := by unfold wayI; split <;> simp
/-- the 105 rows of all shapes -/
theorem rows_facts {sh : List Nat} (h : sh ∈ shapes14) (c : Nat → Nat) : ∀ r ∈ rowsN sh 4, r.ks.length = 4 ∧ ((withinN (wayI c) sh r.ks : Int) + crossedN (wayI c) sh r.ks = stepsI sh) ∧ withinN (wayI c) sh r.ks ≤ 6 := by
  have k1 : ∀ sh ∈ shapes14, ∀ r ∈ rowsN sh 4, r.ks.length = 4 ∧ ((withinN 1 sh r.ks : Int) + crossedN 1 sh r.ks = stepsI sh) ∧ withinN 1 sh r.ks ≤ 6 := by decide +kernel
  have k2 : ∀ sh ∈ shapes14, ∀ r ∈ rowsN sh 4, r.ks.length = 4 ∧ ((withinN (-1) sh r.ks : Int) + crossedN (-1) sh r.ks = stepsI sh) ∧ withinN (-1) sh r.ks ≤ 6 := by decide +kernel
  rcases way_cases c with e | e <;> rw [e]
  · exact k1 sh h
  · exact k2 sh h

theorem tot_len {c : Nat → Nat} {sh : List Nat} : ∀ i, (totalT c sh i).l.length ≤ i := by
  have key : ∀ (l : List Row) (T : Tot), (l.foldl (addT c sh) T).l.length ≤ T.l.length + l.length := by
    intro l
    induction l with
    | nil => intro T; exact Nat.le_refl _
    | cons r l ih =>
      intro T
      rw [List.foldl_cons, List.length_cons]
      have h1 := ih (addT c sh T r)
      have h2 : (addT c sh T r).l.length ≤ T.l.length + 1 := addC_len T.l [((withinN (wayI c) sh r.ks : Int), 1)] 1
      omega
  intro i
  have := key ((rowsN sh 4).take i) ⟨0, 0, 0, 0, []⟩
  rw [List.length_take] at this
  have h2 : ([] : List (Int × Int)).length = 0 := rfl
  show (totalT c sh i).l.length ≤ i
  unfold totalT
  have h3 : (⟨0, 0, 0, 0, []⟩ : Tot).l.length = 0 := rfl
  omega

section
variable {w : World} {A : Around} {lvl : Nat} {s : Shared} {F : Addr → Prop}

theorem tot_walk {c : Nat → Nat} {sh : List Nat} (hlv : 12 ≤ lvl) {T : Tot} (hT : T.l.length ≤ 1000) {r : Row} (H : r.ks.length = 4 ∧ ((withinN (wayI c) sh r.ks : Int) + crossedN (wayI c) sh r.ks = stepsI sh) ∧ withinN (wayI c) sh r.ks ≤ 6) {R' : List Own} :
    Ex (C203 w A lvl s F) (rhoT c sh T r.ks (prodW c r.ks)) R' bodyT (Turn (C203 w A lvl s F) (("total", totD (addT c sh T r)) :: rhoS c sh) R' (Ret (C203 w A lvl s F) (.bool true))) := by
  obtain ⟨hks, hst, h6⟩ := H
  refine count_walk hlv hks ?_
  generalize hwi : withinN (wayI c) sh r.ks = wi at *
  generalize crossedN (wayI c) sh r.ks = cr at *
  refine Ex.ite (c := false) (EvB.as (EvB.cmp (Ev.bin (Ev.name rfl) (Ev.name rfl) o_add) (Ev.name rfl) o_ne) (by rw [hst]; simp)) (fun h => nomatch h) (fun _ => Ex.done ?_)
  have hm : (((wi : Int).fmod 2) == 1) = decide (wi % 2 = 1) := by
    rw [Int.fmod_eq_emod_of_nonneg _ (by decide), Bool.eq_iff_iff]
    simp only [beq_iff_eq, decide_eq_true_eq]
    omega
  have hsg : (if decide (wi % 2 = 1) = true then D.int (-prodW c r.ks) else D.int (prodW c r.ks)) = .int (if wi % 2 = 1 then -prodW c r.ks else prodW c r.ks) := by
    by_cases h : wi % 2 = 1
    · rw [if_pos (decide_eq_true h), if_pos h]
    · rw [if_neg (by simpa using h), if_neg h]
  refine Ex.assign (d := .int (if wi % 2 = 1 then -prodW c r.ks else prodW c r.ks)) (Ev.as (Ev.ite (c := decide (wi % 2 = 1)) (EvB.as (EvB.cmp (Ev.bin (Ev.name rfl) Ev.int (o_mod (by decide))) Ev.int o_eq) hm) (fun _ => Ev.un (Ev.name rfl) o_neg) (fun _ => Ev.name rfl)) hsg) ?_
  have hwd : wideN c ≤ 2005 := by unfold wideN; have := Nat.mod_lt (c 0 + c 1 + c 2 + c 3) (y := 2000) (by decide); omega
  have hww : wideN c * wi ≤ 20000 := Nat.le_trans (Nat.mul_le_mul hwd h6) (by decide)
  have hsh : (1 : Int) * 2 ^ ((wideN c : Int) * (wi : Int)).toNat = 2 ^ (wideN c * wi) := by
    have : ((wideN c : Int) * (wi : Int)).toNat = wideN c * wi := by rw [← Int.natCast_mul, Int.toNat_natCast]
    rw [this, Int.one_mul]
  have hb6 : Builtin.Int.intBits (wi : Int) ≤ 64 := by rw [intBits_le_iff']; omega
  have hnn : (0 : Int) ≤ (wideN c : Int) * (wi : Int) := Int.mul_nonneg (Int.natCast_nonneg _) (Int.natCast_nonneg _)
  have hzz : (Builtin.Int.intBits 1 : Int) + (wideN c : Int) * (wi : Int) ≤ 2 ^ 27 := by
    have e : (Builtin.Int.intBits 1 : Int) = 1 := by decide
    rw [e, ← Int.natCast_mul]
    omega
  have hadd : totD (addT c sh T r) = .tup [.int (1 + T.a), .int ((wi : Int) + T.b), .int ((if wi % 2 = 1 then -prodW c r.ks else prodW c r.ks) + T.s), .int (2 ^ (wideN c * wi) + T.t), .dict (dI (addC T.l [((wi : Int), 1)] 1))] := by
    unfold totD addT
    rw [hwi]
  rw [hadd]
  refine Ex.assign (Ev.call (fn172 (n := 0) (s := [((wi : Int), 1)]) hT (by show 1 ≤ 1000; decide)) (g172 w) (k172.hK w) (EvL.cons (Ev.as (Ev.name rfl) rfl) (EvL.cons (Ev.tuple (EvL.cons Ev.int (EvL.cons (Ev.name rfl) (EvL.cons (Ev.name rfl) (EvL.cons (Ev.as (Ev.bin Ev.int (Ev.bin (Ev.name rfl) (Ev.name rfl) (o_mul (IntMulOk.of_right hb6))) (o_shl hnn hzz)) (congrArg D.int hsh)) (EvL.cons (Ev.dict1 (Ev.name rfl) Ev.int) EvL.nil)))))) EvL.nil)) rfl (by show 2 ≤ lvl; omega)) ?_
  exact Ex.turn ⟨rfl, rfl, rfl, rfl, rfl, rfl, rfl, rfl, rfl, rfl, rfl, rfl, rfl, trivial⟩

noncomputable abbrev rho22 (c : Nat → Nat) (sh : List Nat) : List (Str × D) := ("total", totD (totalT c sh (rowsN sh 4).length)) :: rhoS c sh

theorem w203i {c : Nat → Nat} {sh : List Nat} (hsh : sh ∈ shapes14) (hlv : 12 ≤ lvl)
    (hr : Ex (C203 w A lvl s F) (rho22 c sh) [] (k203.body.drop 22) (Ret (C203 w A lvl s F) (.bool true))) :
    Ex (C203 w A lvl s F) (rho21 c sh) [] (k203.body.drop 21) (Ret (C203 w A lvl s F) (.bool true)) := by
  have hlen : ((rowsN sh 4).map (rowD c sh)).length = (rowsN sh 4).length := List.length_map _
  refine Ex.forT (items := (rowsN sh 4).map (rowD c sh)) (R := []) (xs := ["left", "links", "product"]) (fun i => match (rowsN sh 4)[i]? with | some r => rowDs c sh r | none => []) (fun i => ("total", totD (totalT c sh i)) :: rhoS c sh) (fun _ => []) (It.list (Ev.name rfl)) ⟨rfl, rfl, rfl, rfl, rfl, rfl, rfl, rfl, rfl, rfl, rfl, rfl, rfl, trivial⟩ rfl (fun i d hd => ?_) (fun i R'' hi => ?_) ?_
  · rw [List.getElem?_map] at hd
    obtain ⟨r, hr, rfl⟩ := Option.map_eq_some_iff.mp hd
    rw [hr]
    exact ⟨rfl, rfl⟩
  · rw [List.length_map] at hi
    obtain ⟨r, hr⟩ : ∃ r, (rowsN sh 4)[i]? = some r := ⟨_, List.getElem?_eq_getElem hi⟩
    have hl := rows_len hsh (Nat.le_refl 4)
    have htl := tot_len (c := c) (sh := sh) i
    have hnx : totalT c sh (i + 1) = addT c sh (totalT c sh i) r := by
      unfold totalT
      rw [List.take_add_one, hr, List.foldl_append]
      rfl
    rw [hnx]
    have hw := tot_walk (w := w) (A := A) (lvl := lvl) (s := s) (F := F) (c := c) (sh := sh) hlv (T := totalT c sh i) (by omega) (rows_facts hsh c r (List.mem_of_getElem? hr)) (R' := R'')
    have hds : (match (rowsN sh 4)[i]? with | some r => rowDs c sh r | none => []) = rowDs c sh r := by rw [hr]
    rw [hds]
    exact Ex.sub hw ⟨rfl, rfl, rfl, rfl, rfl, rfl, rfl, rfl, rfl, rfl, rfl, rfl, rfl, rfl, rfl, trivial⟩
  · rw [hlen]
    exact hr
end
end Mine

end

-- part F203k
section
open PySem PySem.W PyProof.Rows PySem.Calls
set_option maxRecDepth 100000
set_option maxHeartbeats 8000000
set_option linter.unusedVariables false
namespace Mine

noncomputable def waysI (sh : List Nat) (i : Nat) : Int := ((heightsI sh).take i).foldl (fun p h => p * h) 1
noncomputable def aboveI (c : Nat → Nat) (sh : List Nat) (i : Nat) : Int := ((heightsI sh).take i).foldl (fun p h => p * (2 ^ (wideN c * h.toNat) - 1)) 1
noncomputable def scaleI (c : Nat → Nat) : Int := 2 ^ (5 * wideN c) - 1
noncomputable def belowI (c : Nat → Nat) : Int := (2 ^ wideN c - 1) ^ 4 * scaleI c
noncomputable def addedI (c : Nat → Nat) : Int := belowI c - 1 - c 0
noncomputable def totE (c : Nat → Nat) (sh : List Nat) : Tot := totalT c sh (rowsN sh 4).length

/-- what plain arithmetic says of the end -/
structure LastOk (c : Nat → Nat) (sh : List Nat) : Prop where
  hpos : ∀ h ∈ heightsI sh, 1 ≤ h ∧ h ≤ 4
  abits : ∀ i, Builtin.Int.intBits (aboveI c sh i) ≤ 2 ^ 20
  wbits : ∀ i, Builtin.Int.intBits (waysI sh i) ≤ 64
  fbits : ∀ h : Int, 1 ≤ h → h ≤ 4 → Builtin.Int.intBits (2 ^ (wideN c * h.toNat) - 1) ≤ 2 ^ 20
  sbits : Builtin.Int.intBits (scaleI c) ≤ 2 ^ 20
  b4bits : Builtin.Int.intBits ((2 ^ wideN c - 1) ^ 4) ≤ 2 ^ 20
  b1bits : (Builtin.Int.intBits (2 ^ wideN c - 1) : Int) ≤ 2 ^ 20
  div : ∃ n : Nat, Builtin.Int.intBits (belowI c) = n ∧ 1 ≤ n ∧ n ≤ 4000 * 2 ^ 3 ∧ 2 ^ (n - 1) ≤ belowI c ∧ belowI c < 2 ^ n ∧ 0 ≤ aboveI c sh 4 * scaleI c + addedI c ∧ aboveI c sh 4 * scaleI c + addedI c < belowI c * 2 ^ n ∧
    (aboveI c sh 4 * scaleI c + addedI c) / belowI c = (totE c sh).t ∧ (aboveI c sh 4 * scaleI c + addedI c) % belowI c = addedI c
  det : (totE c sh).s = detB (weightF c sh)
  dH : ∀ s g tu la t, s < 3 → runF (weightF c sh) s = some (g, tu, la) → (fitB s g).head? = some t → FitM s la (fun k c => g (swapN s t k) c)
  dS : ∀ g tu la, runF (weightF c sh) 3 = some (g, tu, la) → -(2 ^ 400) ≤ g 3 3 ∧ g 3 3 ≤ 2 ^ 400
  dT : ∀ g tu la, runF (weightF c sh) 3 = some (g, tu, la) → -(2 ^ 400) ≤ tu ∧ tu ≤ 2 ^ 400
  cnt1 : (totE c sh).a = waysI sh 4
  cnt2 : ((totE c sh).l.map (·.2)).sum = waysI sh 4
  cnt3 : 2 * (totE c sh).b = waysI sh 4 * stepsI sh
  stp : 0 ≤ stepsI sh ∧ stepsI sh ≤ 6
  bbits : (Builtin.Int.intBits (totE c sh).b) ≤ 64
  tpos : 0 ≤ (totE c sh).t
  tlen : (Builtin.Int.intBits (totE c sh).t + wideN c - 1) / wideN c = (stepsI sh).toNat + 1
  tz : Builtin.Int.intBits (totE c sh).t ≤ 50000
  dig : digL (wideN c) ((stepsI sh).toNat + 1) (totE c sh).t = (List.range ((stepsI sh).toNat + 1)).map fun k : Nat => (valueI (totE c sh).l (k : Int)).getD 0

section
variable {w : World} {A : Around} {lvl : Nat} {s : Shared} {F : Addr → Prop}

noncomputable abbrev rho25 (c : Nat → Nat) (sh : List Nat) : List (Str × D) := ("ways", .int (waysI sh 4)) :: ("above", .int (aboveI c sh 4)) :: rho22 c sh

theorem w203k {c : Nat → Nat} {sh : List Nat} (hsh : sh ∈ shapes14) (L : LastOk c sh)
    (hr : Ex (C203 w A lvl s F) (rho25 c sh) [] (k203.body.drop 25) (Ret (C203 w A lvl s F) (.bool true))) :
    Ex (C203 w A lvl s F) (rho22 c sh) [] (k203.body.drop 22) (Ret (C203 w A lvl s F) (.bool true)) := by
  have hl4 : (heightsI sh).length = 4 := by unfold heightsI; rw [List.length_map, (bits_of_pieces hsh).2.1]
  refine Ex.assign Ev.int ?_
  refine Ex.assign Ev.int ?_
  refine Ex.for (items := dInts (heightsI sh)) (R := []) (fun i => ("ways", .int (waysI sh i)) :: ("above", .int (aboveI c sh i)) :: rho22 c sh) (fun _ => []) (It.list (Ev.name rfl)) ⟨rfl, rfl, rfl, rfl, rfl, rfl, rfl, rfl, rfl, rfl, rfl, rfl, rfl, rfl, rfl, trivial⟩ rfl (fun i d R' hd => ?_) ?_
  · rw [List.getElem?_map] at hd
    obtain ⟨h, hh, rfl⟩ := Option.map_eq_some_iff.mp hd
    have hp := L.hpos h (List.mem_of_getElem? hh)
    have e1 : waysI sh (i + 1) = waysI sh i * h := by
      unfold waysI
      rw [List.take_add_one, hh, List.foldl_append]; rfl
    have e2 : aboveI c sh (i + 1) = aboveI c sh i * (2 ^ (wideN c * h.toNat) - 1) := by
      unfold aboveI
      rw [List.take_add_one, hh, List.foldl_append]; rfl
    rw [e1, e2]
    have hwd : wideN c ≤ 2005 := by unfold wideN; have := Nat.mod_lt (c 0 + c 1 + c 2 + c 3) (y := 2000) (by decide); omega
    have hth : h.toNat ≤ 4 := by omega
    have hcast : (wideN c : Int) * h = ((wideN c * h.toNat : Nat) : Int) := by
      rw [Int.natCast_mul, Int.toNat_of_nonneg (by omega)]
    have hww : wideN c * h.toNat ≤ 20000 := Nat.le_trans (Nat.mul_le_mul hwd hth) (by decide)
    have hsh' : (1 : Int) * 2 ^ ((wideN c : Int) * h).toNat - 1 = 2 ^ (wideN c * h.toNat) - 1 := by
      rw [hcast, Int.toNat_natCast, Int.one_mul]
    have hnn : (0 : Int) ≤ (wideN c : Int) * h := by rw [hcast]; exact Int.natCast_nonneg _
    have hzz : (Builtin.Int.intBits 1 : Int) + (wideN c : Int) * h ≤ 2 ^ 27 := by
      have e : (Builtin.Int.intBits 1 : Int) = 1 := by decide
      rw [e, hcast]; omega
    have hhb : Builtin.Int.intBits h ≤ 64 := by rw [intBits_le_iff']; omega
    refine Ex.assign (d := .int (waysI sh i * h)) (Ev.bin (Ev.name rfl) (Ev.name rfl) (o_mul (IntMulOk.of_right hhb))) ?_
    refine Ex.assign (d := .int (aboveI c sh i * (2 ^ (wideN c * h.toNat) - 1))) (Ev.bin (Ev.name rfl) (Ev.as (Ev.bin (Ev.bin Ev.int (Ev.bin (Ev.name rfl) (Ev.name rfl) (o_mul (IntMulOk.of_right hhb))) (o_shl hnn hzz)) Ev.int o_sub) (congrArg D.int hsh')) (o_mul (IntMulOk.of_bits (L.abits i) (L.fbits h hp.1 hp.2)))) ?_
    exact Ex.turn ⟨rfl, rfl, rfl, rfl, rfl, rfl, rfl, rfl, rfl, rfl, rfl, rfl, rfl, rfl, rfl, trivial⟩
  · have e9 : (dInts (heightsI sh)).length = 4 := by rw [List.length_map, hl4]
    rw [e9]
    exact hr

noncomputable def getDD (l : List (Int × Int)) : D → D
  | .int k => .int ((valueI l k).getD 0)
  | _ => .none
theorem value_or (l : List (Int × Int)) (k : Int) : (valueD (dI l) k).getD (.int 0) = .int ((valueI l k).getD 0) := by
  rw [value_dI]
  cases valueI l k <;> rfl

theorem w203l {c : Nat → Nat} {sh : List Nat} (hlv : 20 ≤ lvl) (L : LastOk c sh) (hc : ∀ k, c k < 1000000) :
    Ex (C203 w A lvl s F) (rho25 c sh) [] (k203.body.drop 25) (Ret (C203 w A lvl s F) (.bool true)) := by
  obtain ⟨n, hn, d1, d2, d3, d4, d5, d6, d7, d8⟩ := L.div
  have hwd : wideN c ≤ 2005 := by unfold wideN; have := Nat.mod_lt (c 0 + c 1 + c 2 + c 3) (y := 2000) (by decide); omega
  have hw5 : 5 ≤ wideN c := by unfold wideN; omega
  have e1 : (Builtin.Int.intBits 1 : Int) = 1 := by decide
  have h5 : (1 : Int) * 2 ^ ((5 : Int) * (wideN c : Int)).toNat - 1 = scaleI c := by
    have : ((5 : Int) * (wideN c : Int)).toNat = 5 * wideN c := by omega
    rw [this, Int.one_mul]; rfl
  have h1 : (1 : Int) * 2 ^ ((wideN c : Int)).toNat - 1 = 2 ^ wideN c - 1 := by
    rw [Int.toNat_natCast, Int.one_mul]
  refine Ex.assign (d := .int (scaleI c)) (Ev.as (Ev.bin (Ev.bin Ev.int (Ev.bin Ev.int (Ev.name rfl) (o_mul (IntMulOk.of_left (by decide)))) (o_shl (by omega) (by rw [e1]; omega))) Ev.int o_sub) (congrArg D.int h5)) ?_
  refine Ex.assign (d := .int (belowI c)) (Ev.bin (Ev.bin (Ev.as (Ev.bin (Ev.bin Ev.int (Ev.name rfl) (o_shl (Int.natCast_nonneg _) (by rw [e1]; omega))) Ev.int o_sub) (congrArg D.int h1)) Ev.int (o_pow (by decide) (by have := L.b1bits; omega))) (Ev.name rfl) (o_mul (IntMulOk.of_bits L.b4bits L.sbits))) ?_
  refine Ex.assign (d := .int (addedI c)) (Ev.bin (Ev.bin (Ev.name rfl) Ev.int o_sub) (Ev.item (Ev.name rfl) Ev.int (i_list (d := .int (c 0)) (by decide) (by decide) rfl)) o_sub) ?_
  refine Ex.assign (d := .tup [.int (totE c sh).t, .int (addedI c)]) (Ev.as (Ev.call (fn38 (w := w) 3 (aboveI c sh 4 * scaleI c + addedI c) (belowI c) n d1 d2 (by omega) d3 d4 d5 d6) (g38 w) (k38.hK w) (EvL.cons (Ev.bin (Ev.bin (Ev.name rfl) (Ev.name rfl) (o_mul (IntMulOk.of_bits (L.abits 4) L.sbits))) (Ev.name rfl) o_add) (EvL.cons (Ev.name rfl) (EvL.cons (Ev.as (Ev.meth (Ev.name rfl) gm_bit_length EvL.nil c_bit_length) (by rw [hn])) EvL.nil))) rfl (by show 7 ≤ lvl; omega)) (by rw [d7, d8])) ?_
  refine Ex.ite (c := false) (EvB.as (EvB.or (b := false) (EvB.as (EvB.cmp (Ev.name rfl) (Ev.tuple (EvL.cons (Ev.item (Ev.name rfl) Ev.int (i_tup (d := .int (totE c sh).t) (by decide) (by decide) rfl)) (EvL.cons (Ev.name rfl) EvL.nil))) (o_ne_tup2 (by show 11 ≤ lvl; omega))) (by simp)) fun _ => EvB.or (b := false) (EvB.as (EvB.cmp (Ev.item (Ev.name rfl) Ev.int (i_tup (d := .int (totE c sh).s) (by decide) (by decide) rfl)) (Ev.call (fn198 (lvl := 18) (by decide) L.dH L.dS L.dT) (g198 w) (k198.hK w) (EvL.cons (Ev.name rfl) EvL.nil) rfl (by show 19 ≤ lvl; omega)) o_ne) (by rw [L.det]; simp)) fun _ => EvB.or_nil) rfl) (fun h => nomatch h) (fun _ => Ex.done ?_)
  refine Ex.ite (c := false) (EvB.as (EvB.or (b := false) (EvB.as (EvB.cmp (Ev.item (Ev.name rfl) Ev.int (i_tup (d := .int (totE c sh).a) (by decide) (by decide) rfl)) (Ev.name rfl) o_ne) (by rw [L.cnt1]; simp)) fun _ => EvB.or (b := false) (EvB.as (EvB.cmp (Ev.call (fn186 (n := 0) (t := (totE c sh).l)) (g186 w) (k186.hK w) (EvL.cons (Ev.item (Ev.name rfl) Ev.int (i_tup (d := .dict (dI (totE c sh).l)) (by decide) (by decide) rfl)) EvL.nil) rfl (by show 1 ≤ lvl; omega)) (Ev.name rfl) o_ne) (by rw [L.cnt2]; simp)) fun _ => EvB.or (b := false) (EvB.as (EvB.cmp (Ev.bin Ev.int (Ev.item (Ev.name rfl) Ev.int (i_tup (d := .int (totE c sh).b) (by decide) (by decide) rfl)) (o_mul (IntMulOk.of_right L.bbits))) (Ev.bin (Ev.name rfl) (Ev.name rfl) (o_mul (IntMulOk.of_left (L.wbits 4)))) o_ne) (by rw [L.cnt3]; simp)) fun _ => EvB.or_nil) rfl) (fun h => nomatch h) (fun _ => Ex.done ?_)
  have hst := L.stp
  have hst' : stepsI sh + 1 = (((stepsI sh).toNat + 1 : Nat) : Int) := by omega
  have htz := L.tz
  have hcalc : wideN c * ((stepsI sh).toNat + 1) ≤ 1000000 := Nat.le_trans (Nat.mul_le_mul hwd (by omega : (stepsI sh).toNat + 1 ≤ 7)) (by decide)
  refine Ex.retn (Ev.as (Ev.cmp (Ev.call (fn52 (lvl := 4) (k := 3) (n := wideN c) (len := (stepsI sh).toNat + 1) (by omega) L.tpos L.tlen.symm hcalc (by omega) (by decide) (by omega)) (g52 w) (k52.hK w) (EvL.cons (Ev.item (Ev.name rfl) Ev.int (i_tup (d := .int (totE c sh).t) (by decide) (by decide) rfl)) (EvL.cons (Ev.name rfl) EvL.nil)) rfl (by show 5 ≤ lvl; omega)) (Ev.as (d' := .list (dInts ((List.range ((stepsI sh).toNat + 1)).map fun k : Nat => (valueI (totE c sh).l (k : Int)).getD 0))) (evMap (getDD (totE c sh).l) [("total", totD (totE c sh))] (It.range1 (n := (stepsI sh).toNat + 1) rfl (Ev.as (Ev.bin (Ev.name rfl) Ev.int o_add) (congrArg D.int hst')) (by omega)) (by simp only [List.length_map, List.length_range]; have : sizeLine = 2 ^ 24 := rfl; omega) ⟨rfl, trivial⟩ (fun s L' own' i d hd S => ?_)) ?_) (o_eq_ints (by show 11 ≤ lvl; omega))) (by rw [L.dig]; simp)) fun _ => id
  · obtain ⟨hi, rfl⟩ := range_at hd
    exact Ev.as (Ev.get rfl (Ev.item (Ev.name rfl) Ev.int (i_tup (d := .dict (dI (totE c sh).l)) (by decide) (by decide) rfl)) (Ev.name rfl) Ev.int) (value_or _ _)
  · refine congrArg D.list ?_
    show _ = List.map D.int (List.map _ _)
    rw [List.map_map, List.map_map]
    refine List.map_congr_left fun k _ => ?_
    show D.int ((valueI (totE c sh).l ((0 : Int) + k)).getD 0) = _
    rw [show (0 : Int) + (k : Int) = k by omega]
    rfl
end
end Mine

end

-- part F203
section
open PySem PySem.W PyProof.Rows PySem.Calls
set_option maxRecDepth 100000
set_option maxHeartbeats 8000000
set_option linter.unusedVariables false
namespace Mine

/-- what plain reasoning says of a script -/
structure LawOk (c : Nat → Nat) (sh : List Nat) : Prop where
  word : (wordT c sh).length ≤ 1000
  reply : DepthOk (rep257 (wordT c sh)) 1
  rows : ∀ m, m < 4 → ∀ r ∈ rowsN sh m, RowOk c sh m r
  last : LastOk c sh

theorem fn203 {w : World} {lvl : Nat} (hlv : 20 ≤ lvl) {xs : List Int} (hx : xs.length ≤ 100000) (L : LawOk (cellN xs) (shapeL (cellsI (cellN xs)))) : Fn w false (lvl + 1) 203 [.list (dInts xs)] (.bool true) := by
  have hsh := shape_in (cellN xs)
  have hc : ∀ k, cellN xs k < 1000000 := cellN_lt xs
  refine k203.fn ["script"] (by kernel_rfl) (by decide) rfl (bind1 fun _ => rfl) fun A s F R => ?_
  refine w203a hx ?_
  refine w203b hsh rfl (by omega +splitDisjunctions) ?_
  refine w203c hc ?_
  refine w203d hsh L.word ?_
  refine w203e (by omega +splitDisjunctions) L.word L.reply ?_
  refine w203f hsh hc ?_
  refine w203g hsh (by omega +splitDisjunctions) L.rows ?_
  refine w203h (by omega +splitDisjunctions) ?_
  refine w203i hsh (by omega +splitDisjunctions) ?_
  refine w203k hsh L.last ?_
  exact w203l hlv L.last hc
end Mine

end

-- part PL2
section
open PySem PySem.W PyProof.Rows PySem.Calls
set_option maxRecDepth 100000
set_option maxHeartbeats 1000000
set_option linter.unusedVariables false
namespace Mine

/-- the shape of a row's pieces at stage m -/
structure ShOk (sh : List Nat) (m : Nat) (r : Row) (A B : List Nat) : Prop where
  eq : r.ps = A ++ (4 + m) :: B
  low : ∀ a ∈ A, a < 4
  lt : ∀ p ∈ r.ps, p < 8
  nd : r.ps.Nodup
  len : r.ps.length ≤ 8
  ks : r.ks.length = m
  ht : (heightsI sh).getD m 0 = A.length
  wait : A = r.ps.takeWhile fun p => decide (p < 4)

noncomputable def shB (sh : List Nat) (m : Nat) (r : Row) : Bool :=
  let A := r.ps.takeWhile fun p => decide (p < 4)
  decide (r.ps = A ++ (4 + m) :: r.ps.drop (A.length + 1)) && (A.all fun a => decide (a < 4)) && (r.ps.all fun p => decide (p < 8)) && decide (r.ps.Nodup) && decide (r.ps.length ≤ 8) && decide (r.ks.length = m) && decide ((heightsI sh).getD m 0 = A.length)
theorem sh_rows {sh : List Nat} (h : sh ∈ shapes14) {m : Nat} (hm : m < 4) {r : Row} (hr : r ∈ rowsN sh m) : ∃ A B, ShOk sh m r A B := by
  have key : ∀ sh ∈ shapes14, ∀ m, m < 4 → ∀ r ∈ rowsN sh m, shB sh m r = true := by decide +kernel
  have := key sh h m hm r hr
  unfold shB at this
  simp only [Bool.and_eq_true, decide_eq_true_eq, List.all_eq_true] at this
  obtain ⟨⟨⟨⟨⟨⟨h1, h2⟩, h3⟩, h4⟩, h5⟩, h6⟩, h7⟩ := this
  exact ⟨_, _, h1, h2, h3, h4, h5, h6, h7, rfl⟩

theorem mem_opener {c : Nat → Nat} {k x : Nat} : x ∈ openerT c k → x = 40 ∨ x = 97 + k ∨ x = 34 := by
  unfold openerT
  intro h
  split at h <;> simp at h <;> omega
theorem mem_closer {c : Nat → Nat} {k x : Nat} : x ∈ closerT c k → x = 124 ∨ (48 ≤ x ∧ x ≤ 57) ∨ x = 41 := by
  unfold closerT
  intro h
  simp only [List.mem_append, List.mem_cons, List.not_mem_nil, or_false] at h
  rcases h with (h | h) | h
  · omega
  · have := digs_range _ x h; omega
  · omega
theorem piece_lt {c : Nat → Nat} {p x : Nat} (hp : p < 8) (h : x ∈ pieceT c p) : x < 256 ∧ x ≠ 92 := by
  unfold pieceT at h
  split at h
  · have := mem_opener h; omega
  · have := mem_closer h; omega
theorem text_append (c : Nat → Nat) (a b : List Nat) : textT c (a ++ b) = textT c a ++ textT c b := by unfold textT; rw [List.flatMap_append]
theorem text_cons (c : Nat → Nat) (a : Nat) (b : List Nat) : textT c (a :: b) = pieceT c a ++ textT c b := by unfold textT; rw [List.flatMap_cons]
theorem text_size {c : Nat → Nat} : ∀ {ps : List Nat}, (∀ p ∈ ps, p < 8) → (textT c ps).length ≤ 14 * ps.length
  | [], _ => Nat.le_refl _
  | p :: ps, h => by
    rw [text_cons, List.length_append, List.length_cons]
    have ih := text_size (c := c) (ps := ps) fun q hq => h q (.tail _ hq)
    have hp := h p (.head _)
    have : (pieceT c p).length ≤ 14 := by
      unfold pieceT
      split
      · exact Nat.le_trans (openerT_len c p) (by decide)
      · exact closerT_len (by omega)
    omega
theorem text_mem {c : Nat → Nat} {ps : List Nat} {x : Nat} : x ∈ textT c ps ↔ ∃ p ∈ ps, x ∈ pieceT c p := by unfold textT; exact List.mem_flatMap
theorem opener_text {c : Nat → Nat} {A : List Nat} (h : ∀ a ∈ A, a < 4) {x : Nat} (hx : x ∈ textT c A) : x = 40 ∨ x = 34 ∨ ∃ a ∈ A, x = 97 + a := by
  obtain ⟨p, hp, hx⟩ := text_mem.mp hx
  unfold pieceT at hx
  rw [if_pos (h p hp)] at hx
  rcases mem_opener hx with h | h | h
  · exact .inl h
  · exact .inr (.inr ⟨p, hp, h⟩)
  · exact .inr (.inl h)
theorem letter_mem {c : Nat → Nat} {A : List Nat} (h : ∀ a ∈ A, a < 4) {k : Nat} (hk : k < 4) : 97 + k ∈ textT c A ↔ k ∈ A := by
  constructor
  · intro hx
    rcases opener_text h hx with h1 | h1 | ⟨a, ha, h1⟩
    · omega
    · omega
    · have : k = a := by omega
      exact this ▸ ha
  · intro hx
    refine text_mem.mpr ⟨k, hx, ?_⟩
    unfold pieceT openerT
    rw [if_pos hk]
    simp

/-- what lies ahead of the first closer -/
noncomputable def aheadT (c : Nat → Nat) (m : Nat) (A : List Nat) : List Nat := textT c A ++ ([124, 124] ++ digs (portN c m) ++ [124])
theorem text_split {c : Nat → Nat} {sh : List Nat} {m : Nat} {r : Row} {A B : List Nat} (h : ShOk sh m r A B) : textT c r.ps = aheadT c m A ++ 41 :: textT c B := by
  rw [h.eq, text_append, text_cons]
  unfold aheadT pieceT closerT
  rw [if_neg (by omega), Nat.add_sub_cancel_left]
  simp

/-! quoted segments -/
noncomputable def segA (c : Nat → Nat) (fin : List Nat) : List Nat → List Nat → List (List Nat × List Nat) × List Nat
  | acc, [] => ([], acc ++ fin)
  | acc, p :: ps => if quoted c p then (((acc ++ [40, 97 + p], [40]) :: (segA c fin [] ps).1), (segA c fin [] ps).2) else segA c fin (acc ++ [40, 97 + p]) ps
theorem segA_enc {c : Nat → Nat} {fin : List Nat} : ∀ {A : List Nat} (acc : List Nat), (∀ a ∈ A, a < 4) → enc (segA c fin acc A).1 (segA c fin acc A).2 = acc ++ textT c A ++ fin
  | [], acc, _ => by simp [segA, enc, textT]
  | p :: ps, acc, h => by
    have hp := h p (.head _)
    have h' : ∀ a ∈ ps, a < 4 := fun a ha => h a (.tail _ ha)
    rw [text_cons]
    unfold pieceT segA
    rw [if_pos hp]
    unfold openerT
    cases hq : quoted c p with
    | true =>
      simp only [if_true]
      show (acc ++ [40, 97 + p]) ++ 34 :: ([40] ++ 34 :: enc (segA c fin [] ps).1 (segA c fin [] ps).2) = _
      rw [segA_enc [] h']
      simp
    | false =>
      simp only [Bool.false_eq_true, if_false]
      rw [segA_enc _ h']
      simp
theorem segA_plain {c : Nat → Nat} {fin : List Nat} : ∀ {A : List Nat} (acc : List Nat), plainS (segA c fin acc A).1 (segA c fin acc A).2 = acc ++ (A.flatMap fun p => [40, 97 + p]) ++ fin
  | [], acc => by simp [segA, plainS]
  | p :: ps, acc => by
    unfold segA
    cases hq : quoted c p with
    | true =>
      simp only [if_true]
      show (acc ++ [40, 97 + p]) ++ plainS (segA c fin [] ps).1 (segA c fin [] ps).2 = _
      rw [segA_plain []]
      simp
    | false =>
      simp only [Bool.false_eq_true, if_false]
      rw [segA_plain]
      simp
theorem segA_ok {c : Nat → Nat} {fin : List Nat} (hf : 34 ∉ fin) : ∀ {A : List Nat} (acc : List Nat), (∀ a ∈ A, a < 4) → 34 ∉ acc → (∀ x ∈ (segA c fin acc A).1, 34 ∉ x.1 ∧ 34 ∉ x.2 ∧ 92 ∉ x.2) ∧ 34 ∉ (segA c fin acc A).2
  | [], acc, _, ha => by simp [segA, ha, hf]
  | p :: ps, acc, h, ha => by
    have hp := h p (.head _)
    have h' : ∀ a ∈ ps, a < 4 := fun a ha => h a (.tail _ ha)
    have hacc : 34 ∉ acc ++ [40, 97 + p] := by
      simp only [List.mem_append, List.mem_cons, List.not_mem_nil, or_false, not_or]
      exact ⟨ha, by decide, by omega⟩
    unfold segA
    cases hq : quoted c p with
    | true =>
      simp only [if_true]
      have ih := segA_ok (c := c) (fin := fin) hf (A := ps) [] h' (by simp)
      refine ⟨fun x hx => ?_, ih.2⟩
      rcases List.mem_cons.mp hx with rfl | hx
      · exact ⟨hacc, by simp, by simp⟩
      · exact ih.1 x hx
    | false =>
      simp only [Bool.false_eq_true, if_false]
      exact segA_ok hf _ h' hacc

theorem ahead_depth {c : Nat → Nat} {m : Nat} (hm : m < 4) {A : List Nat} (h : ∀ a ∈ A, a < 4) (hl : A.length ≤ 8) : DepthOk (aheadT c m A) A.length := by
  have hd := digs_range (portN c m)
  have hfin : ∀ x ∈ ([124, 124] ++ digs (portN c m) ++ [124]), x = 124 ∨ (48 ≤ x ∧ x ≤ 57) := fun x hx => by
    simp only [List.mem_append, List.mem_cons, List.not_mem_nil, or_false] at hx
    rcases hx with (hx | hx) | hx
    · omega
    · exact .inr (hd x hx)
    · omega
  have h34 : 34 ∉ ([124, 124] ++ digs (portN c m) ++ [124]) := fun q => by have := hfin _ q; omega
  have h40 : ([124, 124] ++ digs (portN c m) ++ [124]).count 40 = 0 := List.count_eq_zero.mpr fun q => by have := hfin _ q; omega
  have h41 : ([124, 124] ++ digs (portN c m) ++ [124]).count 41 = 0 := List.count_eq_zero.mpr fun q => by have := hfin _ q; omega
  have he := segA_enc (c := c) (fin := [124, 124] ++ digs (portN c m) ++ [124]) [] h
  have hp := segA_plain (c := c) (fin := [124, 124] ++ digs (portN c m) ++ [124]) (A := A) []
  have ho := segA_ok (c := c) h34 [] h (by simp)
  have e : aheadT c m A = enc (segA c ([124, 124] ++ digs (portN c m) ++ [124]) [] A).1 (segA c ([124, 124] ++ digs (portN c m) ++ [124]) [] A).2 := by
    rw [he]; rfl
  have hmem : ∀ x ∈ aheadT c m A, x < 256 := fun x hx => by
    unfold aheadT at hx
    rcases List.mem_append.mp hx with hx | hx
    · rcases opener_text h hx with h1 | h1 | ⟨a, ha, h1⟩
      · omega
      · omega
      · have := h a ha; omega
    · have := hfin x hx; omega
  have hsz : (aheadT c m A).length ≤ 400000 := by
    unfold aheadT
    have h1 := text_size (c := c) (ps := A) fun a ha => Nat.lt_trans (h a ha) (by decide)
    have h2 := digs_len (m := portN c m) (by have := portN_lt (c := c) hm; omega)
    rw [List.length_append, List.length_append, List.length_append]
    simp only [List.length_cons, List.length_nil]
    omega
  have cnt : ∀ (l : List Nat), (∀ a ∈ l, a < 4) → (l.flatMap fun p => [40, 97 + p]).count 40 = l.length ∧ (l.flatMap fun p => [40, 97 + p]).count 41 = 0 := by
    intro l
    induction l with
    | nil => intro _; exact ⟨rfl, rfl⟩
    | cons a l ih =>
      intro hl
      have ih := ih fun b hb => hl b (.tail _ hb)
      have ha := hl a (.head _)
      rw [List.flatMap_cons, List.count_append, List.count_append, ih.1, ih.2]
      have e1 : ([40, 97 + a] : List Nat).count 40 = 1 := by
        rw [List.count_cons, List.count_cons]
        simp; omega
      have e2 : ([40, 97 + a] : List Nat).count 41 = 0 := List.count_eq_zero.mpr (by simp; omega)
      rw [e1, e2, List.length_cons]
      omega
  refine ⟨_, _, e, hmem, fun x hx => ?_, hsz, ho.1, ho.2, ?_⟩
  · rw [hp, List.nil_append] at hx
    rcases List.mem_append.mp hx with hx | hx
    · obtain ⟨a, ha, hx⟩ := List.mem_flatMap.mp hx
      have := h a ha
      simp at hx; omega
    · have := hfin x hx; omega
  · rw [hp, List.nil_append]
    have c1 : ((A.flatMap fun p => [40, 97 + p]) ++ ([124, 124] ++ digs (portN c m) ++ [124])).count 40 = A.length := by
      rw [List.count_append, (cnt A h).1, h40]; rfl
    have c2 : ((A.flatMap fun p => [40, 97 + p]) ++ ([124, 124] ++ digs (portN c m) ++ [124])).count 41 = 0 := by
      rw [List.count_append, (cnt A h).2, h41]
    rw [c1, c2]
    omega
end Mine

end

-- part PL3
section
open PySem PySem.W PyProof.Rows PySem.Calls
set_option maxRecDepth 100000
set_option maxHeartbeats 1000000
set_option linter.unusedVariables false
namespace Mine
open Builtin Builtin.Str StrLaws

theorem at_sS {l y : List Nat} {i : Nat} : At (sS l) (sS y) (sS l).length i ↔ i + y.length ≤ l.length ∧ (l.drop i).take y.length = y := by
  unfold At subAt
  rw [sS_length, sS_length, beq_iff_eq]
  refine and_congr_right fun h => ?_
  have e : (sS l).cps.extract i (i + (sS y).length) = ((l.drop i).take y.length).toArray := by
    rw [sS_length]
    simp [sS]
  rw [sS_length] at e
  rw [e]
  constructor
  · intro q
    have := congrArg Array.toList q
    simpa [sS] using this
  · intro q
    rw [q]; rfl

theorem occ_single {pre y post : List Nat} (hy : y ≠ []) (hu : ∀ i, i + y.length ≤ (pre ++ y ++ post).length → ((pre ++ y ++ post).drop i).take y.length = y → i = pre.length) {limit : Nat} (hl : 1 ≤ limit) :
    occurrences (sS (pre ++ y ++ post)) (sS y) 0 (sS (pre ++ y ++ post)).length limit = [pre.length] := by
  have hat : At (sS (pre ++ y ++ post)) (sS y) (sS (pre ++ y ++ post)).length pre.length := at_sS.mpr ⟨by simp, by simp⟩
  have hun : ∀ i, At (sS (pre ++ y ++ post)) (sS y) (sS (pre ++ y ++ post)).length i → i = pre.length := fun i h => hu i (at_sS.mp h).1 (at_sS.mp h).2
  rcases occ_head (sS (pre ++ y ++ post)) (sS y) limit hl with ⟨_, hn⟩ | ⟨i, r, e, hi, _⟩
  · exact absurd hat (hn _)
  · have hi' := hun i hi
    subst hi'
    obtain ⟨f, hch⟩ := occ_chain (sS (pre ++ y ++ post)) (sS y) limit
    rw [e] at hch
    cases r with
    | nil => exact e
    | cons j r =>
      obtain ⟨_, _, h1, h2, _⟩ := hch
      have := hun j h2
      rw [sS_length] at h1
      have : 1 ≤ y.length := by cases y with | nil => exact absurd rfl hy | cons a l => simp
      omega

/-- one piece taken out of a text -/
theorem replace_off {pre y post : List Nat} (hy : y ≠ []) (hu : ∀ i, i + y.length ≤ (pre ++ y ++ post).length → ((pre ++ y ++ post).drop i).take y.length = y → i = pre.length) :
    Txt.replace (sS (pre ++ y ++ post)) (sS y) (sS []) = sS (pre ++ post) := by
  have ho := occ_single hy hu (limit := (sS (pre ++ y ++ post)).length + 1) (by omega)
  unfold Txt.replace
  rw [ho]
  have hc : (([pre.length] : List Nat).isEmpty || ((sS y).length == 0 && (sS []).length == 0)) = false := by
    rw [sS_length]
    cases y with
    | nil => exact absurd rfl hy
    | cons a l => rfl
  rw [if_neg (by rw [hc]; decide)]
  show (⟨(strSub (sS (pre ++ y ++ post)) 0 pre.length).cps ++ (sS []).cps ++ (strSub (sS (pre ++ y ++ post)) (pre.length + (sS y).length) (sS (pre ++ y ++ post)).length).cps⟩ : Str) = _
  unfold strSub
  rw [sS_length, sS_length]
  simp [sS]
  exact List.take_of_length_le (by omega)

/-- the letter of an opener stands once -/
theorem letter_once {c : Nat → Nat} {ps : List Nat} (hlt : ∀ p ∈ ps, p < 8) (hnd : ps.Nodup) {A B : List Nat} {k : Nat} (hk : k < 4) (e : ps = A ++ k :: B) {i : Nat} (h : (textT c ps)[i]? = some (97 + k)) : i = (textT c A).length + 1 := by
  have hno : ∀ q ∈ ps, q ≠ k → 97 + k ∉ pieceT c q := fun q hq hne hm => by
    unfold pieceT at hm
    split at hm
    · have := mem_opener hm; omega
    · have := mem_closer hm; omega
  rw [e] at hnd
  have hA : 97 + k ∉ textT c A := fun hm => by
    obtain ⟨q, hq, hm⟩ := text_mem.mp hm
    refine hno q (by rw [e]; simp [hq]) (fun x => ?_) hm
    subst x
    exact absurd (List.nodup_append.mp hnd).2.2 (fun x => x q hq q (.head _) rfl)
  have hB : 97 + k ∉ textT c B := fun hm => by
    obtain ⟨q, hq, hm⟩ := text_mem.mp hm
    refine hno q (by rw [e]; simp [hq]) (fun x => ?_) hm
    subst x
    exact (List.nodup_cons.mp (List.nodup_append.mp hnd).2.1).1 hq
  rw [e, text_append, text_cons] at h
  rcases Nat.lt_or_ge i (textT c A).length with h1 | h1
  · rw [List.getElem?_append_left h1] at h
    exact absurd (List.mem_of_getElem? h) hA
  · rw [List.getElem?_append_right h1] at h
    have hp : pieceT c k = 40 :: (97 + k) :: (if quoted c k then [34, 40, 34] else []) := by
      unfold pieceT openerT
      rw [if_pos hk]; rfl
    rw [hp] at h
    obtain ⟨j, hj⟩ : ∃ j, j = i - (textT c A).length := ⟨_, rfl⟩
    rw [← hj] at h
    match j, h with
    | 0, h => simp at h; omega
    | 1, _ => omega
    | j + 2, h =>
      simp only [List.cons_append, List.getElem?_cons_succ] at h
      have := List.mem_of_getElem? h
      rcases List.mem_append.mp this with h2 | h2
      · split at h2 <;> simp at h2 <;> omega
      · exact absurd h2 hB

theorem opener_once {c : Nat → Nat} {ps : List Nat} (hlt : ∀ p ∈ ps, p < 8) (hnd : ps.Nodup) {A B : List Nat} {k : Nat} (hk : k < 4) (e : ps = A ++ k :: B) {i : Nat} (h1 : i + (openerT c k).length ≤ (textT c ps).length) (h2 : ((textT c ps).drop i).take (openerT c k).length = openerT c k) : i = (textT c A).length := by
  have hp : openerT c k = 40 :: (97 + k) :: (if quoted c k then [34, 40, 34] else []) := rfl
  have h3 : (((textT c ps).drop i).take (openerT c k).length)[1]? = some (97 + k) := by rw [h2, hp]; rfl
  rw [List.getElem?_take_of_lt (by rw [hp]; simp), List.getElem?_drop] at h3
  have := letter_once hlt hnd hk e h3
  omega

/-- texts that end in a closer -/
theorem closer_end {d d' u u' : List Nat} (hd : ∀ x ∈ d, 48 ≤ x ∧ x ≤ 57) (hd' : ∀ x ∈ d', 48 ≤ x ∧ x ≤ 57) (h : u ++ ([124, 124] ++ d ++ [124, 41]) = u' ++ ([124, 124] ++ d' ++ [124, 41])) : d = d' ∧ u = u' := by
  have hr := congrArg List.reverse h
  simp only [List.reverse_append, List.reverse_cons, List.reverse_nil, List.nil_append, List.append_assoc, List.cons_append, List.singleton_append] at hr
  have key : ∀ (a b s t : List Nat), (∀ x ∈ a, 48 ≤ x ∧ x ≤ 57) → (∀ x ∈ b, 48 ≤ x ∧ x ≤ 57) → a ++ 124 :: s = b ++ 124 :: t → a = b ∧ s = t := by
    intro a
    induction a with
    | nil =>
      intro b s t _ hb e
      cases b with
      | nil => simp at e; exact ⟨rfl, e⟩
      | cons x b =>
        have := hb x (.head _)
        simp at e; omega
    | cons x a ih =>
      intro b s t ha hb e
      cases b with
      | nil =>
        have := ha x (.head _)
        simp at e; omega
      | cons y b =>
        simp only [List.cons_append, List.cons.injEq] at e
        obtain ⟨h1, h2⟩ := ih b s t (fun x hx => ha x (.tail _ hx)) (fun x hx => hb x (.tail _ hx)) e.2
        exact ⟨by rw [e.1, h1], h2⟩
  simp only [List.cons.injEq, true_and] at hr
  obtain ⟨h1, h2⟩ := key d.reverse d'.reverse _ _ (fun x hx => hd x (List.mem_reverse.mp hx)) (fun x hx => hd' x (List.mem_reverse.mp hx)) hr
  refine ⟨List.reverse_inj.mp h1, ?_⟩
  simp only [List.cons.injEq, true_and] at h2
  exact List.reverse_inj.mp h2
end Mine

end

-- part PL4
section
open PySem PySem.W PyProof.Rows PySem.Calls
set_option maxRecDepth 100000
set_option maxHeartbeats 1000000
set_option linter.unusedVariables false
namespace Mine
open Builtin Builtin.Str StrLaws

theorem split_one {a : Nat} : ∀ {C C0 B B0 : List Nat}, a ∉ C → a ∉ C0 → C ++ a :: B = C0 ++ a :: B0 → C = C0
  | [], [], _, _, _, _, _ => rfl
  | [], x :: C0, _, _, _, h0, e => by simp at e; exact absurd (e.1 ▸ List.mem_cons_self) h0
  | x :: C, [], _, _, h, _, e => by simp at e; exact absurd (e.1 ▸ List.mem_cons_self) h
  | x :: C, y :: C0, B, B0, h, h0, e => by
    simp only [List.cons_append, List.cons.injEq] at e
    rw [e.1, split_one (fun q => h (.tail _ q)) (fun q => h0 (.tail _ q)) e.2]

theorem close_at {c : Nat → Nat} : ∀ {ps : List Nat} {j : Nat}, (∀ p ∈ ps, p < 8) → (textT c ps)[j]? = some 41 → ∃ C p B, ps = C ++ p :: B ∧ 4 ≤ p ∧ p < 8 ∧ j + 1 = (textT c C).length + (pieceT c p).length
  | [], j, _, h => by simp [textT] at h
  | p :: ps, j, hlt, h => by
    have hp := hlt p (.head _)
    rw [text_cons] at h
    rcases Nat.lt_or_ge j (pieceT c p).length with h1 | h1
    · rw [List.getElem?_append_left h1] at h
      have hm := List.mem_of_getElem? h
      have h4 : 4 ≤ p := by
        rcases Nat.lt_or_ge p 4 with h4 | h4
        · unfold pieceT at hm
          rw [if_pos h4] at hm
          have := mem_opener hm; omega
        · exact h4
      refine ⟨[], p, ps, rfl, h4, hp, ?_⟩
      have hpc : pieceT c p = ([124, 124] ++ digs (portN c (p - 4)) ++ [124]) ++ [41] := by
        unfold pieceT closerT
        rw [if_neg (by omega)]; simp
      rw [hpc] at h h1 ⊢
      rw [List.length_append, List.length_singleton] at h1
      rcases Nat.lt_or_ge j ([124, 124] ++ digs (portN c (p - 4)) ++ [124]).length with h2 | h2
      · rw [List.getElem?_append_left h2] at h
        have hm := List.mem_of_getElem? h
        simp only [List.mem_append, List.mem_cons, List.not_mem_nil, or_false] at hm
        rcases hm with (hm | hm) | hm
        · omega
        · have := digs_range _ _ hm; omega
        · omega
      · rw [List.length_append, List.length_singleton]
        simp only [textT, List.flatMap_nil, List.length_nil]
        omega
    · rw [List.getElem?_append_right h1] at h
      obtain ⟨C, q, B, e, h4, h8, hj⟩ := close_at (fun q hq => hlt q (.tail _ hq)) h
      refine ⟨p :: C, q, B, by rw [e]; rfl, h4, h8, ?_⟩
      rw [text_cons, List.length_append]
      omega

theorem closer_once {c : Nat → Nat} {ps : List Nat} (hlt : ∀ p ∈ ps, p < 8) (hnd : ps.Nodup) {A B : List Nat} {m : Nat} (hm : m < 4) (e : ps = A ++ (4 + m) :: B) {i : Nat} (h1 : i + (closerT c m).length ≤ (textT c ps).length) (h2 : ((textT c ps).drop i).take (closerT c m).length = closerT c m) : i = (textT c A).length := by
  have hlen : 1 ≤ (closerT c m).length := by unfold closerT; simp
  have hlast : (closerT c m)[(closerT c m).length - 1]? = some 41 := by
    have : closerT c m = ([124, 124] ++ digs (portN c m) ++ [124]) ++ [41] := by unfold closerT; simp
    rw [this, List.length_append, List.length_singleton, Nat.add_sub_cancel, List.getElem?_append_right (Nat.le_refl _)]
    simp
  have hj : (textT c ps)[i + ((closerT c m).length - 1)]? = some 41 := by
    rw [← h2, List.getElem?_take_of_lt (by rw [h2]; omega), List.getElem?_drop] at hlast
    rw [h2] at hlast
    exact hlast
  obtain ⟨C, p, B', e', h4, h8, hjj⟩ := close_at hlt hj
  have htake : (textT c ps).take (i + (closerT c m).length) = (textT c ps).take i ++ closerT c m := by
    rw [List.take_add, h2]
  have htake' : (textT c ps).take (i + (closerT c m).length) = textT c C ++ pieceT c p := by
    have hl : i + (closerT c m).length = (textT c C).length + (pieceT c p).length := by omega
    rw [hl, e', text_append, text_cons, ← List.append_assoc, ← List.length_append, List.take_left']
    rfl
  have hpc : pieceT c p = closerT c (p - 4) := by unfold pieceT; rw [if_neg (by omega)]
  rw [htake, hpc] at htake'
  have hce := closer_end (digs_range (portN c m)) (digs_range (portN c (p - 4))) htake'
  have hpm : m = p - 4 := portN_inj hm (by omega) (digs_inj hce.1)
  have hpe : p = 4 + m := by omega
  subst hpe
  have hCA : C = A := by
    have hn1 : (4 + m) ∉ C := fun q => by
      rw [e'] at hnd
      exact absurd (List.nodup_append.mp hnd).2.2 (fun x => x _ q _ (.head _) rfl)
    have hn2 : (4 + m) ∉ A := fun q => by
      rw [e] at hnd
      exact absurd (List.nodup_append.mp hnd).2.2 (fun x => x _ q _ (.head _) rfl)
    exact split_one hn1 hn2 (e'.symm.trans e)
  have hli := congrArg List.length hce.2
  rw [List.length_take] at hli
  rw [← hCA]
  omega
end Mine

end

-- part PL5
section
open PySem PySem.W PyProof.Rows PySem.Calls
set_option maxRecDepth 100000
set_option maxHeartbeats 1000000
set_option linter.unusedVariables false
namespace Mine
open Builtin Builtin.Str StrLaws

theorem filter_off {a : Nat} {C B : List Nat} (h : (C ++ a :: B).Nodup) : (C ++ a :: B).filter (fun p => p != a) = C ++ B := by
  have h1 : a ∉ C := fun q => absurd (List.nodup_append.mp h).2.2 (fun x => x _ q _ (.head _) rfl)
  have h2 : a ∉ B := (List.nodup_cons.mp (List.nodup_append.mp h).2.1).1
  rw [List.filter_append, List.filter_cons]
  have k : ∀ l : List Nat, a ∉ l → l.filter (fun p => p != a) = l := fun l hl => List.filter_eq_self.mpr fun x hx => by
    simp only [bne_iff_ne, ne_eq]
    rintro rfl; exact hl hx
  rw [k C h1, k B h2]
  simp

theorem pick_ok {c : Nat → Nat} {sh : List Nat} {m : Nat} (hm : m < 4) {r : Row} {A B : List Nat} (S : ShOk sh m r A B) {k : Nat} (hk : k ∈ waitingN r.ps) : PickOk c r.ps k m := by
  have hkA : k ∈ A := by
    have := (List.mem_filter.mp hk).2
    rw [decide_eq_true_eq, ← S.wait] at this
    exact this
  have hk4 := S.low k hkA
  obtain ⟨A1, A2, rfl⟩ := List.append_of_mem hkA
  have hps : r.ps = A1 ++ k :: (A2 ++ (4 + m) :: B) := by rw [S.eq]; simp
  have hsz : (textT c r.ps).length ≤ 1000 := by
    have := text_size (c := c) S.lt
    have := S.len
    omega
  have hpk : pieceT c k = openerT c k := by unfold pieceT; rw [if_pos hk4]
  have hpm : pieceT c (4 + m) = closerT c m := by unfold pieceT; rw [if_neg (by omega), Nat.add_sub_cancel_left]
  have htx : textT c r.ps = textT c A1 ++ openerT c k ++ textT c (A2 ++ (4 + m) :: B) := by
    rw [hps, text_append, text_cons, hpk, List.append_assoc]
  have hu1 : ∀ i, i + (openerT c k).length ≤ (textT c A1 ++ openerT c k ++ textT c (A2 ++ (4 + m) :: B)).length → ((textT c A1 ++ openerT c k ++ textT c (A2 ++ (4 + m) :: B)).drop i).take (openerT c k).length = openerT c k → i = (textT c A1).length := by
    rw [← htx]
    exact fun i h1 h2 => opener_once S.lt S.nd hk4 hps h1 h2
  have hop : openerT c k = 40 :: (97 + k) :: (if quoted c k then [34, 40, 34] else []) := rfl
  refine ⟨⟨(textT c A1).length, [], (97 + k) :: (if quoted c k then [34, 40, 34] else []) ++ textT c A2, textT c B, ?_, ?_, ?_, ?_, ?_, ?_⟩, ⟨textT c ((A1 ++ A2) ++ (4 + m) :: B), ?_, ?_, ?_⟩, hsz⟩
  · rw [htx]
    exact occ_single (openerT_ne c k) hu1 (Nat.le_refl 1)
  · rw [htx, hop]
    simp
  · rw [htx, hop]
    unfold rep229
    rw [List.append_assoc, List.drop_append, List.drop_eq_nil_of_le (by omega), text_append, text_cons, hpm]
    unfold closerT
    rw [show (textT c A1).length + 1 - (textT c A1).length = 1 by omega]
    simp
  · intro q
    rcases List.mem_append.mp q with q | q
    · rcases List.mem_cons.mp q with q | q
      · omega
      · split at q <;> simp at q
    · rcases opener_text (fun a ha => S.low a (by simp [ha])) q with h | h | ⟨a, ha, h⟩
      · omega
      · omega
      · have := S.low a (by simp [ha])
        omega
  · intro q
    rcases List.mem_append.mp q with q | q
    · rcases List.mem_cons.mp q with q | q
      · omega
      · split at q <;> simp at q
    · rcases opener_text (fun a ha => S.low a (by simp [ha])) q with h | h | ⟨a, ha, h⟩
      · omega
      · omega
      · have := S.low a (by simp [ha])
        omega
  · have h1 : (textT c A2).length + (textT c B).length ≤ (textT c r.ps).length := by
      rw [htx, text_append, text_cons]
      simp only [List.length_append]
      omega
    have h2 : (if quoted c k then [34, 40, 34] else ([] : List Nat)).length ≤ 3 := by split <;> simp
    simp only [List.length_append, List.length_cons]
    omega
  · rw [htx, replace_off (openerT_ne c k) hu1, ← text_append, List.append_assoc]
  · have : (textT c ((A1 ++ A2) ++ (4 + m) :: B)).length ≤ (textT c r.ps).length := by
      rw [htx, List.append_assoc, text_append, List.length_append, List.length_append, List.length_append]
      omega
    omega
  · have hnd' : ((A1 ++ A2) ++ (4 + m) :: B).Nodup ∧ r.ps.filter (fun p => p != k) = (A1 ++ A2) ++ (4 + m) :: B := by
      have hn := S.nd
      rw [hps] at hn
      have hf := filter_off hn
      rw [← hps] at hf
      rw [hf]
      refine ⟨?_, by simp⟩
      have := S.nd.filter (fun p => p != k)
      rw [hf] at this
      rwa [List.append_assoc]
    have hlt' : ∀ p ∈ (A1 ++ A2) ++ (4 + m) :: B, p < 8 := fun p hp => by
      rw [← hnd'.2] at hp
      exact S.lt p (List.mem_filter.mp hp).1
    have htx2 : textT c ((A1 ++ A2) ++ (4 + m) :: B) = textT c (A1 ++ A2) ++ closerT c m ++ textT c B := by
      rw [text_append, text_cons, hpm, List.append_assoc]
    have hu2 : ∀ i, i + (closerT c m).length ≤ (textT c (A1 ++ A2) ++ closerT c m ++ textT c B).length → ((textT c (A1 ++ A2) ++ closerT c m ++ textT c B).drop i).take (closerT c m).length = closerT c m → i = (textT c (A1 ++ A2)).length := by
      rw [← htx2]
      exact fun i h1 h2 => closer_once hlt' hnd'.1 hm rfl h1 h2
    rw [htx2, replace_off (closerT_ne c m) hu2, ← text_append]
    unfold takeOff
    rw [hnd'.2, filter_off hnd'.1]

theorem row_ok {c : Nat → Nat} {sh : List Nat} (hsh : sh ∈ shapes14) {m : Nat} (hm : m < 4) {r : Row} (hr : r ∈ rowsN sh m) : RowOk c sh m r := by
  obtain ⟨A, B, S⟩ := sh_rows hsh hm hr
  have hA8 : A.length ≤ 8 := by
    have := S.len
    rw [S.eq, List.length_append] at this
    omega
  have hfin : ∀ x ∈ ([124, 124] ++ digs (portN c m) ++ [124]), x = 124 ∨ (48 ≤ x ∧ x ≤ 57) := fun x hx => by
    simp only [List.mem_append, List.mem_cons, List.not_mem_nil, or_false] at hx
    rcases hx with (hx | hx) | hx
    · omega
    · exact .inr (digs_range _ x hx)
    · omega
  refine ⟨⟨aheadT c m A, textT c B, text_split S, fun q => ?_, fun k hk => ?_, ?_⟩, fun k hk => pick_ok hm S hk, ?_, S.ks⟩
  · unfold aheadT at q
    rcases List.mem_append.mp q with q | q
    · rcases opener_text S.low q with h | h | ⟨a, ha, h⟩
      · omega
      · omega
      · have := S.low a ha; omega
    · have := hfin _ q; omega
  · refine decide_eq_decide.mpr ?_
    have hw : k ∈ waitingN r.ps ↔ k ∈ A := by
      unfold waitingN
      rw [List.mem_filter, List.mem_range, decide_eq_true_eq, ← S.wait]
      exact ⟨fun h => h.2, fun h => ⟨hk, h⟩⟩
    rw [hw, ← letter_mem (c := c) S.low hk]
    unfold aheadT
    rw [List.mem_append]
    constructor
    · rintro (h | h)
      · exact h
      · have := hfin _ h; omega
    · exact .inl
  · rw [S.ht]
    exact ahead_depth hm S.low hA8
  · have := text_size (c := c) S.lt
    have := S.len
    omega
end Mine

end

-- part PL6
section
open PySem PySem.W PyProof.Rows PySem.Calls
set_option maxRecDepth 100000
set_option maxHeartbeats 1000000
set_option linter.unusedVariables false
namespace Mine
open Builtin Builtin.Str StrLaws

theorem dbl_app (c : Nat) (a b : List Nat) : dbl c (a ++ b) = dbl c a ++ dbl c b := dbl_append c a b
theorem dbl_none {c : Nat} {a : List Nat} (h : c ∉ a) : dbl c a = a := dbl_free c a h

noncomputable def segB (c : Nat → Nat) : List Nat → List Nat → List Nat → List (List Nat × List Nat)
  | p, acc, [] => [(p, acc)]
  | p, acc, x :: xs => if x < 4 ∧ quoted c x = true then (p, acc ++ [40, 97 + x]) :: ([], [40]) :: segB c [] [] xs else segB c p (acc ++ pieceT c x) xs

theorem no_quote {c : Nat → Nat} {x : Nat} (hx : x < 8) (h : ¬ (x < 4 ∧ quoted c x = true)) : 34 ∉ pieceT c x ∧ 92 ∉ pieceT c x := by
  refine ⟨fun q => ?_, fun q => (piece_lt hx q).2 rfl⟩
  unfold pieceT at q
  split at q
  · rename_i h4
    have hq : quoted c x = false := by
      cases hq : quoted c x with
      | true => exact absurd ⟨h4, hq⟩ h
      | false => rfl
    unfold openerT at q
    rw [hq] at q
    simp at q; omega
  · have := mem_closer q; omega

theorem segB_enc {c : Nat → Nat} {tail : List Nat} : ∀ {ps : List Nat} (p acc : List Nat), (∀ x ∈ ps, x < 8) → enc (segB c p acc ps) tail = p ++ 34 :: (acc ++ dbl 34 (textT c ps) ++ 34 :: tail)
  | [], p, acc, _ => by simp [segB, enc, textT, dbl]
  | x :: xs, p, acc, h => by
    have h' : ∀ y ∈ xs, y < 8 := fun y hy => h y (.tail _ hy)
    rw [text_cons, dbl_app]
    unfold segB
    by_cases hq : x < 4 ∧ quoted c x = true
    · rw [if_pos hq]
      show p ++ 34 :: ((acc ++ [40, 97 + x]) ++ 34 :: ([] ++ 34 :: ([40] ++ 34 :: enc (segB c [] [] xs) tail))) = _
      rw [segB_enc [] [] h']
      have hp : dbl 34 (pieceT c x) = [40, 97 + x, 34, 34, 40, 34, 34] := by
        unfold pieceT openerT
        rw [if_pos hq.1, if_pos hq.2, dbl_app, dbl_none (a := [40, 97 + x]) (by simp; omega)]
        rfl
      rw [hp]
      simp
    · rw [if_neg hq, segB_enc _ _ h', dbl_none (no_quote (h x (.head _)) hq).1]
      simp
theorem segB_plain {c : Nat → Nat} {tail : List Nat} : ∀ {ps : List Nat} (p acc : List Nat), plainS (segB c p acc ps) tail = p ++ tail
  | [], p, acc => by simp [segB, plainS]
  | x :: xs, p, acc => by
    unfold segB
    by_cases hq : x < 4 ∧ quoted c x = true
    · rw [if_pos hq]
      show p ++ ([] ++ plainS (segB c [] [] xs) tail) = _
      rw [segB_plain]; rfl
    · rw [if_neg hq, segB_plain]
theorem segB_ok {c : Nat → Nat} : ∀ {ps : List Nat} (p acc : List Nat), (∀ x ∈ ps, x < 8) → 34 ∉ p → 34 ∉ acc → 92 ∉ acc → ∀ z ∈ segB c p acc ps, 34 ∉ z.1 ∧ 34 ∉ z.2 ∧ 92 ∉ z.2
  | [], p, acc, _, h1, h2, h3 => by
    intro z hz
    simp only [segB, List.mem_cons, List.not_mem_nil, or_false] at hz
    subst hz
    exact ⟨h1, h2, h3⟩
  | x :: xs, p, acc, h, h1, h2, h3 => by
    have h' : ∀ y ∈ xs, y < 8 := fun y hy => h y (.tail _ hy)
    unfold segB
    by_cases hq : x < 4 ∧ quoted c x = true
    · rw [if_pos hq]
      intro z hz
      rcases List.mem_cons.mp hz with rfl | hz
      · refine ⟨h1, ?_, ?_⟩
        · show 34 ∉ acc ++ [40, 97 + x]
          simp only [List.mem_append, List.mem_cons, List.not_mem_nil, or_false, not_or]
          exact ⟨h2, by omega, by omega⟩
        · show 92 ∉ acc ++ [40, 97 + x]
          simp only [List.mem_append, List.mem_cons, List.not_mem_nil, or_false, not_or]
          exact ⟨h3, by omega, by omega⟩
      · rcases List.mem_cons.mp hz with rfl | hz
        · exact ⟨by simp, by simp, by simp⟩
        · exact segB_ok [] [] h' (by simp) (by simp) (by simp) z hz
    · rw [if_neg hq]
      have hn := no_quote (h x (.head _)) hq
      refine segB_ok p _ h' h1 ?_ ?_
      · simp only [List.mem_append, not_or]; exact ⟨h2, hn.1⟩
      · simp only [List.mem_append, not_or]; exact ⟨h3, hn.2⟩

theorem pieces_ok {sh : List Nat} (h : sh ∈ shapes14) : ∀ p ∈ piecesN sh, p < 8 := by
  have : ∀ sh ∈ shapes14, ∀ p ∈ piecesN sh, p < 8 := by decide +kernel
  exact this sh h
theorem word_len {c : Nat → Nat} {sh : List Nat} (h : sh ∈ shapes14) : (wordT c sh).length ≤ 112 := by
  have := text_size (c := c) (pieces_ok h)
  have e : (piecesN sh).length = 8 := by unfold piecesN; rw [List.length_map, List.length_range]
  unfold wordT
  omega

theorem reply_ok {c : Nat → Nat} {sh : List Nat} (h : sh ∈ shapes14) : DepthOk (rep257 (wordT c sh)) 1 := by
  have hp := pieces_ok h
  have he := segB_enc (c := c) (tail := [32, 40]) [50, 53, 55, 32] [] hp
  have hl := segB_plain (c := c) (tail := [32, 40]) (ps := piecesN sh) [50, 53, 55, 32] []
  have ho := segB_ok (c := c) [50, 53, 55, 32] [] hp (by decide) (by simp) (by simp)
  have e : rep257 (wordT c sh) = enc (segB c [50, 53, 55, 32] [] (piecesN sh)) [32, 40] := by
    rw [he]
    unfold rep257 wordT
    simp
  have hdl := dbl_length 34 (wordT c sh)
  have hwl := word_len (c := c) h
  have hdm : ∀ x ∈ dbl 34 (wordT c sh), x ∈ wordT c sh := by
    have key : ∀ l : List Nat, ∀ x ∈ dbl 34 l, x ∈ l := by
      intro l
      induction l with
      | nil => intro x hx; exact hx
      | cons a l ih =>
        intro x hx
        unfold dbl at hx
        split at hx
        · simp only [List.mem_cons] at hx
          rcases hx with hx | hx | hx
          · exact hx ▸ .head _
          · exact hx ▸ .head _
          · exact .tail _ (ih x hx)
        · rcases List.mem_cons.mp hx with hx | hx
          · exact hx ▸ .head _
          · exact .tail _ (ih x hx)
    exact key _
  refine ⟨_, _, e, fun x hx => ?_, fun x hx => ?_, ?_, ho, by decide, ?_⟩
  · unfold rep257 at hx
    rcases List.mem_append.mp hx with hx | hx
    · simp at hx; omega
    · rcases List.mem_append.mp hx with hx | hx
      · obtain ⟨p, hpp, hx⟩ := text_mem.mp (hdm x hx)
        exact (piece_lt (hp p hpp) hx).1
      · simp at hx; omega
  · rw [hl] at hx
    simp at hx; omega
  · unfold rep257
    simp only [List.length_append, List.length_cons, List.length_nil]
    omega
  · rw [hl]; decide
end Mine

end

-- part PL7
section
open PySem PySem.W PyProof.Rows PySem.Calls
set_option maxRecDepth 100000
set_option maxHeartbeats 1000000
set_option linter.unusedVariables false
namespace Mine

/-- the fold of the rows, part by part -/
theorem tot_a {c : Nat → Nat} {sh : List Nat} : ∀ (l : List Row) (T : Tot), (l.foldl (addT c sh) T).a = T.a + l.length ∧
    (l.foldl (addT c sh) T).b = T.b + ((l.map fun r => withinN (wayI c) sh r.ks).sum : Nat) ∧
    (l.foldl (addT c sh) T).s = T.s + (l.map fun r => if withinN (wayI c) sh r.ks % 2 = 1 then -prodW c r.ks else prodW c r.ks).sum ∧
    (l.foldl (addT c sh) T).t = T.t + (l.map fun r => (2 : Int) ^ (wideN c * withinN (wayI c) sh r.ks)).sum ∧
    (l.foldl (addT c sh) T).l = (l.map fun r => (withinN (wayI c) sh r.ks : Int)).foldl (fun acc k => addC acc [(k, 1)] 1) T.l
  | [], T => by simp
  | r :: l, T => by
    obtain ⟨h1, h2, h3, h4, h5⟩ := tot_a l (addT c sh T r)
    have e1 : (addT c sh T r).a = 1 + T.a := rfl
    have e2 : (addT c sh T r).b = (withinN (wayI c) sh r.ks : Int) + T.b := rfl
    have e3 : (addT c sh T r).s = (if withinN (wayI c) sh r.ks % 2 = 1 then -prodW c r.ks else prodW c r.ks) + T.s := rfl
    have e4 : (addT c sh T r).t = 2 ^ (wideN c * withinN (wayI c) sh r.ks) + T.t := rfl
    have e5 : (addT c sh T r).l = addC T.l [((withinN (wayI c) sh r.ks : Int), 1)] 1 := rfl
    rw [List.foldl_cons, h1, h2, h3, h4, h5, e1, e2, e3, e4, e5]
    simp only [List.map_cons, List.sum_cons, List.length_cons, List.foldl_cons]
    push_cast
    refine ⟨by omega, by omega, by omega, by omega, trivial⟩

/-- the within counts of all rows do not depend on the way -/
noncomputable def withinsN (sh : List Nat) : List Nat := (rowsN sh 4).map fun r => withinN 1 sh r.ks
theorem withins_way {sh : List Nat} (h : sh ∈ shapes14) (c : Nat → Nat) : ((rowsN sh 4).map fun r => withinN (wayI c) sh r.ks) = withinsN sh := by
  rcases way_cases c with e | e <;> rw [e]
  · rfl
  · have : ∀ sh ∈ shapes14, ((rowsN sh 4).map fun r => withinN (-1) sh r.ks) = withinsN sh := by decide +kernel
    exact this sh h

noncomputable def countsL (sh : List Nat) : List (Int × Int) := ((withinsN sh).map fun k : Nat => (k : Int)).foldl (fun acc k => addC acc [(k, 1)] 1) []
theorem cnt_facts {sh : List Nat} (h : sh ∈ shapes14) : ((rowsN sh 4).length : Int) = waysI sh 4 ∧ ((countsL sh).map (·.2)).sum = waysI sh 4 ∧ 2 * ((withinsN sh).sum : Int) = waysI sh 4 * stepsI sh ∧ 0 ≤ stepsI sh ∧ stepsI sh ≤ 6 ∧ (withinsN sh).sum ≤ 200 := by
  have : ∀ sh ∈ shapes14, ((rowsN sh 4).length : Int) = waysI sh 4 ∧ ((countsL sh).map (·.2)).sum = waysI sh 4 ∧ 2 * ((withinsN sh).sum : Int) = waysI sh 4 * stepsI sh ∧ 0 ≤ stepsI sh ∧ stepsI sh ≤ 6 ∧ (withinsN sh).sum ≤ 200 := by decide +kernel
  exact this sh h
theorem heights_ok {sh : List Nat} (h : sh ∈ shapes14) : ∀ x ∈ heightsI sh, 1 ≤ x ∧ x ≤ 4 := by
  have : ∀ sh ∈ shapes14, ∀ x ∈ heightsI sh, 1 ≤ x ∧ x ≤ 4 := by decide +kernel
  exact this sh h

theorem tot_all {c : Nat → Nat} {sh : List Nat} (h : sh ∈ shapes14) : (totE c sh).a = (rowsN sh 4).length ∧ (totE c sh).b = ((withinsN sh).sum : Nat) ∧
    (totE c sh).s = ((rowsN sh 4).map fun r => if withinN (wayI c) sh r.ks % 2 = 1 then -prodW c r.ks else prodW c r.ks).sum ∧
    (totE c sh).t = ((withinsN sh).map fun k => (2 : Int) ^ (wideN c * k)).sum ∧ (totE c sh).l = countsL sh := by
  have k := tot_a (c := c) (sh := sh) (rowsN sh 4) ⟨0, 0, 0, 0, []⟩
  have e : totE c sh = (rowsN sh 4).foldl (addT c sh) ⟨0, 0, 0, 0, []⟩ := by
    unfold totE totalT
    rw [List.take_length]
  rw [e]
  obtain ⟨h1, h2, h3, h4, h5⟩ := k
  have hw := withins_way h c
  rw [h1, h2, h3, h4, h5]
  refine ⟨by simp, ?_, by simp, ?_, ?_⟩
  · rw [hw]; simp
  · rw [← hw, List.map_map]; simp [Function.comp_def]
  · unfold countsL
    rw [← hw, List.map_map]; rfl
end Mine

end

-- part PL8
section
open PySem PySem.W PyProof.Rows PySem.Calls
set_option maxRecDepth 100000
set_option maxHeartbeats 1000000
set_option linter.unusedVariables false
namespace Mine

/-! polynomials as lists -/
noncomputable def pev (q : Int) : List Int → Int
  | [] => 0
  | a :: l => a + q * pev q l
noncomputable def padd : List Int → List Int → List Int
  | [], l => l
  | l, [] => l
  | a :: l, b :: m => (a + b) :: padd l m
noncomputable def pmul : List Int → List Int → List Int
  | [], _ => []
  | a :: l, m => padd (m.map (a * ·)) (0 :: pmul l m)
theorem pev_add (q : Int) : ∀ l m, pev q (padd l m) = pev q l + pev q m
  | [], l => by simp [padd, pev]
  | a :: l, [] => by simp [padd, pev]
  | a :: l, b :: m => by
    show (a + b) + q * pev q (padd l m) = (a + q * pev q l) + (b + q * pev q m)
    rw [pev_add q l m, Int.mul_add]; omega
theorem pev_scale (q a : Int) : ∀ m, pev q (m.map (a * ·)) = a * pev q m
  | [] => by simp [pev]
  | b :: m => by
    show a * b + q * pev q (m.map (a * ·)) = a * (b + q * pev q m)
    rw [pev_scale q a m, Int.mul_add, Int.mul_left_comm q a]
theorem pev_mul (q : Int) : ∀ l m, pev q (pmul l m) = pev q l * pev q m
  | [], m => by simp [pmul, pev]
  | a :: l, m => by
    show pev q (padd (m.map (a * ·)) (0 :: pmul l m)) = (a + q * pev q l) * pev q m
    rw [pev_add, pev_scale]
    show a * pev q m + (0 + q * pev q (pmul l m)) = _
    rw [pev_mul q l m, Int.add_mul, Int.mul_assoc, Int.zero_add]
theorem pev_ones (q : Int) : ∀ h : Nat, pev q (List.replicate h 1) * (q - 1) = q ^ h - 1
  | 0 => by simp [pev]
  | h + 1 => by
    show (1 + q * pev q (List.replicate h 1)) * (q - 1) = _
    rw [Int.add_mul, Int.mul_assoc, pev_ones q h, Int.pow_succ, Int.mul_comm (q ^ h) q, Int.mul_sub q (q ^ h) 1]
    omega

noncomputable def coefL (sh : List Nat) : List Int := (List.range ((stepsI sh).toNat + 1)).map fun k => ((withinsN sh).count k : Int)
theorem pev_units (q : Int) : ∀ (l : List Nat) (n : Nat), (∀ k ∈ l, k < n) → pev q ((List.range n).map fun k => (l.count k : Int)) = (l.map fun k => q ^ k).sum := by
  have zero : ∀ (m : List Nat), pev q (m.map fun _ => (0 : Int)) = 0 := by
    intro m
    induction m with
    | nil => rfl
    | cons a m ih => show (0 : Int) + q * pev q (m.map fun _ => 0) = 0; rw [ih]; simp
  have unit : ∀ (n j k : Nat), k < n → pev q ((List.range' j n).map fun i => if i = j + k then (1 : Int) else 0) = q ^ k := by
    intro n
    induction n with
    | zero => intro j k h; omega
    | succ n ih =>
      intro j k h
      rw [List.range'_succ, List.map_cons]
      show (if j = j + k then (1 : Int) else 0) + q * pev q _ = _
      cases k with
      | zero =>
        rw [if_pos (by omega)]
        have e : ((List.range' (j + 1) n).map fun i => if i = j + 0 then (1 : Int) else 0) = (List.range' (j + 1) n).map fun _ => (0 : Int) := by
          refine List.map_congr_left fun i hi => ?_
          have := List.mem_range'_1.mp hi
          rw [if_neg (by omega)]
        rw [e, zero]; simp
      | succ k =>
        rw [if_neg (by omega)]
        have e : ((List.range' (j + 1) n).map fun i => if i = j + (k + 1) then (1 : Int) else 0) = (List.range' (j + 1) n).map fun i => if i = (j + 1) + k then (1 : Int) else 0 := by
          refine List.map_congr_left fun i _ => ?_
          rw [show j + (k + 1) = (j + 1) + k by omega]
        rw [e, ih (j + 1) k (by omega), Int.pow_succ, Int.mul_comm]; simp
  have addm : ∀ (m : List Nat) (f g : Nat → Int), pev q (m.map fun k => f k + g k) = pev q (m.map f) + pev q (m.map g) := by
    intro m f g
    induction m with
    | nil => rfl
    | cons a m ih =>
      show (f a + g a) + q * pev q (m.map fun k => f k + g k) = (f a + q * pev q (m.map f)) + (g a + q * pev q (m.map g))
      rw [ih, Int.mul_add]; omega
  intro l n
  induction l with
  | nil => intro _; simp only [List.count_nil, List.map_nil, List.sum_nil]; exact zero _
  | cons x l ih =>
    intro h
    have e : ((List.range n).map fun k => ((x :: l).count k : Int)) = (List.range n).map fun k => (if k = 0 + x then (1 : Int) else 0) + (l.count k : Int) := by
      refine List.map_congr_left fun k _ => ?_
      rw [List.count_cons]
      by_cases hk : k = x
      · subst hk; simp; omega
      · rw [if_neg (by simpa using fun q => hk q.symm), if_neg (by omega)]; simp
    rw [e, addm, ih fun k hk => h k (.tail _ hk), List.map_cons, List.sum_cons, List.range_eq_range', unit n 0 x (h x (.head _))]

theorem heights_mul {sh : List Nat} (h : sh ∈ shapes14) : ((heightsI sh).foldl (fun p x => pmul p (List.replicate x.toNat 1)) [1]) = coefL sh := by
  have : ∀ sh ∈ shapes14, ((heightsI sh).foldl (fun p x => pmul p (List.replicate x.toNat 1)) [1]) = coefL sh := by decide +kernel
  exact this sh h
theorem fold_mul (q : Int) : ∀ (l : List Int) (p : List Int) (x : Int) (n : Nat), x = pev q p * (q - 1) ^ n → (l.foldl (fun y h => y * (q ^ h.toNat - 1)) x) = pev q (l.foldl (fun p x => pmul p (List.replicate x.toNat 1)) p) * (q - 1) ^ (n + l.length)
  | [], p, x, n, e => e
  | h :: l, p, x, n, e => by
    rw [List.foldl_cons, List.foldl_cons, fold_mul q l (pmul p (List.replicate h.toNat 1)) _ (n + 1), List.length_cons]
    · rw [show n + 1 + l.length = n + (l.length + 1) by omega]
    · rw [pev_mul, e, ← pev_ones q h.toNat, Int.pow_succ]
      simp only [Int.mul_assoc, Int.mul_comm, Int.mul_left_comm]
theorem coef_facts {sh : List Nat} (h : sh ∈ shapes14) : (∀ a ∈ coefL sh, 0 ≤ a ∧ a < 32) ∧ (coefL sh).getLast? = some 1 ∧ (∀ k ∈ withinsN sh, k < (stepsI sh).toNat + 1) ∧ coefL sh = (List.range ((stepsI sh).toNat + 1)).map fun k : Nat => (valueI (countsL sh) (k : Int)).getD 0 := by
  have : ∀ sh ∈ shapes14, (∀ a ∈ coefL sh, 0 ≤ a ∧ a < 32) ∧ (coefL sh).getLast? = some 1 ∧ (∀ k ∈ withinsN sh, k < (stepsI sh).toNat + 1) ∧ coefL sh = (List.range ((stepsI sh).toNat + 1)).map fun k : Nat => (valueI (countsL sh) (k : Int)).getD 0 := by decide +kernel
  exact this sh h
end Mine

end

-- part PL9
section
open PySem PySem.W PyProof.Rows PySem.Calls
set_option maxRecDepth 100000
set_option maxHeartbeats 1000000
set_option linter.unusedVariables false
namespace Mine

theorem pev_bound {q : Int} (hq : 0 < q) : ∀ {l : List Int}, (∀ a ∈ l, 0 ≤ a ∧ a < q) → 0 ≤ pev q l ∧ pev q l < q ^ l.length
  | [], _ => ⟨Int.le_refl _, by show (0 : Int) < q ^ 0; simp⟩
  | a :: l, h => by
    obtain ⟨h1, h2⟩ := pev_bound hq (l := l) fun b hb => h b (.tail _ hb)
    have ha := h a (.head _)
    refine ⟨Int.add_nonneg ha.1 (Int.mul_nonneg (Int.le_of_lt hq) h1), ?_⟩
    show a + q * pev q l < q ^ (l.length + 1)
    rw [Int.pow_succ, Int.mul_comm (q ^ l.length) q]
    have : q * (pev q l + 1) ≤ q * q ^ l.length := Int.mul_le_mul_of_nonneg_left h2 (Int.le_of_lt hq)
    rw [Int.mul_add, Int.mul_one] at this
    omega +splitDisjunctions
theorem pev_app (q : Int) : ∀ (l : List Int) (b : Int), pev q (l ++ [b]) = pev q l + b * q ^ l.length
  | [], b => by simp [pev]
  | a :: l, b => by
    show a + q * pev q (l ++ [b]) = a + q * pev q l + b * q ^ (l.length + 1)
    rw [pev_app q l b, Int.mul_add, Int.pow_succ, Int.mul_left_comm q b, Int.mul_comm q (q ^ l.length)]
    omega +splitDisjunctions

theorem dig_pev {n : Nat} : ∀ {l : List Int}, (∀ a ∈ l, 0 ≤ a ∧ a < 2 ^ n) → digL n l.length (pev (2 ^ n) l) = l
  | [], _ => rfl
  | a :: l, h => by
    have hq : (0 : Int) < 2 ^ n := two_pow_pos n
    have ha := h a (.head _)
    have ih := dig_pev (n := n) (l := l) fun b hb => h b (.tail _ hb)
    unfold digL at ih ⊢
    rw [List.length_cons, List.range_succ_eq_map, List.map_cons, List.map_map]
    have e0 : pev (2 ^ n) (a :: l) / 2 ^ (n * 0) % 2 ^ n = a := by
      show (a + 2 ^ n * pev (2 ^ n) l) / 2 ^ (n * 0) % 2 ^ n = a
      rw [Nat.mul_zero, Int.pow_zero, Int.ediv_one, Int.add_mul_emod_self_left]
      exact Int.emod_eq_of_lt ha.1 ha.2
    rw [e0]
    congr 1
    refine Eq.trans (List.map_congr_left fun j _ => ?_) ih
    show (a + 2 ^ n * pev (2 ^ n) l) / 2 ^ (n * (j + 1)) % 2 ^ n = _
    have e1 : (a + 2 ^ n * pev (2 ^ n) l) / 2 ^ (n * (j + 1)) = pev (2 ^ n) l / 2 ^ (n * j) := by
      rw [Nat.mul_add, Nat.mul_one, Nat.add_comm, Int.pow_add, ← Int.ediv_ediv_of_nonneg (Int.le_of_lt hq), Int.add_mul_ediv_left _ _ (Int.ne_of_gt hq), Int.ediv_eq_zero_of_lt ha.1 ha.2, Int.zero_add]
    rw [e1]
end Mine

end

-- part PL10
section
open PySem PySem.W PyProof.Rows PySem.Calls
set_option maxRecDepth 100000
set_option maxHeartbeats 1000000
set_option linter.unusedVariables false
namespace Mine

section
variable {c : Nat → Nat} {sh : List Nat}
theorem wide_range (c : Nat → Nat) : 5 ≤ wideN c ∧ wideN c ≤ 2004 := by
  unfold wideN; have := Nat.mod_lt (c 0 + c 1 + c 2 + c 3) (y := 2000) (by decide); omega +splitDisjunctions
theorem wide_pow (c : Nat → Nat) : (32 : Int) ≤ 2 ^ wideN c := by
  have h := (wide_range c).1
  have : (2 : Nat) ^ 5 ≤ 2 ^ wideN c := Nat.pow_le_pow_right (by decide) h
  exact_mod_cast this
theorem tot_pev (h : sh ∈ shapes14) : (totE c sh).t = pev (2 ^ wideN c) (coefL sh) := by
  rw [(tot_all (c := c) h).2.2.2.1]
  unfold coefL
  rw [pev_units _ _ _ (coef_facts h).2.2.1]
  congr 1
  refine List.map_congr_left fun k _ => ?_
  rw [Int.pow_mul]
theorem coef_len : (coefL sh).length = (stepsI sh).toNat + 1 := by unfold coefL; rw [List.length_map, List.length_range]
theorem tot_dig (h : sh ∈ shapes14) : digL (wideN c) ((stepsI sh).toNat + 1) (totE c sh).t = (List.range ((stepsI sh).toNat + 1)).map fun k : Nat => (valueI (totE c sh).l (k : Int)).getD 0 := by
  obtain ⟨h1, _, _, h4⟩ := coef_facts h
  have hw := wide_pow c
  have hd := dig_pev (n := wideN c) (l := coefL sh) fun a ha => ⟨(h1 a ha).1, Int.lt_of_lt_of_le (h1 a ha).2 hw⟩
  rw [coef_len] at hd
  rw [tot_pev h, hd, (tot_all (c := c) h).2.2.2.2]
  exact h4
theorem tot_size (h : sh ∈ shapes14) : (2 : Int) ^ (wideN c * (stepsI sh).toNat) ≤ (totE c sh).t ∧ (totE c sh).t < 2 ^ (wideN c * (stepsI sh).toNat + 1) := by
  obtain ⟨h1, h2, _, _⟩ := coef_facts h
  have hw := wide_pow c
  obtain ⟨l, hl⟩ : ∃ l, coefL sh = l ++ [1] := by
    obtain ⟨l, e⟩ := List.getLast?_eq_some_iff.mp h2
    exact ⟨l, e⟩
  have hll : l.length = (stepsI sh).toNat := by
    have := coef_len (sh := sh)
    rw [hl, List.length_append] at this
    simpa using this
  have hb := pev_bound (q := 2 ^ wideN c) (two_pow_pos _) (l := l) fun a ha => by
    have := h1 a (by rw [hl]; simp [ha])
    exact ⟨this.1, Int.lt_of_lt_of_le this.2 hw⟩
  rw [tot_pev h, hl, pev_app, hll, Int.one_mul, ← Int.pow_mul]
  rw [hll, ← Int.pow_mul] at hb
  have : (2 : Int) ^ (wideN c * (stepsI sh).toNat + 1) = 2 ^ (wideN c * (stepsI sh).toNat) * 2 := Int.pow_succ _ _
  omega +splitDisjunctions
theorem above_eq (h : sh ∈ shapes14) : aboveI c sh 4 = (totE c sh).t * (2 ^ wideN c - 1) ^ 4 := by
  have hl : (heightsI sh).length = 4 := by unfold heightsI; rw [List.length_map, (bits_of_pieces h).2.1]
  have k := fold_mul (2 ^ wideN c) (heightsI sh) [1] 1 0 (by simp [pev])
  rw [heights_mul h, hl] at k
  rw [tot_pev h]
  unfold aboveI
  rw [List.take_of_length_le (Nat.le_of_eq hl)]
  refine Eq.trans ?_ k
  congr 1
  funext y x
  rw [← Int.pow_mul]
end
end Mine

end

-- part PL11
section
open PySem PySem.W PyProof.Rows PySem.Calls
set_option maxRecDepth 100000
set_option maxHeartbeats 1000000
set_option linter.unusedVariables false
namespace Mine

theorem mul_lt2 {a b x y : Int} (h1 : a < x) (h2 : b < y) (h3 : 0 ≤ a) (h4 : 0 ≤ b) : a * b < x * y := by
  have e1 : a * b ≤ a * y := Int.mul_le_mul_of_nonneg_left (Int.le_of_lt h2) h3
  have e2 : a * y < x * y := Int.mul_lt_mul_of_pos_right h1 (by omega)
  omega

section
variable {c : Nat → Nat} {sh : List Nat}
theorem bits_of_lt {x : Int} {n : Nat} (h0 : 0 ≤ x) (h : x < 2 ^ n) : Builtin.Int.intBits x ≤ n := by
  rw [intBits_le_iff']
  have e : ((2 ^ n : Nat) : Int) = 2 ^ n := by push_cast; rfl
  omega
theorem bits_eq {x : Int} {n : Nat} (h0 : 2 ^ n ≤ x) (h : x < 2 ^ (n + 1)) : Builtin.Int.intBits x = n + 1 := by
  have h1 := bits_of_lt (Int.le_trans (Int.le_of_lt (two_pow_pos n)) h0) h
  have h2 : ¬ Builtin.Int.intBits x ≤ n := by
    rw [intBits_le_iff']
    have e : ((2 ^ n : Nat) : Int) = 2 ^ n := by push_cast; rfl
    omega
  omega
theorem tot_len' (h : sh ∈ shapes14) : (Builtin.Int.intBits (totE c sh).t + wideN c - 1) / wideN c = (stepsI sh).toNat + 1 ∧ Builtin.Int.intBits (totE c sh).t ≤ 50000 := by
  obtain ⟨h1, h2⟩ := tot_size (c := c) h
  have hb := bits_eq h1 h2
  have hw := wide_range c
  have hs := cnt_facts h
  have hst : (stepsI sh).toNat ≤ 6 := by omega
  rw [hb]
  constructor
  · have e : wideN c * (stepsI sh).toNat + 1 + wideN c - 1 = wideN c * ((stepsI sh).toNat + 1) := by rw [Nat.mul_add]; omega
    rw [e, Nat.mul_div_cancel_left _ (by omega)]
  · have := Nat.mul_le_mul hw.2 hst
    omega
theorem q1_pos (c : Nat → Nat) : (31 : Int) ≤ 2 ^ wideN c - 1 := by have := wide_pow c; omega
theorem pow4_lt {a : Int} {w : Nat} (h1 : 1 ≤ a) (h : a < 2 ^ w) : 1 ≤ a ^ 4 ∧ a ^ 4 < 2 ^ (4 * w) := by
  have e : a ^ 4 = (a * a) * (a * a) := by
    rw [show (4 : Nat) = 3 + 1 from rfl, Int.pow_succ, show (3 : Nat) = 2 + 1 from rfl, Int.pow_succ, show (2 : Nat) = 1 + 1 from rfl, Int.pow_succ, Int.pow_succ, Int.pow_zero, Int.one_mul, Int.mul_assoc (a * a) a a]
  have e2 : (2 : Int) ^ (4 * w) = (2 ^ w * 2 ^ w) * (2 ^ w * 2 ^ w) := by
    rw [← Int.pow_add, ← Int.pow_add]
    congr 1; omega
  have m1 : a * a < 2 ^ w * 2 ^ w := mul_lt2 h h (by omega) (by omega)
  have m0 : 1 ≤ a * a := by
    have := Int.mul_le_mul h1 h1 (by decide) (by omega)
    simpa using this
  rw [e, e2]
  refine ⟨?_, mul_lt2 m1 m1 (by omega) (by omega)⟩
  have := Int.mul_le_mul m0 m0 (by decide) (by omega)
  simpa using this
theorem scale_size (c : Nat → Nat) : (33554431 : Int) ≤ scaleI c ∧ scaleI c < 2 ^ (5 * wideN c) := by
  unfold scaleI
  have h := (wide_range c).1
  have : (2 : Nat) ^ 25 ≤ 2 ^ (5 * wideN c) := Nat.pow_le_pow_right (by decide) (by omega)
  have e : ((2 ^ (5 * wideN c) : Nat) : Int) = 2 ^ (5 * wideN c) := by push_cast; rfl
  have e2 : (2 : Nat) ^ 25 = 33554432 := by decide
  omega
theorem below_size (c : Nat → Nat) : (33554431 : Int) ≤ belowI c ∧ belowI c < 2 ^ (9 * wideN c) := by
  have h1 := q1_pos c
  have h4 := pow4_lt (a := 2 ^ wideN c - 1) (w := wideN c) (by omega) (by omega)
  have hs := scale_size c
  unfold belowI
  constructor
  · have := Int.mul_le_mul h4.1 hs.1 (by decide) (by omega)
    simpa using this
  · have e : (2 : Int) ^ (9 * wideN c) = 2 ^ (4 * wideN c) * 2 ^ (5 * wideN c) := by
      rw [← Int.pow_add]; congr 1; omega
    rw [e]
    exact mul_lt2 h4.2 hs.2 (by omega) (by omega)
theorem bits_pos {x : Int} (h : 1 ≤ x) : 1 ≤ Builtin.Int.intBits x ∧ 2 ^ (Builtin.Int.intBits x - 1) ≤ x ∧ x < 2 ^ Builtin.Int.intBits x := by
  have h1 : x.natAbs < 2 ^ Builtin.Int.intBits x := intBits_le_iff'.mp (Nat.le_refl _)
  have h0 : 1 ≤ Builtin.Int.intBits x := by
    rcases Nat.eq_zero_or_pos (Builtin.Int.intBits x) with e | e
    · rw [e] at h1; simp at h1; omega
    · exact e
  have h2 : ¬ x.natAbs < 2 ^ (Builtin.Int.intBits x - 1) := fun q => by
    have := intBits_le_iff'.mpr q
    omega
  have e : ∀ n : Nat, ((2 ^ n : Nat) : Int) = 2 ^ n := fun n => by push_cast; rfl
  have e1 := e (Builtin.Int.intBits x)
  have e2 := e (Builtin.Int.intBits x - 1)
  omega
theorem big_below (c : Nat → Nat) : (2 : Int) ^ (6 * wideN c + 1) ≤ belowI c := by
  have hx := wide_pow c
  have hs := scale_size c
  have e : (2 : Int) ^ (6 * wideN c + 1) = 2 * (2 ^ wideN c * 2 ^ (5 * wideN c)) := by
    rw [Int.pow_succ, ← Int.pow_add, Int.mul_comm]
    congr 2; omega
  have hy : (2 : Int) ^ (5 * wideN c) = scaleI c + 1 := by unfold scaleI; omega
  rw [e, hy]
  unfold belowI
  generalize (2 : Int) ^ wideN c = x at *
  generalize scaleI c = z at *
  have p1 : 1 ≤ (x - 1) * (x - 1) := by
    have := Int.mul_le_mul (show (1 : Int) ≤ x - 1 by omega) (show (1 : Int) ≤ x - 1 by omega) (by decide) (by omega)
    simpa using this
  have p2 : 4 * x ≤ (x - 1) * (x - 1) := by
    have : (x - 1) * 31 ≤ (x - 1) * (x - 1) := Int.mul_le_mul_of_nonneg_left (by omega) (by omega)
    omega
  have p4 : (x - 1) ^ 4 = ((x - 1) * (x - 1)) * ((x - 1) * (x - 1)) := by
    rw [show (4 : Nat) = 3 + 1 from rfl, Int.pow_succ, show (3 : Nat) = 2 + 1 from rfl, Int.pow_succ, show (2 : Nat) = 1 + 1 from rfl, Int.pow_succ, Int.pow_succ, Int.pow_zero, Int.one_mul, Int.mul_assoc ((x - 1) * (x - 1)) (x - 1) (x - 1)]
  have p5 : (x - 1) * (x - 1) * 1 ≤ ((x - 1) * (x - 1)) * ((x - 1) * (x - 1)) := Int.mul_le_mul_of_nonneg_left p1 (by omega)
  have p6 : 4 * x * z ≤ (x - 1) ^ 4 * z := Int.mul_le_mul_of_nonneg_right (by rw [p4]; omega) (by omega)
  have p7 : x * 1 ≤ x * z := Int.mul_le_mul_of_nonneg_left (by omega) (by omega)
  rw [Int.mul_add]
  have p8 : 4 * x * z = 4 * (x * z) := Int.mul_assoc ..
  omega
theorem added_size (c : Nat → Nat) (hc : ∀ k, c k < 1000000) : 0 ≤ addedI c ∧ addedI c < belowI c := by
  have := below_size c
  have := hc 0
  unfold addedI
  omega
theorem last_div (h : sh ∈ shapes14) (hc : ∀ k, c k < 1000000) : ∃ n : Nat, Builtin.Int.intBits (belowI c) = n ∧ 1 ≤ n ∧ n ≤ 4000 * 2 ^ 3 ∧ 2 ^ (n - 1) ≤ belowI c ∧ belowI c < 2 ^ n ∧ 0 ≤ aboveI c sh 4 * scaleI c + addedI c ∧ aboveI c sh 4 * scaleI c + addedI c < belowI c * 2 ^ n ∧
    (aboveI c sh 4 * scaleI c + addedI c) / belowI c = (totE c sh).t ∧ (aboveI c sh 4 * scaleI c + addedI c) % belowI c = addedI c := by
  have hb := below_size c
  have ha := added_size c hc
  have hw := wide_range c
  have hbp := bits_pos (x := belowI c) (by omega)
  have hts := tot_size (c := c) h
  have e : aboveI c sh 4 * scaleI c + addedI c = addedI c + belowI c * (totE c sh).t := by
    rw [above_eq h]
    unfold belowI
    rw [Int.mul_assoc, Int.mul_comm, Int.add_comm]
  have ht0 : 0 ≤ (totE c sh).t := Int.le_trans (Int.le_of_lt (two_pow_pos _)) hts.1
  have hn : Builtin.Int.intBits (belowI c) ≤ 9 * wideN c := bits_of_lt (by omega) hb.2
  refine ⟨_, rfl, hbp.1, by omega, hbp.2.1, hbp.2.2, ?_, ?_, ?_, ?_⟩
  · rw [e]; exact Int.add_nonneg ha.1 (Int.mul_nonneg (by omega) ht0)
  · rw [e]
    have h2 : (totE c sh).t + 1 ≤ 2 ^ Builtin.Int.intBits (belowI c) := by
      have h6 : (2 : Int) ^ (wideN c * (stepsI sh).toNat + 1) ≤ 2 ^ (6 * wideN c + 1) := by
        have hs := cnt_facts h
        have h7 : wideN c * (stepsI sh).toNat ≤ wideN c * 6 := Nat.mul_le_mul_left _ (by omega)
        have h8 : (2 : Nat) ^ (wideN c * (stepsI sh).toNat + 1) ≤ 2 ^ (6 * wideN c + 1) := Nat.pow_le_pow_right (by decide) (by omega)
        exact_mod_cast h8
      have h9 := big_below c
      have := hbp.2.2
      omega
    have := Int.mul_le_mul_of_nonneg_left h2 (by omega : 0 ≤ belowI c)
    rw [Int.mul_add, Int.mul_one] at this
    omega
  · rw [e, Int.add_mul_ediv_left _ _ (by omega), Int.ediv_eq_zero_of_lt ha.1 ha.2, Int.zero_add]
  · rw [e, Int.add_mul_emod_self_left]
    exact Int.emod_eq_of_lt ha.1 ha.2
end
end Mine

end

-- part PL12
section
open PySem PySem.W PyProof.Rows PySem.Calls
set_option maxRecDepth 100000
set_option maxHeartbeats 1000000
set_option linter.unusedVariables false
namespace Mine

/-- the determinant's half of LastOk -/
structure DetOk (c : Nat → Nat) (sh : List Nat) : Prop where
  det : (totE c sh).s = detB (weightF c sh)
  dH : ∀ s g tu la t, s < 3 → runF (weightF c sh) s = some (g, tu, la) → (fitB s g).head? = some t → FitM s la (fun k c => g (swapN s t k) c)
  dS : ∀ g tu la, runF (weightF c sh) 3 = some (g, tu, la) → -(2 ^ 400) ≤ g 3 3 ∧ g 3 3 ≤ 2 ^ 400
  dT : ∀ g tu la, runF (weightF c sh) 3 = some (g, tu, la) → -(2 ^ 400) ≤ tu ∧ tu ≤ 2 ^ 400

section
variable {c : Nat → Nat} {sh : List Nat}
theorem fac_size (c : Nat → Nat) {h : Int} (h1 : 1 ≤ h) (h4 : h ≤ 4) : 0 ≤ (2 : Int) ^ (wideN c * h.toNat) - 1 ∧ (2 : Int) ^ (wideN c * h.toNat) - 1 < 2 ^ (4 * wideN c) := by
  have hp := two_pow_pos (wideN c * h.toNat)
  have : wideN c * h.toNat ≤ wideN c * 4 := Nat.mul_le_mul_left _ (by omega)
  have e : (2 : Nat) ^ (wideN c * h.toNat) ≤ 2 ^ (4 * wideN c) := Nat.pow_le_pow_right (by decide) (by omega)
  have e' : (2 : Int) ^ (wideN c * h.toNat) ≤ 2 ^ (4 * wideN c) := by exact_mod_cast e
  omega
theorem foldA_size (c : Nat → Nat) : ∀ (l : List Int), (∀ h ∈ l, 1 ≤ h ∧ h ≤ 4) → ∀ (x : Int) (n : Nat), 0 ≤ x → x < 2 ^ n → 0 ≤ l.foldl (fun p h => p * (2 ^ (wideN c * h.toNat) - 1)) x ∧ l.foldl (fun p h => p * (2 ^ (wideN c * h.toNat) - 1)) x < 2 ^ (n + 4 * wideN c * l.length)
  | [], _, x, n, h0, h => ⟨h0, h⟩
  | a :: l, hl, x, n, h0, h => by
    have ha := hl a (.head _)
    have hf := fac_size c ha.1 ha.2
    have := foldA_size c l (fun b hb => hl b (.tail _ hb)) (x * (2 ^ (wideN c * a.toNat) - 1)) (n + 4 * wideN c) (Int.mul_nonneg h0 hf.1) (by rw [Int.pow_add]; exact mul_lt2 h hf.2 h0 hf.1)
    rw [List.foldl_cons, List.length_cons, Nat.mul_add, Nat.mul_one]
    rw [show n + (4 * wideN c * l.length + 4 * wideN c) = n + 4 * wideN c + 4 * wideN c * l.length by omega]
    exact this
theorem fold_ways : ∀ (l : List Int), (∀ h ∈ l, 1 ≤ h ∧ h ≤ 4) → ∀ (x : Int) (n : Nat), 0 ≤ x → x < 2 ^ n → 0 ≤ l.foldl (fun p h => p * h) x ∧ l.foldl (fun p h => p * h) x < 2 ^ (n + 3 * l.length)
  | [], _, x, n, h0, h => ⟨h0, h⟩
  | a :: l, hl, x, n, h0, h => by
    have ha := hl a (.head _)
    have e8 : (2 : Int) ^ 3 = 8 := by decide
    have := fold_ways l (fun b hb => hl b (.tail _ hb)) (x * a) (n + 3) (Int.mul_nonneg h0 (by omega)) (by rw [Int.pow_add, e8]; exact mul_lt2 h (by omega) h0 (by omega))
    rw [List.foldl_cons, List.length_cons]
    rw [show n + 3 * (l.length + 1) = n + 3 + 3 * l.length by omega]
    exact this

theorem last_ok (h : sh ∈ shapes14) (hc : ∀ k, c k < 1000000) (X : DetOk c sh) : LastOk c sh := by
  have hw := wide_range c
  have hh := heights_ok h
  have hl4 : (heightsI sh).length = 4 := by unfold heightsI; rw [List.length_map, (bits_of_pieces h).2.1]
  have hs := scale_size c
  have h31 := q1_pos c
  have h4 := pow4_lt (a := 2 ^ wideN c - 1) (w := wideN c) (by omega) (by omega)
  have hcn := cnt_facts h
  have ht := tot_all (c := c) h
  have hts := tot_size (c := c) h
  have htl := tot_len' (c := c) h
  have hlt : ∀ i, ((heightsI sh).take i).length ≤ 4 := fun i => by rw [List.length_take]; omega
  have hmem : ∀ i, ∀ x ∈ (heightsI sh).take i, 1 ≤ x ∧ x ≤ 4 := fun i x hx => hh x (List.mem_of_mem_take hx)
  refine ⟨hh, fun i => ?_, fun i => ?_, fun x h1 h2 => ?_, ?_, ?_, ?_, last_div h hc, X.det, X.dH, X.dS, X.dT, ?_, ?_, ?_, ⟨hcn.2.2.2.1, hcn.2.2.2.2.1⟩, ?_, ?_, htl.1, htl.2, tot_dig h⟩
  · have k := foldA_size c _ (hmem i) 1 1 (by decide) (by decide)
    have hb := bits_of_lt k.1 k.2
    have h9 : 4 * wideN c * ((heightsI sh).take i).length ≤ 4 * wideN c * 4 := Nat.mul_le_mul_left _ (hlt i)
    have : Builtin.Int.intBits (aboveI c sh i) ≤ 1 + 4 * wideN c * ((heightsI sh).take i).length := hb
    omega
  · have k := fold_ways _ (hmem i) 1 1 (by decide) (by decide)
    have hb := bits_of_lt k.1 k.2
    have := hlt i
    have : Builtin.Int.intBits (waysI sh i) ≤ 1 + 3 * ((heightsI sh).take i).length := hb
    omega
  · have k := fac_size c h1 h2
    have := bits_of_lt k.1 k.2
    omega
  · have := bits_of_lt (by omega : 0 ≤ scaleI c) hs.2
    omega
  · have := bits_of_lt (by omega : 0 ≤ (2 ^ wideN c - 1 : Int) ^ 4) h4.2
    omega
  · have := bits_of_lt (x := 2 ^ wideN c - 1) (n := wideN c) (by omega) (by omega)
    omega
  · rw [ht.1]; exact hcn.1
  · rw [ht.2.2.2.2]; exact hcn.2.1
  · rw [ht.2.1]; exact hcn.2.2.1
  · rw [ht.2.1, intBits_le_iff']
    have := hcn.2.2.2.2.2
    omega
  · exact Int.le_trans (Int.le_of_lt (two_pow_pos _)) hts.1
end
end Mine

end

-- part PD6
section
open PySem PySem.W PyProof.Rows PySem.Calls
set_option maxRecDepth 100000
set_option maxHeartbeats 1000000
set_option linter.unusedVariables false
namespace Mine
noncomputable def Bnd (B : Nat) (g : Mx) : Prop := ∀ a c, a < 4 → c < 4 → (g a c).natAbs ≤ B
noncomputable def bndS : Nat → Nat
  | 0 => 9
  | s + 1 => bndS s + (bndS s * bndS s + bndS s * bndS s)
theorem nab_div (x y : Int) : (x / y).natAbs ≤ x.natAbs := Int.natAbs_ediv_le_natAbs x y
theorem gB_nab {B s : Nat} {f : Mx} {la : Int} (h : Bnd B f) (hs : s < 4) {a c : Nat} (ha : a < 4) (hc : c < 4) : (gB s la f a c).natAbs ≤ B * B + B * B := by
  unfold gB
  exact Nat.le_trans (nab_div _ _) (nab_sub (nab_mul (h a c ha hc) (h s s hs hs)) (nab_mul (h a s ha hs) (h s c hs hc)))
theorem elim_bnd {B s i j : Nat} {f : Mx} {la : Int} (h : Bnd B f) (hs : s < 4) : Bnd (B + (B * B + B * B)) (elimF s la f i j) := fun a c ha hc => by
  unfold elimF
  split
  · exact Nat.le_trans (gB_nab h hs ha hc) (by omega)
  · exact Nat.le_trans (h a c ha hc) (by omega)
theorem swap_bnd {B s t : Nat} {f : Mx} (h : Bnd B f) (hs : s < 4) (ht : t < 4) : Bnd B (fun k c => f (swapN s t k) c) := fun a c ha hc => h _ _ (swap_lt hs ht ha) hc
theorem run_bnd {f : Mx} (h : Bnd 9 f) : ∀ s, s ≤ 3 → ∀ g tu la, runF f s = some (g, tu, la) → Bnd (bndS s) g ∧ la.natAbs ≤ bndS s ∧ tu.natAbs = 1
  | 0, _, g, tu, la, e => by cases e; exact ⟨h, by decide, rfl⟩
  | s + 1, hs, g, tu, la, e => by
    have e : (runF f s).bind (fun b => ((fitB s b.1).head?).map fun t => (elimF s b.2.2 (fun k c => b.1 (swapN s t k) c) (3 - s) 0, (if t = s then b.2.1 else -b.2.1), b.1 (swapN s t s) s)) = some (g, tu, la) := e
    cases hb : runF f s with
    | none => rw [hb] at e; cases e
    | some b =>
      obtain ⟨g1, tu1, la1⟩ := b
      obtain ⟨i1, i2, i3⟩ := run_bnd h s (by omega) _ _ _ hb
      rw [hb] at e
      have e : ((fitB s g1).head?).map (fun t => (elimF s la1 (fun k c => g1 (swapN s t k) c) (3 - s) 0, (if t = s then tu1 else -tu1), g1 (swapN s t s) s)) = some (g, tu, la) := e
      cases hf : fitB s g1 with
      | nil => rw [hf] at e; cases e
      | cons t r =>
        rw [hf] at e
        obtain ⟨q1, q2, q3⟩ := fit_head hf
        cases e
        refine ⟨elim_bnd (swap_bnd i1 (by omega) q2) (by omega), ?_, ?_⟩
        · exact Nat.le_trans (i1 _ _ (swap_lt (by omega) q2 (by omega)) (by omega)) (Nat.le_add_right _ _)
        · split <;> omega
theorem bnd_400 {s : Nat} (hs : s ≤ 3) {x : Int} (h : x.natAbs ≤ bndS s) : -(2 ^ 400) ≤ x ∧ x ≤ 2 ^ 400 := by
  have e : bndS s ≤ 2 ^ 400 := by
    match s, hs with
    | 0, _ => decide +kernel
    | 1, _ => decide +kernel
    | 2, _ => decide +kernel
    | 3, _ => decide +kernel
  have e2 : (2 : Int) ^ 400 = ((2 ^ 400 : Nat) : Int) := by decide +kernel
  rw [e2]
  omega
theorem fit_all {f : Mx} (h : Bnd 9 f) : ∀ s g tu la t, s < 3 → runF f s = some (g, tu, la) → (fitB s g).head? = some t → FitM s la (fun k c => g (swapN s t k) c) := by
  intro s g tu la t hs e ht
  obtain ⟨b1, b2, b3⟩ := run_bnd h s (by omega) g tu la e
  obtain ⟨q1, q2, q3⟩ : s ≤ t ∧ t < 4 ∧ g t s ≠ 0 := by
    cases hf : fitB s g with
    | nil => rw [hf] at ht; cases ht
    | cons t' r => rw [hf] at ht; cases ht; exact fit_head hf
  refine ⟨fun a c ha hc => bnd_400 (by omega) (swap_bnd b1 (by omega) q2 a c ha hc), bnd_400 (by omega) b2, fun h0 => ?_⟩
  match s, hs, h0 with
  | 1, _, _ =>
    obtain ⟨G, i1, i2, i3, i4, i5, i6⟩ := inv_all 1 (by decide) _ _ _ e
    have h0 : swapN 1 t 0 = 0 := swap_idx (by omega) (by decide)
    have hm : ∀ a c, 1 ≤ a → a < 4 → 1 ≤ c → c < 4 → g (swapN 1 t a) c = m1 (fun k c => G (swapN 1 t k) c) a c := fun a c a1 a2 c1 c2 => by
      rw [i6 _ _ (swap_ge q1 a1) (swap_lt (by decide) q2 a2) c1 c2]
      unfold m1
      simp only [h0]
    refine ⟨by rw [i5]; exact i4, fun a c a1 a2 c1 c2 => ?_⟩
    unfold gB
    simp only
    rw [hm a c (by omega) a2 (by omega) c2, hm 1 1 (by decide) (by decide) (by decide) (by decide), hm a 1 (by omega) a2 (by decide) (by decide), hm 1 c (by decide) (by decide) (by omega) c2, m1_d3, if_pos (by decide), i5]
    show G (swapN 1 t 0) 0 * _ / _ * _ = G (swapN 1 t 0) 0 * _
    rw [h0, Int.mul_ediv_cancel_left _ i4, Int.mul_comm]
  | 2, _, _ =>
    obtain ⟨G, i1, i2, i3, i4, i7, i5, i6⟩ := inv_all 2 (by decide) _ _ _ e
    have h0 : swapN 2 t 0 = 0 := swap_idx (by omega) (by decide)
    have h1' : swapN 2 t 1 = 1 := swap_idx (by omega) (by decide)
    have hm : ∀ a c, 2 ≤ a → a < 4 → 2 ≤ c → c < 4 → g (swapN 2 t a) c = d3 (fun k c => G (swapN 2 t k) c) a c := fun a c a1 a2 c1 c2 => by
      rw [i6 _ _ (swap_ge q1 a1) (swap_lt (by decide) q2 a2) c1 c2]
      unfold d3
      simp only [h0, h1']
    refine ⟨by rw [i5]; exact i7, fun a c a1 a2 c1 c2 => ?_⟩
    obtain rfl : a = 3 := by omega
    obtain rfl : c = 3 := by omega
    have e1 : m1 (fun k c => G (swapN 2 t k) c) 1 1 = m1 G 1 1 := by unfold m1; simp only [h0, h1']
    unfold gB
    simp only
    rw [hm 3 3 (by decide) (by decide) (by decide) (by decide), hm 2 2 (by decide) (by decide) (by decide) (by decide), hm 3 2 (by decide) (by decide) (by decide) (by decide), hm 2 3 (by decide) (by decide) (by decide) (by decide), d3_det4, if_pos (by decide), i5, e1, Int.mul_ediv_cancel_left _ i7, Int.mul_comm]
theorem weight_bnd (c : Nat → Nat) (sh : List Nat) : Bnd 9 (weightF c sh) := fun a m _ _ => by
  unfold weightF
  split
  · unfold weightI
    have := Int.fmod_lt_of_pos ((c a : Int) + ((a : Int) + 2) * portN c m) (b := 19) (by decide)
    have := Int.fmod_nonneg_of_pos ((c a : Int) + ((a : Int) + 2) * portN c m) (b := 19) (by decide)
    omega
  · decide
end Mine

end

-- part PD7
section
open PySem PySem.W PyProof.Rows PySem.Calls
set_option maxRecDepth 100000
set_option maxHeartbeats 1000000
set_option linter.unusedVariables false
namespace Mine
/-- the 24 orders, each with its parity -/
noncomputable def allP : List (List Nat × Nat) :=
  [([0, 1, 2, 3], 0), ([0, 1, 3, 2], 1), ([0, 2, 1, 3], 1), ([0, 2, 3, 1], 0), ([0, 3, 1, 2], 0), ([0, 3, 2, 1], 1),
   ([1, 0, 2, 3], 1), ([1, 0, 3, 2], 0), ([1, 2, 0, 3], 0), ([1, 2, 3, 0], 1), ([1, 3, 0, 2], 1), ([1, 3, 2, 0], 0),
   ([2, 0, 1, 3], 0), ([2, 0, 3, 1], 1), ([2, 1, 0, 3], 1), ([2, 1, 3, 0], 0), ([2, 3, 0, 1], 0), ([2, 3, 1, 0], 1),
   ([3, 0, 1, 2], 1), ([3, 0, 2, 1], 0), ([3, 1, 0, 2], 0), ([3, 1, 2, 0], 1), ([3, 2, 0, 1], 1), ([3, 2, 1, 0], 0)]
noncomputable def prodG (g : Mx) (ks : List Nat) : Int := 1 * g (ks.getD 0 0) 0 * g (ks.getD 1 0) 1 * g (ks.getD 2 0) 2 * g (ks.getD 3 0) 3
noncomputable def termG (g : Mx) (x : List Nat × Nat) : Int := if x.2 = 1 then -prodG g x.1 else prodG g x.1
noncomputable def maskP (sh : List Nat) (x : List Nat × Nat) : Bool := (List.range 4).all fun m => decide ((startsN sh).getD (x.1.getD m 0) 0 < (endsN sh).getD m 0)
theorem det4_all (g : Mx) : (allP.map (termG g)).sum = det4 g := by
  unfold allP termG prodG det4
  simp only [List.map_cons, List.map_nil, List.sum_cons, List.sum_nil, List.getD_cons_zero, List.getD_cons_succ]
  simp
  grind
theorem term_mask (c : Nat → Nat) (sh : List Nat) (x : List Nat × Nat) : termG (weightF c sh) x = if maskP sh x = true then termG (weightI c) x else 0 := by
  have key : prodG (weightF c sh) x.1 = if maskP sh x = true then prodG (weightI c) x.1 else 0 := by
    have hm : maskP sh x = true ↔ ∀ m, m < 4 → (startsN sh).getD (x.1.getD m 0) 0 < (endsN sh).getD m 0 := by
      unfold maskP
      simp [List.all_eq_true]
    by_cases h : maskP sh x = true
    · rw [if_pos h]
      have k := hm.mp h
      have e : ∀ m, m < 4 → weightF c sh (x.1.getD m 0) m = weightI c (x.1.getD m 0) m := fun m h => if_pos (k m h)
      unfold prodG
      rw [e 0 (by decide), e 1 (by decide), e 2 (by decide), e 3 (by decide)]
    · rw [if_neg h]
      have : ∃ m, m < 4 ∧ weightF c sh (x.1.getD m 0) m = 0 := by
        by_cases h2 : ∃ m, m < 4 ∧ ¬ (startsN sh).getD (x.1.getD m 0) 0 < (endsN sh).getD m 0
        · obtain ⟨m, h3, h4⟩ := h2
          exact ⟨m, h3, if_neg h4⟩
        · exact absurd (hm.mpr fun m h3 => by
            by_cases h4 : (startsN sh).getD (x.1.getD m 0) 0 < (endsN sh).getD m 0
            · exact h4
            · exact absurd ⟨m, h3, h4⟩ h2) h
      obtain ⟨m, hm4, h0⟩ := this
      unfold prodG
      match m, hm4 with
      | 0, _ => rw [h0]; simp
      | 1, _ => rw [h0]; simp
      | 2, _ => rw [h0]; simp
      | 3, _ => rw [h0]; simp
  unfold termG
  rw [key]
  by_cases h : maskP sh x = true
  · rw [if_pos h, if_pos h]
  · rw [if_neg h, if_neg h]; simp
theorem sum_filter (p : (List Nat × Nat) → Bool) (f : (List Nat × Nat) → Int) : ∀ l : List (List Nat × Nat), ((l.filter p).map f).sum = (l.map fun x => if p x = true then f x else 0).sum
  | [] => rfl
  | x :: l => by
    rw [List.filter_cons, List.map_cons, List.sum_cons]
    cases h : p x with
    | true => rw [if_pos rfl, if_pos rfl, List.map_cons, List.sum_cons, sum_filter p f l]
    | false => rw [if_neg (by decide), if_neg (by decide), sum_filter p f l, Int.zero_add]
theorem rows_perm {sh : List Nat} (h : sh ∈ shapes14) (c : Nat → Nat) : (rowsN sh 4).map (fun r => (r.ks, withinN (wayI c) sh r.ks % 2)) = allP.filter (maskP sh) := by
  rcases way_cases c with e | e <;> rw [e]
  · have : ∀ sh ∈ shapes14, (rowsN sh 4).map (fun r => (r.ks, withinN 1 sh r.ks % 2)) = allP.filter (maskP sh) := by decide +kernel
    exact this sh h
  · have : ∀ sh ∈ shapes14, (rowsN sh 4).map (fun r => (r.ks, withinN (-1) sh r.ks % 2)) = allP.filter (maskP sh) := by decide +kernel
    exact this sh h
theorem ks_four {sh : List Nat} (h : sh ∈ shapes14) : ∀ r ∈ rowsN sh 4, r.ks = [r.ks.getD 0 0, r.ks.getD 1 0, r.ks.getD 2 0, r.ks.getD 3 0] := by
  have : ∀ sh ∈ shapes14, ∀ r ∈ rowsN sh 4, r.ks = [r.ks.getD 0 0, r.ks.getD 1 0, r.ks.getD 2 0, r.ks.getD 3 0] := by decide +kernel
  exact this sh h
theorem det_sum {c : Nat → Nat} {sh : List Nat} (h : sh ∈ shapes14) : (totE c sh).s = detB (weightF c sh) := by
  rw [(tot_all (c := c) h).2.2.1, detB_eq, ← det4_all]
  have e1 : allP.map (termG (weightF c sh)) = allP.map (fun x => if maskP sh x = true then termG (weightI c) x else 0) := List.map_congr_left fun x _ => term_mask c sh x
  rw [e1, ← sum_filter, ← rows_perm h c, List.map_map]
  refine congrArg List.sum (List.map_congr_left fun r hr => ?_)
  have e2 : prodW c r.ks = prodG (weightI c) r.ks := by
    rw [ks_four h r hr]
    rfl
  show _ = termG (weightI c) (r.ks, withinN (wayI c) sh r.ks % 2)
  unfold termG
  rw [e2]
theorem det_ok {c : Nat → Nat} {sh : List Nat} (h : sh ∈ shapes14) : DetOk c sh := by
  refine ⟨det_sum h, fit_all (weight_bnd c sh), fun g tu la e => ?_, fun g tu la e => ?_⟩
  · exact bnd_400 (s := 3) (by decide) ((run_bnd (weight_bnd c sh) 3 (by decide) g tu la e).1 3 3 (by decide) (by decide))
  · have := (run_bnd (weight_bnd c sh) 3 (by decide) g tu la e).2.2
    exact bnd_400 (s := 0) (by decide) (by rw [this]; decide)
end Mine

end

-- part PW1
section
open PySem PySem.W PyProof.Rows PySem.Calls
set_option maxRecDepth 100000
set_option maxHeartbeats 1000000
set_option linter.unusedVariables false
namespace Mine
theorem law_ok (xs : List Int) : LawOk (cellN xs) (shapeL (cellsI (cellN xs))) := by
  have h := shape_in (cellN xs)
  exact ⟨Nat.le_trans (word_len h) (by decide), reply_ok h, fun m hm r hr => row_ok h hm hr, last_ok h (cellN_lt xs) (det_ok h)⟩
theorem ints_rd {w : World} {s : Shared} {F : Addr → Prop} {vs : List Value} {ns : List Int} (h : IntsAre vs ns) : RdAll w s F vs (dInts ns) := by
  induction h with
  | nil => exact RdAll.nil
  | cons n t _ ih => exact RdAll.cons (.int n t) ih
theorem g203 : ∀ w, nsIn (KF w) mainGlobals "law" = some (some (.ref 203)) := fun w => by kernel_rfl
theorem room_callerA : Room callerA 21 := ⟨rfl, by decide, by decide⟩

theorem law_end {w : World} {s₁ : Shared} {mg mb : Str → Option Value} {fa la : Addr} {vs : List Value} {ns : List Int}
    (K : (KF w).In s₁.heap) (hg : s₁.heap.Ns mainGlobals mg) (hm : mg "law" = some (.ref fa))
    (hb : s₁.heap.Ns builtinsNs mb) (hbb : ∀ x : Str, x ≠ "__name__" → mb x = bootBuiltins x)
    (hbm : ∃ bm ob, mg "__builtins__" = some (.ref bm) ∧ bm ≠ builtinsNs ∧ s₁.heap.get? bm = some ob ∧ ob.cls = .type "module" ∧ ob.dict = some builtinsNs ∧ ob.data = .plain)
    (hnl : s₁.heap.NoLimit) (hnd : ∃ mc, s₁.heap.Ns cStatics mc ∧ mc "sys.int_max_str_digits" = none)
    (hT : TabsAt [(58, 54), (51, 47)] s₁.heap) (hl : s₁.heap.IsList la vs.toArray) (hi : IntsAre vs ns) (h63 : ¬ (63 : Int) < (ns.length : Int)) :
    wpAny (model PG w) callerA (call (.ref fa) [.ref la]) (fun v s' => (v = .bool true) ∧ OldK s₁.heap s'.heap ∧ s'.os = s₁.os ∧ s'.gens = s₁.gens) NoE s₁ := by
  have e203 := mg_of K hg (g203 w)
  rw [hm] at e203
  cases e203
  have t47 : CodeHd s₁.heap 51 47 ∧ s₁.heap.get? 47 = some (tabObj #[]) := hT (51, 47) (.tail _ (.head _))
  have t54 : CodeHd s₁.heap 58 54 ∧ s₁.heap.get? 54 = some (tabObj #[]) := hT (58, 54) (.head _)
  have hG : Good w s₁.heap := ⟨K, ⟨mg, hg, by
    obtain ⟨bm, ob, h1, h2, h3, h4, h5⟩ := hbm
    refine ⟨bm, ob, h1, h2, ?_, h3, h4, h5⟩
    rintro (rfl | rfl)
    · rw [t47.2] at h3; cases h3; cases h4
    · rw [t54.2] at h3; cases h3; cases h4⟩, ⟨mb, hb, hbb⟩, hnl, hnd⟩
  have hTb : Tabs s₁.heap := ⟨⟨#[], t47.2, .inl rfl⟩, ⟨#[], t54.2, .inl rfl⟩⟩
  have hlen : vs.length = ns.length := hi.length
  have k := fn203 (w := w) (lvl := 20) (Nat.le_refl _) (xs := ns) (by omega +splitDisjunctions) (law_ok ns) callerA s₁ (fun _ => False) [.ref la] hG hTb room_callerA (fun _ h => h.elim)
    (RdAll.cons (.list hl (fun h => h) (ints_rd (w := w) (s := s₁) (F := fun _ => False) hi).1 (ints_rd hi).2) RdAll.nil)
  refine wpAny_mono k (fun v s' ⟨e, r⟩ => ?_) (fun _ _ h => h)
  obtain ⟨⟨h', tk', rfl⟩, hk, ht, _⟩ := e
  have grown : ∀ b, T2 b → isCodeTable s₁.heap b ∧ s₁.heap.get? b = some (tabObj #[]) ∧ ∃ ps, h'.get? b = some (tabObj ps) := fun b hb => by
    have ht := ht hTb
    rcases hb with rfl | rfl
    · obtain ⟨ps, h1, _⟩ := ht.t1
      exact ⟨(t47.1.tab t47.2).isCodeTable, t47.2, ps, h1⟩
    · obtain ⟨ps, h1, _⟩ := ht.t2
      exact ⟨(t54.1.tab t54.2).isCodeTable, t54.2, ps, h1⟩
  refine ⟨?_, ⟨fun b o e => ?_, fun b o e => ?_⟩, rfl, rfl⟩
  · cases r; rfl
  · by_cases hb : T2 b
    · obtain ⟨h1, h2, ps, h3⟩ := grown b hb
      rw [h2] at e; cases e
      exact .inr (.inl ⟨h1, rfl, #[], ps, rfl, by rw [Array.empty_append]; exact h3⟩)
    · exact .inl (hk b o (.inr hb) e)
  · by_cases hb : T2 b
    · obtain ⟨_, _, ps, h3⟩ := grown b hb
      exact ⟨_, h3⟩
    · exact ⟨o, hk b o (.inr hb) e⟩
end Mine

end

end

set_option maxRecDepth 100000 in
set_option maxHeartbeats 8000000 in
theorem PySem.Challenge.cw_xg0066_01_holds : PySem.Challenge.rw_xg0066_01.Holds := by
  exact Mine.hd (by
    w_on
    k_fill
    intro w s₀ s₁ mg mb G Y fa o pm cd doc dV kV ho hd hcd hD hmg hg args vals as hpre hlay hrd hwl hlo
    have KX := km_in_of Y
    km_tabs Y
    have X := (Ground.X G).1
    have V := (Ground.X G).2
    refine Ground.open G ?_
    intro T B D TE TW
    try (refine guard_noD D (by decide +kernel) ?_; clear D)
    km_lay T hmg ho hd cd
    wrow_args hpre hlay hrd hwl hlo
    rename_i hL ra w1 r0 hI hr hc1 hc2
    have k := Mine.law_end KX (Top.g T) hmg (Top.b T) (Top.builtins T) (Top.bmain T) (Top.nolimit T) (Top.nodigits T) hT9 hL hI hc1
    exact wpAny_mono k (fun v s' ⟨e, hk, hos, hgn⟩ => ⟨.inl ⟨v, .bool true, [], rfl, fun _ => rfl, by rw [e]; exact .bool true, by first | wrow_post | exact postW_of (X := true) rfl rfl rfl, fun _ => ⟨.nil, fun _ h => nomatch h⟩⟩, hk, hos, .of_eq (by rw [hgn]; exact hg)⟩) (fun _ _ h => h.elim))
