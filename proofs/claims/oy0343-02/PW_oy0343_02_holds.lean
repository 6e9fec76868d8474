import PyProof.Rows.All
import Wide.All
import OpenK.AllK
import Wide.FinOn
import PyProof.ExcBaseAll.ValueError
import KE.KLam
import KE.KTryMore
import KE.KIntText
import KE.KAssignIn
import PySem.Challenge.RW_oy0343_02
set_option Elab.async false
set_option compiler.extract_closed false
set_option tactic.hygienic false
set_option genSizeOf false
set_option linter.unusedVariables false
set_option linter.unusedSimpArgs false
set_option maxRecDepth 100000
set_option maxHeartbeats 8000000
section
open PySem PySem.W PyProof.Rows
namespace SL
noncomputable abbrev qv : Program := view PySem.Challenge.pw_oy0343_02 [50]
noncomputable def lsn : List Str := ["_wall", "_NODE_OUT", "_NODE_DONE", "_NodeInfo", "CycleError", "TopologicalSorter", "_netrclex", "S_IMODE", "S_IFMT", "S_IFDIR", "S_IFCHR", "S_IFBLK", "S_IFREG", "S_IFIFO", "S_IFLNK", "S_IFSOCK", "S_ISUID", "S_ISGID", "S_ISVTX", "S_IRUSR", "S_IWUSR", "S_IXUSR", "S_IRGRP", "S_IWGRP", "S_IXGRP", "S_IROTH", "S_IWOTH", "S_IXOTH", "_filemode_table", "filemode", "_law_numbers", "_law_words", "_law_written", "_law_lexer", "_law_deed", "_law_made", "_law_value", "_law_shown", "_law_one_by_one", "_law_figure", "_law_given", "_law_at_once", "_law_sorter", "_law_stages", "_law_early", "_law_in_line"].map Str.ofString
theorem said : (OpenLaw.wellSaid PySem.Challenge.rw_oy0343_02) = true := (congrFun PySem.W.Fast.te9446332074065402090 _).trans (by kernel_rfl)
theorem hopen {r : OpenRow} (H : Hook) {d : DefRec} {kwd : List (Str × Expr)} (hl : LeftO r.prog qv lsn (fun s => xlAt qv [] s && recOk [] s) H.obs H.val 4344) (hw : r.toRowW.promised) (hc : WalkO qv lsn (XL qv []) H.says r.toRowW d kwd fun f vs => PySem.call f vs)
    (hdef : defOf qv r.name = some (d, kwd)) (hp : r.prog.theDef r.name = some (d.params, d.body, d.scope)) (hk : kwWritten? d.params.kwonlyargs d.params.kw_defaults = some kwd) (hr : r.records = []) (hwr : (!r.writes || r.records.isEmpty) = true) (k1 : r.wellSaid = true)
    (ok : (chainsOk qv && opensWell r.prog && (frees r.toRowW && r.within.isEmpty)) = true) (hb : r.prog.bare) : r.Holds :=
  holds_open (q := qv) (loose := lsn) (Xt := fun s => xlAt qv [] s && recOk [] s) (XP := XL qv []) (Yf := H.obs) (Ya := H.val) (YP := H.says) (N := 4344) hl H.of H.keeps (fun s e => xl_of s (Bool.and_eq_true_iff.mp e).1) XL.keeps hdef hp hk (fun s e => hr ▸ recFacts_of (Bool.and_eq_true_iff.mp e).2) hwr k1 ok hb hw hc
set_option hygiene false
local macro_rules | `(tactic| o_law) => `(tactic| refine holds_law said fun said => ?_)
local macro_rules | `(tactic| o_head $H) => `(tactic| (refine hopen $H ?hl ?hw ?hc (by rfl) (by rfl) (by rfl) rfl rfl said (by kernel_rfl) ⟨rfl, rfl, rfl, rfl, rfl, by kernel_rfl⟩; (case hl => (intro w; simp only [openEnds, fencedOpening, topFrom, PySem.W.Fast.te4187177175401517315, PySem.W.Fast.te14082659384304107361, PySem.W.Fast.te10274390034422433532, PySem.W.Fast.te14289696077712309145, PySem.W.Fast.te14364793385576792824]; kernel_rfl))))
set_option hygiene true
open_top hd for PySem.Challenge.rw_oy0343_02

end SL

end
section
open PySem PySem.W PyProof.Rows PySem.Calls
namespace SL
theorem hid0 {G : Prop} (h : ∀ K : Prop, (G → K) → K) : G := h G id

inductive PV where
  | none | bool (b : Bool) | int (i : Int) | str (x : Str) | ref (a : Addr) | type (n : String) | builtin (id : String) | other
  deriving DecidableEq, Inhabited

noncomputable def abs : Value → PV
  | .none => .none
  | .bool b => .bool b
  | .int i _ => .int i
  | .str x _ => .str x
  | .ref a => .ref a
  | .type n => .type n
  | .builtin n => .builtin n
  | _ => .other

theorem abs_none {v : Value} (h : abs v = .none) : v = .none := by cases v <;> simp_all [abs]
theorem abs_bool {v : Value} {b : Bool} (h : abs v = .bool b) : v = .bool b := by cases v <;> simp_all [abs]
theorem abs_int {v : Value} {i : Int} (h : abs v = .int i) : ∃ t, v = .int i t := by cases v <;> simp_all [abs]
theorem abs_str {v : Value} {x : Str} (h : abs v = .str x) : ∃ t, v = .str x t := by cases v <;> simp_all [abs]
theorem abs_ref {v : Value} {a : Addr} (h : abs v = .ref a) : v = .ref a := by cases v <;> simp_all [abs]
theorem abs_type {v : Value} {n : String} (h : abs v = .type n) : v = .type n := by cases v <;> simp_all [abs]
theorem abs_builtin {v : Value} {n : String} (h : abs v = .builtin n) : v = .builtin n := by cases v <;> simp_all [abs]

inductive KV where
  | i (n : Int) | s (x : Str)
  deriving DecidableEq
noncomputable def KV.pv : KV → PV
  | .i n => .int n
  | .s x => .str x

noncomputable abbrev Fm := List (Str × PV)
noncomputable def Fm.put (x : Str) (v : PV) : Fm → Fm
  | [] => [(x, v)]
  | (y, u) :: r => if x == y then (y, v) :: r else (y, u) :: Fm.put x v r
theorem Fm.lookup_put (x y : Str) (v : PV) : ∀ f : Fm, List.lookup y (Fm.put x v f) = if y = x then some v else List.lookup y f
  | [] => by
    by_cases h : y = x
    · subst h; simp [Fm.put]
    · have hb : (y == x) = false := by simpa using h
      simp [Fm.put, List.lookup, hb, h]
  | (z, u) :: r => by
    unfold Fm.put
    by_cases hxz : x = z
    · subst hxz
      simp only [beq_self_eq_true, if_true]
      by_cases h : y = x
      · subst h; simp [List.lookup]
      · have hb : (y == x) = false := by simpa using h
        simp [List.lookup, hb, h]
    · have hb : (x == z) = false := by simpa using hxz
      simp only [hb, Bool.false_eq_true, if_false]
      by_cases h : y = z
      · subst h
        have : y ≠ x := fun e => hxz e.symm
        simp [List.lookup, this]
      · have hb' : (y == z) = false := by simpa using h
        simp only [List.lookup, hb']
        exact Fm.lookup_put x y v r

inductive AO where
  | list (xs : List PV)
  | tuple (xs : List PV)
  | dict (kvs : List (KV × PV))
  | set (S : KV → Bool) (n : Nat)
  | inst (C dx : Addr) (sl : List (Option PV))
  | flds (f : Fm)
  | cell (v : Option PV)
  | ns (f : Fm)
  | it (T : String) (vs : List Value)
  | range (a b c : Int)
  | tab (ps : Array Value)
  | code (q : Str)
  | fn (fd : FuncData) (dx : Option Addr)
  | raw (o : Obj)

set_option genInjectivity false in
structure Cx where
  prog : Program
  w : World
  K : Frag
  hb : Heap
  os : OsState
  mg : Str → Option Value
  mb : Str → Option Value
  G : hb.Ns mainGlobals mg
  B : hb.Ns builtinsNs mb
  nolimit : hb.NoLimit
  nodigits : ∃ mc, hb.Ns cStatics mc ∧ mc "sys.int_max_str_digits" = none
  builtins : ∀ x : Str, x ≠ "__name__" → mb x = bootBuiltins x
  KI : K.In hb

noncomputable abbrev Cx.M (X : Cx) : Model := model X.prog X.w

noncomputable def KV.is : KV → Value → Bool
  | .i n, v => Value.isInt n v
  | .s x, v => Value.isStrOf x v
theorem KV.is_abs {k : KV} {v : Value} : k.is v = true ↔ abs v = k.pv := by
  cases k <;> cases v <;> simp [KV.is, Value.isInt, Value.isStrOf, abs, KV.pv]
noncomputable def KV.hash (w : World) : KV → Int
  | .i n => hashInt n
  | .s x => hashStr w x

section
variable {prog : Program} {w : World} {A : Around} {E : Value → Shared → Prop} {s : Shared}
theorem eqBool_int_str {a : Int} {b : Str} {t u : Tok} {Q : Bool → Shared → Prop} (h : Q false s) : wpAny (model prog w) A (eqBool (.int a t) (.str b u)) Q E s := by
  unfold eqBool
  refine wpAny_holding ?_
  rw [if_neg (by intro e; exact nomatch (eq_of_beq e))]
  exact wpAny_bind (EqMixed.eq_int_str (Q := fun v s' => wpAny (model prog w) A (truthOfDropped v) Q E s') (wpAny_truthy_bool h))
theorem eqBool_str_int {a : Str} {b : Int} {t u : Tok} {Q : Bool → Shared → Prop} (h : Q false s) : wpAny (model prog w) A (eqBool (.str a t) (.int b u)) Q E s := by
  unfold eqBool
  refine wpAny_holding ?_
  rw [if_neg (by intro e; exact nomatch (eq_of_beq e))]
  exact wpAny_bind (EqMixed.eq_str_int (Q := fun v s' => wpAny (model prog w) A (truthOfDropped v) Q E s') (wpAny_truthy_bool h))
end

theorem KV.shape {k : KV} {v : Value} (h : k.is v = true) : ∃ t, v = (match k with | .i n => .int n t | .s x => .str x t) := by
  cases k with
  | i n => exact Value.isInt_shape h
  | s x => exact Value.isStrOf_shape h

noncomputable def knd (prog : Program) (w : World) : KeyKind prog w KV where
  is := KV.is
  hash := KV.hash w
  inj := fun v a b ha hb => by
    have h1 := KV.is_abs.mp ha
    have h2 := KV.is_abs.mp hb
    rw [h1] at h2
    cases a <;> cases b <;> simp_all [KV.pv]
  byValue := fun k v h => by
    obtain ⟨t, rfl⟩ := KV.shape h
    cases k <;> rfl
  pyHash := fun {A E s k v Q} hv h => by
    obtain ⟨t, rfl⟩ := KV.shape hv
    cases k with
    | i n => exact wpAny_pyHash_int h
    | s x => exact wpAny_pyHash_str h
  eqBool := fun {A E s a b u v Q} hu hv h => by
    obtain ⟨t, rfl⟩ := KV.shape hu
    obtain ⟨t', rfl⟩ := KV.shape hv
    cases a with
    | i n => cases b with
      | i m =>
        have e : (n == m) = decide (KV.i n = KV.i m) := by by_cases q : n = m <;> simp [q]
        exact wpAny_eqBool_int (by rw [e]; exact h)
      | s y => exact eqBool_int_str (by simpa using h)
    | s x => cases b with
      | i m => exact eqBool_str_int (by simpa using h)
      | s y =>
        have e : decide (x = y) = decide (KV.s x = KV.s y) := by by_cases q : x = y <;> simp [q]
        exact wpAny_eqBool_str (by rw [e]; exact h)
  «strs» := fun k x t v h => by
    cases k with
    | i n => simp [KV.is, Value.isInt] at h
    | s y =>
      have : x = y := by simpa [KV.is, Value.isStrOf] using h
      subst this
      cases v <;> simp [KV.is, Value.isStrOf, Value.isStr]

noncomputable abbrev St := Addr → Option AO
noncomputable def St.set (σ : St) (a : Addr) (o : AO) : St := fun b => if b = a then some o else σ b
noncomputable def St.del (σ : St) (a : Addr) : St := fun b => if b = a then none else σ b

noncomputable def OR (X : Cx) : AO → Obj → Prop
  | .list xs, o => ∃ vs n, o = listOf vs n ∧ vs.toList.map abs = xs
  | .tuple xs, o => ∃ vs n, o = ⟨.type "tuple", none, .seq vs n, #[]⟩ ∧ vs.toList.map abs = xs
  | .dict kvs, o => o.ExactDict ∧ ∃ es ep kvs', o.data = .dict es ep ∧ KeysOf (knd X.prog X.w) es ∧ Pairs (knd X.prog X.w) es.toList kvs' ∧ (kvs'.map (·.1)).Nodup ∧ kvs'.map (fun p => (p.1, abs p.2)) = kvs
  | .set S n, o => o.ExactSet ∧ ∃ es ep t, o.data = .set es ep t ∧ ElemsOf (knd X.prog X.w) es.toList ∧ (∀ k, S k = true ↔ ∃ e ∈ es.toList, (knd X.prog X.w).is k e.2 = true) ∧ es.size < scanBound ∧ t.fits es.size = true ∧ es.size = n
  | .inst C dx sl, o => o.cls = .ref C ∧ o.dict = some dx ∧ o.data = .plain ∧ o.slots.toList.map (Option.map abs) = sl
  | .flds f, o => ∃ es n, o = dictOf es n ∧ es.length ≤ f.length ∧ StrKeys es.toArray ∧ ∀ x, (nsFind es.toArray x).map abs = f.lookup x
  | .cell v, o => ∃ v', o.data = .cell v' ∧ v'.map abs = v
  | .ns f, o => ∃ es ep, o.data = .dict es ep ∧ StrKeys es ∧ ∀ x v, f.lookup x = some v → (nsFind es x).map abs = some v
  | .it T vs, o => o.cls = .type T ∧ o.data = .fields vs.toArray
  | .range a b c, o => ∃ t u v, o = { cls := .type "range", dict := none, data := .fields #[.int a t, .int b u, .int c v], slots := #[] }
  | .tab ps, o => o = { cls := .none, data := .fields ps }
  | .code q, o => ∃ vs t, o.data = .fields vs ∧ vs[1]? = some (.str q t)
  | .fn fd dx, o => o.cls = .type "function" ∧ o.dict = dx ∧ o.data = .func fd
  | .raw o', o => o = o'

noncomputable def AO.isRaw : AO → Bool
  | .raw _ => true
  | .range .. => true
  | .tab _ => true
  | .code _ => true
  | .it .. => true
  | _ => false
theorem OR.notFields {X : Cx} {o : AO} {ob : Obj} (h : OR X o ob) (hr : o.isRaw = false) : ∀ vs, ob.data ≠ .fields vs := by
  intro vs e
  cases o with
  | list xs => obtain ⟨v, n, d, _⟩ := h; rw [d] at e; cases e
  | tuple xs => obtain ⟨v, n, d, _⟩ := h; rw [d] at e; cases e
  | dict kvs => obtain ⟨_, es, ep, k, d, _⟩ := h; rw [d] at e; cases e
  | set S n => obtain ⟨_, es, ep, k, d, _⟩ := h; rw [d] at e; cases e
  | inst C dx sl => obtain ⟨_, _, d, _⟩ := h; rw [d] at e; cases e
  | flds f => obtain ⟨es, n, d, _⟩ := h; rw [d] at e; cases e
  | cell v => obtain ⟨v', d, _⟩ := h; rw [d] at e; cases e
  | ns f => obtain ⟨es, ep, d, _⟩ := h; rw [d] at e; cases e
  | it T vs => cases hr
  | raw o' => cases hr
  | range a b c => cases hr
  | tab ps => cases hr
  | code q => cases hr
  | fn fd dx => obtain ⟨_, _, d⟩ := h; rw [d] at e; cases e

noncomputable def AO.isTab : AO → Bool
  | .tab _ => true
  | _ => false
noncomputable def Out (X : Cx) (a : Addr) (o : AO) : Prop := X.hb.get? a = none ∧ (X.hb.objs.size ≤ a ∨ o.isTab = true)
theorem Out.hi {X : Cx} {a : Addr} {o : AO} (h : X.hb.objs.size ≤ a) : Out X a o := by
  refine ⟨?_, .inl h⟩
  cases q : X.hb.get? a with
  | none => rfl
  | some o => exact absurd (Heap.lt_size q) (Nat.not_lt.mpr h)
theorem Out.turn {X : Cx} {a : Addr} {o o' : AO} (h : Out X a o) (ht : o.isTab = true → o'.isTab = true) : Out X a o' := ⟨h.1, h.2.imp id ht⟩
noncomputable def AO.isNs : AO → Bool
  | .ns _ => true
  | _ => false
noncomputable def NsOnly (fs : List Env) (σ : St) : Prop := ∀ env ∈ fs, ∀ L, env.frame = some L → ∀ o, σ L = some o → o.isNs = true
theorem FF_at {fs : List Env} {base h : Heap} {env : Env} {L : Addr} (hf : h.FunFrames base fs) (he : env ∈ fs) (hL : env.frame = some L) : ∃ o, h.get? L = some o ∧ ∀ vs, o.data ≠ .fields vs :=
  (hf.mem (List.mem_filterMap.mpr ⟨env, he, hL⟩)).2
theorem FF_keep {base h h' : Heap} (k : ∀ L o, h.get? L = some o → (∀ vs, o.data ≠ .fields vs) → ∃ o', h'.get? L = some o' ∧ ∀ vs, o'.data ≠ .fields vs) : ∀ {l : List Env}, h.FunFrames base l → h'.FunFrames base l
  | [], x => x
  | _ :: _, ⟨k1, ⟨L, o, k2, k3, k4, k5⟩, k6⟩ => ⟨k1, (k L o k4 k5).elim fun o' z => ⟨L, o', k2, k3, z.1, z.2⟩, FF_keep k k6⟩
structure Rel (X : Cx) (fs : List Env) (σ : St) (s : Shared) : Prop where
  keep : ∀ b o, X.hb.get? b = some o → s.heap.get? b = some o
  own : ∀ a o, σ a = some o → Out X a o ∧ ∃ ob, s.heap.get? a = some ob ∧ OR X o ob
  big : X.hb.objs.size ≤ s.heap.objs.size
  frames : s.heap.FunFrames X.hb fs
  gens : s.gens = #[]
  os : s.os = X.os
  nss : NsOnly fs σ

namespace Rel
variable {X : Cx} {fs : List Env} {σ : St} {s : Shared}
theorem toks (R : Rel X fs σ s) (t : Nat) : Rel X fs σ { s with toks := t } := ⟨R.keep, R.own, R.big, R.frames, R.gens, R.os, R.nss⟩
theorem less {σ' : St} (R : Rel X fs σ s) (h : ∀ a o, σ' a = some o → σ a = some o) : Rel X fs σ' s := ⟨R.keep, fun a o e => R.own a o (h a o e), R.big, R.frames, R.gens, R.os, fun env he L hL o e => R.nss env he L hL o (h L o e)⟩
theorem lt (R : Rel X fs σ s) {a : Addr} {o : AO} (h : σ a = some o) : a < s.heap.objs.size := by
  obtain ⟨_, ob, e, _⟩ := R.own a o h
  exact Heap.lt_size e
set_option tactic.hygienic true in
theorem push (R : Rel X fs σ s) {o : AO} {ob : Obj} (h : OR X o ob) (hf : ob.isFreed = false) : Rel X fs (σ.set s.heap.objs.size o) { s with heap := s.heap.push ob } := by
  refine ⟨fun b o e => Heap.get?_push_of_some _ (R.keep b o e), fun a o' e => ?_, ?_, ?_, R.gens, R.os, fun env he L hL o' e => ?_⟩
  rotate_right
  · obtain ⟨ob', g, _⟩ := FF_at R.frames he hL
    refine R.nss env he L hL o' ?_
    unfold St.set at e
    rw [if_neg (Nat.ne_of_lt (Heap.lt_size g))] at e; exact e
  · unfold St.set at e
    split at e
    · rename_i q; subst q; cases e
      exact ⟨.hi R.big, ob, Heap.get?_push_size _ hf, h⟩
    · obtain ⟨h1, ob', h2, h3⟩ := R.own a o' e
      exact ⟨h1, ob', Heap.get?_push_of_some _ h2, h3⟩
  · show _ ≤ (s.heap.push ob).objs.size
    rw [Heap.size_push]; exact Nat.le_succ_of_le R.big
  · exact R.frames.of_keeps fun b o e _ => ⟨o, Heap.get?_push_of_some _ e, rfl⟩
theorem pushMore (R : Rel X fs σ s) (ob : Obj) : Rel X fs σ { s with heap := s.heap.push ob } := by
  refine ⟨fun b o e => Heap.get?_push_of_some _ (R.keep b o e), fun a o' e => ?_, ?_, ?_, R.gens, R.os, R.nss⟩
  · obtain ⟨h1, ob', h2, h3⟩ := R.own a o' e
    exact ⟨h1, ob', Heap.get?_push_of_some _ h2, h3⟩
  · show _ ≤ (s.heap.push ob).objs.size
    rw [Heap.size_push]; exact Nat.le_succ_of_le R.big
  · exact R.frames.of_keeps fun b o e _ => ⟨o, Heap.get?_push_of_some _ e, rfl⟩
set_option tactic.hygienic true in
theorem upd (R : Rel X fs σ s) {h' : Heap} {a : Addr} {o₀ o : AO} {ob ob' : Obj} (e₀ : σ a = some o₀) (hs : Heap.SameBut a s.heap h') (ho : s.heap.get? a = some ob) (ho' : h'.get? a = some ob') (hr : OR X o ob')
    (hn : (∀ vs, ob.data ≠ .fields vs) → ∀ vs, ob'.data ≠ .fields vs) (ht : o₀.isTab = true → o.isTab = true) (hns : o₀.isNs = true → o.isNs = true) : Rel X fs (σ.set a o) { s with heap := h' } := by
  have hlo := (R.own a o₀ e₀).1
  refine ⟨fun b o e => (hs.2 b (fun q => ?_)).trans (R.keep b o e), fun b o' e => ?_, ?_, ?_, R.gens, R.os, fun env he L hL o' e => ?_⟩
  rotate_right
  · unfold St.set at e
    split at e
    · rename_i q; subst q; cases e; exact hns (R.nss env he L hL _ e₀)
    · exact R.nss env he L hL o' e
  · subst q; rw [hlo.1] at e; cases e
  · unfold St.set at e
    split at e
    · rename_i q; subst q; cases e; exact ⟨hlo.turn ht, ob', ho', hr⟩
    · rename_i q
      obtain ⟨h1, ob2, h2, h3⟩ := R.own b o' e
      exact ⟨h1, ob2, (hs.2 b q).trans h2, h3⟩
  · show _ ≤ h'.objs.size
    rw [hs.1]; exact R.big
  · refine FF_keep (fun L o k4 k5 => ?_) R.frames
    by_cases q : L = a
    · subst q
      rw [ho] at k4; cases k4
      exact ⟨ob', ho', hn k5⟩
    · exact ⟨o, (hs.2 L q).trans k4, k5⟩
theorem updN (R : Rel X fs σ s) {h' : Heap} {a : Addr} {o₀ o : AO} {ob' : Obj} (e₀ : σ a = some o₀) (hs : Heap.SameBut a s.heap h') (ho' : h'.get? a = some ob') (hr : OR X o ob') (hn : o.isRaw = false) (ht : o₀.isTab = true → o.isTab = true) (hns : o₀.isNs = true → o.isNs = true) :
    Rel X fs (σ.set a o) { s with heap := h' } := by
  obtain ⟨_, ob, ho, _⟩ := R.own a o₀ e₀
  exact R.upd e₀ hs ho ho' hr (fun _ => hr.notFields hn) ht hns
theorem KI (R : Rel X fs σ s) : X.K.In s.heap := X.KI.keeps R.keep
theorem G (R : Rel X fs σ s) : s.heap.Ns mainGlobals X.mg := X.G.keeps R.keep
theorem B (R : Rel X fs σ s) : s.heap.Ns builtinsNs X.mb := X.B.keeps R.keep
theorem nolimit (R : Rel X fs σ s) : s.heap.NoLimit := X.nolimit.keeps R.keep
end Rel

end SL

end
section
open PySem PySem.W PyProof.Rows PySem.Calls
namespace SL

inductive PF where
  | next | brk | cont | ret (v : PV)
noncomputable def absF : Flow → PF
  | .next => .next
  | .brk => .brk
  | .cont => .cont
  | .ret v => .ret (abs v)

noncomputable def fsOf (A : Around) : List Env := A.frames.getD []
structure OkA (A : Around) (k : Nat) : Prop where
  depth : A.depth + 2 * k < 900
  units : A.units + 12 * k < 9000
  handled : A.handled = none
  frames : A.frames.isSome = true


theorem St.set_self (σ : St) (a : Addr) (o : AO) : (σ.set a o) a = some o := by simp [St.set]
theorem St.set_ne {σ : St} {a b : Addr} (o : AO) (h : b ≠ a) : (σ.set a o) b = σ b := by simp [St.set, h]
theorem St.set_comm (σ : St) {a b : Addr} (o o' : AO) (h : a ≠ b) : (σ.set a o).set b o' = (σ.set b o').set a o := by
  funext c
  unfold St.set
  by_cases h1 : c = b
  · subst h1; simp [Ne.symm h]
  · by_cases h2 : c = a
    · subst h2; simp [h]
    · simp [h1, h2]
theorem St.set_set (σ : St) (a : Addr) (o o' : AO) : (σ.set a o).set a o' = σ.set a o' := by
  funext c; unfold St.set; split <;> rfl
theorem St.del_self (σ : St) (a : Addr) : (σ.del a) a = none := by simp [St.del]
theorem St.del_ne {σ : St} {a b : Addr} (h : b ≠ a) : (σ.del a) b = σ b := by simp [St.del, h]
set_option tactic.hygienic true in
theorem St.set_del {σ : St} {a : Addr} {o : AO} (h : σ a = none) : (σ.set a o).del a = σ := by
  funext b; unfold St.set St.del; split
  · rename_i q; subst q; exact h.symm
  · rename_i q; simp [q]


noncomputable def St.un (σ σf : St) : St := fun a => match σ a with | some o => some o | none => σf a
noncomputable def Disj (σ σf : St) : Prop := ∀ a o, σ a = some o → σf a = none
theorem St.un_of {σ σf : St} {a : Addr} {o : AO} (h : σ a = some o) : (σ.un σf) a = some o := by unfold St.un; rw [h]
theorem St.un_none {σ σf : St} {a : Addr} (h : σ a = none) : (σ.un σf) a = σf a := by unfold St.un; rw [h]
theorem St.un_eq_none {σ σf : St} {a : Addr} (h : (σ.un σf) a = none) : σ a = none ∧ σf a = none := by
  unfold St.un at h
  cases q : σ a with
  | none => rw [q] at h; exact ⟨rfl, h⟩
  | some o => rw [q] at h; cases h
theorem St.set_un (σ σf : St) (a : Addr) (o : AO) : (σ.set a o).un σf = (σ.un σf).set a o := by
  funext b
  unfold St.set St.un
  by_cases h : b = a <;> simp [h]
theorem St.ne_of {σ : St} {a b : Addr} {o : AO} (h : σ a = some o) (h' : σ b = none) : a ≠ b := fun e => Option.some_ne_none o (h.symm.trans (e ▸ h'))
theorem St.no_of {σ : St} {a : Addr} (h : ∀ o, σ a ≠ some o) : σ a = none := Option.eq_none_iff_forall_ne_some.mpr h
theorem St.un_set {σ σf : St} {a : Addr} {o : AO} (h : σ a = none) : σ.un (σf.set a o) = (σ.un σf).set a o := by
  funext b
  unfold St.set St.un
  by_cases q : b = a
  · subst q; simp [h]
  · simp [q]
theorem St.un_cases {σ σf : St} {a : Addr} {o : AO} (h : (σ.un σf) a = some o) : σ a = some o ∨ σf a = some o := by
  unfold St.un at h
  cases q : σ a with
  | none => rw [q] at h; exact .inr h
  | some o' => rw [q] at h; exact .inl h
theorem St.un_right {σ σf : St} (D : Disj σ σf) {a : Addr} {o : AO} (h : σf a = some o) : (σ.un σf) a = some o :=
  (St.un_none (St.no_of fun o' e => Option.some_ne_none o (h.symm.trans (D a o' e)))).trans h
theorem Disj.setR {σ σf : St} {a : Addr} {o : AO} : Disj σ (σf.set a o) ↔ σ a = none ∧ Disj σ σf := by
  constructor
  · intro D
    have h : σ a = none := St.no_of fun o' e => Option.some_ne_none o ((St.set_self σf a o).symm.trans (D a o' e))
    exact ⟨h, fun b o' e => (St.set_ne o (St.ne_of e h)).symm.trans (D b o' e)⟩
  · exact fun h b o' e => (St.set_ne o (St.ne_of e h.1)).trans (h.2 b o' e)
set_option tactic.hygienic true in
theorem Disj.set {σ σf : St} {a : Addr} {o : AO} (h : Disj σ σf) (ha : σf a = none) : Disj (σ.set a o) σf := by
  intro b o' e
  unfold St.set at e
  split at e
  · rename_i q; subst q; exact ha
  · exact h b o' e
theorem Disj.less {σ σ' σf : St} (h : Disj σ σf) (hl : ∀ a o, σ' a = some o → σ a = some o) : Disj σ' σf := fun a o e => h a o (hl a o e)

structure RelF (X : Cx) (fs : List Env) (L : Addr) (σf : St) (fr : Fm) (σ : St) (s : Shared) : Prop where
  disj : Disj σ σf
  free : (σ.un σf) L = none
  rel : Rel X fs ((σ.un σf).set L (.ns fr)) s

namespace RelF
variable {X : Cx} {fs : List Env} {L : Addr} {σf : St} {fr : Fm} {σ : St} {s : Shared}
theorem noL (R : RelF X fs L σf fr σ s) : σ L = none := (St.un_eq_none R.free).1
theorem at_ (R : RelF X fs L σf fr σ s) {a : Addr} {o : AO} (h : σ a = some o) : ((σ.un σf).set L (.ns fr)) a = some o := by
  rw [St.set_ne _ (fun e => by rw [e, R.noL] at h; cases h)]; exact St.un_of h
theorem ne {a : Addr} {o : AO} (R : RelF X fs L σf fr σ s) (h : σ a = some o) : a ≠ L := fun e => by rw [e, R.noL] at h; cases h
theorem get (R : RelF X fs L σf fr σ s) {a : Addr} {o : AO} (h : σ a = some o) : ∃ ob, s.heap.get? a = some ob ∧ OR X o ob := (R.rel.own a o (R.at_ h)).2
theorem toks (R : RelF X fs L σf fr σ s) (t : Nat) : RelF X fs L σf fr σ { s with toks := t } := ⟨R.disj, R.free, R.rel.toks t⟩
theorem less {σ' : St} (R : RelF X fs L σf fr σ s) (h : ∀ a o, σ' a = some o → σ a = some o) : RelF X fs L σf fr σ' s := by
  have hu : ∀ a o, (σ'.un σf) a = some o → (σ.un σf) a = some o := fun a o e => (St.un_cases e).elim (fun e => St.un_of (h _ _ e)) (St.un_right R.disj)
  refine ⟨R.disj.less h, St.no_of fun o e => Option.some_ne_none o ((hu _ _ e).symm.trans R.free), R.rel.less fun a o e => ?_⟩
  by_cases q : a = L
  · subst q; rw [St.set_self] at e ⊢; exact e
  · rw [St.set_ne _ q] at e ⊢; exact hu _ _ e
theorem own (R : RelF X fs L σf fr σ s) : Rel X fs σ s := R.rel.less fun a o e => R.at_ e
theorem ns (R : RelF X fs L σf fr σ s) : ∃ m, s.heap.Ns L m ∧ ∀ x v, fr.lookup x = some v → (m x).map abs = some v := by
  obtain ⟨_, ob, h1, es, ep, h2, h3, h4⟩ := R.rel.own L _ (St.set_self ..)
  exact ⟨nsFind es, ⟨ob, es, ep, h1, h2, h3, fun _ => rfl⟩, h4⟩
theorem fresh' (R : RelF X fs L σf fr σ s) : (σ.un σf) s.heap.objs.size = none := St.no_of fun o q =>
  Nat.lt_irrefl _ (R.rel.lt (a := s.heap.objs.size) (o := o) ((St.set_ne _ (St.ne_of q R.free)).trans q))
theorem fresh (R : RelF X fs L σf fr σ s) : σ s.heap.objs.size = none := (St.un_eq_none R.fresh').1
theorem ltL (R : RelF X fs L σf fr σ s) : L < s.heap.objs.size := R.rel.lt (St.set_self ..)
theorem push (R : RelF X fs L σf fr σ s) {o : AO} {ob : Obj} (h : OR X o ob) (hf : ob.isFreed = false) : RelF X fs L σf fr (σ.set s.heap.objs.size o) { s with heap := s.heap.push ob } := by
  have hne : L ≠ s.heap.objs.size := Nat.ne_of_lt R.ltL
  refine ⟨R.disj.set (St.un_eq_none R.fresh').2, ?_, ?_⟩
  · rw [St.set_un, St.set_ne _ hne]; exact R.free
  · rw [St.set_un, St.set_comm _ _ _ (Ne.symm hne)]
    exact R.rel.push h hf
theorem pushMore (R : RelF X fs L σf fr σ s) (ob : Obj) : RelF X fs L σf fr σ { s with heap := s.heap.push ob } := ⟨R.disj, R.free, R.rel.pushMore ob⟩
theorem updF (R : RelF X fs L σf fr σ s) {h' : Heap} {a : Addr} {o₀ o : AO} {ob ob' : Obj} (e₀ : σ a = some o₀) (hs : Heap.SameBut a s.heap h') (ho : s.heap.get? a = some ob) (ho' : h'.get? a = some ob') (hr : OR X o ob')
    (hn : (∀ vs, ob.data ≠ .fields vs) → ∀ vs, ob'.data ≠ .fields vs) (ht : o₀.isTab = true → o.isTab = true := by first | (intro h; cases h; done) | (intro _; rfl) | assumption) (hns : o₀.isNs = true → o.isNs = true := by first | (intro h; cases h; done) | (intro _; rfl) | assumption) : RelF X fs L σf fr (σ.set a o) { s with heap := h' } := by
  have hne := R.ne e₀
  refine ⟨R.disj.set (R.disj _ _ e₀), ?_, ?_⟩
  · rw [St.set_un, St.set_ne _ (Ne.symm hne)]; exact R.free
  · rw [St.set_un, St.set_comm _ _ _ hne]
    exact R.rel.upd (R.at_ e₀) hs ho ho' hr hn ht hns
theorem upd (R : RelF X fs L σf fr σ s) {h' : Heap} {a : Addr} {o₀ o : AO} {ob' : Obj} (e₀ : σ a = some o₀) (hs : Heap.SameBut a s.heap h') (ho' : h'.get? a = some ob') (hr : OR X o ob') (hn : o.isRaw = false) (ht : o₀.isTab = true → o.isTab = true := by first | (intro h; cases h; done) | (intro _; rfl) | assumption) (hns : o₀.isNs = true → o.isNs = true := by first | (intro h; cases h; done) | (intro _; rfl) | assumption) :
    RelF X fs L σf fr (σ.set a o) { s with heap := h' } := by
  obtain ⟨ob, ho, _⟩ := R.get e₀
  exact R.updF e₀ hs ho ho' hr (fun _ => hr.notFields hn) ht hns
theorem setNs (R : RelF X fs L σf fr σ s) {h' : Heap} {m' : Str → Option Value} {fr' : Fm} (hs : Heap.SameBut L s.heap h') (hm : h'.Ns L m') (he : ∀ x v, fr'.lookup x = some v → (m' x).map abs = some v) : RelF X fs L σf fr' σ { s with heap := h' } := by
  refine ⟨R.disj, R.free, ?_⟩
  obtain ⟨ob, es, ep, h1, h2, h3, h4⟩ := hm
  rw [← St.set_set (σ.un σf) L (.ns fr)]
  exact R.rel.updN (St.set_self ..) hs h1 ⟨es, ep, h2, h3, fun x v hx => by rw [h4]; exact he x v hx⟩ rfl (fun h => nomatch h) (fun _ => rfl)
end RelF

noncomputable def Fm.le (f g : Fm) : Prop := ∀ x v, f.lookup x = some v → g.lookup x = some v
noncomputable def St.le (σ τ : St) : Prop := ∀ a o, σ a = some o → τ a = some o
theorem Fm.le_refl (f : Fm) : f.le f := fun _ _ h => h
theorem St.le_refl (σ : St) : σ.le σ := fun _ _ h => h
inductive Weak (J : Fm → St → Prop) (fr : Fm) (σ : St) : Prop
  | intro (fr' : Fm) (σ' : St) (h1 : fr'.le fr) (h2 : σ'.le σ) (h3 : J fr' σ')
theorem St.le_trans {σ τ υ : St} (h : σ.le τ) (h' : τ.le υ) : σ.le υ := fun a o e => h' a o (h a o e)
theorem St.set_none {σ : St} {a b : Addr} {o : AO} : (σ.set a o) b = none ↔ b ≠ a ∧ σ b = none := by
  unfold St.set; by_cases q : b = a <;> simp [q]
theorem St.ne_of' {σ : St} {a b : Addr} {o : AO} (h : σ a = some o) (h' : σ b = none) : b ≠ a := Ne.symm (St.ne_of h h')
theorem St.le_set {σ : St} {a : Addr} {o : AO} (h : σ a = none) : σ.le (σ.set a o) := fun b o' e => (St.set_ne _ (St.ne_of e h)).trans e
theorem St.le_sets {σ τ : St} {a : Addr} {o : AO} (h : σ.le τ) : (σ.set a o).le (τ.set a o) := fun b o' e => by
  by_cases q : b = a
  · subst q; rw [St.set_self] at e ⊢; exact e
  · rw [St.set_ne _ q] at e ⊢; exact h b o' e
theorem St.le.no {σ τ : St} (h : σ.le τ) {a : Addr} (e : τ a = none) : σ a = none := by
  cases q : σ a with
  | none => rfl
  | some o => exact absurd ((h a o q).symm.trans e) (Option.some_ne_none o)
theorem Weak.of {J : Fm → St → Prop} {fr : Fm} {σ : St} (h : J fr σ) : Weak J fr σ := ⟨fr, σ, Fm.le_refl _, St.le_refl _, h⟩
theorem Weak.mono {J J' : Fm → St → Prop} {fr : Fm} {σ : St} (h : Weak J fr σ) (hj : ∀ fr σ, J fr σ → J' fr σ) : Weak J' fr σ := by
  exact h.casesOn fun fr' σ' h1 h2 h3 => ⟨fr', σ', h1, h2, hj _ _ h3⟩
theorem RelF.weakF {X : Cx} {fs : List Env} {L : Addr} {σf : St} {fr fr' : Fm} {σ : St} {s : Shared} (R : RelF X fs L σf fr σ s) (h : fr'.le fr) : RelF X fs L σf fr' σ s := by
  refine ⟨R.disj, R.free, ⟨R.rel.keep, fun a o e => ?_, R.rel.big, R.rel.frames, R.rel.gens, R.rel.os, fun env he L' hL' o e => ?_⟩⟩
  · by_cases q : a = L
    · subst q; rw [St.set_self] at e; cases e
      obtain ⟨h1, ob, h2, es, ep, h3, h4, h5⟩ := R.rel.own _ _ (St.set_self ..)
      exact ⟨h1, ob, h2, es, ep, h3, h4, fun x v hx => h5 x v (h x v hx)⟩
    · exact R.rel.own a o (by rw [St.set_ne _ q] at e ⊢; exact e)
  · by_cases q : L' = L
    · subst q; rw [St.set_self] at e; cases e; rfl
    · exact R.rel.nss env he L' hL' o (by rw [St.set_ne _ q] at e ⊢; exact e)
inductive Po (X : Cx) (fs : List Env) (L : Addr) (σf : St) (Q : Fm → St → Prop) (s' : Shared) : Prop
  | intro (fr' : Fm) (σ' : St) (R : RelF X fs L σf fr' σ' s') (h : Q fr' σ')
noncomputable abbrev Post {α : Type} (X : Cx) (fs : List Env) (L : Addr) (σf : St) (Q : α → Fm → St → Prop) (a : α) (s' : Shared) : Prop := Po X fs L σf (Q a) s'
theorem RelF.weak {X : Cx} {fs : List Env} {L : Addr} {σf : St} {J : Fm → St → Prop} {fr : Fm} {σ : St} {s : Shared} (R : RelF X fs L σf fr σ s) (h : Weak J fr σ) : Po X fs L σf J s := by
  obtain ⟨fr', σ', h1, h2, h3⟩ := h
  exact ⟨fr', σ', (R.weakF h1).less h2, h3⟩

noncomputable def W {α : Type} (X : Cx) (A : Around) (L : Addr) (t : Sem α) (fr : Fm) (σ : St) (Q : α → Fm → St → Prop) (E : Value → Shared → Prop) : Prop :=
  ∀ σf s, RelF X (fsOf A) L σf fr σ s → wpAny X.M A t (Post X (fsOf A) L σf Q) E s

section
variable {X : Cx} {A : Around} {L : Addr} {fr : Fm} {σ : St} {E : Value → Shared → Prop}
theorem W.go {α : Type} {t : Sem α} {Q : α → Fm → St → Prop} {σf : St} {s : Shared} {P : α → Shared → Prop} (h : W X A L t fr σ Q E) (R : RelF X (fsOf A) L σf fr σ s) (hq : ∀ a s' fr' σ', RelF X (fsOf A) L σf fr' σ' s' → Q a fr' σ' → P a s') : wpAny X.M A t P E s :=
  wpAny_mono (h σf s R) (fun a s' h => match h with | ⟨fr', σ', R', h'⟩ => hq a s' fr' σ' R' h') fun _ _ x => x
theorem W.pure {α : Type} {a : α} {Q : α → Fm → St → Prop} (h : Q a fr σ) : W X A L (pure a) fr σ Q E := fun _ _ R => wpAny_pure ⟨_, _, R, h⟩
theorem W.bind {α β : Type} {m : Sem α} {f : α → Sem β} {Q : β → Fm → St → Prop} (h : W X A L m fr σ (fun a fr' σ' => W X A L (f a) fr' σ' Q E) E) : W X A L (m >>= f) fr σ Q E :=
  fun σf s R => wpAny_bind (W.go h R (fun _ s' _ _ R' h' => h' σf s' R'))
theorem W.mono {α : Type} {m : Sem α} {Q Q' : α → Fm → St → Prop} (h : W X A L m fr σ Q E) (hq : ∀ a fr' σ', Q a fr' σ' → Q' a fr' σ') : W X A L m fr σ Q' E :=
  fun σf s R => W.go h R (fun a _ _ _ R' h' => ⟨_, _, R', hq a _ _ h'⟩)
theorem W.holding {α : Type} {vs : List Value} {m : Sem α} {Q : α → Fm → St → Prop} (h : W X A L m fr σ Q E) : W X A L (PySem.holding vs m) fr σ Q E := fun σf s R => wpAny_holding (h σf s R)
theorem W.operate {vs : List Value} {m : Sem Value} {Q : Value → Fm → St → Prop} (h : W X A L m fr σ Q E) : W X A L (PySem.operate vs m) fr σ Q E := fun σf s R => wpAny_operateT (h σf s R)
theorem W.standAt {p : Pos} {Q : Unit → Fm → St → Prop} (h : Q () fr σ) : W X A L (PySem.standAt p) fr σ Q E := fun _ _ R => wpAny_standAt ⟨_, _, R, h⟩
theorem W.weaken {α : Type} {m : Sem α} {Q : α → Fm → St → Prop} (h : W X A L m fr σ (fun r => Weak (Q r)) E) : W X A L m fr σ Q E :=
  fun σf s R => W.go h R (fun r s' fr' σ' R' q => by obtain ⟨fr₂, σ₂, R₂, q₂⟩ := R'.weak q; exact ⟨fr₂, σ₂, R₂, q₂⟩)
theorem W.from {α : Type} {fr' : Fm} {σ' : St} {m : Sem α} {Q : α → Fm → St → Prop} (h1 : fr'.le fr) (h2 : σ'.le σ) (h : W X A L m fr' σ' Q E) : W X A L m fr σ Q E := fun σf s R => h σf s ((R.weakF h1).less h2)

noncomputable def WE (X : Cx) (A : Around) (env : Env) (e : Expr) (fr : Fm) (σ : St) (Q : PV → Fm → St → Prop) (E : Value → Shared → Prop) : Prop := W X A env.locals (eval e env) fr σ (fun v => Q (abs v)) E
noncomputable def WA (X : Cx) (A : Around) (env : Env) (pos : Pos) (es : List Expr) (fr : Fm) (σ : St) (Q : List PV → Fm → St → Prop) (E : Value → Shared → Prop) : Prop :=
  W X A env.locals (spliced (backTo pos (starEach es env))) fr σ (fun vs => Q (vs.map abs)) E
noncomputable def WT (X : Cx) (A : Around) (env : Env) (e : Expr) (fr : Fm) (σ : St) (Q : Bool → Fm → St → Prop) (E : Value → Shared → Prop) : Prop := W X A env.locals (isTrue e env (eval e env)) fr σ Q E
noncomputable def WS (X : Cx) (A : Around) (env : Env) (st : Stmt) (fr : Fm) (σ : St) (Q : PF → Fm → St → Prop) (E : Value → Shared → Prop) : Prop := W X A env.locals (exec st env) fr σ (fun f => Q (absF f)) E
noncomputable def WB (X : Cx) (A : Around) (env : Env) (sts : List Stmt) (fr : Fm) (σ : St) (Q : PF → Fm → St → Prop) (E : Value → Shared → Prop) : Prop := W X A env.locals (execs sts env) fr σ (fun f => Q (absF f)) E
noncomputable def W1 (X : Cx) (A : Around) (L : Addr) (f : Value → Sem Value) (x : PV) (fr : Fm) (σ : St) (Q : PV → Fm → St → Prop) (E : Value → Shared → Prop) : Prop := ∀ a, abs a = x → W X A L (f a) fr σ (fun v => Q (abs v)) E
noncomputable def W2 (X : Cx) (A : Around) (L : Addr) (f : Value → Value → Sem Value) (x y : PV) (fr : Fm) (σ : St) (Q : PV → Fm → St → Prop) (E : Value → Shared → Prop) : Prop := ∀ a b, abs a = x → abs b = y → W X A L (f a b) fr σ (fun v => Q (abs v)) E
noncomputable def W1B (X : Cx) (A : Around) (L : Addr) (f : Value → Sem Bool) (x : PV) (fr : Fm) (σ : St) (Q : Bool → Fm → St → Prop) (E : Value → Shared → Prop) : Prop := ∀ a, abs a = x → W X A L (f a) fr σ Q E
noncomputable def WU (X : Cx) (A : Around) (L : Addr) (f : Value → Sem Unit) (x : PV) (fr : Fm) (σ : St) (Q : Fm → St → Prop) (E : Value → Shared → Prop) : Prop := ∀ a, abs a = x → W X A L (f a) fr σ (fun _ => Q) E
noncomputable def WU2 (X : Cx) (A : Around) (L : Addr) (f : Value → Value → Sem Unit) (x y : PV) (fr : Fm) (σ : St) (Q : Fm → St → Prop) (E : Value → Shared → Prop) : Prop := ∀ a b, abs a = x → abs b = y → W X A L (f a b) fr σ (fun _ => Q) E
noncomputable def WU3 (X : Cx) (A : Around) (L : Addr) (f : Value → Value → Value → Sem Unit) (x y z : PV) (fr : Fm) (σ : St) (Q : Fm → St → Prop) (E : Value → Shared → Prop) : Prop := ∀ a b c, abs a = x → abs b = y → abs c = z → W X A L (f a b c) fr σ (fun _ => Q) E
end

section
variable {X : Cx} {A : Around} {env : Env} {fr : Fm} {σ : St} {E : Value → Shared → Prop}

theorem WE.cInt {i k pos} {Q : PV → Fm → St → Prop} (h : Q (.int i) fr σ) : WE X A env (.Constant (.int i) k pos) fr σ Q E := fun σf s R => wpAny_Constant_int ⟨_, _, R.toks _, h⟩
theorem WE.cNone {k pos} {Q : PV → Fm → St → Prop} (h : Q .none fr σ) : WE X A env (.Constant .none k pos) fr σ Q E := fun σf s R => wpAny_Constant_none ⟨_, _, R, h⟩
theorem WE.cBool {b k pos} {Q : PV → Fm → St → Prop} (h : Q (.bool b) fr σ) : WE X A env (.Constant (.bool b) k pos) fr σ Q E := fun σf s R => wpAny_Constant_bool ⟨_, _, R, h⟩
theorem WE.cStr {x k pos} {Q : PV → Fm → St → Prop} (h : Q (.str x) fr σ) : WE X A env (.Constant (.str x) k pos) fr σ Q E := fun σf s R => wpAny_Constant_str ⟨_, _, R.toks _, h⟩

noncomputable def WL (X : Cx) (A : Around) (env : Env) (x : Str) (fr : Fm) (σ : St) (Q : PV → Fm → St → Prop) (E : Value → Shared → Prop) : Prop := W X A env.locals (loadName env x) fr σ (fun v => Q (abs v)) E
theorem WL.local {x : Str} {v : PV} {Q : PV → Fm → St → Prop} (h : Q v fr σ) (hk : env.scope.kind = .function) (hl : env.kindOf x = some .local) (hv : fr.lookup x = some v) : WL X A env x fr σ Q E := by
  intro σf s R
  obtain ⟨m, hm, he⟩ := R.ns
  have := he x _ hv
  obtain ⟨u, hu, rfl⟩ := Option.map_eq_some_iff.mp this
  exact wpAny_loadName_local hk hl hm hu ⟨_, _, R, h⟩
theorem WL.cell {x : Str} {c : Addr} {v : PV} {Q : PV → Fm → St → Prop} (h : Q v fr σ) (hk : env.scope.kind = .function) (hl : env.kindOf x = some .cell) (hc : env.cells.lookup x = some c) (hv : σ c = some (.cell (some v))) : WL X A env x fr σ Q E := by
  intro σf s R
  obtain ⟨ob, h1, v', h2, h3⟩ := R.get hv
  obtain ⟨u, rfl, rfl⟩ := Option.map_eq_some_iff.mp h3
  exact wpAny_loadName_cell hk hl hc ⟨ob, h1, h2⟩ ⟨_, _, R, h⟩
theorem WL.free {x : Str} {c : Addr} {v : PV} {Q : PV → Fm → St → Prop} (h : Q v fr σ) (hk : env.scope.kind = .function) (hl : env.kindOf x = some .free) (hc : env.cells.lookup x = some c) (hv : σ c = some (.cell (some v)))
    (hn : (x == ("__classdict__" : Str)) = false) : WL X A env x fr σ Q E := by
  intro σf s R
  obtain ⟨ob, h1, v', h2, h3⟩ := R.get hv
  obtain ⟨u, rfl, rfl⟩ := Option.map_eq_some_iff.mp h3
  exact wpAny_loadName_free hk hl hc ⟨ob, h1, h2⟩ ⟨_, _, R, h⟩ hn
theorem loadName_global {env : Env} {x : Str} (hk : env.scope.kind = .function) (hx : env.kindOf x = some .globalImplicit) : loadName env x = loadGlobal env x := by
  unfold loadName
  simp only [Env.blockKind, hk, hx, ScopeKind.isAnnotationScope, Bool.false_and, Bool.false_eq_true, if_false]
theorem WL.global {x : Str} {v : Value} {Q : PV → Fm → St → Prop} (h : Q (abs v) fr σ) (hk : env.scope.kind = .function) (hl : env.kindOf x = some .globalImplicit) (hg : env.globals = mainGlobals) (hv : X.mg x = some v) :
    WL X A env x fr σ Q E := by
  intro σf s R
  show wpAny _ _ (loadName env x) _ _ _
  rw [loadName_global hk hl]
  exact loadGlobal_global (hg ▸ R.rel.G) hv ⟨_, _, R, h⟩
theorem WL.builtin {x : Str} {v : Value} {Q : PV → Fm → St → Prop} (h : Q (abs v) fr σ) (hk : env.scope.kind = .function) (hl : env.kindOf x = some .globalImplicit) (hg : env.globals = mainGlobals) (hb : env.builtins = builtinsNs) (hm : X.mg x = none)
    (hn : x ≠ "__name__") (hv : bootBuiltins x = some v) : WL X A env x fr σ Q E := by
  intro σf s R
  show wpAny _ _ (loadName env x) _ _ _
  rw [loadName_global hk hl]
  exact loadGlobal_builtin (hg ▸ R.rel.G) hm (hb ▸ R.rel.B) ((X.builtins x hn).trans hv) ⟨_, _, R, h⟩
theorem WE.name {x : Str} {pos : Pos} {Q : PV → Fm → St → Prop} (h : WL X A env x fr σ Q E) (hd : (x == ("__debug__" : Str)) = false) : WE X A env (.Name x pos) fr σ Q E :=
  fun σf s R => wpAny_Name (h σf s R) hd

set_option tactic.hygienic true in
theorem W.storeLocal {x : Str} {v : Value} {Q : Fm → St → Prop} (hl : env.kindOf x = some .local) (hp : (env.scope.kind == .class || (env.scope.kind == .module && env.locals != env.globals)) = false) (h : Q (Fm.put x (abs v) fr) σ) :
    W X A env.locals (storeName env x v) fr σ (fun _ => Q) E := by
  intro σf s R
  obtain ⟨m, hm, he⟩ := R.ns
  refine wpAny_storeName_local hl hm (fun h' hn hs => ⟨_, _, (R.setNs (fr' := Fm.put x (abs v) fr) hs hn fun y u hy => ?_).toks _, h⟩) hp
  show Option.map abs (if y = x then some v else m y) = _
  rw [Fm.lookup_put] at hy
  split
  · rename_i q; rw [if_pos q] at hy; exact hy
  · rename_i q; rw [if_neg q] at hy; exact he y u hy
theorem W.storeCell {x : Str} {c : Addr} {v : Value} {v₀ : Option PV} {Q : Fm → St → Prop} (hk : env.scope.kind = .function) (hl : env.kindOf x = some .cell) (hc : env.cells.lookup x = some c) (hv : σ c = some (.cell v₀)) (h : Q fr (σ.set c (.cell (some (abs v))))) :
    W X A env.locals (storeName env x v) fr σ (fun _ => Q) E := by
  intro σf s R
  obtain ⟨ob, h1, v', h2, h3⟩ := R.get hv
  refine wpAny_storeName_cell hk hl hc ⟨ob, h1, h2⟩ fun h' hc' hs => ?_
  obtain ⟨ob', h4, h5⟩ := hc'
  exact ⟨_, _, R.upd hv hs h4 (o := .cell (some (abs v))) ⟨_, h5, rfl⟩ rfl, h⟩
noncomputable def WN (X : Cx) (A : Around) (env : Env) (x : Str) (v : PV) (fr : Fm) (σ : St) (Q : Fm → St → Prop) (E : Value → Shared → Prop) : Prop := WU X A env.locals (storeName env x) v fr σ Q E
theorem WN.local {x : Str} {v : PV} {Q : Fm → St → Prop} (h : Q (Fm.put x v fr) σ) (hk : env.scope.kind = .function) (hl : env.kindOf x = some .local) : WN X A env x v fr σ Q E := by
  intro a ha; subst ha
  exact W.storeLocal hl (by rw [hk]; rfl) h
theorem WN.cell {x : Str} {c : Addr} {v : PV} {v₀ : Option PV} {Q : Fm → St → Prop} (h : Q fr (σ.set c (.cell (some v)))) (hk : env.scope.kind = .function) (hl : env.kindOf x = some .cell) (hc : env.cells.lookup x = some c) (hv : σ c = some (.cell v₀)) : WN X A env x v fr σ Q E := by
  intro a ha; subst ha
  exact W.storeCell hk hl hc hv h

theorem WE.binOp {l r : Expr} {op : Operator} {pos : Pos} {Q : PV → Fm → St → Prop}
    (h : WE X A env l fr σ (fun x fr₁ σ₁ => WE X A env r fr₁ σ₁ (fun y fr₂ σ₂ => W2 X A env.locals (binaryOp op) x y fr₂ σ₂ Q E) E) E) : WE X A env (.BinOp l op r pos) fr σ Q E := by
  show W _ _ _ _ _ _ _ _
  rw [eval_BinOp]
  refine .bind (.mono h fun a fr₁ σ₁ h₁ => .bind (.holding (.mono h₁ fun b fr₂ σ₂ h₂ => .bind (.standAt (.operate (h₂ a b rfl rfl))))))
theorem WE.unaryOp {x : Expr} {op : UnaryOp} {pos : Pos} {Q : PV → Fm → St → Prop} (h : WE X A env x fr σ (fun x fr₁ σ₁ => W1 X A env.locals (unaryOp op) x fr₁ σ₁ Q E) E) : WE X A env (.UnaryOp op x pos) fr σ Q E := by
  show W _ _ _ _ _ _ _ _
  rw [arm_eval_UnaryOp]
  exact .bind (.mono h fun a fr₁ σ₁ h₁ => .bind (.standAt (.holding (h₁ a rfl))))
theorem WE.compare {l r : Expr} {op : CmpOp} {pos : Pos} {Q : PV → Fm → St → Prop}
    (h : WE X A env l fr σ (fun x fr₁ σ₁ => WE X A env r fr₁ σ₁ (fun y fr₂ σ₂ => W2 X A env.locals (compareOp op) x y fr₂ σ₂ Q E) E) E) (hm : behindInMarks op r = false) : WE X A env (.Compare l [op] [r] pos) fr σ Q E := by
  show W _ _ _ _ _ _ _ _
  rw [eval_Compare1, markedBehindIn_of_false hm]
  refine .bind (.mono h fun a fr₁ σ₁ h₁ => .bind (.holding (.mono h₁ fun b fr₂ σ₂ h₂ => .bind (.standAt (.operate (h₂ a b rfl rfl))))))
theorem WE.ifExp {t b o : Expr} {pos : Pos} {Q : PV → Fm → St → Prop} (h : WT X A env t fr σ (fun c fr₁ σ₁ => if c = true then WE X A env b fr₁ σ₁ Q E else WE X A env o fr₁ σ₁ Q E) E) : WE X A env (.IfExp t b o pos) fr σ Q E := by
  show W _ _ _ _ _ _ _ _
  rw [arm_eval_IfExp]
  refine .bind (.mono h fun c fr₁ σ₁ h₁ => ?_)
  cases c with
  | false => simp only [Bool.false_eq_true, if_false] at h₁ ⊢; exact h₁
  | true => simp only [if_true] at h₁ ⊢; exact h₁
theorem WE.named {x : Str} {e : Expr} {p pos : Pos} {Q : PV → Fm → St → Prop} (h : WE X A env e fr σ (fun v fr₁ σ₁ => WN X A env x v fr₁ σ₁ (Q v) E) E) : WE X A env (.NamedExpr (.Name x p) e pos) fr σ Q E := by
  show W _ _ _ _ _ _ _ _
  rw [arm_eval_NamedExpr]
  refine .bind (.mono h fun a fr₁ σ₁ h₁ => .bind (.holding ?_))
  rw [arm_assign_Name]
  refine .bind (.standAt ?_)
  exact fun σf s R => wpAny_bindName (W.go (h₁ a rfl) R (fun _ s' _ _ R' h' => ⟨_, _, R', .pure h'⟩))

theorem WA.nil {pos : Pos} {Q : List PV → Fm → St → Prop} (h : Q [] fr σ) : WA X A env pos [] fr σ Q E := fun σf s R => wpAny_items_nil ⟨_, _, R, h⟩
theorem WA.cons {pos : Pos} {e : Expr} {rest : List Expr} {Q : List PV → Fm → St → Prop} (h : WE X A env e fr σ (fun v fr₁ σ₁ => WA X A env pos rest fr₁ σ₁ (fun vs => Q (v :: vs)) E) E)
    (he : starEach (e :: rest) env = (false, eval e env) :: starEach rest env) : WA X A env pos (e :: rest) fr σ Q E :=
  fun σf s R => wpAny_items_cons (W.go h R (fun _ s₁ _ _ R₁ h₁ => W.go h₁ R₁ (fun _ _ _ _ R₂ h₂ => ⟨_, _, R₂, h₂⟩))) he

theorem WT.value {e : Expr} {Q : Bool → Fm → St → Prop} (h : WE X A env e fr σ (fun v fr₁ σ₁ => W1B X A env.locals truthy v fr₁ σ₁ Q E) E)
    (he : isTrue e env (eval e env) = (do let v ← eval e env; standAt e.pos; PySem.holding [v] (truthy v))) : WT X A env e fr σ Q E := by
  show W _ _ _ _ _ _ _ _
  rw [he]
  exact .bind (.mono h fun a fr₁ σ₁ h₁ => .bind (.standAt (.holding (h₁ a rfl))))
theorem WT.not {x : Expr} {pos : Pos} {Q : Bool → Fm → St → Prop} (h : WT X A env x fr σ (fun b => Q (!b)) E) : WT X A env (.UnaryOp .Not x pos) fr σ Q E :=
  fun σf s R => wpAny_isTrue_Not (W.go h R (fun _ _ _ _ R' h' => ⟨_, _, R', h'⟩))
theorem WT.compare {l r : Expr} {op : CmpOp} {pos : Pos} {Q : Bool → Fm → St → Prop}
    (h : WE X A env l fr σ (fun x fr₁ σ₁ => WE X A env r fr₁ σ₁ (fun y fr₂ σ₂ => W2 X A env.locals (compareOp op) x y fr₂ σ₂ (fun v fr₃ σ₃ => W1B X A env.locals truthy v fr₃ σ₃ Q E) E) E) E) (hm : behindInMarks op r = false) : WT X A env (.Compare l [op] [r] pos) fr σ Q E := by
  show W _ _ _ _ _ _ _ _
  rw [isTrue_Compare1, markedBehindIn_of_false hm]
  refine .bind (.mono h fun a fr₁ σ₁ h₁ => .bind (.holding (.mono h₁ fun b fr₂ σ₂ h₂ => .bind (.standAt (.bind (.operate (.mono (h₂ a b rfl rfl) fun c fr₃ σ₃ h₃ => .holding (h₃ c rfl))))))))
theorem W1B.bool {L : Addr} {b : Bool} {Q : Bool → Fm → St → Prop} (h : Q b fr σ) : W1B X A L truthy (.bool b) fr σ Q E := by
  intro a ha; obtain rfl := abs_bool ha
  exact fun σf s R => wpAny_truthy_bool ⟨_, _, R, h⟩
theorem W1B.cNone {L : Addr} {Q : Bool → Fm → St → Prop} (h : Q false fr σ) : W1B X A L truthy .none fr σ Q E := by
  intro a ha; obtain rfl := abs_none ha
  exact fun σf s R => truthy_none ⟨_, _, R, h⟩

theorem WB.nil {Q : PF → Fm → St → Prop} (h : Q .next fr σ) : WB X A env [] fr σ Q E := fun σf s R => wpAny_execs_nil ⟨_, _, R, h⟩
theorem WB.cons {st : Stmt} {rest : List Stmt} {Q : PF → Fm → St → Prop} (h : WS X A env st fr σ (fun f fr₁ σ₁ => match f with | .next => WB X A env rest fr₁ σ₁ Q E | f => Q f fr₁ σ₁) E) : WB X A env (st :: rest) fr σ Q E := by
  show W _ _ _ _ _ _ _ _
  rw [execs_cons]
  refine .bind (.mono h fun f fr₁ σ₁ h₁ => ?_)
  cases f with
  | next => exact h₁
  | brk => exact .pure h₁
  | cont => exact .pure h₁
  | ret v => exact .pure h₁
theorem WS.ret {e : Expr} {pos : Pos} {Q : PF → Fm → St → Prop} (h : WE X A env e fr σ (fun v => Q (.ret v)) E) : WS X A env (.Return (some e) pos) fr σ Q E :=
  fun σf s R => wpAny_Return_some (W.go h R (fun _ _ _ _ R' h' => ⟨_, _, R', h'⟩))
theorem WS.brk {pos : Pos} {Q : PF → Fm → St → Prop} (h : Q .brk fr σ) : WS X A env (.Break pos) fr σ Q E := fun σf s R => wpAny_Break ⟨_, _, R, h⟩
theorem WS.cont {pos : Pos} {Q : PF → Fm → St → Prop} (h : Q .cont fr σ) : WS X A env (.Continue pos) fr σ Q E := fun σf s R => wpAny_Continue ⟨_, _, R, h⟩
theorem WS.if {t : Expr} {b o : List Stmt} {pos : Pos} {Q : PF → Fm → St → Prop} (h : WT X A env t fr σ (fun c fr₁ σ₁ => if c = true then WB X A env b fr₁ σ₁ Q E else WB X A env o fr₁ σ₁ Q E) E) : WS X A env (.If t b o pos) fr σ Q E := by
  show W _ _ _ _ _ _ _ _
  rw [exec_If]
  refine .bind (.standAt (.bind (.mono h fun c fr₁ σ₁ h₁ => ?_)))
  cases c with
  | false => simp only [Bool.false_eq_true, if_false] at h₁ ⊢; exact h₁
  | true => simp only [if_true] at h₁ ⊢; exact h₁
theorem WS.expr {e : Expr} {pos : Pos} {Q : PF → Fm → St → Prop} (h : WE X A env e fr σ (fun _ => Q .next) E) (hi : interactive env = false) (hs : swapsWith e none pos.line env = pure false) : WS X A env (.Expr e pos) fr σ Q E :=
  fun σf s R => wpAny_Expr_any (W.go h R (fun _ _ _ _ R' h' => ⟨_, _, R', h'⟩)) hi hs
theorem WS.assign {x : Str} {e : Expr} {p pos : Pos} {Q : PF → Fm → St → Prop} (h : WE X A env e fr σ (fun v fr₁ σ₁ => WN X A env x v fr₁ σ₁ (Q .next) E) E) (hs : swapsWith e (some (.Name x p)) pos.line env = pure false) : WS X A env (.Assign [.Name x p] e pos) fr σ Q E :=
  fun σf s R => wpAny_Assign_Name (W.go h R (fun v s₁ _ _ R₁ h₁ => W.go (h₁ v rfl) R₁ (fun _ _ _ _ R₂ h₂ => ⟨_, _, R₂, h₂⟩))) hs
theorem WS.augName {x : Str} {e : Expr} {op : Operator} {p pos : Pos} {Q : PF → Fm → St → Prop}
    (h : WL X A env x fr σ (fun v fr₁ σ₁ => WE X A env e fr₁ σ₁ (fun u fr₂ σ₂ => W2 X A env.locals (inplaceOp op) v u fr₂ σ₂ (fun r fr₃ σ₃ => WN X A env x r fr₃ σ₃ (Q .next) E) E) E) E) : WS X A env (.AugAssign (.Name x p) op e pos) fr σ Q E := by
  show W _ _ _ _ _ _ _ _
  rw [exec_AugAssign_Name]
  refine .bind (.standAt (.bind (.mono h fun v fr₁ σ₁ h₁ => .bind (.holding (.mono h₁ fun u fr₂ σ₂ h₂ => .bind (.standAt (.bind (.operate (.mono (h₂ v u rfl rfl) fun r fr₃ σ₃ h₃ => .bind (.standAt (.bind ?_)))))))))))
  exact fun σf s R => wpAny_bindName (W.go (h₃ r rfl) R (fun _ s' _ _ R' h' => ⟨_, _, R', .pure h'⟩))
end
end SL

end
section
open PySem PySem.W PyProof.Rows PySem.Calls
namespace SL

noncomputable def Keeps (X : Cx) (f : PV) (σ : St) : Prop := ∀ fs s v, Rel X fs σ s → abs v = f → ∃ k, Looks X.M s.heap (keeperOf v) k
theorem Keeps.builtin {X : Cx} {id : String} {σ : St} : Keeps X (.builtin id) σ := fun fs s v R h => by
  obtain rfl := abs_builtin h
  exact ⟨.machine, Looks.of_pure rfl⟩
theorem Keeps.type {X : Cx} {id : String} {σ : St} : Keeps X (.type id) σ := fun fs s v R h => by
  obtain rfl := abs_type h
  exact ⟨.machine, Looks.of_pure rfl⟩
theorem Keeps.base {X : Cx} {a : Addr} {σ : St} (h : keepIn X.K (.ref a) = true) : Keeps X (.ref a) σ := fun fs s v R hv => by
  obtain rfl := abs_ref hv
  obtain ⟨k, _, hk⟩ := looks_keep (M := X.M) h R.KI
  exact ⟨k, hk⟩
theorem Keeps.meth {X : Cx} {a f : Addr} {self : Value} {σ : St} (h : σ a = some (.raw (methodObj (.ref f) self))) (hf : fnIn X.K f = true) : Keeps X (.ref a) σ := fun fs s v R hv => by
  obtain rfl := abs_ref hv
  obtain ⟨_, ob, h1, h2⟩ := R.own a _ h
  obtain rfl : ob = _ := h2
  obtain ⟨k, _, hk⟩ := keeps_M (M := X.M) hf s.heap ⟨h1, R.KI⟩
  exact ⟨k, hk⟩

section
variable {X : Cx} {A : Around} {env : Env} {fr : Fm} {σ : St} {L : Addr} {E : Value → Shared → Prop}

noncomputable def WC (X : Cx) (A : Around) (L : Addr) (f : PV) (args : List PV) (fr : Fm) (σ : St) (Q : PV → Fm → St → Prop) (E : Value → Shared → Prop) : Prop :=
  ∀ fv vs, abs fv = f → vs.map abs = args → W X A L (PySem.call fv vs) fr σ (fun v => Q (abs v)) E

theorem callWith_keeps {M : Model} {pos : Pos} {f : Value} {first : List Value} {args : List (Bool × Sem Value)} {s : Shared} {Q : Value → Shared → Prop}
    (h : wpAny M A (evalArgs f true args []) (fun a s₁ => (∃ k, Looks M s₁.heap (keeperOf f) k) ∧ wpAny M A (PySem.call f (first ++ a.pos) a.kw) Q E s₁) E s) : wpAny M A (callWith pos f first args []) Q E s := by
  unfold callWith
  refine wpAny_bind (wpAny_holding (wpAny_mono h (fun a s₁ h₁ => wpAny_bind (wpAny_standAt ?_)) fun _ _ x => x))
  obtain ⟨⟨k, hk⟩, hc⟩ := h₁
  have tail : ∀ {t : Sem Value}, wpAny M A t Q E s₁ → wpAny M A (t >>= fun r => PySem.holding [r] point >>= fun _ => Pure.pure r) Q E s₁ :=
    fun ht => wpAny_bind (wpAny_mono ht (fun r s₂ hr => wpAny_bind (wpAny_holding (wpAny_point (wpAny_pure hr)))) fun _ _ x => x)
  have marked (mk : Value) : wpAny M A (callMarked mk f (first ++ a.pos) a.kw) Q E s₁ := by unfold callMarked; exact Calls.wpAny_keep hc
  refine wpAny_bind (hk.here ?_)
  cases k <;> cases (args.any (·.1) || ([] : List (Option Str × Sem Value)).any (·.1.isNone)) <;> dsimp only <;>
    first
    | exact tail hc
    | exact tail (marked _)
    | exact tail (wpAny_operateT hc)
    | (split <;> first | exact tail hc | exact tail (marked _) | exact tail (wpAny_operateT hc))

theorem evalArgs_spliced {M : Model} {f : Value} {args : List (Bool × Sem Value)} {s : Shared} {Q : Args → Shared → Prop} (hl : match args with | [(true, _)] => False | _ => True)
    (h : wpAny M A (spliced args) (fun vs s' => Q ⟨vs, []⟩ s') E s) : wpAny M A (evalArgs f true args []) Q E s := by
  unfold evalArgs
  have fin : ∀ vs s', Q ⟨vs, []⟩ s' → wpAny M A (evalAll ([] : List (Sem Value)) >>= fun ks => Pure.pure vs >>= fun p => Pure.pure (⟨p, ([] : List Str).zip ks⟩ : Args)) Q E s' :=
    fun vs s' h' => wpAny_bind (wpAny_pure (wpAny_bind (wpAny_pure (wpAny_pure h'))))
  cases args with
  | nil =>
    show wpAny M A (spliced [] >>= _) Q E s
    exact wpAny_bind (wpAny_mono h (fun vs s' h' => wpAny_holding (fin vs s' h')) fun _ _ x => x)
  | cons p r =>
    obtain ⟨b, t⟩ := p
    cases b with
    | false =>
      show wpAny M A (spliced ((false, t) :: r) >>= _) Q E s
      exact wpAny_bind (wpAny_mono h (fun vs s' h' => wpAny_bind (wpAny_pure (wpAny_holding (fin vs s' h')))) fun _ _ x => x)
    | true =>
      cases r with
      | nil => exact hl.elim
      | cons q r =>
        show wpAny M A (spliced ((true, t) :: q :: r) >>= _) Q E s
        exact wpAny_bind (wpAny_mono h (fun vs s' h' => wpAny_bind (wpAny_pure (wpAny_holding (fin vs s' h')))) fun _ _ x => x)

noncomputable def noLone (es : List Expr) : Bool := match es with
  | [.Starred _ _] => false
  | _ => true
theorem starEach_cons (e : Expr) (r : List Expr) (env : Env) : ∃ b t, starEach (e :: r) env = (b, t) :: starEach r env := by
  cases e <;> exact ⟨_, _, rfl⟩
theorem starEach_lone {es : List Expr} {pos : Pos} (h : noLone es = true) : match backTo pos (starEach es env) with | [(true, _)] => False | _ => True := by
  cases es with
  | nil => trivial
  | cons e r =>
    cases r with
    | nil =>
      unfold backTo
      cases e <;> first | exact absurd h (by decide) | trivial
    | cons e' r' =>
      obtain ⟨b, t, h1⟩ := starEach_cons e (e' :: r') env
      obtain ⟨b', t', h2⟩ := starEach_cons e' r' env
      rw [h1, h2]
      cases b <;> trivial
theorem W.callWith {pos : Pos} {fv : Value} {first : List Value} {es : List Expr} {Q : PV → Fm → St → Prop} (hl : noLone es = true)
    (h : WA X A env pos es fr σ (fun vs fr₁ σ₁ => Keeps X (abs fv) σ₁ ∧ WC X A env.locals (abs fv) (first.map abs ++ vs) fr₁ σ₁ Q E) E) :
    W X A env.locals (PySem.callWith pos fv first (backTo pos (starEach es env)) []) fr σ (fun v => Q (abs v)) E := by
  intro σf s R
  refine callWith_keeps (evalArgs_spliced (starEach_lone hl) (W.go h R (fun vs s₁ fr₁ σ₁ R₁ ⟨hk, hc⟩ => ?_)))
  exact ⟨hk _ _ _ R₁.own rfl, hc fv (first ++ vs) rfl (by simp) σf s₁ R₁⟩

theorem WE.call {func : Expr} {es : List Expr} {pos : Pos} {Q : PV → Fm → St → Prop} (hl : noLone es = true)
    (he : eval (.Call func es [] pos) env = (do PySem.callWith pos (← eval func env) [] (backTo pos (starEach es env)) []))
    (h : WE X A env func fr σ (fun f fr₁ σ₁ => WA X A env pos es fr₁ σ₁ (fun vs fr₂ σ₂ => Keeps X f σ₂ ∧ WC X A env.locals f vs fr₂ σ₂ Q E) E) E) :
    WE X A env (.Call func es [] pos) fr σ Q E := by
  show W _ _ _ _ _ _ _ _
  rw [he]
  exact .bind (.mono h fun f fr₁ σ₁ h₁ => .callWith hl h₁)
noncomputable def WM (X : Cx) (A : Around) (L : Addr) (x : PV) (name : Str) (fr : Fm) (σ : St) (Q : PV → List PV → Fm → St → Prop) (E : Value → Shared → Prop) : Prop :=
  ∀ v pl, abs v = x → W X A L (getMethod v name pl) fr σ (fun p => Q (abs p.1) (p.2.map abs)) E
theorem WE.meth {o : Expr} {name : Str} {apos pos : Pos} {es : List Expr} {Q : PV → Fm → St → Prop} (hl : noLone es = true)
    (hbase : attributeBase o name env (eval o env) = eval o env)
    (hfew : methodCallForm (es.length + ([] : List Keyword).length) (backTo pos (starEach es env)) [] = true) (hline : (apos.endLine == pos.line) = true)
    (h : WE X A env o fr σ (fun x fr₁ σ₁ => WM X A env.locals x name fr₁ σ₁ (fun f first fr₂ σ₂ =>
      WA X A env pos es fr₂ σ₂ (fun vs fr₃ σ₃ => Keeps X f σ₃ ∧ WC X A env.locals f (first ++ vs) fr₃ σ₃ Q E) E) E) E) :
    WE X A env (.Call (.Attribute o name apos) es [] pos) fr σ Q E := by
  show W _ _ _ _ _ _ _ _
  rw [arm_eval_Call, hbase]
  refine .bind (.mono h fun x fr₁ σ₁ h₁ => .bind (.standAt ?_))
  have hpos : methodCallPos true o env apos pos = pure pos := by unfold methodCallPos; simp [hline]
  unfold methodCall
  rw [show backToKw pos (keywordEach [] env) = [] from rfl, hfew]
  refine .bind (.holding (.mono (h₁ x _ rfl) fun p fr₂ σ₂ h₂ => ?_))
  obtain ⟨f, first⟩ := p
  dsimp only
  rw [hpos]
  exact .bind (.pure (.callWith hl h₂))

theorem evalArgs_star {M : Model} {f : Value} {x : Sem Value} {s : Shared} {Q : Args → Shared → Prop}
    (h : wpAny M A x (fun v s₁ => wpAny M A (notIterableAtAll v) (fun b s₂ => b = false ∧ wpAny M A (collect v) (fun vs s₃ => Q ⟨vs, []⟩ s₃) E s₂) E s₁) E s) : wpAny M A (evalArgs f true [(true, x)] []) Q E s := by
  unfold evalArgs
  show wpAny M A (x >>= _) Q E s
  refine wpAny_bind (wpAny_mono h (fun v s₁ h₁ => wpAny_bind (wpAny_pure (wpAny_holding (wpAny_bind (wpAny_pure ?_))))) fun _ _ x => x)
  refine wpAny_bind (wpAny_bind (wpAny_mono h₁ (fun b s₂ ⟨hb, h₂⟩ => ?_) fun _ _ x => x))
  subst hb
  simp only [Bool.false_eq_true, if_false]
  exact wpAny_holding (wpAny_mono h₂ (fun vs s₃ h₃ => wpAny_pure h₃) fun _ _ x => x)

theorem WE.tuple {es : List Expr} {k : Nat} {pos : Pos} {Q : PV → Fm → St → Prop}
    (h : WA X A env pos es fr σ (fun vs fr₁ σ₁ => vs.length ≤ sizeLine ∧ ∀ a, σ₁ a = none → a ≠ env.locals → Q (.ref a) fr₁ (σ₁.set a (.tuple vs))) E) : WE X A env (.Tuple es k pos) fr σ Q E := by
  intro σf s R
  refine wpAny_Tuple (W.go h R (fun vs s₁ fr₁ σ₁ R₁ ⟨hz, h₁⟩ => ⟨by simpa using hz, ?_⟩))
  exact ⟨_, _, R₁.push (o := .tuple (vs.map abs)) ⟨_, _, rfl, by simp⟩ rfl, h₁ _ R₁.fresh (Nat.ne_of_gt R₁.ltL)⟩
theorem WE.list {es : List Expr} {pos : Pos} {Q : PV → Fm → St → Prop}
    (h : WA X A env pos es fr σ (fun vs fr₁ σ₁ => vs.length ≤ sizeLine ∧ ∀ a, σ₁ a = none → a ≠ env.locals → Q (.ref a) fr₁ (σ₁.set a (.list vs))) E) : WE X A env (.List es pos) fr σ Q E := by
  intro σf s R
  refine wpAny_List (W.go h R (fun vs s₁ fr₁ σ₁ R₁ ⟨hz, h₁⟩ => ⟨by simpa using hz, ?_⟩))
  exact ⟨_, _, R₁.push (o := .list (vs.map abs)) ⟨_, _, rfl, by simp⟩ rfl, h₁ _ R₁.fresh (Nat.ne_of_gt R₁.ltL)⟩
theorem WE.dict0 {pos : Pos} {Q : PV → Fm → St → Prop} (h : ∀ a, σ a = none → a ≠ env.locals → Q (.ref a) fr (σ.set a (.dict []))) : WE X A env (.Dict [] [] pos) fr σ Q E := by
  intro σf s R
  refine wpAny_Dict_empty ⟨_, _, R.push (o := .dict []) ?_ rfl, h _ R.fresh (Nat.ne_of_gt R.ltL)⟩
  exact ⟨⟨rfl, rfl, rfl⟩, #[], 0, [], rfl, by intro e he; simp at he, .nil, .nil, rfl⟩

noncomputable def WG (X : Cx) (A : Around) (L : Addr) (x : PV) (name : Str) (fr : Fm) (σ : St) (Q : PV → Fm → St → Prop) (E : Value → Shared → Prop) : Prop :=
  W1 X A L (fun v => getAttr v name true) x fr σ Q E
theorem WE.attr {o : Expr} {name : Str} {pos : Pos} {Q : PV → Fm → St → Prop} (hbase : attributeBase o name env (eval o env) = eval o env)
    (h : WE X A env o fr σ (fun x fr₁ σ₁ => WG X A env.locals x name fr₁ σ₁ Q E) E) : WE X A env (.Attribute o name pos) fr σ Q E := by
  show W _ _ _ _ _ _ _ _
  rw [arm_eval_Attribute, hbase]
  refine .bind (.mono h fun x fr₁ σ₁ h₁ => .bind (.standAt (.bind (.holding (.mono (h₁ x rfl) fun r fr₂ σ₂ h₂ => .bind ?_)))))
  exact fun σf s R => wpAny_letTemporaryGo ⟨_, _, R, .pure h₂⟩
noncomputable def WI (X : Cx) (A : Around) (L : Addr) (value slice : Expr) (x y : PV) (fr : Fm) (σ : St) (Q : PV → Fm → St → Prop) (E : Value → Shared → Prop) : Prop :=
  ∀ a b, abs a = x → abs b = y → W X A L (subscriptTail value slice a b) fr σ (fun v => Q (abs v)) E
theorem WE.item {value slice : Expr} {pos : Pos} {Q : PV → Fm → St → Prop} (h : WE X A env value fr σ (fun x fr₁ σ₁ => WE X A env slice fr₁ σ₁ (fun y fr₂ σ₂ => WI X A env.locals value slice x y fr₂ σ₂ Q E) E) E) :
    WE X A env (.Subscript value slice pos) fr σ Q E :=
  fun σf s R => Subscript_ (W.go h R (fun a s₁ _ _ R₁ h₁ => W.go h₁ R₁ (fun b s₂ _ _ R₂ h₂ => h₂ a b rfl rfl σf s₂ R₂)))

theorem WE.and2 {x y : Expr} {pos : Pos} {Q : PV → Fm → St → Prop} (h : WE X A env x fr σ (fun v fr₁ σ₁ => W1B X A env.locals truthy v fr₁ σ₁ (fun t fr₂ σ₂ => if t = true then WE X A env y fr₂ σ₂ Q E else Q v fr₂ σ₂) E) E) : WE X A env (.BoolOp .And [x, y] pos) fr σ Q E := by
  intro σf s R
  refine wpAny_And2 (W.go h R (fun v s₁ _ _ R₁ h₁ => W.go (h₁ v rfl) R₁ (fun t s₂ _ _ R₂ h₂ => ?_)))
  cases t with
  | true => simp only [if_true] at h₂ ⊢; exact h₂ σf s₂ R₂
  | false => simp only [Bool.false_eq_true, if_false] at h₂ ⊢; exact ⟨_, _, R₂, h₂⟩
theorem WE.or2 {x y : Expr} {pos : Pos} {Q : PV → Fm → St → Prop} (h : WE X A env x fr σ (fun v fr₁ σ₁ => W1B X A env.locals truthy v fr₁ σ₁ (fun t fr₂ σ₂ => if t = true then Q v fr₂ σ₂ else WE X A env y fr₂ σ₂ Q E) E) E) : WE X A env (.BoolOp .Or [x, y] pos) fr σ Q E := by
  intro σf s R
  refine wpAny_Or2 (W.go h R (fun v s₁ _ _ R₁ h₁ => W.go (h₁ v rfl) R₁ (fun t s₂ _ _ R₂ h₂ => ?_)))
  cases t with
  | true => simp only [if_true] at h₂ ⊢; exact ⟨_, _, R₂, h₂⟩
  | false => simp only [Bool.false_eq_true, if_false] at h₂ ⊢; exact h₂ σf s₂ R₂
noncomputable def WAll (X : Cx) (A : Around) (env : Env) (op : BoolOp) (es : List Expr) (fr : Fm) (σ : St) (Q : Bool → Fm → St → Prop) (E : Value → Shared → Prop) : Prop := W X A env.locals (allTrue op es env) fr σ Q E
theorem WT.boolOp {op : BoolOp} {es : List Expr} {pos : Pos} {Q : Bool → Fm → St → Prop} (h : WAll X A env op es fr σ Q E) : WT X A env (.BoolOp op es pos) fr σ Q E := fun σf s R => wpAny_isTrue_BoolOp (h σf s R)
theorem WAll.orNil {Q : Bool → Fm → St → Prop} (h : Q false fr σ) : WAll X A env .Or [] fr σ Q E := fun σf s R => wpAny_allTrue_Or_nil ⟨_, _, R, h⟩
theorem WAll.or {x : Expr} {r : List Expr} {Q : Bool → Fm → St → Prop} (h : WT X A env x fr σ (fun b fr₁ σ₁ => if b = true then Q true fr₁ σ₁ else WAll X A env .Or r fr₁ σ₁ Q E) E) : WAll X A env .Or (x :: r) fr σ Q E := by
  intro σf s R
  refine wpAny_allTrue_Or_cons (W.go h R (fun b s₁ _ _ R₁ h₁ => ?_))
  cases b with
  | true => simp only [if_true] at h₁ ⊢; exact ⟨_, _, R₁, h₁⟩
  | false => simp only [Bool.false_eq_true, if_false] at h₁ ⊢; exact h₁ σf s₁ R₁

theorem WS.assignAttr {o e : Expr} {attr : Str} {p pos : Pos} {Q : PF → Fm → St → Prop}
    (h : WE X A env e fr σ (fun v fr₁ σ₁ => WE X A env o fr₁ σ₁ (fun x fr₂ σ₂ => WU2 X A env.locals (fun a b => setAttr a attr b) x v fr₂ σ₂ (Q .next) E) E) E) (hs : swapsWith e (some (.Attribute o attr p)) pos.line env = pure false) :
    WS X A env (.Assign [.Attribute o attr p] e pos) fr σ Q E :=
  fun σf s R => plainObj_wpAny_Assign_Attribute (W.go h R (fun v s₁ _ _ R₁ h₁ => W.go h₁ R₁ (fun x s₂ _ _ R₂ h₂ => W.go (h₂ x v rfl rfl) R₂ (fun _ _ _ _ R' h' => ⟨_, _, R', h'⟩)))) hs
theorem WS.assignSub {o i e : Expr} {p pos : Pos} {Q : PF → Fm → St → Prop}
    (h : WE X A env e fr σ (fun v fr₁ σ₁ => WE X A env o fr₁ σ₁ (fun x fr₂ σ₂ => WE X A env i fr₂ σ₂ (fun y fr₃ σ₃ => WU3 X A env.locals setItem x y v fr₃ σ₃ (Q .next) E) E) E) E) (hs : swapsWith e (some (.Subscript o i p)) pos.line env = pure false) :
    WS X A env (.Assign [.Subscript o i p] e pos) fr σ Q E :=
  fun σf s R => wpAny_Assign_Subscript (W.go h R (fun v s₁ _ _ R₁ h₁ => W.go h₁ R₁ (fun x s₂ _ _ R₂ h₂ => W.go h₂ R₂ (fun y s₃ _ _ R₃ h₃ => W.go (h₃ x y v rfl rfl rfl) R₃ (fun _ _ _ _ R' h' => ⟨_, _, R', h'⟩))))) hs
theorem WS.augAttr {o e : Expr} {attr : Str} {op : Operator} {p pos : Pos} {Q : PF → Fm → St → Prop}
    (h : WE X A env o fr σ (fun x fr₁ σ₁ => WG X A env.locals x attr fr₁ σ₁ (fun old fr₂ σ₂ => WE X A env e fr₂ σ₂ (fun v fr₃ σ₃ => W2 X A env.locals (inplaceOp op) old v fr₃ σ₃ (fun n fr₄ σ₄ =>
      WU2 X A env.locals (fun a b => setAttr a attr b) x n fr₄ σ₄ (Q .next) E) E) E) E) E) : WS X A env (.AugAssign (.Attribute o attr p) op e pos) fr σ Q E :=
  fun σf s R => wpAny_AugAssign_AttributeAny (W.go h R (fun x s₁ _ _ R₁ h₁ => W.go (h₁ x rfl) R₁ (fun old s₂ _ _ R₂ h₂ => W.go h₂ R₂ (fun v s₃ _ _ R₃ h₃ => W.go (h₃ old v rfl rfl) R₃ (fun n s₄ _ _ R₄ h₄ => W.go (h₄ x n rfl rfl) R₄ (fun _ _ _ _ R' h' => ⟨_, _, R', h'⟩))))))
theorem WS.augSub {o i e : Expr} {op : Operator} {p pos : Pos} {Q : PF → Fm → St → Prop}
    (h : WE X A env o fr σ (fun x fr₁ σ₁ => WE X A env i fr₁ σ₁ (fun y fr₂ σ₂ => W2 X A env.locals getItem x y fr₂ σ₂ (fun old fr₃ σ₃ => WE X A env e fr₃ σ₃ (fun v fr₄ σ₄ => W2 X A env.locals (inplaceOp op) old v fr₄ σ₄ (fun n fr₅ σ₅ =>
      WU3 X A env.locals setItem x y n fr₅ σ₅ (Q .next) E) E) E) E) E) E) (hi : ∀ ov iv new, augStore i ov iv new = (do PySem.holding [new, ov, iv] (setItem ov iv new); PySem.release [new, ov, iv] []; pure .next)) : WS X A env (.AugAssign (.Subscript o i p) op e pos) fr σ Q E :=
  fun σf s R => wpAny_AugAssign_SubscriptAny (W.go h R (fun x s₁ _ _ R₁ h₁ => W.go h₁ R₁ (fun y s₂ _ _ R₂ h₂ => W.go (h₂ x y rfl rfl) R₂ (fun old s₃ _ _ R₃ h₃ => W.go h₃ R₃ (fun v s₄ _ _ R₄ h₄ => W.go (h₄ old v rfl rfl) R₄ (fun n s₅ _ _ R₅ h₅ => W.go (h₅ x y n rfl rfl rfl) R₅ (fun _ _ _ _ R' h' => ⟨_, _, R', h'⟩))))))) hi
theorem WS.delSub {o i : Expr} {p pos : Pos} {Q : PF → Fm → St → Prop} (h : WE X A env o fr σ (fun x fr₁ σ₁ => WE X A env i fr₁ σ₁ (fun y fr₂ σ₂ => WU2 X A env.locals delItem x y fr₂ σ₂ (Q .next) E) E) E) : WS X A env (.Delete [.Subscript o i p] pos) fr σ Q E :=
  fun σf s R => wpAny_Delete (wpAny_deleteEach_cons (wpAny_delete_Subscript (W.go h R (fun x s₁ _ _ R₁ h₁ => W.go h₁ R₁ (fun y s₂ _ _ R₂ h₂ => W.go (h₂ x y rfl rfl) R₂ (fun _ s₃ _ _ R₃ h₃ => wpAny_deleteEach_nil ⟨_, _, R₃, h₃⟩))))))
end
end SL

end
section
open PySem PySem.W PyProof.Rows PySem.Calls
namespace SL

inductive Pc (X : Cx) (fs : List Env) (σf : St) (Q : St → Prop) (s' : Shared) : Prop
  | intro (σ' : St) (D : Disj σ' σf) (R : Rel X fs (σ'.un σf) s') (h : Q σ')
noncomputable def CW (X : Cx) (A : Around) (f : PV) (args : List PV) (σ : St) (Q : PV → St → Prop) (E : Value → Shared → Prop) : Prop :=
  ∀ σf s fv vs, abs fv = f → vs.map abs = args → Disj σ σf → Rel X (fsOf A) (σ.un σf) s → wpAny X.M A (PySem.call fv vs) (fun v s' => Pc X (fsOf A) σf (Q (abs v)) s') E s

noncomputable def CC (X : Cx) (A : Around) (f : PV) (args : List PV) (σ : St) (Q : PV → St → Prop) (E : Value → Shared → Prop) : Prop :=
  ∀ σf s fv vs, abs fv = f → vs.map abs = args → Disj σ σf → Rel X (fsOf A) (σ.un σf) s → codeAny X.M A (.call fv ⟨vs, []⟩) (fun r s' => match r with
    | .ok (.ret v) => Pc X (fsOf A) σf (Q (abs v)) s' | .ok _ => False | .error e => E e s') s
theorem CC.cw {X : Cx} {A : Around} {f : PV} {args : List PV} {σ : St} {Q : PV → St → Prop} {E : Value → Shared → Prop} (h : CC X A f args σ Q E) : CW X A f args σ Q E :=
  fun σf s fv vs hf hv D R => wpAny_call (codeAny_mono (h σf s fv vs hf hv D R) fun r s' x => by
    cases r with
    | error e => exact x
    | ok f => cases f <;> exact x)
theorem CC.mono {X : Cx} {A : Around} {f : PV} {args : List PV} {σ : St} {Q Q' : PV → St → Prop} {E : Value → Shared → Prop} (h : CC X A f args σ Q E) (hq : ∀ v σ', Q v σ' → Q' v σ') : CC X A f args σ Q' E :=
  fun σf s fv vs hf hv D R => codeAny_mono (h σf s fv vs hf hv D R) fun r s' x => by
    cases r with
    | error e => exact x
    | ok f =>
      cases f with
      | ret v => exact Pc.casesOn (motive := fun _ => _) x fun σ' D' R' q => ⟨σ', D', R', hq _ _ q⟩
      | next => exact x
      | brk => exact x
      | cont => exact x
theorem CW.mono {X : Cx} {A : Around} {f : PV} {args : List PV} {σ : St} {Q Q' : PV → St → Prop} {E : Value → Shared → Prop} (h : CW X A f args σ Q E) (hq : ∀ v σ', Q v σ' → Q' v σ') : CW X A f args σ Q' E :=
  fun σf s fv vs hf hv D R => wpAny_mono (h σf s fv vs hf hv D R) (fun v s' x => x.casesOn fun σ' D' R' q => ⟨σ', D', R', hq _ _ q⟩) fun _ _ x => x

theorem RelF.sub {X : Cx} {fs : List Env} {L : Addr} {fr : Fm} {σ σf : St} {s : Shared} (R : RelF X fs L σf fr σ s) : σ.un (σf.set L (.ns fr)) = (σ.un σf).set L (.ns fr) ∧ Disj σ (σf.set L (.ns fr)) := ⟨St.un_set R.noL, Disj.setR.mpr ⟨R.noL, R.disj⟩⟩
theorem RelF.enter {X : Cx} {fs : List Env} {L : Addr} {fr : Fm} {σf σ' : St} {s' : Shared} (hfL : σf L = none) (D' : Disj σ' (σf.set L (.ns fr))) (R' : Rel X fs (σ'.un (σf.set L (.ns fr))) s') : RelF X fs L σf fr σ' s' :=
  ⟨(Disj.setR.mp D').2, (St.un_none (Disj.setR.mp D').1).trans hfL, St.un_set (Disj.setR.mp D').1 ▸ R'⟩
theorem WC.of {X : Cx} {A : Around} {L : Addr} {f : PV} {args : List PV} {fr : Fm} {σ : St} {Q : PV → Fm → St → Prop} {E : Value → Shared → Prop}
    (h : CW X A f args σ (fun v σ' => Q v fr σ') E) : WC X A L f args fr σ Q E := fun fv vs hf hv σf s R =>
  wpAny_mono (h (σf.set L (.ns fr)) s fv vs hf hv R.sub.2 (R.sub.1 ▸ R.rel)) (fun v s' x => x.casesOn fun σ' D' R' q => ⟨fr, σ', RelF.enter (St.un_eq_none R.free).2 D' R', q⟩) fun _ _ x => x

structure IsDef (X : Cx) (σ : St) (f : Addr) (fd : FuncData) : Prop where
  here : ∀ fs s, Rel X fs σ s → ∃ o, s.heap.get? f = some o ∧ o.data = .func fd ∧ s.heap.CodeRec fd.code fd.qualname
theorem IsDef.base {X : Cx} {σ : St} {f : Addr} {fd : FuncData} {oc : Value} {od : Option Addr} {osl : Array (Option Value)} (ho : X.K.lookup f = some ⟨oc, od, .func fd, osl⟩) (hc : codeIn X.K fd.code fd.qualname = true) : IsDef X σ f fd :=
  ⟨fun fs s R => ⟨_, R.KI _ _ ho, rfl, codeRec_of R.KI hc⟩⟩

noncomputable def addCells (σ : St) (cm : Str → Option PV) : List (Str × Addr) → St
  | [] => σ
  | (n, c) :: r => (addCells σ cm r).set c (.cell (cm n))
set_option tactic.hygienic true in
theorem addCells_of {σ : St} {cm : Str → Option PV} {a : Addr} {o : AO} : ∀ {cs : List (Str × Addr)}, addCells σ cm cs a = some o → (∃ n, (n, a) ∈ cs ∧ o = .cell (cm n)) ∨ σ a = some o
  | [], h => .inr h
  | (n, c) :: r, h => by
    unfold addCells St.set at h
    split at h
    · rename_i q; subst q; cases h; exact .inl ⟨n, .head _, rfl⟩
    · rcases addCells_of h with ⟨n', h1, h2⟩ | h
      · exact .inl ⟨n', .tail _ h1, h2⟩
      · exact .inr h

noncomputable def defEnv (fd : FuncData) (L f : Addr) (cells : List (Str × Addr)) : Env := newEnv fd.scope L fd.globals cells (fd.qualname ++ ".<locals>.") (some f) fd.code none fd.builtins
noncomputable def retOf : PF → PV
  | .ret v => v
  | _ => .none

theorem lookup_reverse_map {l : List (Str × Value)} {x : Str} : (l.reverse.lookup x).map abs = (l.reverse.map fun p => (p.1, abs p.2)).lookup x := by
  generalize l.reverse = r
  induction r with
  | nil => rfl
  | cons p r ih =>
    obtain ⟨y, v⟩ := p
    simp only [List.lookup, List.map_cons]
    cases x == y
    · exact ih
    · rfl

theorem okA_deeper {A : Around} {k : Nat} (h : OkA A (k + 1)) (env : Env) : OkA (A.deeper env) k := by
  obtain ⟨h1, h2, h3, h4⟩ := h
  refine ⟨?_, ?_, h3, ?_⟩
  · show A.depth + 1 + 2 * k < 900; lia
  · show A.units + 3 + 12 * k < 9000; lia
  · show (A.frames.map _).isSome = true; rw [Option.isSome_map]; exact h4
theorem fsOf_deeper {A : Around} {k : Nat} (h : OkA A k) (env : Env) : fsOf (A.deeper env) = env :: fsOf A := by
  have := h.frames
  unfold fsOf
  show (A.frames.map (env :: ·)).getD [] = _
  cases q : A.frames with
  | none => rw [q] at this; cases this
  | some l => rfl
theorem OkA.room {A : Around} {k : Nat} (h : OkA A k) : A.depth < recursionLimit := by have := h.depth; unfold recursionLimit; lia
theorem OkA.le {A : Around} {k j : Nat} (h : OkA A k) (hj : j ≤ k) : OkA A j := ⟨by have := h.depth; lia, by have := h.units; lia, h.handled, h.frames⟩

section
variable {X : Cx} {A : Around}
theorem frames_cons {env : Env} {fs : List Env} {base h h' : Heap} {L : Addr} {o : Obj} (hk : env.scope.kind = .function) (hf : env.frame = some L) (hb : base.get? L = none) (ho : h'.get? L = some o) (hd : ∀ vs, o.data ≠ .fields vs)
    (hfs : h.FunFrames base fs) (hkeep : ∀ b o, h.get? b = some o → h'.get? b = some o) : h'.FunFrames base (env :: fs) :=
  ⟨by rw [hk]; decide, ⟨L, o, hf, hb, ho, hd⟩, hfs.of_keeps fun b o e _ => ⟨o, hkeep b o e, rfl⟩⟩
theorem fresh_base {h : Heap} {fs : List Env} {σ : St} {s : Shared} (R : Rel X fs σ s) : X.hb.get? s.heap.objs.size = none := by
  cases q : X.hb.get? s.heap.objs.size with
  | none => rfl
  | some o => exact absurd (Heap.lt_size q) (Nat.not_lt.mpr R.big)

theorem cellsFrom_lookup_of_mem {cs : List (Str × Addr)} (hn : (cs.map (·.1)).Nodup) {n : Str} {c : Addr} (h : (n, c) ∈ cs) : cs.lookup n = some c := by
  induction cs with
  | nil => cases h
  | cons p r ih =>
    obtain ⟨n', c'⟩ := p
    rw [List.map_cons, List.nodup_cons] at hn
    rcases List.mem_cons.mp h with e | h2
    · cases e; simp [List.lookup]
    · have : (n == n') = false := by
        refine beq_eq_false_iff_ne.mpr fun e => hn.1 ?_
        subst e
        exact List.mem_map.mpr ⟨_, h2, rfl⟩
      simp only [List.lookup, this]
      exact ih hn.2 h2
theorem addCells_un (σ σf : St) (cm : Str → Option PV) : ∀ cs : List (Str × Addr), (addCells σ cm cs).un σf = addCells (σ.un σf) cm cs
  | [] => rfl
  | (n, c) :: r => by
    unfold addCells
    rw [St.set_un, addCells_un σ σf cm r]
theorem addCells_none {σ : St} {cm : Str → Option PV} {a : Addr} : ∀ {cs : List (Str × Addr)}, (∀ n, (n, a) ∉ cs) → σ a = none → addCells σ cm cs a = none
  | [], _, h => h
  | (n, c) :: r, hn, h => by
    unfold addCells
    rw [St.set_ne]
    · exact addCells_none (fun m hm => hn m (.tail _ hm)) h
    · intro e; subst e; exact hn n (.head _)

theorem Rel.fresh {fs : List Env} {σ : St} {s : Shared} (R : Rel X fs σ s) : σ s.heap.objs.size = none := St.no_of fun _ q => Nat.lt_irrefl _ (R.lt q)
theorem Rel.outer {env : Env} {fs : List Env} {σ : St} {s : Shared} (R : Rel X (env :: fs) σ s) : Rel X fs σ s := ⟨R.keep, R.own, R.big, R.frames.2.2, R.gens, R.os, fun env he => R.nss env (.tail _ he)⟩
theorem RelF.callEnd {env : Env} {fs : List Env} {L : Addr} {fr : Fm} {σ σf : St} {s : Shared} (R : RelF X (env :: fs) L σf fr σ s) : Rel X fs (σ.un σf) s := (R.rel.less (St.le_set R.free)).outer
theorem RelF.callStart {env : Env} {fs : List Env} {bs : Fm} {cm : Str → Option PV} {cs : List (Str × Addr)} {σ σf : St} {s s' : Shared} {oL : Obj} {es : Array DictEntry} {ep : Nat} (hk : env.scope.kind = .function) (hf : env.frame = some s.heap.objs.size) (D : Disj σ σf) (R : Rel X fs (σ.un σf) s)
    (keep : ∀ b o, s.heap.get? b = some o → s'.heap.get? b = some o) (gL : s'.heap.get? s.heap.objs.size = some oL) (dL : oL.data = .dict es ep) (kL : StrKeys es) (hL : ∀ x v, bs.lookup x = some v → (nsFind es x).map abs = some v)
    (hcs : ∀ n c, (n, c) ∈ cs → s.heap.objs.size < c ∧ ∃ oc v, s'.heap.get? c = some oc ∧ oc.data = .cell v ∧ v.map abs = cm n) (hg : s'.gens = s.gens) (ho : s'.os = s.os) : RelF X (env :: fs) s.heap.objs.size σf bs (addCells σ cm cs) s' := by
  have ne : ∀ {a o}, (σ.un σf) a = some o → ∀ n, (n, a) ∉ cs := fun e n hn => Nat.lt_asymm (R.lt e) (hcs n _ hn).1
  refine ⟨fun a o e => ?_, by rw [addCells_un]; exact addCells_none (fun n hn => Nat.lt_irrefl _ (hcs n _ hn).1) R.fresh, ?_⟩
  · rcases addCells_of e with ⟨n, h1, rfl⟩ | e
    · exact St.no_of fun o q => ne (St.un_right D q) n h1
    · exact D a o e
  rw [addCells_un]
  refine ⟨fun b o e => keep b o (R.keep b o e), fun a o e => ?_, Nat.le_trans R.big (Nat.le_of_lt (Heap.lt_size gL)), frames_cons hk hf (fresh_base (h := s.heap) R) gL (by rw [dL]; intro vs e; cases e) R.frames keep, hg.trans R.gens, ho.trans R.os, fun env' he L' hL' o e => ?_⟩
  · by_cases q : a = s.heap.objs.size
    · subst q; rw [St.set_self] at e; cases e
      exact ⟨.hi R.big, oL, gL, es, ep, dL, kL, hL⟩
    · rw [St.set_ne _ q] at e
      rcases addCells_of e with ⟨n, h1, rfl⟩ | e
      · obtain ⟨h2, oc, v, g1, g2, g3⟩ := hcs n a h1
        exact ⟨.hi (Nat.le_trans R.big (Nat.le_of_lt h2)), oc, g1, v, g2, g3⟩
      · obtain ⟨h1, ob, h2, h3⟩ := R.own a o e
        exact ⟨h1, ob, keep _ _ h2, h3⟩
  · by_cases q : L' = s.heap.objs.size
    · subst q; rw [St.set_self] at e; cases e; rfl
    · rw [St.set_ne _ q] at e
      rcases List.mem_cons.mp he with rfl | he
      · exact absurd (Option.some.inj (hL'.symm.trans hf)) q
      · obtain ⟨ob', g, _⟩ := FF_at R.frames he hL'
        exact R.nss env' he L' hL' o ((addCells_of e).resolve_left fun ⟨n, h1, _⟩ => Nat.lt_asymm (Heap.lt_size g) (hcs n _ h1).1)

theorem call_cellsC {f : Addr} {fd : FuncData} {body : List Stmt} {args : List PV} {bs : Fm} {cm : Str → Option PV} {σ : St} {Q : PV → St → Prop} {E : Value → Shared → Prop} {k : Nat}
    (hA : OkA A (k + 1)) (hd : IsDef X σ f fd) (hbody : fd.body = .stmts body) (hco : fd.scope.isCoroutine = false) (hgen : fd.scope.isGenerator = false) (hk : fd.scope.kind = .function) (hclo : fd.closure = [])
    (hnd : ∀ n, ((cellsFrom n fd.scope.names []).map (·.1)).Nodup)
    (hbind : ∀ s vs, vs.map abs = args → Rel X (fsOf A) σ s → ∃ binds : List (Str × Value), BindsTo s fd ⟨vs, []⟩ binds ∧
      (∀ n, ∀ x ∈ binds, fd.scope.names.lookup x.1 = some .local ∨ (fd.scope.names.lookup x.1 = some .cell ∧ ((cellsFrom n fd.scope.names []).lookup x.1).isSome = true)) ∧
      (∀ x, (bindL (fd.scope.names.lookup ·) binds (fun _ => none) x).map abs = bs.lookup x) ∧ (∀ x, (bindC (fd.scope.names.lookup ·) binds (fun _ => none) x).map abs = cm x))
    (h : ∀ L, (∀ a o, σ a = some o → a < L) → let ev := defEnv fd L f (cellsFrom (L + 1) fd.scope.names []); let Ad := A.deeper ev; WB X Ad ev body bs
      (addCells σ cm (cellsFrom (L + 1) fd.scope.names [])) (fun fl _ σ' => Q (retOf fl) σ') (fun _ _ => False)) : CC X A (.ref f) args σ Q E := by
  intro σf s fv vs hf hv D R
  obtain rfl := abs_ref hf
  have R0 : Rel X (fsOf A) σ s := R.less fun a o e => St.un_of e
  obtain ⟨o, ho, hdata, hcd⟩ := hd.here _ s R0
  obtain ⟨binds, hb, hkind, hbs, hbc⟩ := hbind s vs hv R0
  refine codeAny_call_function hA.room ho hdata hco hgen hbody hcd ?_
  refine hb _ _ _ _ ?_
  rw [hclo]
  refine wpAny_newFunctionEnv_cells hk (hkind _) (fun env he s' hs' => ?_)
  subst he
  have keep := hs'.toInCall.keep
  obtain ⟨hh, tk, hsame⟩ := hs'.toInCall.same
  refine ⟨R.nolimit.keeps keep, ?_⟩
  refine codeAny_func ?_
  obtain ⟨oL, esL, epL, gL, dL, kL, fL⟩ := hs'.toInCall.ns
  have RF : RelF X (fsOf (A.deeper (defEnv fd s.heap.objs.size f (cellsFrom (s.heap.objs.size + 1) fd.scope.names [])))) s.heap.objs.size σf bs (addCells σ cm (cellsFrom (s.heap.objs.size + 1) fd.scope.names [])) s' := by
    rw [fsOf_deeper hA]
    refine RelF.callStart hk rfl D R keep gL dL kL (fun x v hx => by rw [fL, ← hx]; exact hbs x) (fun n c hn => ⟨hs'.above n c hn, ?_⟩) (by rw [hsame]) (by rw [hsame])
    obtain ⟨oc, g1, g2⟩ := hs'.cell n c (cellsFrom_lookup_of_mem (hnd _) hn)
    exact ⟨oc, _, g1, g2, hbc n⟩
  refine wpAny_mono (h s.heap.objs.size (fun a o e => R0.lt e) σf _ RF) (fun fl s' x => x.casesOn fun fr' σ' R' q => ?_) (fun _ _ x => x.elim)
  exact ⟨σ', R'.disj, (fsOf_deeper hA _ ▸ R').callEnd, by cases fl <;> exact q⟩
theorem call_cellsW {f : Addr} {fd : FuncData} {body : List Stmt} {args : List PV} {bs : Fm} {cm : Str → Option PV} {σ : St} {Q : PV → St → Prop} {E : Value → Shared → Prop} {k : Nat}
    (hA : OkA A (k + 1)) (hd : IsDef X σ f fd) (hbody : fd.body = .stmts body) (hco : fd.scope.isCoroutine = false) (hgen : fd.scope.isGenerator = false) (hk : fd.scope.kind = .function) (hclo : fd.closure = [])
    (hnd : ∀ n, ((cellsFrom n fd.scope.names []).map (·.1)).Nodup)
    (hbind : ∀ s vs, vs.map abs = args → Rel X (fsOf A) σ s → ∃ binds : List (Str × Value), BindsTo s fd ⟨vs, []⟩ binds ∧
      (∀ n, ∀ x ∈ binds, fd.scope.names.lookup x.1 = some .local ∨ (fd.scope.names.lookup x.1 = some .cell ∧ ((cellsFrom n fd.scope.names []).lookup x.1).isSome = true)) ∧
      (∀ x, (bindL (fd.scope.names.lookup ·) binds (fun _ => none) x).map abs = bs.lookup x) ∧ (∀ x, (bindC (fd.scope.names.lookup ·) binds (fun _ => none) x).map abs = cm x))
    (h : ∀ L, (∀ a o, σ a = some o → a < L) → let ev := defEnv fd L f (cellsFrom (L + 1) fd.scope.names []); let Ad := A.deeper ev; WB X Ad ev body bs
      (addCells σ cm (cellsFrom (L + 1) fd.scope.names [])) (fun fl _ σ' => Q (retOf fl) σ') (fun _ _ => False)) : CW X A (.ref f) args σ Q E := (call_cellsC hA hd hbody hco hgen hk hclo hnd hbind h).cw
end
end SL

end
section
open PySem PySem.W PyProof.Rows PySem.Calls
namespace SL

theorem seqIndex_pos {k : Int} {n : Nat} (h : k.toNat < n) (h0 : 0 ≤ k) : seqIndex? k n = some k.toNat := by
  exact seqIndex_of h0 (by lia)
theorem args0 {vs : List Value} (h : vs.map abs = []) : vs = [] := List.map_eq_nil_iff.mp h
theorem args1 {vs : List Value} {x : PV} (h : vs.map abs = [x]) : ∃ v, vs = [v] ∧ abs v = x := by
  obtain ⟨v, r, rfl, h1, h2⟩ := List.map_eq_cons_iff.mp h
  exact ⟨v, by rw [args0 h2], h1⟩
theorem args2 {vs : List Value} {x y : PV} (h : vs.map abs = [x, y]) : ∃ v w, vs = [v, w] ∧ abs v = x ∧ abs w = y := by
  obtain ⟨v, r, rfl, h1, h2⟩ := List.map_eq_cons_iff.mp h
  obtain ⟨w, rfl, h3⟩ := args1 h2
  exact ⟨v, w, rfl, h1, h3⟩
theorem args3 {vs : List Value} {x y z : PV} (h : vs.map abs = [x, y, z]) : ∃ v w u, vs = [v, w, u] ∧ abs v = x ∧ abs w = y ∧ abs u = z := by
  obtain ⟨v, r, rfl, h1, h2⟩ := List.map_eq_cons_iff.mp h
  obtain ⟨w, u, rfl, h3, h4⟩ := args2 h2
  exact ⟨v, w, u, rfl, h1, h3, h4⟩
section
variable {X : Cx} {A : Around} {L : Addr} {fr : Fm} {σ : St} {E : Value → Shared → Prop}

theorem W2.ofInts {f : Value → Value → Sem Value} {i j : Int} {r : PV} {Q : PV → Fm → St → Prop}
    (hf : ∀ t u s (Q' : Value → Shared → Prop), (∀ v tk, abs v = r → Q' v { s with toks := tk }) → wpAny X.M A (f (.int i t) (.int j u)) Q' E s) (h : Q r fr σ) : W2 X A L f (.int i) (.int j) fr σ Q E := by
  intro a b ha hb
  obtain ⟨t, rfl⟩ := abs_int ha
  obtain ⟨u, rfl⟩ := abs_int hb
  exact fun σf s R => hf t u s _ fun v tk hv => ⟨_, _, R.toks _, by show Q (abs v) _ _; rw [hv]; exact h⟩
theorem W2.add {i j : Int} {Q : PV → Fm → St → Prop} (h : Q (.int (i + j)) fr σ) : W2 X A L (binaryOp .Add) (.int i) (.int j) fr σ Q E := .ofInts (fun t u s Q' k => P.add_int (k _ _ rfl)) h
theorem W2.iadd {i j : Int} {Q : PV → Fm → St → Prop} (h : Q (.int (i + j)) fr σ) : W2 X A L (inplaceOp .Add) (.int i) (.int j) fr σ Q E := .ofInts (fun t u s Q' k => P.iadd_int (k _ _ rfl)) h
theorem W2.sub {i j : Int} {Q : PV → Fm → St → Prop} (h : Q (.int (i - j)) fr σ) : W2 X A L (binaryOp .Sub) (.int i) (.int j) fr σ Q E := .ofInts (fun t u s Q' k => P.sub_int (k _ _ rfl)) h
theorem W2.isub {i j : Int} {Q : PV → Fm → St → Prop} (h : Q (.int (i - j)) fr σ) : W2 X A L (inplaceOp .Sub) (.int i) (.int j) fr σ Q E := .ofInts (fun t u s Q' k => P.isub_int (k _ _ rfl)) h
theorem W2.mul {i j : Int} {Q : PV → Fm → St → Prop} (h : Q (.int (i * j)) fr σ) (hm : IntMulOk i j) : W2 X A L (binaryOp .Mult) (.int i) (.int j) fr σ Q E := .ofInts (fun t u s Q' k => P.mul_int (k _ _ rfl) hm) h
theorem W2.mod {i j : Int} {Q : PV → Fm → St → Prop} (h : Q (.int (i.fmod j)) fr σ) (hj : j ≠ 0) : W2 X A L (binaryOp .Mod) (.int i) (.int j) fr σ Q E := .ofInts (fun t u s Q' k => PyProof.Rows.mod_int' hj (k _ _ rfl)) h
theorem W2.and {i j : Int} {Q : PV → Fm → St → Prop} (h : Q (.int (Builtin.bitAnd i j)) fr σ) : W2 X A L (binaryOp .BitAnd) (.int i) (.int j) fr σ Q E := .ofInts (fun t u s Q' k => PyProof.Rows.and_int (k _ _ rfl)) h
theorem W2.or {i j : Int} {Q : PV → Fm → St → Prop} (h : Q (.int (Builtin.bitOr i j)) fr σ) : W2 X A L (binaryOp .BitOr) (.int i) (.int j) fr σ Q E := .ofInts (fun t u s Q' k => PyProof.Rows.or_int (k _ _ rfl)) h
theorem W2.pow {i j : Int} {Q : PV → Fm → St → Prop} (h : Q (.int (i ^ j.toNat)) fr σ) (h0 : 0 ≤ j) (hz : (Builtin.Int.intBits i : Int) * j ≤ 2 ^ 27) : W2 X A L (binaryOp .Pow) (.int i) (.int j) fr σ Q E := .ofInts (fun t u s Q' k => PyProof.Rows.pow_int h0 hz (k _ _ rfl)) h
theorem W2.eqI {i j : Int} {Q : PV → Fm → St → Prop} (h : Q (.bool (i == j)) fr σ) : W2 X A L (compareOp .Eq) (.int i) (.int j) fr σ Q E := .ofInts (fun t u s Q' k => P.eq_int (k _ s.toks rfl)) h
theorem W2.neI {i j : Int} {Q : PV → Fm → St → Prop} (h : Q (.bool (i != j)) fr σ) : W2 X A L (compareOp .NotEq) (.int i) (.int j) fr σ Q E := .ofInts (fun t u s Q' k => P.ne_int (k _ s.toks rfl)) h
theorem W2.ltI {i j : Int} {Q : PV → Fm → St → Prop} (h : Q (.bool (decide (i < j))) fr σ) : W2 X A L (compareOp .Lt) (.int i) (.int j) fr σ Q E := .ofInts (fun t u s Q' k => P.lt_int (k _ s.toks rfl)) h
theorem W1.neg {i : Int} {Q : PV → Fm → St → Prop} (h : Q (.int (-i)) fr σ) : W1 X A L (unaryOp .USub) (.int i) fr σ Q E := by
  intro a ha; obtain ⟨t, rfl⟩ := abs_int ha
  exact fun σf s R => P.neg_int ⟨_, _, R.toks _, h⟩
theorem W2.isNone {x : PV} {Q : PV → Fm → St → Prop} (h : Q (.bool (decide (x = .none))) fr σ) : W2 X A L (compareOp .Is) x .none fr σ Q E := by
  intro a b ha hb; obtain rfl := abs_none hb; subst ha
  refine fun σf s R => is_none ⟨_, _, R, ?_⟩
  have e : (a == Value.none) = decide (abs a = .none) := by cases a <;> simp [abs]
  show Q (abs (.bool (a == .none))) fr σ
  rw [e]; exact h
theorem W2.isNotNone {x : PV} {Q : PV → Fm → St → Prop} (h : Q (.bool (!decide (x = .none))) fr σ) : W2 X A L (compareOp .IsNot) x .none fr σ Q E := by
  intro a b ha hb; obtain rfl := abs_none hb; subst ha
  refine fun σf s R => isNot_none ⟨_, _, R, ?_⟩
  have e : (a == Value.none) = decide (abs a = .none) := by cases a <;> simp [abs]
  show Q (abs (.bool (!(a == .none)))) fr σ
  rw [e]; exact h

theorem RelF.list {fs : List Env} {σf : St} {s : Shared} {a : Addr} {xs : List PV} (R : RelF X fs L σf fr σ s) (h : σ a = some (.list xs)) : ∃ vs n, s.heap.get? a = some (listOf vs n) ∧ vs.toList.map abs = xs ∧ vs.size = xs.length := by
  obtain ⟨ob, h1, vs, n, rfl, rfl⟩ := R.get h
  exact ⟨vs, n, h1, rfl, by simp⟩
theorem RelF.tuple {fs : List Env} {σf : St} {s : Shared} {a : Addr} {xs : List PV} (R : RelF X fs L σf fr σ s) (h : σ a = some (.tuple xs)) : ∃ vs n, s.heap.get? a = some ⟨.type "tuple", none, .seq vs n, #[]⟩ ∧ vs.toList.map abs = xs ∧ vs.size = xs.length := by
  obtain ⟨ob, h1, vs, n, rfl, rfl⟩ := R.get h
  exact ⟨vs, n, h1, rfl, by simp⟩
theorem RelF.mapSeq {fs : List Env} {σf : St} {s : Shared} {a : Addr} {xs ys : List PV} {vs : Array Value} {n t : Nat} (R : RelF X fs L σf fr σ s) (h : σ a = some (.list xs)) (ho : s.heap.get? a = some (listOf vs n)) (f : Array Value → Array Value) (hf : (f vs).toList.map abs = ys) :
    RelF X fs L σf fr (σ.set a (.list ys)) { s with heap := s.heap.update a (Obj.mapSeq f), toks := t } := by
  have hz : (Obj.mapSeq f (listOf vs n)).isFreed = false := rfl
  exact (R.upd h (Heap.SameBut.update ..) (Heap.get?_update_self _ ho hz) (o := .list ys) ⟨f vs, _, rfl, hf⟩ rfl).toks t
theorem isList_of {h : Heap} {a : Addr} {vs : Array Value} {n : Nat} (ho : h.get? a = some (listOf vs n)) : h.IsList a vs := ⟨_, ho, rfl, n, rfl⟩
theorem get_of_map {vs : Array Value} {xs : List PV} {k : Nat} {x : PV} (h : vs.toList.map abs = xs) (hx : xs[k]? = some x) : ∃ v, vs[k]? = some v ∧ abs v = x := by
  subst h
  rw [List.getElem?_map] at hx
  obtain ⟨v, h1, h2⟩ := Option.map_eq_some_iff.mp hx
  exact ⟨v, by simpa using h1, h2⟩

theorem WM.list {a : Addr} {xs : List PV} {name : Str} {id : String} {Q : PV → List PV → Fm → St → Prop} (h : σ a = some (.list xs)) (slot : Slot "list" name id) (hty : typeOf (.builtin id) = pure (.type "method_descriptor")) (hq : Q (.builtin id) [.ref a] fr σ) :
    WM X A L (.ref a) name fr σ Q E := by
  intro v pl hv; obtain rfl := abs_ref hv
  intro σf s R
  obtain ⟨vs, n, ho, _⟩ := R.list h
  exact getMethod_builtin ⟨_, ho, rfl⟩ PySem.F.plainAttrs_list slot hty (fun a e => by cases e; exact ⟨_, ho, rfl⟩) ⟨_, _, R, hq⟩
theorem WC.append {a : Addr} {xs : List PV} {x : PV} {Q : PV → Fm → St → Prop} (h : σ a = some (.list xs)) (hz : xs.length ≤ sizeLine) (hq : Q .none fr (σ.set a (.list (xs ++ [x])))) : WC X A L (.builtin "list.append") [.ref a, x] fr σ Q E := by
  intro fv vs hf hv; obtain rfl := abs_builtin hf
  obtain ⟨v1, v2, rfl, hv1, rfl⟩ := args2 hv
  obtain rfl := abs_ref hv1
  intro σf s R
  obtain ⟨us, n, ho, hu, hs⟩ := R.list h
  refine wpAny_call_entry slot_list_append ⟨_, ho, rfl⟩ entry_list_append ?_ (args_list_append _ _)
  show wpAny _ _ (updateSeq a (·.push v2) >>= fun _ => ret .none) _ _ s
  exact wpAny_bind (wpAny_updateSeq ho rfl (wpAny_pure ⟨.none, rfl, _, _, R.mapSeq (t := s.toks) h ho _ (by simp [← hu]), hq⟩) (by simpa [hs] using hz))
theorem WC.popLast {a : Addr} {xs : List PV} {x : PV} {Q : PV → Fm → St → Prop} (h : σ a = some (.list (xs ++ [x]))) (hz : xs.length + 1 ≤ sizeLine) (hq : Q x fr (σ.set a (.list xs))) : WC X A L (.builtin "list.pop") [.ref a] fr σ Q E := by
  intro fv vs hf hv; obtain rfl := abs_builtin hf
  obtain ⟨v1, rfl, hv1⟩ := args1 hv
  obtain rfl := abs_ref hv1
  intro σf s R
  obtain ⟨us, n, ho, hu, hs⟩ := R.list h
  have hsz : us.size = xs.length + 1 := by rw [hs]; simp
  obtain ⟨y, hy, rfl⟩ := get_of_map (k := us.size - 1) (x := x) hu (by rw [hsz]; simp)
  refine call_meets PySem.F.slot_list_pop ⟨_, ho, rfl⟩ PySem.F.entry_list_pop (PySem.F.args_list_pop_1 _) (PySem.MeetsSeq.list_pop_last a _ n y hy (by rw [hsz]; exact hz)) ⟨ho, ?_⟩
  refine ⟨_, _, R.mapSeq (t := s.toks) h ho _ ?_, hq⟩
  show (us.eraseIdxIfInBounds (us.size - 1)).toList.map abs = xs
  have : us.toList.map abs = xs ++ [abs y] := hu
  rw [Array.eraseIdxIfInBounds]
  split
  · rw [Array.toList_eraseIdx]
    obtain ⟨l1, l2, e1, e2, e3⟩ := List.map_eq_append_iff.mp this
    obtain ⟨z, rfl, _⟩ := args1 e3
    have hl : us.size - 1 = l1.length := by rw [← Array.length_toList, e1]; simp
    rw [hl, e1, List.eraseIdx_append_of_length_le (Nat.le_refl _)]
    simpa using e2
  · lia
theorem WC.clear {a : Addr} {xs : List PV} {Q : PV → Fm → St → Prop} (h : σ a = some (.list xs)) (hz : xs.length ≤ sizeLine) (hq : Q .none fr (σ.set a (.list []))) : WC X A L (.builtin "list.clear") [.ref a] fr σ Q E := by
  intro fv vs hf hv; obtain rfl := abs_builtin hf
  obtain ⟨v1, rfl, hv1⟩ := args1 hv
  obtain rfl := abs_ref hv1
  intro σf s R
  obtain ⟨us, n, ho, hu, hs⟩ := R.list h
  exact call_meets PySem.F.slot_list_clear ⟨_, ho, rfl⟩ PySem.F.entry_list_clear (PySem.F.args_list_clear_1 _) (PySem.AutoSeq1.list_clear_list_0 a us n (by rw [hs]; exact hz)) ⟨ho, _, _, R.mapSeq (t := s.toks) h ho (fun _ => #[]) rfl, hq⟩

theorem WI.list {value slice : Expr} {a : Addr} {xs : List PV} {k : Int} {x : PV} {Q : PV → Fm → St → Prop} (h : σ a = some (.list xs)) (h0 : 0 ≤ k) (h1 : k < 2 ^ 63) (hx : xs[k.toNat]? = some x) (hq : Q x fr σ)
    (hs : ∀ u, subscripted slice false (.ref a) (.int k u) = PySem.operate [.ref a, .int k u] (getItem (.ref a) (.int k u))) : WI X A L value slice (.ref a) (.int k) fr σ Q E := by
  intro v w hv hw; obtain rfl := abs_ref hv; obtain ⟨u, rfl⟩ := abs_int hw
  intro σf s R
  obtain ⟨us, n, ho, hu, hsz⟩ := R.list h
  obtain ⟨y, hy, rfl⟩ := get_of_map hu hx
  exact tail_any ⟨_, ho, rfl⟩ slot_list_getitem.lookup (wpAny_getItem_list (isList_of ho) h0 h1 hy ⟨_, _, R, hq⟩) (hs u)
theorem WI.listNeg {value slice : Expr} {a : Addr} {xs : List PV} {k : Int} {x : PV} {Q : PV → Fm → St → Prop} (h : σ a = some (.list xs)) (h0 : k < 0) (h1 : -(xs.length : Int) ≤ k) (h2 : -(2 ^ 63) ≤ k) (hx : xs[(k + xs.length).toNat]? = some x) (hq : Q x fr σ)
    (hs : ∀ u, subscripted slice false (.ref a) (.int k u) = PySem.operate [.ref a, .int k u] (getItem (.ref a) (.int k u))) : WI X A L value slice (.ref a) (.int k) fr σ Q E := by
  intro v w hv hw; obtain rfl := abs_ref hv; obtain ⟨u, rfl⟩ := abs_int hw
  intro σf s R
  obtain ⟨us, n, ho, hu, hsz⟩ := R.list h
  obtain ⟨y, hy, rfl⟩ := get_of_map hu hx
  rw [← hsz] at hy h1
  exact tail_any ⟨_, ho, rfl⟩ slot_list_getitem.lookup (wpAny_getItem_list_neg (isList_of ho) h0 h1 h2 hy ⟨_, _, R, hq⟩) (hs u)
theorem WI.getItemList {a : Addr} {xs : List PV} {k : Int} {x : PV} {Q : PV → Fm → St → Prop} (h : σ a = some (.list xs)) (h0 : 0 ≤ k) (h1 : k < 2 ^ 63) (hx : xs[k.toNat]? = some x) (hq : Q x fr σ) : W2 X A L getItem (.ref a) (.int k) fr σ Q E := by
  intro v w hv hw; obtain rfl := abs_ref hv; obtain ⟨u, rfl⟩ := abs_int hw
  intro σf s R
  obtain ⟨us, n, ho, hu, hsz⟩ := R.list h
  obtain ⟨y, hy, rfl⟩ := get_of_map hu hx
  exact wpAny_getItem_list (isList_of ho) h0 h1 hy ⟨_, _, R, hq⟩
theorem WU3.setList {a : Addr} {xs : List PV} {k : Int} {x : PV} {Q : Fm → St → Prop} (h : σ a = some (.list xs)) (h0 : 0 ≤ k) (h1 : k < 2 ^ 63) (hx : k < xs.length) (hq : Q fr (σ.set a (.list (xs.set k.toNat x)))) : WU3 X A L setItem (.ref a) (.int k) x fr σ Q E := by
  intro v w y hv hw hy; obtain rfl := abs_ref hv; obtain ⟨u, rfl⟩ := abs_int hw; subst hy
  intro σf s R
  obtain ⟨us, n, ho, hu, hsz⟩ := R.list h
  refine ki_setAt ho h0 h1 (by rw [hsz]; exact hx) ⟨_, _, R.mapSeq (t := s.toks) h ho _ ?_, hq⟩
  simp only [Array.toList_setIfInBounds, List.map_set, hu]
end
end SL

end
section
open PySem PySem.W PyProof.Rows PySem.Calls
namespace SL
section
variable {X : Cx} {fs : List Env} {σ : St} {fd : FuncData}
theorem binds1 {n : Str} {x : PV} (hb : ∀ a, bindArgs fd ⟨[a], []⟩ = Pure.pure [(n, a)]) (h1 : fd.scope.names.lookup n = some .local) :
    ∀ s vs, vs.map abs = [x] → Rel X fs σ s → ∃ binds : List (Str × Value), BindsTo s fd ⟨vs, []⟩ binds ∧ (binds.reverse.map fun p => (p.1, abs p.2)) = [(n, x)] ∧ ∀ x ∈ binds, fd.scope.names.lookup x.1 = some .local := by
  intro s vs hv R
  obtain ⟨v, rfl, rfl⟩ := args1 hv
  exact ⟨_, .of_eq (hb v), rfl, by intro p hp; cases hp with | head => exact h1 | tail _ h => cases h⟩
theorem binds2 {n m : Str} {x y : PV} (hb : ∀ a b, bindArgs fd ⟨[a, b], []⟩ = Pure.pure [(n, a), (m, b)]) (h1 : fd.scope.names.lookup n = some .local) (h2 : fd.scope.names.lookup m = some .local) :
    ∀ s vs, vs.map abs = [x, y] → Rel X fs σ s → ∃ binds : List (Str × Value), BindsTo s fd ⟨vs, []⟩ binds ∧ (binds.reverse.map fun p => (p.1, abs p.2)) = [(m, y), (n, x)] ∧ ∀ x ∈ binds, fd.scope.names.lookup x.1 = some .local := by
  intro s vs hv R
  obtain ⟨v, w, rfl, rfl, rfl⟩ := args2 hv
  refine ⟨_, .of_eq (hb v w), rfl, ?_⟩
  intro p hp
  simp only [List.mem_cons, List.not_mem_nil, or_false] at hp
  rcases hp with rfl | rfl <;> assumption
theorem binds3 {n m k : Str} {x y z : PV} (hb : ∀ a b c, bindArgs fd ⟨[a, b, c], []⟩ = Pure.pure [(n, a), (m, b), (k, c)]) (h1 : fd.scope.names.lookup n = some .local) (h2 : fd.scope.names.lookup m = some .local) (h3 : fd.scope.names.lookup k = some .local) :
    ∀ s vs, vs.map abs = [x, y, z] → Rel X fs σ s → ∃ binds : List (Str × Value), BindsTo s fd ⟨vs, []⟩ binds ∧ (binds.reverse.map fun p => (p.1, abs p.2)) = [(k, z), (m, y), (n, x)] ∧ ∀ x ∈ binds, fd.scope.names.lookup x.1 = some .local := by
  intro s vs hv R
  obtain ⟨v, w, u, rfl, rfl, rfl, rfl⟩ := args3 hv
  refine ⟨_, .of_eq (hb v w u), rfl, ?_⟩
  intro p hp
  simp only [List.mem_cons, List.not_mem_nil, or_false] at hp
  rcases hp with rfl | rfl | rfl <;> assumption
end
end SL

end
section
open PySem PySem.W PyProof.Rows PySem.Calls
namespace SL
noncomputable abbrev NoE : Value → Shared → Prop := fun _ _ => False

section
variable {X : Cx} {A : Around} {env : Env} {E : Value → Shared → Prop}

inductive Lss (I : Nat → Fm → St → Prop) (n : Nat) (fr : Fm) (σ : St) : Prop
  | intro (m : Nat) (hm : m < n) (h : Weak (I m) fr σ)
noncomputable abbrev TurnEnd (I : Nat → Fm → St → Prop) (n : Nat) (Q : PF → Fm → St → Prop) (f : PF) (fr : Fm) (σ : St) : Prop :=
  match f with
  | .next => Lss I n fr σ
  | .cont => Lss I n fr σ
  | .brk => Q .next fr σ
  | .ret v => Q (.ret v) fr σ


theorem codeBlock {sts : List Stmt} {R : Result → Shared → Prop} {s : Shared} (h : wpAny X.M A (execs sts env) (fun f s' => R (.ok f) s') NoE s) : codeAny X.M A (.block sts env) R s :=
  codeAny_block (wpAny_mono h (fun _ _ x => x) fun _ _ x => x.elim)

theorem for_any {it : Value} {target : Expr} {body orelse : List Stmt} {Q : PF → Fm → St → Prop} (I : Nat → Fm → St → Prop) {σf : St} {R : Result → Shared → Prop}
    (turn : ∀ n fr σ, I n fr σ → W X A env.locals (pyNext it) fr σ (fun r fr₁ σ₁ => match r with
      | none => WB X A env orelse fr₁ σ₁ Q NoE
      | some v => W X A env.locals (letOwnedTupleGo target it v >>= fun _ => assign target env v) fr₁ σ₁ (fun _ fr₂ σ₂ => WB X A env body fr₂ σ₂ (TurnEnd I n Q) NoE) NoE) NoE)
    (hR : ∀ f fr σ s, RelF X (fsOf A) env.locals σf fr σ s → Q (absF f) fr σ → R (.ok f) s) :
    ∀ n fr σ s, RelF X (fsOf A) env.locals σf fr σ s → I n fr σ → codeAny X.M A (.forLoop target it body orelse env) R s := by
  intro n
  induction n using Nat.strongRecOn with
  | ind n ih =>
    intro fr σ s RF hI
    refine codeAny_of_tree ?_
    rw [Around.under_of_weight (A := A) (c := .forLoop target it body orelse env) (by rfl) (by rfl)]
    show wpAny X.M A ((forTurn target it body orelse env).onRaise _) _ _ s
    refine wpAny_onRaise ?_
    refine wpAny_mono (E := NoE) ?_ (fun _ _ x => x) fun _ _ x => x.elim
    unfold forTurn
    refine wpAny_bind (wpAny_standAt ?_)
    refine wpAny_bind (wpAny_onRaise ?_)
    refine wpAny_mono (turn n fr σ hI σf s RF) (fun r s₁ ⟨fr₁, σ₁, R₁, h₁⟩ => ?_) fun _ _ x => x.elim
    cases r with
    | none =>
      refine wpAny_pure ⟨rfl, codeBlock (W.go h₁ R₁ (fun f s₂ fr₂ σ₂ R₂ h₂ => hR f fr₂ σ₂ s₂ R₂ h₂))⟩
    | some v =>
      have h₂ := h₁ σf s₁ R₁
      show wpAny X.M A (letOwnedTupleGo target it v >>= fun _ => assign target env v >>= fun _ => _) _ _ s₁
      rw [← bind_assoc]
      refine wpAny_bind (wpAny_mono h₂ (fun _ s₂ ⟨fr₂, σ₂, R₂, h₃⟩ => ?_) fun _ _ x => x)
      refine wpAny_bind (W.go h₃ R₂ (fun f s₃ fr₃ σ₃ R₃ h₄ => ?_))
      cases f with
      | next => obtain ⟨m, hm, hI'⟩ := h₄; obtain ⟨_, _, R₄, hI'⟩ := R₃.weak hI'; exact wpAny_pure ⟨rfl, ih m hm _ _ s₃ R₄ hI'⟩
      | cont => obtain ⟨m, hm, hI'⟩ := h₄; obtain ⟨_, _, R₄, hI'⟩ := R₃.weak hI'; exact wpAny_pure ⟨rfl, ih m hm _ _ s₃ R₄ hI'⟩
      | brk => exact wpAny_pure (hR .next _ _ _ R₃ h₄)
      | ret v => exact wpAny_pure (hR (.ret v) _ _ _ R₃ h₄)

theorem W.forLoop {it : Value} {target : Expr} {body orelse : List Stmt} {fr : Fm} {σ : St} {Q : PF → Fm → St → Prop} (hh : A.handled = none) (I : Nat → Fm → St → Prop)
    (turn : ∀ n fr σ, I n fr σ → W X A env.locals (pyNext it) fr σ (fun r fr₁ σ₁ => match r with
      | none => WB X A env orelse fr₁ σ₁ Q NoE
      | some v => W X A env.locals (letOwnedTupleGo target it v >>= fun _ => assign target env v) fr₁ σ₁ (fun _ fr₂ σ₂ => WB X A env body fr₂ σ₂ (TurnEnd I n Q) NoE) NoE) NoE)
    (n : Nat) (hI : I n fr σ) : W X A env.locals (runOwn (.forLoop target it body orelse env) env) fr σ (fun f => Q (absF f)) E := by
  intro σf s R
  refine wpAny_runOwn ?_
  have e : A.mark none = A := by unfold Around.mark; rw [hh]; obtain ⟨h, d, f, g, u⟩ := A; simp at hh; subst hh; rfl
  rw [e]
  exact for_any I turn (fun f fr σ s R q => ⟨fr, σ, R, q⟩) n fr σ s R hI

noncomputable def WIter (X : Cx) (A : Around) (L : Addr) (x : PV) (fr : Fm) (σ : St) (Q : Value → Fm → St → Prop) (E : Value → Shared → Prop) : Prop := ∀ v, abs v = x → W X A L (pyIter v) fr σ Q E
noncomputable def WFor (X : Cx) (A : Around) (env : Env) (target : Expr) (it : Value) (body orelse : List Stmt) (fr : Fm) (σ : St) (Q : PF → Fm → St → Prop) (E : Value → Shared → Prop) : Prop :=
  W X A env.locals (runOwn (.forLoop target it body orelse env) env) fr σ (fun f => Q (absF f)) E
theorem WS.for {target iter : Expr} {body orelse : List Stmt} {pos : Pos} {fr : Fm} {σ : St} {Q : PF → Fm → St → Prop} (hs : ∀ x, foldedSetIterable iter env x = pure x)
    (h : WE X A env iter fr σ (fun x fr₁ σ₁ => WIter X A env.locals x fr₁ σ₁ (fun it fr₂ σ₂ => WFor X A env target it body orelse fr₂ σ₂ Q E) E) E) :
    WS X A env (.For target iter body orelse pos) fr σ Q E := by
  show W _ _ _ _ _ _ _ _
  rw [arm_exec_For]
  refine .bind (.standAt (.bind (.mono h fun v fr₁ σ₁ h₁ => ?_)))
  rw [hs]
  exact .bind (.pure (.bind (.standAt (.bind (.holding (h₁ v rfl))))))

theorem while_any {test : Expr} {body orelse : List Stmt} {Q : PF → Fm → St → Prop} (I : Nat → Fm → St → Prop) {σf : St} {R : Result → Shared → Prop}
    (turn : ∀ n fr σ, I n fr σ → WT X A env test fr σ (fun b fr₁ σ₁ => if b = true then WB X A env body fr₁ σ₁ (TurnEnd I n Q) NoE else WB X A env orelse fr₁ σ₁ Q NoE) NoE)
    (hR : ∀ f fr σ s, RelF X (fsOf A) env.locals σf fr σ s → Q (absF f) fr σ → R (.ok f) s) :
    ∀ n fr σ s, RelF X (fsOf A) env.locals σf fr σ s → I n fr σ → codeAny X.M A (.whileLoop test body orelse env) R s := by
  intro n
  induction n using Nat.strongRecOn with
  | ind n ih =>
    intro fr σ s RF hI
    refine codeAny_of_tree ?_
    rw [Around.under_of_weight (A := A) (c := .whileLoop test body orelse env) (by rfl) (by rfl)]
    show wpAny X.M A ((whileTurn test body orelse env).onRaise _) _ _ s
    refine wpAny_onRaise ?_
    refine wpAny_mono (E := NoE) ?_ (fun _ _ x => x) fun _ _ x => x.elim
    unfold whileTurn
    refine wpAny_bind (W.go (turn n fr σ hI) RF (fun b s₁ fr₁ σ₁ R₁ h₁ => ?_))
    cases b with
    | false =>
      simp only [Bool.false_eq_true, if_false] at h₁ ⊢
      exact wpAny_bind (W.go h₁ R₁ (fun f s₂ fr₂ σ₂ R₂ h₂ => wpAny_pure (hR f fr₂ σ₂ s₂ R₂ h₂)))
    | true =>
      simp only [if_true] at h₁ ⊢
      refine wpAny_bind (W.go h₁ R₁ (fun f s₃ fr₃ σ₃ R₃ h₄ => ?_))
      cases f with
      | next => obtain ⟨m, hm, hI'⟩ := h₄; obtain ⟨_, _, R₄, hI'⟩ := R₃.weak hI'; exact wpAny_pure ⟨rfl, ih m hm _ _ s₃ R₄ hI'⟩
      | cont => obtain ⟨m, hm, hI'⟩ := h₄; obtain ⟨_, _, R₄, hI'⟩ := R₃.weak hI'; exact wpAny_pure ⟨rfl, ih m hm _ _ s₃ R₄ hI'⟩
      | brk => exact wpAny_pure (hR .next _ _ _ R₃ h₄)
      | ret v => exact wpAny_pure (hR (.ret v) _ _ _ R₃ h₄)
theorem WS.while {test : Expr} {body orelse : List Stmt} {pos : Pos} {fr : Fm} {σ : St} {Q : PF → Fm → St → Prop} (hh : A.handled = none) (I : Nat → Fm → St → Prop)
    (turn : ∀ n fr σ, I n fr σ → WT X A env test fr σ (fun b fr₁ σ₁ => if b = true then WB X A env body fr₁ σ₁ (TurnEnd I n Q) NoE else WB X A env orelse fr₁ σ₁ Q NoE) NoE)
    (n : Nat) (hI : I n fr σ) : WS X A env (.While test body orelse pos) fr σ Q E := by
  intro σf s R
  show wpAny _ _ (exec _ env) _ _ _
  rw [exec_While]
  refine wpAny_bind (wpAny_standAt (wpAny_runOwn ?_))
  have e : A.mark none = A := by unfold Around.mark; rw [hh]; obtain ⟨h, d, f, g, u⟩ := A; simp at hh; subst hh; rfl
  rw [e]
  exact while_any I turn (fun f fr σ s R q => ⟨fr, σ, R, q⟩) n fr σ s R hI

noncomputable def WAs (X : Cx) (A : Around) (env : Env) (target : Expr) (it : Value) (x : PV) (fr : Fm) (σ : St) (Q : Fm → St → Prop) (E : Value → Shared → Prop) : Prop :=
  ∀ v, abs v = x → W X A env.locals (letOwnedTupleGo target it v >>= fun _ => assign target env v) fr σ (fun _ => Q) E
theorem WAs.name {x : Str} {p : Pos} {it : Value} {v : PV} {fr : Fm} {σ : St} {Q : Fm → St → Prop} (h : WN X A env x v fr σ Q E) : WAs X A env (.Name x p) it v fr σ Q E := by
  intro a ha
  refine .bind (.pure ?_)
  rw [arm_assign_Name]
  refine .bind (.standAt ?_)
  exact fun σf s R => wpAny_bindName (h a ha σf s R)
end
end SL

end
section
open PySem PySem.W PyProof.Rows PySem.Calls
namespace SL

section
variable {X : Cx} {A : Around} {L : Addr} {fr : Fm} {σ σf : St} {E : Value → Shared → Prop} {fs : List Env} {s : Shared}

theorem RelF.aside {a : Addr} {o : AO} (R : RelF X fs L σf fr (σ.set a o) s) (ha : σ a = none) :
    RelF X fs L (σf.set a o) fr σ s ∧ ∀ {fr' : Fm} {σ' : St} {s' : Shared}, RelF X fs L (σf.set a o) fr' σ' s' → RelF X fs L σf fr' (σ'.set a o) s' ∧ σ' a = none := by
  have eu : ∀ {τ : St}, τ a = none → τ.un (σf.set a o) = (τ.set a o).un σf := fun h => (St.un_set h).trans (St.set_un ..).symm
  refine ⟨⟨Disj.setR.mpr ⟨ha, R.disj.less (St.le_set ha)⟩, eu ha ▸ R.free, eu ha ▸ R.rel⟩, fun {fr' σ' s'} R' => ?_⟩
  have h := Disj.setR.mp R'.disj
  exact ⟨⟨h.2.set (R.disj a o (St.set_self ..)), eu h.1 ▸ R'.free, eu h.1 ▸ R'.rel⟩, h.1⟩
theorem W.frame {α : Type} {t : Sem α} {a : Addr} {o : AO} {Q : α → Fm → St → Prop} (ha : σ a = none) (h : W X A L t fr σ (fun r fr' σ' => σ' a = none → Q r fr' (σ'.set a o)) E) : W X A L t fr (σ.set a o) Q E := fun σf s R => W.go h (R.aside ha).1 fun r s' fr' σ' R' q => ⟨fr', _, ((R.aside ha).2 R').1, q ((R.aside ha).2 R').2⟩

theorem W.keepLess {α : Type} {t : Sem α} {Q : α → Fm → St → Prop} (h : W X A L t fr σ (fun r fr' σ' => ∃ σ'', St.le σ'' σ' ∧ Q r fr' σ'') E) : W X A L t fr σ Q E :=
  fun σf s R => W.go h R (fun r s' fr' σ' R' ⟨σ'', hl, q⟩ => ⟨fr', σ'', R'.less hl, q⟩)
theorem RelF.it {a : Addr} {T : String} {vs : List Value} (R : RelF X fs L σf fr σ s) (h : σ a = some (.it T vs)) : ∃ o, s.heap.get? a = some o ∧ o.cls = .type T ∧ o.data = .fields vs.toArray := by
  obtain ⟨ob, h1, h2, h3⟩ := R.get h
  exact ⟨ob, h1, h2, h3⟩
theorem RelF.updIt {h' : Heap} {a : Addr} {T T' : String} {vs vs' : List Value} (R : RelF X fs L σf fr σ s) (h : σ a = some (.it T vs)) (hs : Heap.SameBut a s.heap h') {o : Obj} (ho : h'.get? a = some o) (hc : o.cls = .type T') (hd : o.data = .fields vs'.toArray) :
    RelF X fs L σf fr (σ.set a (.it T' vs')) { s with heap := h' } := by
  obtain ⟨ob, h1, h2, h3⟩ := R.it h
  exact R.updF h hs h1 ho ⟨hc, hd⟩ fun q => absurd h3 (q _)
theorem RelF.pushIt {T : String} {vs : List Value} (R : RelF X fs L σf fr σ s) : RelF X fs L σf fr (σ.set s.heap.objs.size (.it T vs)) { s with heap := s.heap.push { cls := .type T, data := .fields vs.toArray } } :=
  R.push (o := .it T vs) ⟨rfl, rfl⟩ rfl
theorem RelF.extF {h' : Heap} {a : Addr} {o₀ : AO} (R : RelF X fs L σf fr σ s) (h : σ a = some o₀) (hf : ∀ ob, OR X o₀ ob → ∃ vs, ob.data = .fields vs) (hs : Heap.ExtBut a s.heap h') : RelF X fs L σf fr (σ.del a) { s with heap := h' } := by
  obtain ⟨ob, h1, h2⟩ := R.get h
  obtain ⟨vs, h3⟩ := hf ob h2
  have hlo := (R.rel.own a _ (R.at_ h)).1
  have hne := R.ne h
  have un : ∀ {b o}, ((σ.del a).un σf) b = some o → b ≠ a ∧ (σ.un σf) b = some o := fun {b o} e => by
    have ha : b ≠ a := fun q => by subst q; rw [St.un_none (St.del_self ..), R.disj _ _ h] at e; cases e
    unfold St.un at e ⊢; rw [St.del_ne ha] at e; exact ⟨ha, e⟩
  have unL : ∀ {b o}, (((σ.del a).un σf).set L (.ns fr)) b = some o → b ≠ a ∧ ((σ.un σf).set L (.ns fr)) b = some o := fun {b o} e => by
    by_cases q : b = L
    · subst q; rw [St.set_self] at e ⊢; exact ⟨Ne.symm hne, e⟩
    · rw [St.set_ne _ q] at e ⊢; exact un e
  obtain ⟨⟨_, hL⟩, oL, gL, _⟩ := R.rel.own L _ (St.set_self ..)
  refine ⟨R.disj.less fun b o e => ?_, St.no_of fun o e => Option.some_ne_none o ((un e).2.symm.trans R.free), ⟨fun b o e => hs b o (fun q => ?_) (R.rel.keep b o e), fun b o e => ?_, ?_, ?_, R.rel.gens, R.rel.os, fun env he L' hL' o e => R.rel.nss env he L' hL' o (unL e).2⟩⟩
  · by_cases q : b = a
    · subst q; rw [St.del_self] at e; cases e
    · rwa [St.del_ne q] at e
  · subst q; rw [hlo.1] at e; cases e
  · obtain ⟨g1, ob', g2, g3⟩ := R.rel.own b o (unL e).2
    exact ⟨g1, ob', hs b ob' (unL e).1 g2, g3⟩
  · exact Nat.le_trans (hL.resolve_right (fun h => nomatch h)) (Nat.le_of_lt (Heap.lt_size (hs L oL (Ne.symm hne) gL)))
  · refine FF_keep (fun L' o k4 k5 => ⟨o, hs L' o (fun q => ?_) k4, k5⟩) R.rel.frames
    subst q; rw [h1] at k4; cases k4; exact k5 _ h3
theorem RelF.ext {h' : Heap} {a : Addr} {T : String} {vs : List Value} (R : RelF X fs L σf fr σ s) (h : σ a = some (.it T vs)) (hs : Heap.ExtBut a s.heap h') : RelF X fs L σf fr (σ.del a) { s with heap := h' } := R.extF h (fun ob hob => ⟨_, hob.2⟩) hs
end

section
variable {X : Cx} {A : Around} {env : Env} {fr : Fm} {σ : St} {E : Value → Shared → Prop}

structure Src (X : Cx) (A : Around) (it : Addr) (o : Nat → AO) (xs : List PV) (P : St → Prop) : Prop where
  again : ∀ L fr σ (Q : Value → Fm → St → Prop), σ it = none → P σ → Q (.ref it) fr (σ.set it (o 0)) → W X A L (pyIter (.ref it)) fr (σ.set it (o 0)) Q NoE
  item : ∀ L i x fr σ (Q : Option Value → Fm → St → Prop), xs[i]? = some x → σ it = none → P σ → (∀ v, abs v = x → Q (some v) fr (σ.set it (o (i + 1)))) → W X A L (pyNext (.ref it)) fr (σ.set it (o i)) Q NoE
  stop : ∀ L fr σ (Q : Option Value → Fm → St → Prop), σ it = none → P σ → Q none fr σ → W X A L (pyNext (.ref it)) fr (σ.set it (o xs.length)) Q NoE

noncomputable def LetOk (X : Cx) (A : Around) (target : Expr) (it : Addr) (o : Nat → AO) : Prop :=
  ∀ (i : Nat) (v : Value) (L : Addr) (fr : Fm) (σ : St) (Q : Unit → Fm → St → Prop), σ it = none → Q () fr (σ.set it (o i)) → W X A L (letOwnedTupleGo target (.ref it) v) fr (σ.set it (o i)) Q NoE
theorem LetOk.of {target : Expr} {it : Addr} {o : Nat → AO} (h : ∀ v, letOwnedTupleGo target (.ref it) v = Pure.pure ()) : LetOk X A target it o := fun i v L fr σ Q _ hq => by rw [h]; exact .pure hq
theorem LetOk.name {x : Str} {p : Pos} {it : Addr} {o : Nat → AO} : LetOk X A (.Name x p) it o := .of fun _ => rfl
theorem letOwned_it {target : Expr} {it : Addr} {v : Value} {ob : Obj} {T : String} {M : Model} {s : Shared} {Q : Unit → Shared → Prop} (hT : ["enumerate", "zip", "dict_itemiterator", "dict_reverseitemiterator", "odict_iterator", "itertools.zip_longest", "itertools.pairwise"].contains T = false)
    (ho : s.heap.get? it = some ob) (hc : ob.cls = .type T) (h : Q () s) : wpAny M A (letOwnedTupleGo target (.ref it) v) Q E s := by
  have main : ∀ a, wpAny M A (do
        let o ← load it
        match o.cls, o.data with
        | .type n, .fields vs =>
          if (["enumerate", "zip", "dict_itemiterator", "dict_reverseitemiterator", "odict_iterator", "itertools.zip_longest", "itertools.pairwise"].contains n && vs[0]? == some (rawInt a)) = true then
            (do PySem.rule "for.unpacks-the-owned-tuple"; updateField it 0 .none)
        | _, _ => pure ()) Q E s := fun a => by
    refine wpAny_bind (wpAny_load ho ?_)
    rw [hc]
    cases ob.data with
    | fields vs => simp only [hT, Bool.false_and, Bool.false_eq_true, if_false]; exact wpAny_pure h
    | _ => exact wpAny_pure h
  unfold letOwnedTupleGo
  cases target <;> first | exact wpAny_pure h | (cases v <;> first | exact main _ | exact wpAny_pure h)
theorem LetOk.it {target : Expr} {it : Addr} {o : Nat → AO} {T : String} (hT : ["enumerate", "zip", "dict_itemiterator", "dict_reverseitemiterator", "odict_iterator", "itertools.zip_longest", "itertools.pairwise"].contains T = false)
    (ho : ∀ i, ∃ vs, o i = .it T vs) : LetOk X A target it o := fun i v L fr σ Q hit hq σf s R => by
  obtain ⟨vs, e⟩ := ho i
  rw [e] at R hq
  obtain ⟨ob, h1, h2, _⟩ := R.it (St.set_self ..)
  exact letOwned_it hT h1 h2 ⟨fr, _, R, hq⟩

noncomputable def WAsg (X : Cx) (A : Around) (env : Env) (target : Expr) (x : PV) (fr : Fm) (σ : St) (Q : Fm → St → Prop) (E : Value → Shared → Prop) : Prop := ∀ v, abs v = x → W X A env.locals (assign target env v) fr σ (fun _ => Q) E
theorem WAsg.name {x : Str} {p : Pos} {v : PV} {Q : Fm → St → Prop} (h : WN X A env x v fr σ Q E) : WAsg X A env (.Name x p) v fr σ Q E := by
  intro a ha
  rw [arm_assign_Name]
  refine .bind (.standAt ?_)
  exact fun σf s R => wpAny_bindName (h a ha σf s R)
noncomputable abbrev BodyEnd (J : Fm → St → Prop) (Q : PF → Fm → St → Prop) (f : PF) (fr : Fm) (σ : St) : Prop := match f with
  | .next => Weak J fr σ | .cont => Weak J fr σ | .brk => Q .next fr σ | .ret v => Q (.ret v) fr σ

inductive ForInv (it : Addr) (o : Nat → AO) (len : Nat) (J : Nat → Fm → St → Prop) (n : Nat) (fr : Fm) : St → Prop
  | mk (i : Nat) (σ : St) (hi : i + n = len) (hit : σ it = none) (hJ : J i fr σ) : ForInv it o len J n fr (σ.set it (o i))
theorem ForInv.next {it : Addr} {o : Nat → AO} {len : Nat} {J : Nat → Fm → St → Prop} {n i : Nat} {fr : Fm} {σ : St} (hi : i + n = len) (hit : σ it = none) (h : Weak (J i) fr σ) : Lss (ForInv it o len J) (n + 1) fr (σ.set it (o i)) :=
  ⟨n, Nat.lt_succ_self n, h.casesOn fun fr' σ' h1 h2 h3 => ⟨fr', σ'.set it (o i), h1, St.le_sets h2, .mk i σ' hi (h2.no hit) h3⟩⟩
theorem W.forSrc {it : Addr} {o : Nat → AO} {xs : List PV} {P : St → Prop} {target : Expr} {body orelse : List Stmt} {Q : PF → Fm → St → Prop} (hh : A.handled = none) (S : Src X A it o xs P) (J : Nat → Fm → St → Prop)
    (hlet : LetOk X A target it o)
    (hP : ∀ i fr σ, J i fr σ → P σ) (h0 : J 0 fr σ) (hit : σ it = none)
    (turn : ∀ i x fr σ, xs[i]? = some x → J i fr σ → WAsg X A env target x fr σ (fun fr₂ σ₂ => WB X A env body fr₂ σ₂ (BodyEnd (J (i + 1)) Q) NoE) NoE)
    (done : ∀ fr σ, J xs.length fr σ → WB X A env orelse fr σ Q NoE) :
    W X A env.locals (runOwn (.forLoop target (.ref it) body orelse env) env) fr (σ.set it (o 0)) (fun f => Q (absF f)) E := by
  refine W.keepLess (W.forLoop (Q := fun f fr' σ' => ∃ σ'', St.le σ'' σ' ∧ Q f fr' σ'') hh (ForInv it o xs.length J) (fun n fr' σ' hI => ?_) xs.length (.mk 0 σ (Nat.zero_add _) hit h0))
  cases hI with | mk i σ₁ hi hit₁ hJ =>
  cases n with
  | zero =>
    obtain rfl : i = xs.length := hi
    exact S.stop _ _ _ _ hit₁ (hP _ _ _ hJ) (.mono (done _ _ hJ) fun f fr₂ σ₃ q => ⟨σ₃, St.le_refl _, q⟩)
  | succ n =>
    refine S.item _ i _ _ _ _ (List.getElem?_eq_getElem (by lia)) hit₁ (hP _ _ _ hJ) fun v hv => ?_
    refine .bind (hlet _ _ _ _ _ _ hit₁ ?_)
    refine W.frame hit₁ (.mono (turn i _ _ σ₁ (List.getElem?_eq_getElem (by lia)) hJ v hv) fun _ fr₂ σ₂ h2 h1 => ?_)
    refine W.frame h1 (.mono h2 fun f fr₃ σ₃ g2 g1 => ?_)
    cases f with
    | next => exact ForInv.next (by lia) g1 g2
    | cont => exact ForInv.next (by lia) g1 g2
    | brk => exact ⟨σ₃, St.le_set g1, g2⟩
    | ret v => exact ⟨σ₃, St.le_set g1, g2⟩

section
theorem src_list {it l : Addr} {xs : List PV} (hh : A.handled = none) : Src X A it (fun i => .it "list_iterator" [.ref l, .int i 0]) xs (fun σ => σ l = some (.list xs)) where
  again := fun L fr σ Q hit hl hq σf s R => by
    obtain ⟨oi, g1, g2, g3⟩ := R.it (St.set_self ..)
    exact wpAny_pyIter_listiter ⟨oi, g1, g2, g3⟩ ⟨fr, _, R, hq⟩
  item := fun L i x fr σ Q hx hit hl hq σf s R => by
    have hne : l ≠ it := fun e => by rw [e, hit] at hl; cases hl
    have hl' : (σ.set it (.it "list_iterator" [.ref l, .int i 0])) l = some (.list xs) := by rw [St.set_ne _ hne]; exact hl
    obtain ⟨vs, n, ho, hu, hs⟩ := R.list hl'
    obtain ⟨v, hv, hva⟩ := get_of_map hu hx
    obtain ⟨oi, g1, g2, g3⟩ := R.it (St.set_self ..)
    refine wpAny_pyNext_list_item ⟨oi, g1, g2, g3⟩ (isList_of ho) hv fun h' hi hsb => ?_
    obtain ⟨o', k1, k2, k3⟩ := hi
    refine ⟨fr, _, R.updIt (St.set_self ..) hsb k1 k2 (vs' := [.ref l, .int (i + 1 : Nat) 0]) k3, by rw [St.set_set]; exact hq v hva⟩
  stop := fun L fr σ Q hit hl hq σf s R => by
    have hne : l ≠ it := fun e => by rw [e, hit] at hl; cases hl
    have hl' : (σ.set it (.it "list_iterator" [.ref l, .int xs.length 0])) l = some (.list xs) := by rw [St.set_ne _ hne]; exact hl
    obtain ⟨vs, n, ho, hu, hs⟩ := R.list hl'
    obtain ⟨oi, g1, g2, g3⟩ := R.it (St.set_self ..)
    refine wpAny_pyNext_list_end hh ⟨oi, g1, g2, g3⟩ (isList_of ho) (by simp [hs]) fun h' hx => ?_
    exact ⟨fr, _, R.ext (St.set_self ..) hx, by rw [St.set_del hit]; exact hq⟩

structure SrcOf (X : Cx) (A : Around) (x : PV) (xs : List PV) (P : St → Prop) (o : Nat → Addr → AO) : Prop where
  mono : ∀ σ τ : St, σ.le τ → P σ → P τ
  start : ∀ L fr σ, P σ → ∀ (Q : Value → Fm → St → Prop) E, (∀ it, σ it = none → it ≠ L → Q (.ref it) fr (σ.set it (o 0 it))) → WIter X A L x fr σ Q E
  src : ∀ it, Src X A it (fun i => o i it) xs P
theorem srcOf_list {l : Addr} {xs : List PV} (hh : A.handled = none) : SrcOf X A (.ref l) xs (fun σ => σ l = some (.list xs)) (fun i _ => .it "list_iterator" [.ref l, .int i 0]) where
  mono := fun σ τ h hl => h _ _ hl
  start := fun L fr σ hl Q E h v hv σf s R => by
    obtain rfl := abs_ref hv
    obtain ⟨vs, n, ho, hu, hs⟩ := R.list hl
    exact wpAny_pyIter_list (isList_of ho) ⟨fr, _, R.pushIt (T := "list_iterator") (vs := [.ref l, .int 0 0]), h _ R.fresh (Nat.ne_of_gt R.ltL)⟩
  src := fun it => src_list hh
end

theorem WIter.for {x : PV} {xs : List PV} {P : St → Prop} {o : Nat → Addr → AO} {target : Expr} {body orelse : List Stmt} {Q : PF → Fm → St → Prop} (hh : A.handled = none) (S : SrcOf X A x xs P o) (J : Nat → Fm → St → Prop)
    (hlet : ∀ it, LetOk X A target it (fun i => o i it))
    (hP : ∀ i fr σ, J i fr σ → P σ) (h0 : J 0 fr σ)
    (turn : ∀ i x fr σ, xs[i]? = some x → J i fr σ → WAsg X A env target x fr σ (fun fr₂ σ₂ => WB X A env body fr₂ σ₂ (BodyEnd (J (i + 1)) Q) NoE) NoE)
    (done : ∀ fr σ, J xs.length fr σ → WB X A env orelse fr σ Q NoE) :
    WIter X A env.locals x fr σ (fun it fr₂ σ₂ => WFor X A env target it body orelse fr₂ σ₂ Q E) E :=
  S.start _ fr σ (hP _ _ _ h0) _ _ fun it hit _ => W.forSrc hh (S.src it) J (hlet it) hP h0 hit turn done
end
end SL

end
section
open PySem PySem.W PyProof.Rows PySem.Calls
namespace SL

theorem compTurn_eq {elt target iter : Expr} {ifs : List Expr} {gens : List Comprehension} {d : Nat} {scope : Scope} {pos : Pos} {it acc : Value} {env : Env} (hg : gens[d]? = some ⟨target, iter, ifs, 0⟩) :
    compTurn (.ListComp elt gens scope pos) d it acc env = (do
      standAt iter.pos
      match ← pyNext it with
      | none => pure (.done .next)
      | some v =>
        letOwnedTupleGo target it v
        assign target env v
        let mut ok := true
        for c in ifs do
          if ok then ok ← isTrue c env (eval c env)
        if ok then
          match gens[d + 1]? with
          | some g' =>
            let x ← eval g'.iter env
            standAt g'.iter.pos
            let x ← if g'.is_async != 0 then foldedIterable g'.iter x else foldedSetIterable g'.iter env x
            let _ ← runOwn (.compStart (.ListComp elt gens scope pos) (d + 1) (← holding [x] (if g'.is_async != 0 then asyncIter x else pyIter x)) acc env) env
          | none => (do let _ ← call (.builtin "list.append") [acc, ← eval elt env])
        again (.compLoop (.ListComp elt gens scope pos) d it acc env)) := by
  unfold compTurn
  simp only [hg]
  rfl

section
variable {X : Cx} {A : Around} {env : Env} {E : Value → Shared → Prop}

noncomputable def WK (X : Cx) (A : Around) (L : Addr) (c : Code) (fr : Fm) (σ : St) (Q : Fm → St → Prop) (E : Value → Shared → Prop) : Prop :=
  ∀ σf s, RelF X (fsOf A) L σf fr σ s → codeAny X.M A c (fun r s' => match r with | .ok _ => Po X (fsOf A) L σf Q s' | .error e => E e s') s
theorem mark_none (hh : A.handled = none) : A.mark none = A := by
  unfold Around.mark; rw [hh]; obtain ⟨h, d, f, g, u⟩ := A; simp at hh; subst hh; rfl
theorem W.run {L : Addr} {c : Code} {fr : Fm} {σ : St} {Q : Fm → St → Prop} (hh : A.handled = none) (h : WK X A L c fr σ Q NoE) : W X A L (PySem.run c) fr σ (fun _ => Q) E := fun σf s R => by
  refine wpAny_run ?_
  rw [mark_none hh]
  exact codeAny_mono (h σf s R) fun r s' x => by cases r with | ok f => exact x | error e => exact x.elim
theorem W.runOwn {L : Addr} {c : Code} {fr : Fm} {σ : St} {Q : Fm → St → Prop} (hh : A.handled = none) (h : WK X A L c fr σ Q NoE) : W X A L (PySem.runOwn c env) fr σ (fun _ => Q) E := fun σf s R => by
  refine wpAny_runOwn ?_
  rw [mark_none hh]
  exact codeAny_mono (h σf s R) fun r s' x => by cases r with | ok f => exact x | error e => exact x.elim

noncomputable def WIfs (X : Cx) (A : Around) (env : Env) (ifs : List Expr) (fr : Fm) (σ : St) (Q : Bool → Fm → St → Prop) (E : Value → Shared → Prop) : Prop :=
  W X A env.locals (forIn ifs true fun c r => if r = true then do let ok ← isTrue c env (eval c env); pure (ForInStep.yield ok) else pure (ForInStep.yield r)) fr σ Q E
theorem WIfs.nil {fr : Fm} {σ : St} {Q : Bool → Fm → St → Prop} (h : Q true fr σ) : WIfs X A env [] fr σ Q E := W.pure h
theorem WIfs.one {c : Expr} {fr : Fm} {σ : St} {Q : Bool → Fm → St → Prop} (h : WT X A env c fr σ Q E) : WIfs X A env [c] fr σ Q E := by
  unfold WIfs
  simp only [List.forIn_cons, List.forIn_nil, if_true]
  exact .bind (.bind (.mono h fun b fr' σ' hb => .pure (.pure hb)))
noncomputable def WEmit (X : Cx) (A : Around) (env : Env) (elt : Expr) (gens : List Comprehension) (scope : Scope) (pos : Pos) (d : Nat) (acc : Addr) (fr : Fm) (σ : St) (Q : Fm → St → Prop) (E : Value → Shared → Prop) : Prop :=
  match gens[d + 1]? with
  | some g => (g.is_async = 0 ∧ ∀ x, foldedSetIterable g.iter env x = pure x) ∧ WE X A env g.iter fr σ (fun x fr₁ σ₁ => WIter X A env.locals x fr₁ σ₁ (fun it fr₂ σ₂ => WK X A env.locals (.compStart (.ListComp elt gens scope pos) (d + 1) it (.ref acc) env) fr₂ σ₂ Q NoE) E) E
  | none => WE X A env elt fr σ (fun y fr₁ σ₁ => WC X A env.locals (.builtin "list.append") [.ref acc, y] fr₁ σ₁ (fun _ => Q) E) E

theorem WK.loop {elt target iter : Expr} {ifs : List Expr} {gens : List Comprehension} {d : Nat} {scope : Scope} {pos : Pos} {it : Value} {acc : Addr} {Q : Fm → St → Prop} (hh : A.handled = none) (hg : gens[d]? = some ⟨target, iter, ifs, 0⟩) (I : Nat → Fm → St → Prop)
    (turn : ∀ n fr σ, I n fr σ → W X A env.locals (pyNext it) fr σ (fun r fr₁ σ₁ => match r with
      | none => Q fr₁ σ₁
      | some v => W X A env.locals (letOwnedTupleGo target it v >>= fun _ => assign target env v) fr₁ σ₁ (fun _ fr₂ σ₂ => WIfs X A env ifs fr₂ σ₂ (fun ok fr₃ σ₃ =>
          if ok = true then WEmit X A env elt gens scope pos d acc fr₃ σ₃ (Lss I n) NoE else Lss I n fr₃ σ₃) NoE) NoE) NoE) :
    ∀ n fr σ, I n fr σ → WK X A env.locals (.compLoop (.ListComp elt gens scope pos) d it (.ref acc) env) fr σ Q NoE := by
  intro n
  induction n using Nat.strongRecOn with
  | ind n ih =>
    intro fr σ hI σf s RF
    refine codeAny_of_tree ?_
    rw [Around.under_of_weight (A := A) (c := .compLoop (.ListComp elt gens scope pos) d it (.ref acc) env) (by rfl) (by rfl)]
    show wpAny X.M A ((compTurn (.ListComp elt gens scope pos) d it (.ref acc) env).onRaise _) _ _ s
    refine wpAny_onRaise ?_
    refine wpAny_mono (E := NoE) ?_ (fun _ _ x => x) fun _ _ x => x.elim
    rw [compTurn_eq hg]
    refine wpAny_bind (wpAny_standAt ?_)
    refine wpAny_bind (W.go (turn n fr σ hI) RF (fun r s₁ fr₁ σ₁ R₁ h₁ => ?_))
    cases r with
    | none => exact wpAny_pure ⟨fr₁, σ₁, R₁, h₁⟩
    | some v =>
      have h₂ := h₁ σf s₁ R₁
      show wpAny X.M A (letOwnedTupleGo target it v >>= fun _ => assign target env v >>= fun _ => _) _ _ s₁
      rw [← bind_assoc]
      refine wpAny_bind (wpAny_mono h₂ (fun _ s₂ ⟨fr₂, σ₂, R₂, h₃⟩ => ?_) fun _ _ x => x)
      refine wpAny_bind (W.go h₃ R₂ (fun ok s₃ fr₃ σ₃ R₃ h₄ => ?_))
      have fin : ∀ fr₄ σ₄ s₄, RelF X (fsOf A) env.locals σf fr₄ σ₄ s₄ → Lss I n fr₄ σ₄ → wpAny X.M A (again (.compLoop (.ListComp elt gens scope pos) d it (.ref acc) env)) (fun fin s' => match fin with
          | .done f => Po X (fsOf A) env.locals σf Q s'
          | .again c' => c'.quiet = true ∧ codeAny X.M A c' (fun r s' => match r with | .ok _ => Po X (fsOf A) env.locals σf Q s' | .error e => NoE e s') s') NoE s₄ :=
        fun fr₄ σ₄ s₄ R₄ ⟨m, hm, hI'⟩ => by obtain ⟨_, _, R₅, hI'⟩ := R₄.weak hI'; exact wpAny_pure ⟨rfl, ih m hm _ _ hI' σf s₄ R₅⟩
      cases ok with
      | false =>
        simp only [Bool.false_eq_true, if_false] at h₄ ⊢
        exact fin _ _ _ R₃ h₄
      | true =>
        simp only [if_true] at h₄ ⊢
        unfold WEmit at h₄
        cases hg' : gens[d + 1]? with
        | none =>
          rw [hg'] at h₄
          dsimp only at h₄ ⊢
          refine wpAny_bind (wpAny_bind (W.go h₄ R₃ (fun y s₄ fr₄ σ₄ R₄ h₅ => ?_)))
          refine wpAny_bind (W.go (h₅ _ [.ref acc, y] rfl rfl) R₄ (fun _ s₅ fr₅ σ₅ R₅ h₆ => ?_))
          exact wpAny_pure (fin _ _ _ R₅ h₆)
        | some g =>
          rw [hg'] at h₄
          dsimp only at h₄ ⊢
          obtain ⟨⟨ha, hs⟩, h₄⟩ := h₄
          refine wpAny_bind (W.go h₄ R₃ (fun x s₄ fr₄ σ₄ R₄ h₅ => ?_))
          refine wpAny_bind (wpAny_standAt ?_)
          simp only [ha, hs, bne_self_eq_false, Bool.false_eq_true, if_false]
          refine wpAny_bind (wpAny_pure ?_)
          refine wpAny_bind (wpAny_holding (W.go (h₅ x rfl) R₄ (fun it' s₅ fr₅ σ₅ R₅ h₆ => ?_)))
          refine wpAny_bind (W.go (W.runOwn (env := env) (E := NoE) hh h₆) R₅ (fun _ s₆ fr₆ σ₆ R₆ h₇ => ?_))
          exact fin _ _ _ R₆ h₇

theorem WK.frame {L : Addr} {c : Code} {fr : Fm} {σ : St} {Q Q' : Fm → St → Prop} {a : Addr} {o : AO} (ha : σ a = none) (h : WK X A L c fr σ Q E) (k : ∀ fr' σ', σ' a = none → Q fr' σ' → Q' fr' (σ'.set a o)) : WK X A L c fr (σ.set a o) Q' E := fun σf s R =>
  codeAny_mono (h (σf.set a o) s (R.aside ha).1) fun r s' x => by
    cases r with
    | error e => exact x
    | ok f => exact x.casesOn fun fr' σ' R' q => ⟨fr', _, ((R.aside ha).2 R').1, k _ _ ((R.aside ha).2 R').2 q⟩
theorem WEmit.frame {elt : Expr} {gens : List Comprehension} {scope : Scope} {pos : Pos} {d : Nat} {acc : Addr} {fr : Fm} {σ : St} {Q Q' : Fm → St → Prop} {a : Addr} {o : AO} (ha : σ a = none) (h : WEmit X A env elt gens scope pos d acc fr σ Q NoE)
    (hq : ∀ fr' σ', σ' a = none → Q fr' σ' → Q' fr' (σ'.set a o)) : WEmit X A env elt gens scope pos d acc fr (σ.set a o) Q' NoE := by
  unfold WEmit at h ⊢
  revert h
  cases gens[d + 1]? with
  | none => exact fun h => W.frame ha (.mono h fun y fr₁ σ₂ h3 h1 fv vs e1 e2 => W.frame h1 (.mono (h3 fv vs e1 e2) fun _ _ _ g k => hq _ _ k g))
  | some g => exact fun h => ⟨h.1, W.frame ha (.mono h.2 fun y fr₁ σ₂ h3 h1 v e1 => W.frame h1 (.mono (h3 v e1) fun it fr₃ σ₄ g3 g1 => WK.frame g1 g3 hq))⟩
inductive Left (acc : Addr) (Q : Fm → List PV → St → Prop) (fr : Fm) : St → Prop
  | mk (ys : List PV) (σ : St) (hacc : σ acc = none) (h : Q fr ys σ) : Left acc Q fr (σ.set acc (.list ys))
inductive SrcInv (it acc : Addr) (o : Nat → AO) (len : Nat) (J : Nat → List PV → Fm → St → Prop) (n : Nat) (fr : Fm) : St → Prop
  | mk (i : Nat) (ys : List PV) (σ : St) (hi : i + n = len) (hit : σ it = none) (hacc : σ acc = none) (hJ : J i ys fr σ) : SrcInv it acc o len J n fr ((σ.set acc (.list ys)).set it (o i))
theorem SrcInv.next {it acc : Addr} {o : Nat → AO} {len : Nat} {J : Nat → List PV → Fm → St → Prop} {n i : Nat} {fr : Fm} {ys : List PV} {σ : St} (hi : i + n = len) (hit : σ it = none) (hacc : σ acc = none) (h : Weak (J i ys) fr σ) :
    Lss (SrcInv it acc o len J) (n + 1) fr ((σ.set acc (.list ys)).set it (o i)) :=
  ⟨n, Nat.lt_succ_self n, h.casesOn fun fr' σ' h1 h2 h3 => ⟨fr', _, h1, St.le_sets (St.le_sets h2), .mk i ys σ' hi (h2.no hit) (h2.no hacc) h3⟩⟩
theorem WK.src {elt target iter : Expr} {ifs : List Expr} {gens : List Comprehension} {d : Nat} {scope : Scope} {pos : Pos} {it acc : Addr} {o : Nat → AO} {xs : List PV} {P : St → Prop} {Q : Fm → List PV → St → Prop} {fr : Fm} {σ : St} {ys : List PV}
    (hh : A.handled = none) (hg : gens[d]? = some ⟨target, iter, ifs, 0⟩) (S : Src X A it o xs P) (J : Nat → List PV → Fm → St → Prop) (hlet : LetOk X A target it o)
    (hP : ∀ i ys fr σ, J i ys fr σ → P σ) (h0 : J 0 ys fr σ) (hit : σ it = none) (hacc : σ acc = none) (hne : it ≠ acc)
    (turn : ∀ i x ys fr σ, xs[i]? = some x → J i ys fr σ → σ acc = none → WAsg X A env target x fr σ (fun fr₂ σ₂ => WIfs X A env ifs fr₂ σ₂ (fun ok fr₃ σ₃ =>
      if ok = true then (σ₃ acc = none → WEmit X A env elt gens scope pos d acc fr₃ (σ₃.set acc (.list ys)) (Left acc fun fr₄ ys' σ₅ => Weak (J (i + 1) ys') fr₄ σ₅) NoE) else Weak (J (i + 1) ys) fr₃ σ₃) NoE) NoE)
    (done : ∀ ys fr σ, J xs.length ys fr σ → Q fr ys σ) :
    WK X A env.locals (.compLoop (.ListComp elt gens scope pos) d (.ref it) (.ref acc) env) fr ((σ.set acc (.list ys)).set it (o 0)) (Left acc Q) NoE := by
  refine WK.loop hh hg (SrcInv it acc o xs.length J) (fun n fr' σ' hI => ?_) xs.length fr _ (.mk 0 ys σ (Nat.zero_add _) hit hacc h0)
  cases hI with | mk i ys₁ σ₁ hi hit₁ hacc₁ hJ =>
  have Pm : P σ₁ := hP _ _ _ _ hJ
  -- the source sees the heap without the list that is built
  rw [St.set_comm σ₁ _ _ (Ne.symm hne)]
  have haccI : ∀ {x : AO}, (σ₁.set it x) acc = none := St.set_none.mpr ⟨Ne.symm hne, hacc₁⟩
  cases n with
  | zero =>
    obtain rfl : i = xs.length := hi
    exact W.frame haccI (S.stop _ _ _ _ hit₁ Pm fun h1 => .mk ys₁ _ h1 (done _ _ _ hJ))
  | succ n =>
    refine W.frame haccI (S.item _ i _ _ _ _ (List.getElem?_eq_getElem (by lia)) hit₁ Pm fun v hv _ => ?_)
    refine .bind (W.frame haccI (hlet _ _ _ _ _ _ hit₁ fun _ => ?_))
    refine W.frame haccI (W.frame hit₁ (.mono (turn i _ ys₁ _ σ₁ (List.getElem?_eq_getElem (by lia)) hJ hacc₁ v hv) fun _ fr₂ σ₂ g k1 k2 => ?_))
    refine W.frame k2 (W.frame k1 (.mono g fun ok fr₃ σ₃ g k3 k4 => ?_))
    have k5 := (St.set_none.mp k4).2
    rw [St.set_comm _ _ _ hne]
    cases ok with
    | false => exact SrcInv.next (by lia) k3 k5 g
    | true =>
      refine WEmit.frame (St.set_none.mpr ⟨hne, k3⟩) (g k5) fun fr₄ τ k6 h => ?_
      cases h with | mk ys' σ₅ m1 m3 => exact SrcInv.next (by lia) (St.set_none.mp k6).2 m1 m3
end
end SL

end
section
open PySem PySem.W PyProof.Rows PySem.Calls
namespace SL

theorem cellsFrom_acc : ∀ (names : List (Str × NameKind)) (n : Nat) (acc : List (Str × Addr)), cellsFrom n names acc = cellsFrom n names [] ++ acc
  | [], _, _ => rfl
  | (x, k) :: r, n, acc => by
    unfold cellsFrom
    split
    · rw [cellsFrom_acc r (n + 1) ((x, n) :: acc), cellsFrom_acc r (n + 1) [(x, n)], List.append_assoc]; rfl
    · exact cellsFrom_acc r n acc

noncomputable def cEnv (scope : Scope) (env : Env) (L : Addr) (cl : List (Str × Addr)) : Env :=
  { scope := { scope with names := scope.names.map fun p => if (p.2 == .free && env.scope.kind == .function && env.kindOf p.1 == some .cell) = true then (p.1, .cell) else (p.1, p.2) }, locals := L, globals := env.globals,
    cells := cellsFrom (L + 1) scope.names [] ++ cl, qual := env.qual, func := none, code := env.code, frame := env.frame, builtins := env.builtins }

section
variable {X : Cx} {A : Around} {env : Env} {E : Value → Shared → Prop}

theorem newCompEnv {M : Model} {scope : Scope} {globals : Addr} {cl : List (Str × Addr)} {qual : Str} {s : Shared} {Q : Env → Shared → Prop}
    (h : Q (newEnv scope s.heap.objs.size globals (cellsFrom (s.heap.objs.size + 1) scope.names cl) qual none .none (some env) builtinsNs) { s with heap := pushCells (s.heap.push { cls := .type "dict", data := .dict #[] }) scope.names }) :
    wpAny M A (newFunctionEnv scope globals cl [] qual none .none (some env)) Q E s := by
  simp only [newFunctionEnv, Option.isSome_some, if_true]
  refine wpAny_bind (wpAny_alloc ?_)
  refine wpAny_bind (wpAny_layCells _ (fun name kind cells => ?_) scope.names cl _ _ ?_)
  · rfl
  · rw [show (s.heap.push { cls := Value.type "dict", dict := none, data := Data.dict #[], slots := #[] }).objs.size = s.heap.objs.size + 1 from Heap.size_push ..]
    exact wpAny_bind (wpAny_pure (wpAny_pure h))

theorem WK.compStart {elt : Expr} {gens : List Comprehension} {d : Nat} {scope : Scope} {pos : Pos} {it : Value} {acc : Addr} {fr : Fm} {σ : St} {Q : Fm → St → Prop} {g : Comprehension}
    (hg : gens[d]? = some g) (ha : g.is_async = 0) (hagain : ∀ Q : Value → Fm → St → Prop, Q it fr σ → W X A env.locals (pyIter it) fr σ Q NoE)
    (h : WK X A env.locals (.compLoop (.ListComp elt gens scope pos) d it (.ref acc) env) fr σ Q NoE) : WK X A env.locals (.compStart (.ListComp elt gens scope pos) d it (.ref acc) env) fr σ Q NoE := by
  intro σf s R
  refine codeAny_of_tree ?_
  rw [Around.under_of_weight (A := A) (c := .compStart (.ListComp elt gens scope pos) d it (.ref acc) env) (by rfl) (by rfl)]
  show wpAny X.M A ((PySem.compStart (.ListComp elt gens scope pos) d it (.ref acc) env).onRaise _) _ _ s
  refine wpAny_onRaise ?_
  refine wpAny_mono (E := NoE) ?_ (fun _ _ x => x) fun _ _ x => x.elim
  unfold PySem.compStart
  have hc : clausesOf (.ListComp elt gens scope pos) = gens := rfl
  simp only [hc, hg, Option.elim_some, ha, bne_self_eq_false, Bool.false_eq_true, if_false]
  have go : ∀ s', RelF X (fsOf A) env.locals σf fr σ s' → wpAny X.M A (again (.compLoop (.ListComp elt gens scope pos) d it (.ref acc) env)) (fun fin s' => match fin with
      | .done f => Po X (fsOf A) env.locals σf Q s'
      | .again c' => c'.quiet = true ∧ codeAny X.M A c' (fun r s' => match r with | .ok _ => Po X (fsOf A) env.locals σf Q s' | .error e => NoE e s') s') NoE s' :=
    fun s' R' => wpAny_pure ⟨rfl, h σf s' R'⟩
  refine wpAny_bind (wpAny_askSetting ?_)
  split
  · exact go s R
  · refine wpAny_bind (wpAny_rule ?_)
    refine wpAny_bind (wpAny_standAt ?_)
    refine wpAny_bind ?_
    exact W.go (hagain (fun r fr' σ' => r = it ∧ fr' = fr ∧ σ' = σ) ⟨rfl, rfl, rfl⟩) R (fun r s' fr' σ' R' ⟨e1, e2, e3⟩ => by subst e1 e2 e3; exact go s' R')



theorem letGo_any {M : Model} {cenv : Env} {cellsOf : List (Str × NameKind) → List Value} (hkind : cenv.scope.kind = .function) {Q : Unit → Shared → Prop} {vs : List (Str × NameKind)} {s : Shared} {m : Str → Option Value}
    (hl : ∀ x ∈ vs, x.2 = .local → cenv.kindOf x.1 = some .local) (hm : s.heap.Ns cenv.locals m)
    (h : ∀ h' m', h'.Ns cenv.locals m' → Heap.SameBut cenv.locals s.heap h' → Q () { s with heap := h' }) : wpAny M A (comprehension.letGo cenv cellsOf vs) Q E s := wpAny_comp_letGo hkind vs s m hl hm h

theorem RelF.swap {fs : List Env} {L L' : Addr} {fr fr' : Fm} {σ σf : St} {s : Shared} (hL : σf L = none) (hL' : σf L' = none) (R : RelF X fs L' (σf.set L (.ns fr)) fr' σ s) : RelF X fs L (σf.set L' (.ns fr')) fr σ s := by
  have h := Disj.setR.mp R.disj
  have hf := R.free
  rw [St.un_set h.1] at hf
  refine ⟨Disj.setR.mpr ⟨R.noL, h.2⟩, ?_, ?_⟩
  · rw [St.un_set R.noL]; exact St.set_none.mpr ⟨Ne.symm (St.set_none.mp hf).1, (St.un_none h.1).trans hL⟩
  · rw [St.un_set R.noL, St.set_comm _ _ _ (St.set_none.mp hf).1, ← St.un_set h.1]; exact R.rel
theorem RelF.letGo {fs : List Env} {L L' : Addr} {fr fr' : Fm} {σ σf : St} {s : Shared} {cenv : Env} {cellsOf : List (Str × NameKind) → List Value} {vs : List (Str × NameKind)} (hkind : cenv.scope.kind = .function) (hl : ∀ x ∈ vs, x.2 = .local → cenv.kindOf x.1 = some .local)
    (hloc : cenv.locals = L') (hL' : σf L' = none) (R : RelF X fs L (σf.set L' (.ns fr')) fr σ s) {M : Model} {Q : Unit → Shared → Prop} (h : ∀ s', RelF X fs L σf fr σ s' → Q () s') : wpAny M A (comprehension.letGo cenv cellsOf vs) Q E s := by
  subst hloc
  have hd := Disj.setR.mp R.disj
  have eu := St.un_set (σf := σf) (o := .ns fr') hd.1
  have hf := R.free
  rw [eu] at hf
  have hne := Ne.symm (St.set_none.mp hf).1
  have at' : ((σ.un (σf.set cenv.locals (.ns fr'))).set L (.ns fr)) cenv.locals = some (.ns fr') := by
    rw [St.set_ne _ hne, eu, St.set_self]
  obtain ⟨_, ob, g1, es, ep, g2, g3, g4⟩ := R.rel.own _ _ at'
  refine letGo_any hkind hl ⟨ob, es, ep, g1, g2, g3, fun _ => rfl⟩ fun h' m' hn hs => h _ ?_
  obtain ⟨ob', es', ep', k1, k2, k3, k4⟩ := hn
  refine ⟨hd.2, (St.set_none.mp hf).2, ?_⟩
  have := R.rel.upd (o := .ns []) at' hs g1 k1 ⟨es', ep', k2, k3, fun x v hx => nomatch hx⟩ (fun _ => by rw [k2]; intro vs e; cases e) (fun h => nomatch h) (fun _ => rfl)
  refine this.less fun a o e => ?_
  rw [eu, St.set_comm _ _ _ hne.symm, St.set_set]
  exact St.le_sets (St.le_set ((St.un_none hd.1).trans hL')) _ _ e

set_option tactic.hygienic true in
theorem RelF.compBlock {fs : List Env} {L : Addr} {fr : Fm} {σ σf : St} {s : Shared} {names : List (Str × NameKind)} (R : RelF X fs L σf fr σ s) :
    RelF X fs s.heap.objs.size (σf.set L (.ns fr)) [] (addCells σ (fun _ => none) (cellsFrom (s.heap.objs.size + 1) names [])) { s with heap := pushCells (s.heap.push { cls := .type "dict", data := .dict #[] }) names } := by
  have hne : s.heap.objs.size ≠ L := Nat.ne_of_gt R.ltL
  have hsz : (s.heap.push { cls := Value.type "dict", dict := none, data := Data.dict #[], slots := #[] }).objs.size = s.heap.objs.size + 1 := Heap.size_push ..
  have ok := cellsFrom_ok names (s.heap.push { cls := Value.type "dict", dict := none, data := Data.dict #[], slots := #[] }) (s.heap.objs.size + 1) [] ⟨fun n c h => (nomatch h), List.Pairwise.nil⟩ (Nat.le_of_eq hsz.symm)
  rw [hsz] at ok
  have keep : ∀ b o, s.heap.get? b = some o → (pushCells (s.heap.push { cls := Value.type "dict", dict := none, data := Data.dict #[], slots := #[] }) names).get? b = some o := fun b o e => pushCells_keeps names _ b o (Heap.get?_push_of_some _ e)
  have get : (pushCells (s.heap.push { cls := Value.type "dict", dict := none, data := Data.dict #[], slots := #[] }) names).get? s.heap.objs.size = some { cls := Value.type "dict", dict := none, data := Data.dict #[], slots := #[] } := pushCells_keeps names _ _ _ (Heap.get?_push_size _ rfl)
  have above : ∀ n c, (n, c) ∈ cellsFrom (s.heap.objs.size + 1) names [] → s.heap.objs.size < c := fun n c h => (ok.empty n c h).2
  obtain ⟨e1, D⟩ := R.sub
  have hlt : ∀ a o, (σ.un (σf.set L (.ns fr))) a = some o → a < s.heap.objs.size := fun a o e => R.rel.lt (by rw [← e1]; exact e)
  have hnew : ∀ a, s.heap.objs.size ≤ a → (σ.un (σf.set L (.ns fr))) a = none := fun a ha => by
    cases q : (σ.un (σf.set L (.ns fr))) a with
    | none => rfl
    | some o => exact absurd (hlt a o q) (Nat.not_lt.mpr ha)
  refine ⟨fun a o e => ?_, ?_, ⟨fun b o e => keep b o (R.rel.keep b o e), fun a o e => ?_, ?_, ?_, R.rel.gens, R.rel.os, fun env he L' hL' o e => ?_⟩⟩
  rotate_right
  · rw [addCells_un] at e
    obtain ⟨ob', g, gd⟩ := FF_at R.rel.frames he hL'
    rw [St.set_ne _ (Nat.ne_of_lt (Heap.lt_size g))] at e
    rcases addCells_of e with ⟨n, h1, rfl⟩ | e
    · exact absurd (Heap.lt_size g) (Nat.not_lt.mpr (Nat.le_of_lt (above n _ h1)))
    · exact R.rel.nss env he L' hL' o (by rw [← e1]; exact e)
  · rcases addCells_of e with ⟨n, h1, _⟩ | e
    · exact (St.un_eq_none (hnew a (Nat.le_of_lt (above n a h1)))).2
    · exact D a o e
  · rw [addCells_un]
    exact addCells_none (fun n hn => absurd (above n _ hn) (Nat.lt_irrefl _)) (hnew _ (Nat.le_refl _))
  · rw [addCells_un] at e
    unfold St.set at e
    split at e
    · rename_i q; subst q; cases e
      exact ⟨.hi R.rel.big, _, get, #[], 0, rfl, fun e he => by simp at he, fun x v hx => nomatch hx⟩
    · rcases addCells_of e with ⟨n, h1, rfl⟩ | e
      · obtain ⟨⟨oc, g1, g2⟩, g3⟩ := ok.empty n a h1
        exact ⟨.hi (Nat.le_trans R.rel.big (Nat.le_of_lt (above n a h1))), oc, g1, _, g2, rfl⟩
      · have : ((σ.un σf).set L (.ns fr)) a = some o := by rw [← e1]; exact e
        obtain ⟨h1, ob, h2, h3⟩ := R.rel.own a o this
        exact ⟨h1, ob, keep _ _ h2, h3⟩
  · exact Nat.le_trans R.rel.big (Nat.le_of_lt (Heap.lt_size get))
  · exact R.rel.frames.of_keeps fun b o e _ => ⟨o, keep b o e, rfl⟩

noncomputable def WBlock (X : Cx) (A : Around) (env : Env) (e : Expr) (scope : Scope) (cl : List (Str × Addr)) (it : Value) (fr : Fm) (σ : St) (Q : PV → Fm → St → Prop) : Prop :=
  ∀ acc L', σ acc = none → acc ≠ env.locals → (∀ a o, (σ.set acc (.list [])) a = some o → a < L') → env.locals < L' →
    WK X A L' (.compStart e 0 it (.ref acc) (cEnv scope env L' cl)) [] (addCells (σ.set acc (.list [])) (fun _ => none) (cellsFrom (L' + 1) scope.names [])) (fun _ σ' => Q (.ref acc) fr σ') NoE

theorem compr_tail {e : Expr} {it : Value} {cenv : Env} {names : List (Str × NameKind)} {acc L' : Addr} {fr : Fm} {σ : St} {σf : St} {s : Shared} {Q : PV → Fm → St → Prop} {use : Option (Value → Sem Unit)} {Q' : PV → Fm → St → Prop} {hv : List Value} {cellsOf : List (Str × NameKind) → List Value} {hu1 : List Value} {p : (Str × NameKind) → Bool}
    (hh : A.handled = none) (hkind : cenv.scope.kind = .function) (hnames : ∀ x ∈ names, x.2 = .local → cenv.kindOf x.1 = some .local) (hloc : cenv.locals = L') (hfL : σf env.locals = none)
    (R : RelF X (fsOf A) L' (σf.set env.locals (.ns fr)) [] σ s) (hk : WK X A L' (.compStart e 0 it (.ref acc) cenv) [] σ (fun _ σ' => Q (.ref acc) fr σ') NoE)
    (hu : match use with | none => ∀ v fr σ, Q v fr σ → Q' v fr σ | some u => ∀ a fr₂ σ', Q (.ref a) fr₂ σ' → W X A env.locals (u (.ref a)) fr₂ σ' (fun _ => Q' .none) E) :
    wpAny X.M A (do
          match ← (PySem.holding hv (run (.compStart e 0 it (.ref acc) cenv))).attempt, use with
          | .ok _, none => PySem.holding [.ref acc] (comprehension.letGo cenv cellsOf (names.filter p).reverse); pure (.ref acc)
          | .ok _, some u =>
            PySem.rule "comprehension.stores-exchanged"
            PySem.holding hu1 (u (.ref acc))
            comprehension.letGo cenv cellsOf ((names.filter p).reverse.drop 1 ++ (names.filter p).reverse.take 1)
            pure .none
          | .error x, _ => PySem.holding [x] (comprehension.letGo cenv cellsOf (names.filter p).reverse); passOn "comprehension.variables-let-go" x cenv)
      (fun a s' => Po X (fsOf A) env.locals σf (Q' (abs a)) s') E s := by
  have hL' : σf L' = none := by
    have := (St.un_eq_none R.free).2
    unfold St.set at this
    split at this
    · cases this
    · exact this
  have hvars : ∀ x ∈ (names.filter p).reverse, x.2 = .local → cenv.kindOf x.1 = some .local := fun x hx hl => hnames x (List.mem_filter.mp (List.mem_reverse.mp hx)).1 hl
  refine wpAny_bind (wpAny_attempt (wpAny_holding (wpAny_mono (W.run hh hk (E := NoE) _ s R) (fun _ s' ⟨fr', σ', R', q⟩ => ?_) fun _ _ x => x.elim)))
  have R₁ := R'.swap hfL hL'
  cases use with
  | none =>
    refine wpAny_bind (wpAny_holding (RelF.letGo hkind hvars hloc hL' R₁ fun s'' R₂ => ?_))
    exact wpAny_pure ⟨fr, σ', R₂, hu _ _ _ q⟩
  | some u =>
    refine wpAny_bind (wpAny_rule ?_)
    refine wpAny_bind (wpAny_holding (W.go (hu acc fr σ' q) R₁ (fun _ s'' fr₂ σ₂ R₂ q₂ => ?_)))
    refine wpAny_bind (RelF.letGo hkind (fun x hx hl => hvars x ?_ hl) hloc hL' R₂ fun s₃ R₃ => ?_)
    · rcases List.mem_append.mp hx with h | h
      · exact List.mem_of_mem_drop h
      · exact List.mem_of_mem_take h
    · exact wpAny_pure ⟨fr₂, σ₂, R₃, q₂⟩
theorem compr_any {e : Expr} {scope : Scope} {pos : Pos} {first : Sem Value} {g : Comprehension} {gs : List Comprehension} {cl : List (Str × Addr)} {fr : Fm} {σ : St} {Q : PV → Fm → St → Prop} {use : Option (Value → Sem Unit)} {Q' : PV → Fm → St → Prop}
    (hh : A.handled = none) (hcl : clausesOf e = g :: gs) (hs : ∀ x, foldedSetIterable g.iter env x = pure x) (hclo : closureFor scope env = pure cl) (hkind : scope.kind = .function)
    (hnames : ∀ L, ∀ x ∈ scope.names, x.2 = .local → (cEnv scope env L cl).kindOf x.1 = some .local)
    (h : W X A env.locals first fr σ (fun x fr₁ σ₁ => W X A env.locals (pyIter x) fr₁ σ₁ (fun it fr₂ σ₂ => WBlock X A env e scope cl it fr₂ σ₂ Q) E) E)
    (hu : match use with | none => ∀ v fr σ, Q v fr σ → Q' v fr σ | some u => ∀ a fr₂ σ', Q (.ref a) fr₂ σ' → W X A env.locals (u (.ref a)) fr₂ σ' (fun _ => Q' .none) E) :
    W X A env.locals (comprehension e scope env pos (newList []) false first use) fr σ (fun v => Q' (abs v)) E := by
  intro σf s R
  unfold comprehension
  refine wpAny_bind (W.go h R (fun x s₁ fr₁ σ₁ R₁ h₁ => ?_))
  refine wpAny_bind (wpAny_standAt ?_)
  rw [hcl]
  dsimp only
  rw [hs]
  refine wpAny_bind (wpAny_pure ?_)
  simp only [Bool.false_eq_true, if_false]
  refine wpAny_bind (wpAny_holding (W.go h₁ R₁ (fun it s₂ fr₂ σ₂ R₂ h₂ => ?_)))
  have rest : wpAny X.M A (do
        let acc ← newList []
        let cenv ← newFunctionEnv scope env.globals (← closureFor scope env) [] env.qual none .none (some env)
        let own (n : Str) (k : NameKind) := k == .free && env.scope.kind == .function && env.kindOf n == some .cell
        let cenv := { cenv with scope := { scope with names := scope.names.map fun (n, k) => if own n k then (n, .cell) else (n, k) } }
        let vars := scope.names.filter fun (n, k) => (k == .local || k == .cell) && n != (".0" : Str)
        let cellOf? (n : Str) : List Value := ((cenv.cells.lookup n).map Value.ref).toList
        let cellsOf (vs : List (Str × NameKind)) : List Value := vs.flatMap fun (n, k) => if k == .cell then cellOf? n else []
        PySem.holding [.ref cenv.locals] do
          match ← (PySem.holding (acc :: cellsOf vars) (run (.compStart e 0 it acc cenv))).attempt, use with
          | .ok _, none => PySem.holding [acc] (comprehension.letGo cenv cellsOf vars.reverse); pure acc
          | .ok _, some u =>
            PySem.rule "comprehension.stores-exchanged"
            PySem.holding (cellsOf vars) (u acc)
            comprehension.letGo cenv cellsOf (vars.reverse.drop 1 ++ vars.reverse.take 1)
            pure .none
          | .error x, _ => PySem.holding [x] (comprehension.letGo cenv cellsOf vars.reverse); passOn "comprehension.variables-let-go" x cenv)
      (fun a s' => Po X (fsOf A) env.locals σf (Q' (abs a)) s') E s₂ := by
    refine wpAny_bind (wpAny_newList ?_ (by simp))
    have R₃ := R₂.push (o := .list []) (ob := { cls := .type "list", data := .seq #[] }) ⟨#[], 0, rfl, rfl⟩ rfl
    rw [hclo]
    refine wpAny_bind (wpAny_pure ?_)
    refine wpAny_bind (newCompEnv ?_)
    have R₄ := R₃.compBlock (names := scope.names)
    have hfL : σf env.locals = none := (St.un_eq_none R₂.free).2
    have hacc : σ₂ s₂.heap.objs.size = none := R₂.fresh
    have hk := h₂ s₂.heap.objs.size (s₂.heap.push { cls := Value.type "list", dict := none, data := Data.seq #[], slots := #[] }).objs.size hacc (Nat.ne_of_gt R₂.ltL)
      (fun a o e => R₃.own.lt e) (by rw [Heap.size_push]; exact Nat.lt_succ_of_lt R₂.ltL)
    rw [cellsFrom_acc scope.names _ cl]
    refine wpAny_holding ?_
    exact compr_tail (cenv := cEnv scope env (s₂.heap.push { cls := Value.type "list", dict := none, data := Data.seq #[], slots := #[] }).objs.size cl) (acc := s₂.heap.objs.size) hh hkind (fun x hx hl => hnames _ x hx hl) rfl hfL (R₄) hk hu
  first | exact wpAny_standIf rest | (refine wpAny_standIf ?_; exact rest)

theorem WE.listComp {elt target iter : Expr} {ifs : List Expr} {rest : List Comprehension} {scope : Scope} {pos : Pos} {cl : List (Str × Addr)} {fr : Fm} {σ : St} {Q : PV → Fm → St → Prop}
    (hh : A.handled = none) (hs : ∀ x, foldedSetIterable iter env x = pure x) (hclo : closureFor scope env = pure cl) (hkind : scope.kind = .function)
    (hnames : ∀ L, ∀ x ∈ scope.names, x.2 = .local → (cEnv scope env L cl).kindOf x.1 = some .local)
    (h : WE X A env iter fr σ (fun x fr₁ σ₁ => WIter X A env.locals x fr₁ σ₁ (fun it fr₂ σ₂ => WBlock X A env (.ListComp elt (⟨target, iter, ifs, 0⟩ :: rest) scope pos) scope cl it fr₂ σ₂ Q) E) E) :
    WE X A env (.ListComp elt (⟨target, iter, ifs, 0⟩ :: rest) scope pos) fr σ Q E := by
  show W _ _ _ _ _ _ _ _
  rw [eval_ListComp]
  exact compr_any (use := none) hh rfl hs hclo hkind hnames (.mono h fun x fr₁ σ₁ h₁ => h₁ x rfl) fun _ _ _ q => q
theorem WS.assignComp {x : Str} {p : Pos} {elt target iter : Expr} {ifs : List Expr} {rest : List Comprehension} {scope : Scope} {pos pos' : Pos} {cl : List (Str × Addr)} {fr : Fm} {σ : St} {Q : PF → Fm → St → Prop}
    (hh : A.handled = none) (hs : ∀ x, foldedSetIterable iter env x = pure x) (hclo : closureFor scope env = pure cl) (hkind : scope.kind = .function)
    (hnames : ∀ L, ∀ x ∈ scope.names, x.2 = .local → (cEnv scope env L cl).kindOf x.1 = some .local)
    (hsw : swapsWith (.ListComp elt (⟨target, iter, ifs, 0⟩ :: rest) scope pos) (some (.Name x p)) pos'.line env = pure true)
    (h : WE X A env iter fr σ (fun y fr₁ σ₁ => WIter X A env.locals y fr₁ σ₁ (fun it fr₂ σ₂ => WBlock X A env (.ListComp elt (⟨target, iter, ifs, 0⟩ :: rest) scope pos) scope cl it fr₂ σ₂
      (fun v fr₃ σ₃ => WN X A env x v fr₃ σ₃ (Q .next) E)) E) E) :
    WS X A env (.Assign [.Name x p] (.ListComp elt (⟨target, iter, ifs, 0⟩ :: rest) scope pos) pos') fr σ Q E := by
  show W _ _ _ _ _ _ _ _
  rw [arm_exec_Assign]
  refine .bind (.standAt ?_)
  have e1 : swapsWithSole [.Name x p] (.ListComp elt (⟨target, iter, ifs, 0⟩ :: rest) scope pos) pos'.line env = pure true := hsw
  rw [e1]
  refine .bind (.pure ?_)
  rw [if_pos rfl]
  rw [arm_evalThenUse_ListComp]
  refine .bind (.bind (.mono (compr_any (Q' := fun _ => Q .next) hh rfl hs hclo hkind hnames (.mono h fun x fr₁ σ₁ h₁ => h₁ x rfl) ?_) fun _ fr' σ' q => .pure (.pure q)))
  intro a fr₂ σ' q
  show W X A env.locals (PySem.assign (Expr.Name x p) env (Value.ref a)) _ _ _ _
  rw [arm_assign_Name]
  refine .bind (.standAt ?_)
  exact fun σf s R => wpAny_bindName (q (.ref a) rfl σf s R)
end
end SL

end
section
open PySem PySem.W PyProof.Rows PySem.Calls
namespace SL

noncomputable def rangeL (a b c : Int) : List PV := (List.range (Builtin.Range.rangeSize a b c).toNat).map fun i : Nat => PV.int (a + i * c)
theorem rangeL_get {a b c : Int} {i : Nat} {x : PV} (h : (rangeL a b c)[i]? = some x) : i < (Builtin.Range.rangeSize a b c).toNat ∧ x = .int (a + i * c) := by
  unfold rangeL at h
  rw [List.getElem?_map] at h
  obtain ⟨j, h1, h2⟩ := Option.map_eq_some_iff.mp h
  obtain ⟨h3, h4⟩ := List.getElem?_eq_some_iff.mp h1
  simp only [List.length_range] at h3
  simp only [List.getElem_range] at h4
  subst h4
  exact ⟨h3, h2.symm⟩
theorem rangeL_len (a b c : Int) : (rangeL a b c).length = (Builtin.Range.rangeSize a b c).toNat := by simp [rangeL]
theorem rangeL_one (a b : Int) : (Builtin.Range.rangeSize a b 1).toNat = (b - a).toNat := by
  rw [rangeSize_one]; split <;> lia

section
variable {X : Cx} {A : Around} {env : Env} {L : Addr} {fr : Fm} {σ σf : St} {E : Value → Shared → Prop}

noncomputable def rIt (a b c : Int) (i : Nat) : AO := .raw { cls := .type "range_iterator", dict := none, data := .fields #[rawInt (a + i * c), rawInt (Builtin.Range.rangeSize a b c - i), rawInt c], slots := #[] }
theorem RelF.raw {fs : List Env} {s : Shared} {a : Addr} {o : Obj} (R : RelF X fs L σf fr σ s) (h : σ a = some (.raw o)) : s.heap.get? a = some o := by
  obtain ⟨ob, h1, h2⟩ := R.get h
  rw [h1]; exact congrArg some h2
theorem srcOf_range {r : Addr} {a b c : Int} (hh : A.handled = none) (hsmall : Builtin.Range.small a b c = true) (h0 : 0 ≤ Builtin.Range.rangeSize a b c) : SrcOf X A (.ref r) (rangeL a b c) (fun σ => σ r = some (.range a b c)) (fun i _ => rIt a b c i) where
  mono := fun σ τ h hl => h _ _ hl
  start := fun L fr σ hl Q E h v hv σf s R => by
    obtain rfl := abs_ref hv
    obtain ⟨ob, g1, t, u, w, rfl⟩ := R.get hl
    refine wpAny_pyIter_range g1 hsmall ?_
    refine ⟨fr, _, R.push (o := rIt a b c 0) (ob := { cls := .type "range_iterator", data := .fields #[rawInt a, rawInt (Builtin.Range.rangeSize a b c), rawInt c] }) ?_ rfl, h _ R.fresh (Nat.ne_of_gt R.ltL)⟩
    simp [rIt, OR]
  src := fun it => {
    again := fun L fr σ Q hit hl hq σf s R => wpAny_pyIter_rangeiter (R.raw (St.set_self ..)) ⟨fr, _, R, hq⟩
    item := fun L i x fr σ Q hx hit hl hq σf s R => by
      obtain ⟨hi, rfl⟩ := rangeL_get hx
      refine wpAny_pyNext_range_item (R.raw (St.set_self ..)) (by lia) fun h' hi' hsb => ?_
      refine ⟨fr, _, (R.updF (o := rIt a b c (i + 1)) (St.set_self ..) hsb (R.raw (St.set_self ..)) hi' ?_ (fun q => absurd rfl (q _))).toks _, by rw [St.set_set]; exact hq _ rfl⟩
      simp only [rIt, OR]
      have e1 : a + (i : Int) * c + c = a + ((i + 1 : Nat) : Int) * c := by push_cast; rw [Int.add_mul, Int.one_mul]; lia
      have e2 : Builtin.Range.rangeSize a b c - (i : Int) - 1 = Builtin.Range.rangeSize a b c - ((i + 1 : Nat) : Int) := by push_cast; lia
      rw [e1, e2]
    stop := fun L fr σ Q hit hl hq σf s R => by
      refine wpAny_pyNext_range_end hh (R.raw (St.set_self ..)) (by rw [rangeL_len]; lia) fun h' hx => ?_
      exact ⟨fr, _, R.extF (St.set_self ..) (fun ob hob => by obtain rfl : ob = _ := hob; exact ⟨_, rfl⟩) hx, by rw [St.set_del hit]; exact hq⟩ }

theorem WC.range1 {n : Int} {Q : PV → Fm → St → Prop} (h : ∀ a, σ a = none → a ≠ L → Q (.ref a) fr (σ.set a (.range 0 n 1))) : WC X A L (.type "range") [.int n] fr σ Q E := by
  intro fv vs hf hv; obtain rfl := abs_type hf
  obtain ⟨v1, rfl, hv1⟩ := args1 hv
  obtain ⟨t, rfl⟩ := abs_int hv1
  intro σf s R
  exact call_range_1 ⟨fr, _, (R.push (o := .range 0 n 1) ⟨_, _, _, rfl⟩ rfl).toks _, h _ R.fresh (Nat.ne_of_gt R.ltL)⟩

theorem WC.lenList {a : Addr} {xs : List PV} {Q : PV → Fm → St → Prop} (h : σ a = some (.list xs)) (hz : xs.length < 2 ^ 62) (hq : Q (.int xs.length) fr σ) : WC X A L (.builtin "len") [.ref a] fr σ Q E := by
  intro fv vs hf hv; obtain rfl := abs_builtin hf
  obtain ⟨v1, rfl, hv1⟩ := args1 hv
  obtain rfl := abs_ref hv1
  intro σf s R
  obtain ⟨us, n, ho, hu, hs⟩ := R.list h
  exact call_len_list (isList_of ho) (by lia) ⟨fr, _, R.toks _, by show Q (.int _) _ _; rw [hs]; exact hq⟩

theorem WK.weaken {c : Code} {Q : Fm → St → Prop} (h : WK X A L c fr σ (Weak Q) E) : WK X A L c fr σ Q E := fun σf s R =>
  codeAny_mono (h σf s R) fun r s' x => by
    cases r with
    | ok f => obtain ⟨fr', σ', R', q⟩ := x; exact R'.weak q
    | error e => exact x
theorem WK.mono {c : Code} {Q Q' : Fm → St → Prop} (h : WK X A L c fr σ Q E) (hq : ∀ fr σ, Q fr σ → Q' fr σ) : WK X A L c fr σ Q' E := fun σf s R =>
  codeAny_mono (h σf s R) fun r s' x => by
    cases r with
    | ok f => obtain ⟨fr', σ', R', q⟩ := x; exact ⟨_, _, R', hq _ _ q⟩
    | error e => exact x

theorem addCells_set {σ : St} {cm : Str → Option PV} {a : Addr} {o : AO} : ∀ {cs : List (Str × Addr)}, (∀ n, (n, a) ∉ cs) → addCells (σ.set a o) cm cs = (addCells σ cm cs).set a o
  | [], _ => rfl
  | (n, c) :: r, h => by
    unfold addCells
    rw [addCells_set fun m hm => h m (.tail _ hm), St.set_comm]
    intro e; subst e; exact h n (.head _)
theorem addCells_le {σ : St} {cm : Str → Option PV} : ∀ {cs : List (Str × Addr)}, (∀ n c, (n, c) ∈ cs → σ c = none) → σ.le (addCells σ cm cs)
  | [], _ => St.le_refl σ
  | (n, c) :: r, h => fun a o e => by
    unfold addCells
    have : a ≠ c := fun q => by rw [q, h n c (.head _)] at e; cases e
    rw [St.set_ne _ this]
    exact addCells_le (fun m d hm => h m d (.tail _ hm)) a o e
theorem cellsFrom_gt : ∀ {names : List (Str × NameKind)} {n : Nat} {x : Str} {c : Addr}, (x, c) ∈ cellsFrom n names [] → n ≤ c := by
  intro names
  induction names with
  | nil => intro n x c h; cases h
  | cons p r ih =>
    intro n x c h
    obtain ⟨y, k⟩ := p
    unfold cellsFrom at h
    split at h
    · rw [cellsFrom_acc] at h
      rcases List.mem_append.mp h with h | h
      · exact Nat.le_of_succ_le (ih h)
      · rcases List.mem_singleton.mp h with h; cases h; exact Nat.le_refl _
    · exact ih h

theorem Fm.nil_le (f : Fm) : Fm.le [] f := fun _ _ e => nomatch e
theorem WEmit.last {elt : Expr} {gens : List Comprehension} {scope : Scope} {pos : Pos} {d : Nat} {acc : Addr} {Q : Fm → St → Prop} (hg : gens[d + 1]? = none)
    (h : WE X A env elt fr σ (fun y fr₁ σ₁ => WC X A env.locals (.builtin "list.append") [.ref acc, y] fr₁ σ₁ (fun _ => Q) E) E) : WEmit X A env elt gens scope pos d acc fr σ Q E := by
  unfold WEmit; rw [hg]; exact h
theorem WBlock.one {elt target iter : Expr} {ifs : List Expr} {scope : Scope} {pos : Pos} {cl : List (Str × Addr)} {x : PV} {xs : List PV} {P : St → Prop} {o : Nat → Addr → AO} {Q : PV → Fm → St → Prop}
    (hh : A.handled = none) (S : SrcOf X A x xs P o) (J : Addr → Nat → List PV → St → Prop) (hlet : ∀ it, LetOk X A target it (fun i => o i it))
    (hP : ∀ L' i ys σ, J L' i ys σ → P σ) (hPσ : P σ)
    (h0 : ∀ L', (∀ a o, σ a = some o → a < L') → env.locals < L' → J L' 0 [] (addCells σ (fun _ => none) (cellsFrom (L' + 1) scope.names [])))
    (turn : ∀ L' i x ys σ, xs[i]? = some x → J L' i ys σ → WAsg X A (cEnv scope env L' cl) target x [] σ (fun fr₂ σ₂ => WIfs X A (cEnv scope env L' cl) ifs fr₂ σ₂ (fun ok fr₃ σ₃ =>
      if ok = true then WE X A (cEnv scope env L' cl) elt fr₃ σ₃ (fun y fr₄ σ₄ => ys.length ≤ sizeLine ∧ Weak (fun _ => J L' (i + 1) (ys ++ [y])) fr₄ σ₄) NoE else Weak (fun _ => J L' (i + 1) ys) fr₃ σ₃) NoE) NoE)
    (done : ∀ L' ys σ', J L' xs.length ys σ' → ∀ acc, σ' acc = none → acc ≠ env.locals → Weak (fun _ => Q (.ref acc) fr) [] (σ'.set acc (.list ys))) :
    WIter X A env.locals x fr σ (fun it fr₂ σ₂ => WBlock X A env (.ListComp elt [⟨target, iter, ifs, 0⟩] scope pos) scope cl it fr₂ σ₂ Q) E := by
  refine S.start _ fr σ hPσ _ _ fun it hit hne => ?_
  intro acc L' hacc haL hlt hL
  have hcs : ∀ n c, (n, c) ∈ cellsFrom (L' + 1) scope.names [] → L' < c := fun n c h => cellsFrom_gt h
  have hacc' : acc < L' := hlt acc _ (St.set_self ..)
  have hne2 : it ≠ acc := fun e => by subst e; rw [St.set_self] at hacc; cases hacc
  have hitL : it < L' := hlt it (o 0 it) (by rw [St.set_ne _ hne2, St.set_self])
  have haccσ : σ acc = none := by rwa [St.set_ne _ (Ne.symm hne2)] at hacc
  have hltσ : ∀ a o, σ a = some o → a < L' := fun a o' e => hlt a o' (by
    rw [St.set_ne _ (fun q => by rw [q, haccσ] at e; cases e), St.set_ne _ (fun q => by rw [q, hit] at e; cases e)]; exact e)
  have e1 : addCells ((σ.set it (o 0 it)).set acc (.list [])) (fun _ => none) (cellsFrom (L' + 1) scope.names []) = ((addCells σ (fun _ => none) (cellsFrom (L' + 1) scope.names [])).set acc (.list [])).set it (o 0 it) := by
    rw [addCells_set (fun n h => Nat.lt_asymm (hcs n _ h) hacc'), addCells_set (fun n h => Nat.lt_asymm (hcs n _ h) hitL), St.set_comm _ _ _ hne2]
  rw [e1]
  have hJ0 := h0 L' hltσ hL
  have hit0 : (addCells σ (fun _ => none) (cellsFrom (L' + 1) scope.names [])) it = none := addCells_none (fun n h => Nat.lt_asymm (hcs n _ h) hitL) hit
  have hacc0 : (addCells σ (fun _ => none) (cellsFrom (L' + 1) scope.names [])) acc = none := addCells_none (fun n h => Nat.lt_asymm (hcs n _ h) hacc') haccσ
  have hit1 : ((addCells σ (fun _ => none) (cellsFrom (L' + 1) scope.names [])).set acc (.list [])) it = none := by rw [St.set_ne _ hne2]; exact hit0
  have hP1 : P ((addCells σ (fun _ => none) (cellsFrom (L' + 1) scope.names [])).set acc (.list [])) := S.mono _ _ (St.le_set hacc0) (hP _ _ _ _ hJ0)
  refine WK.compStart (elt := elt) (gens := [⟨target, iter, ifs, 0⟩]) (d := 0) (scope := scope) (pos := pos) (g := ⟨target, iter, ifs, 0⟩) (env := cEnv scope env L' cl) rfl rfl (fun Q hq => (S.src it).again _ _ _ _ hit1 hP1 hq) ?_
  refine .weaken ?_
  refine .mono (WK.src (Q := fun _ ys σ' => J L' xs.length ys σ') (it := it) (acc := acc) (o := fun i => o i it) hh rfl (S.src it) (fun i ys fr σ => J L' i ys σ ∧ fr = []) (hlet it) (fun i ys fr σ h => hP _ _ _ _ h.1) ⟨hJ0, rfl⟩ hit0 hacc0 hne2 ?_ (fun ys fr σ h => h.1)) ?_
  · intro i x ys fr σ₁ hx ⟨hJ, hfr⟩ hac v hv
    subst hfr
    refine .mono (turn L' i x ys σ₁ hx hJ v hv) fun _ fr₂ σ₂ h₂ => ?_
    refine .mono h₂ fun ok fr₃ σ₃ h₃ => ?_
    cases ok with
    | false =>
      exact Weak.casesOn (motive := fun _ => _) h₃ fun fr' σ' l1 l2 l3 => ⟨[], σ', Fm.nil_le _, l2, l3, rfl⟩
    | true =>
      intro hac3
      refine WEmit.last rfl ?_
      refine W.frame hac3 (.mono h₃ fun y fr₄ σ₅ g g1 => ?_)
      refine WC.append (xs := ys) (St.set_self ..) g.1 ?_
      rw [St.set_set]
      exact .mk _ σ₅ g1 (g.2.casesOn fun fr' σ' l1 l2 l3 => ⟨[], σ', Fm.nil_le _, l2, l3, rfl⟩)
  · rintro fr' _ ⟨ys, σ'', h1, h3⟩
    exact (done L' ys σ'' h3 acc h1 haL).casesOn fun fr₂ σ₂ l1 l2 l3 => ⟨[], σ₂, Fm.nil_le _, l2, l3⟩
end
end SL

end
section
open PySem PySem.W PyProof.Rows PySem.Calls
namespace SL

theorem CW.weak {X : Cx} {A : Around} {f : PV} {args : List PV} {σ : St} {Q : PV → St → Prop} {E : Value → Shared → Prop} (h : CW X A f args σ (fun v σ' => ∃ τ : St, τ.le σ' ∧ Q v τ) E) : CW X A f args σ Q E :=
  fun σf s fv vs hf hv D R => wpAny_mono (h σf s fv vs hf hv D R) (fun v s' ⟨σ', D', R', τ, hl, q⟩ => by
    refine ⟨τ, D'.less hl, R'.less fun a o e => ?_, q⟩
    cases e1 : τ a with
    | some o1 => rw [St.un_of e1] at e; cases e; exact St.un_of (hl _ _ e1)
    | none =>
      rw [St.un_none e1] at e
      cases e2 : σ' a with
      | none => rw [St.un_none e2]; exact e
      | some o2 => rw [D' _ _ e2] at e; cases e) fun _ _ x => x

noncomputable abbrev iL (ms : List Int) : List PV := ms.map .int
theorem iL_get {ms : List Int} {k : Nat} (h : k < ms.length) : (iL ms)[k]? = some (.int (ms.getD k 0)) := by
  simp [iL, List.getD, h]
theorem iL_set (ms : List Int) (k : Nat) (x : Int) : (iL ms).set k (.int x) = iL (ms.set k x) := by simp [iL, List.map_set]

section
variable {X : Cx} {A : Around} {env : Env} {L : Addr} {fr : Fm} {σ σf : St} {E : Value → Shared → Prop}
theorem WI.intsAt {value slice : Expr} {a : Addr} {ms : List Int} {k : Int} {Q : PV → Fm → St → Prop} (h : σ a = some (.list (iL ms))) (h0 : 0 ≤ k) (h1 : k < ms.length) (hz : ms.length ≤ 2 ^ 32) (hq : Q (.int (ms.getD k.toNat 0)) fr σ)
    (hs : ∀ u, subscripted slice false (.ref a) (.int k u) = PySem.operate [.ref a, .int k u] (getItem (.ref a) (.int k u)) := by intro u; rfl) : WI X A L value slice (.ref a) (.int k) fr σ Q E :=
  WI.list h h0 (by lia) (iL_get (by lia)) hq hs
theorem W2.getInts {a : Addr} {ms : List Int} {k : Int} {Q : PV → Fm → St → Prop} (h : σ a = some (.list (iL ms))) (h0 : 0 ≤ k) (h1 : k < ms.length) (hz : ms.length ≤ 2 ^ 32) (hq : Q (.int (ms.getD k.toNat 0)) fr σ) : W2 X A L getItem (.ref a) (.int k) fr σ Q E :=
  WI.getItemList h h0 (by lia) (iL_get (by lia)) hq
theorem WU3.setInts {a : Addr} {ms : List Int} {k x : Int} {Q : Fm → St → Prop} (h : σ a = some (.list (iL ms))) (h0 : 0 ≤ k) (h1 : k < ms.length) (hz : ms.length ≤ 2 ^ 32) (hq : Q fr (σ.set a (.list (iL (ms.set k.toNat x))))) : WU3 X A L setItem (.ref a) (.int k) (.int x) fr σ Q E :=
  WU3.setList h h0 (by lia) (by simpa using h1) (by rw [iL_set]; exact hq)
noncomputable def upL (m n : Nat) : List PV := rangeL m n 1
theorem upL_len (m n : Nat) : (upL m n).length = n - m := by
  unfold upL; rw [rangeL_len, rangeL_one]; lia
theorem upL_get {m n i : Nat} {x : PV} (h : (upL m n)[i]? = some x) : i < n - m ∧ x = .int ((m + i : Nat) : Int) := by
  obtain ⟨h1, h2⟩ := rangeL_get h
  rw [rangeL_one] at h1
  refine ⟨by lia, ?_⟩
  rw [h2, Int.mul_one, Int.natCast_add]
theorem srcOf_upto {r : Addr} {m n : Nat} (hh : A.handled = none) (hm : m < 2 ^ 60) (h : n < 2 ^ 60) : SrcOf X A (.ref r) (upL m n) (fun σ => σ r = some (.range m n 1)) (fun i _ => rIt m n 1 i) :=
  srcOf_range hh (small_one (by lia) (by lia) (by lia) (by lia)) (by rw [rangeSize_one]; split <;> lia)
end
end SL
namespace SL
section
variable {X : Cx} {A : Around} {env : Env} {L : Addr} {fr : Fm} {σ σf : St} {E : Value → Shared → Prop}
end
end SL
namespace SL
theorem up0_get {n i : Nat} {x : PV} (h : (upL 0 n)[i]? = some x) : i < n ∧ x = .int (i : Int) := by
  obtain ⟨h1, h2⟩ := upL_get h
  simp only [Nat.zero_add] at h2
  exact ⟨by lia, h2⟩
theorem up0_len (n : Nat) : (upL 0 n).length = n := upL_len 0 n
theorem fmod_nat (a b : Nat) : ((a : Int)).fmod b = ((a % b : Nat) : Int) := by
  rw [Int.fmod_eq_emod_of_nonneg _ (Int.natCast_nonneg b), Int.natCast_emod]
section
variable {X : Cx} {A : Around} {env : Env} {L : Addr} {fr : Fm} {σ σf : St} {E : Value → Shared → Prop}
theorem WI.nL {value slice : Expr} {a : Addr} {ms : List Int} {i : Int} {Q : PV → Fm → St → Prop} (h : σ a = some (.list (iL ms))) (k : Nat) (he : i = k) (hk : k < ms.length) (hz : ms.length ≤ 2 ^ 32) (hq : Q (.int (ms.getD k 0)) fr σ)
    (hs : ∀ u, subscripted slice false (.ref a) (.int i u) = PySem.operate [.ref a, .int i u] (getItem (.ref a) (.int i u))) : WI X A L value slice (.ref a) (.int i) fr σ Q E := by
  subst he
  exact WI.intsAt h (Int.natCast_nonneg k) (by lia) hz (by simpa using hq) hs
theorem W2.getN {a : Addr} {ms : List Int} {i : Int} {Q : PV → Fm → St → Prop} (h : σ a = some (.list (iL ms))) (k : Nat) (he : i = k) (hk : k < ms.length) (hz : ms.length ≤ 2 ^ 32) (hq : Q (.int (ms.getD k 0)) fr σ) : W2 X A L getItem (.ref a) (.int i) fr σ Q E := by
  subst he
  exact W2.getInts h (Int.natCast_nonneg k) (by lia) hz (by simpa using hq)
theorem WU3.setN {a : Addr} {ms : List Int} {i x : Int} {Q : Fm → St → Prop} (h : σ a = some (.list (iL ms))) (k : Nat) (he : i = k) (hk : k < ms.length) (hz : ms.length ≤ 2 ^ 32) (hq : Q fr (σ.set a (.list (iL (ms.set k x))))) : WU3 X A L setItem (.ref a) (.int i) (.int x) fr σ Q E := by
  subst he
  exact WU3.setInts h (Int.natCast_nonneg k) (by lia) hz (by simpa using hq)
theorem WI.atN {value slice : Expr} {a : Addr} {xs : List PV} {i : Int} {x : PV} {Q : PV → Fm → St → Prop} (h : σ a = some (.list xs)) (k : Nat) (he : i = k) (hk : k < 2 ^ 60) (hx : xs[k]? = some x) (hq : Q x fr σ)
    (hs : ∀ u, subscripted slice false (.ref a) (.int i u) = PySem.operate [.ref a, .int i u] (getItem (.ref a) (.int i u))) : WI X A L value slice (.ref a) (.int i) fr σ Q E := by
  subst he
  exact WI.list h (Int.natCast_nonneg k) (by lia) (by simpa using hx) hq hs
end
end SL
namespace SL
theorem Fm.le_cons {f g : Fm} {x : Str} {v : PV} (h : g.lookup x = some v) (h' : f.le g) : Fm.le ((x, v) :: f) g := fun y u e => by
  by_cases q : y = x
  · subst q
    simp only [List.lookup, beq_self_eq_true] at e
    rw [h]; exact e
  · have hb : (y == x) = false := by simpa using q
    simp only [List.lookup, hb] at e
    exact h' y u e
theorem St.set3 {σ : St} {m r : Addr} {x y o : AO} (h : r ≠ m) : ((σ.set m x).set r o).set m y = (σ.set m y).set r o := by
  rw [St.set_comm _ _ _ h, St.set_set]
end SL

end
section
open PySem PySem.W PyProof.Rows PySem.Calls
namespace SL
section
variable {X : Cx} {A : Around} {env : Env} {L : Addr} {fr : Fm} {σ σf : St} {E : Value → Shared → Prop}

theorem take_succ_get {α : Type} {xs : List α} {i : Nat} {x : α} (h : xs[i]? = some x) : xs.take (i + 1) = xs.take i ++ [x] := by
  rw [List.take_add_one, h]; rfl
theorem WBlock.fm {elt target iter : Expr} {ifs : List Expr} {scope : Scope} {pos : Pos} {cl : List (Str × Addr)} {x : PV} {xs : List PV} {P : St → Prop} {o : Nat → Addr → AO} {Q : PV → Fm → St → Prop}
    (hh : A.handled = none) (S : SrcOf X A x xs P o) (g : PV → Option PV) (hlet : ∀ it, LetOk X A target it (fun i => o i it)) (hPσ : P σ) (hlen : xs.length ≤ sizeLine)
    (turn : ∀ L' cm x, x ∈ xs → (∀ a o, σ a = some o → a < L') → WAsg X A (cEnv scope env L' cl) target x [] (addCells σ cm (cellsFrom (L' + 1) scope.names [])) (fun fr₂ σ₂ => WIfs X A (cEnv scope env L' cl) ifs fr₂ σ₂ (fun ok fr₃ σ₃ =>
      if ok = true then WE X A (cEnv scope env L' cl) elt fr₃ σ₃ (fun y fr₄ σ₄ => g x = some y ∧ ∃ cm', (addCells σ cm' (cellsFrom (L' + 1) scope.names [])).le σ₄) NoE
      else g x = none ∧ ∃ cm', (addCells σ cm' (cellsFrom (L' + 1) scope.names [])).le σ₃) NoE) NoE)
    (done : ∀ acc, σ acc = none → acc ≠ env.locals → Weak (fun _ => Q (.ref acc) fr) [] (σ.set acc (.list (xs.filterMap g)))) :
    WIter X A env.locals x fr σ (fun it fr₂ σ₂ => WBlock X A env (.ListComp elt [⟨target, iter, ifs, 0⟩] scope pos) scope cl it fr₂ σ₂ Q) E := by
  have hcs : ∀ {L'}, (∀ a o, σ a = some o → a < L') → ∀ n c, (n, c) ∈ cellsFrom (L' + 1) scope.names [] → σ c = none := fun {L'} h n c hc => by
    cases q : σ c with
    | none => rfl
    | some o => exact absurd (h c o q) (Nat.not_lt.mpr (Nat.le_of_lt (cellsFrom_gt hc)))
  refine WBlock.one hh S (fun L' i ys σ' => (∀ a o, σ a = some o → a < L') ∧ (∃ cm, σ' = addCells σ cm (cellsFrom (L' + 1) scope.names [])) ∧ ys = (xs.take i).filterMap g) hlet ?_ hPσ ?_ ?_ ?_
  · rintro L' i ys _ ⟨h1, ⟨cm, rfl⟩, _⟩
    exact S.mono _ _ (addCells_le (hcs h1)) hPσ
  · exact fun L' h1 h2 => ⟨h1, ⟨_, rfl⟩, rfl⟩
  · rintro L' i x ys _ hx ⟨h1, ⟨cm, rfl⟩, rfl⟩
    intro v hv
    have hlt := (List.getElem?_eq_some_iff.mp hx).1
    refine .mono (turn L' cm x (List.mem_of_getElem? hx) h1 v hv) fun _ fr₂ σ₂ h2 => ?_
    refine .mono h2 fun ok fr₃ σ₃ h3 => ?_
    cases ok with
    | true =>
      simp only [if_true] at h3 ⊢
      refine .mono h3 fun y fr₄ σ₄ ⟨g1, cm', g2⟩ => ⟨?_, [], _, Fm.nil_le _, g2, h1, ⟨cm', rfl⟩, ?_⟩
      · refine Nat.le_trans (List.length_filterMap_le ..) (Nat.le_trans ?_ hlen)
        simp; lia
      · rw [take_succ_get hx, List.filterMap_append]
        simp [g1]
    | false =>
      simp only [Bool.false_eq_true, if_false] at h3 ⊢
      obtain ⟨g1, cm', g2⟩ := h3
      refine ⟨[], _, Fm.nil_le _, g2, h1, ⟨cm', rfl⟩, ?_⟩
      rw [take_succ_get hx, List.filterMap_append]
      simp [g1]
  · rintro L' ys _ ⟨h1, ⟨cm, rfl⟩, rfl⟩ acc hacc hne
    rw [List.take_length]
    have h2 : σ acc = none := by
      cases q : σ acc with
      | none => rfl
      | some o => have := addCells_le (cm := cm) (hcs h1) _ _ q; rw [hacc] at this; cases this
    obtain ⟨fr', σ', l1, l2, l3⟩ := done acc h2 hne
    exact ⟨fr', σ', l1, St.le_trans l2 (St.le_sets (addCells_le (hcs h1))), l3⟩
theorem WBlock.fm0 {elt target iter : Expr} {ifs : List Expr} {scope : Scope} {pos : Pos} {cl : List (Str × Addr)} {x : PV} {xs : List PV} {P : St → Prop} {o : Nat → Addr → AO} {Q : PV → Fm → St → Prop}
    (hh : A.handled = none) (S : SrcOf X A x xs P o) (g : PV → Option PV) (hlet : ∀ it, LetOk X A target it (fun i => o i it)) (hPσ : P σ) (hlen : xs.length ≤ sizeLine) (hnc : ∀ n, cellsFrom n scope.names [] = [])
    (turn : ∀ L' x, x ∈ xs → (∀ a o, σ a = some o → a < L') → WAsg X A (cEnv scope env L' cl) target x [] σ (fun fr₂ σ₂ => WIfs X A (cEnv scope env L' cl) ifs fr₂ σ₂ (fun ok fr₃ σ₃ =>
      if ok = true then WE X A (cEnv scope env L' cl) elt fr₃ σ₃ (fun y fr₄ σ₄ => g x = some y ∧ σ.le σ₄) NoE
      else g x = none ∧ σ.le σ₃) NoE) NoE)
    (done : ∀ acc, σ acc = none → acc ≠ env.locals → Weak (fun _ => Q (.ref acc) fr) [] (σ.set acc (.list (xs.filterMap g)))) :
    WIter X A env.locals x fr σ (fun it fr₂ σ₂ => WBlock X A env (.ListComp elt [⟨target, iter, ifs, 0⟩] scope pos) scope cl it fr₂ σ₂ Q) E := by
  refine WBlock.fm hh S g hlet hPσ hlen (fun L' cm x hx hL => ?_) done
  rw [hnc]
  intro v hv
  refine .mono (turn L' x hx hL v hv) fun _ fr₂ σ₂ h2 => ?_
  refine .mono h2 fun ok fr₃ σ₃ h3 => ?_
  cases ok with
  | true => simp only [if_true] at h3 ⊢; exact .mono h3 fun y fr₄ σ₄ ⟨g1, g2⟩ => ⟨g1, cm, g2⟩
  | false => simp only [Bool.false_eq_true, if_false] at h3 ⊢; exact ⟨h3.1, cm, h3.2⟩
end
end SL
namespace SL
section
variable {X : Cx} {A : Around} {env : Env} {L : Addr} {fr : Fm} {σ σf : St} {E : Value → Shared → Prop}
theorem WS.nextW {st : Stmt} {Q : PF → Fm → St → Prop} (P : Fm → St → Prop) (h : WS X A env st fr σ (fun f fr' σ' => f = .next ∧ Weak P fr' σ') E) (hq : ∀ fr σ, P fr σ → Q .next fr σ) : WS X A env st fr σ Q E :=
  W.weaken (.mono h fun f fr' σ' ⟨h1, h2⟩ => h2.mono fun fr σ p => by
    have := hq fr σ p
    rw [← h1] at this; exact this)
theorem WS.mid {st : Stmt} {Q Q' : PF → Fm → St → Prop} (h : WS X A env st fr σ Q' E) (hq : ∀ f fr σ, Q' f fr σ → Q f fr σ) : WS X A env st fr σ Q E := W.mono h fun f fr' σ' q => hq _ _ _ q
end
end SL

end
section
open PySem PySem.W PyProof.Rows PySem.Calls
namespace SL
section
variable {X : Cx} {A : Around} {L : Addr} {fr : Fm} {σ σf : St} {E : Value → Shared → Prop} {fs : List Env} {s : Shared}

theorem RelF.change {h' : Heap} {σ' : St} (D : List Addr) (R : RelF X fs L σf fr σ s) (keep : ∀ b o, b ∉ D → s.heap.get? b = some o → h'.get? b = some o)
    (old : ∀ b ∈ D, (∃ o ob vs, σ b = some o ∧ s.heap.get? b = some ob ∧ ob.data = .fields vs) ∨ s.heap.objs.size ≤ b)
    (new : ∀ b ∈ D, ∀ o, σ' b = some o → Out X b o ∧ ∃ ob, h'.get? b = some ob ∧ OR X o ob) (same : ∀ b, b ∉ D → ∀ o, σ' b = some o → σ b = some o) : RelF X fs L σf fr σ' { s with heap := h' } := by
  have nL : L ∉ D := fun hL => by
    rcases old L hL with ⟨o, _, _, h, _⟩ | h
    · rw [R.noL] at h; cases h
    · exact absurd R.ltL (Nat.not_lt.mpr h)
  have nf : ∀ b ∈ D, σf b = none := fun b hb => by
    rcases old b hb with ⟨o, _, _, h, _⟩ | h
    · exact R.disj _ _ h
    · exact St.no_of fun o q => absurd (R.rel.lt (a := b) (o := o) ((St.set_ne _ (fun e : b = L => nL (e ▸ hb))).trans (St.un_right R.disj q))) (Nat.not_lt.mpr h)
  have nb : ∀ b ∈ D, X.hb.get? b = none := fun b hb => by
    rcases old b hb with ⟨o, _, _, h, _⟩ | h
    · exact (R.rel.own b o (R.at_ h)).1.1
    · exact (Out.hi (o := .cell none) (Nat.le_trans R.rel.big h)).1
  have nF : ∀ b o, s.heap.get? b = some o → (∀ vs, o.data ≠ .fields vs) → b ∉ D := fun b o g gd hD => by
    rcases old b hD with ⟨_, ob, vs, _, h1, h2⟩ | h
    · rw [h1] at g; cases g; exact gd _ h2
    · exact absurd (Heap.lt_size g) (Nat.not_lt.mpr h)
  have un : ∀ {b o}, b ∉ D → (σ'.un σf) b = some o → (σ.un σf) b = some o := fun hD e => (St.un_cases e).elim (fun e => St.un_of (same _ hD _ e)) (St.un_right R.disj)
  have unL : ∀ {b o}, b ∉ D → ((σ'.un σf).set L (.ns fr)) b = some o → ((σ.un σf).set L (.ns fr)) b = some o := fun {b o} hD e => by
    by_cases q : b = L
    · subst q; rw [St.set_self] at e ⊢; exact e
    · rw [St.set_ne _ q] at e ⊢; exact un hD e
  obtain ⟨⟨_, hL⟩, oL, gL, _⟩ := R.rel.own L _ (St.set_self ..)
  refine ⟨fun a o e => ?_, St.no_of fun o e => Option.some_ne_none o ((un nL e).symm.trans R.free), ⟨fun b o e => keep b o (fun hb => by rw [nb b hb] at e; cases e) (R.rel.keep b o e), fun b o e => ?_, ?_, ?_, R.rel.gens, R.rel.os, fun env he L' hL' o e => ?_⟩⟩
  · by_cases hD : a ∈ D
    · exact nf a hD
    · exact R.disj a o (same a hD o e)
  · by_cases hD : b ∈ D
    · rw [St.set_ne _ (fun q : b = L => nL (q ▸ hD))] at e
      exact new b hD _ ((St.un_cases e).resolve_right fun e => by rw [nf b hD] at e; cases e)
    · obtain ⟨h1, ob, h2, h3⟩ := R.rel.own _ _ (unL hD e)
      exact ⟨h1, ob, keep b ob hD h2, h3⟩
  · exact Nat.le_trans (hL.resolve_right (fun h => nomatch h)) (Nat.le_of_lt (Heap.lt_size (keep L oL nL gL)))
  · exact FF_keep (fun L' o k4 k5 => ⟨o, keep L' o (nF L' o k4 k5) k4, k5⟩) R.rel.frames
  · obtain ⟨ob', g, gd⟩ := FF_at R.rel.frames he hL'
    exact R.rel.nss env he L' hL' o (unL (nF L' ob' g gd) e)
theorem RelF.grow {h' : Heap} (R : RelF X fs L σf fr σ s) (keep : ∀ b o, s.heap.get? b = some o → h'.get? b = some o) : RelF X fs L σf fr σ { s with heap := h' } :=
  R.change [] (fun b o _ => keep b o) (fun _ h => nomatch h) (fun _ h => nomatch h) (fun _ _ _ e => e)

noncomputable def HasTup (X : Cx) (a : Addr) (xs : List PV) (σ : St) : Prop := ∀ fs s, Rel X fs σ s → ∃ vs, s.heap.IsTuple a vs ∧ vs.toList.map abs = xs
theorem HasTup.own {a : Addr} {xs : List PV} (h : σ a = some (.tuple xs)) : HasTup X a xs σ := fun fs s R => by
  obtain ⟨_, ob, h1, vs, n, rfl, h2⟩ := R.own a _ h
  exact ⟨vs, ⟨_, h1, rfl, n, rfl⟩, h2⟩
theorem HasTup.base {a : Addr} {xs : List PV} {vs : Array Value} {n : Nat} (h : X.K.lookup a = some ⟨.type "tuple", none, .seq vs n, #[]⟩) (hx : vs.toList.map abs = xs) : HasTup X a xs σ := fun fs s R => ⟨vs, ⟨_, R.KI _ _ h, rfl, n, rfl⟩, hx⟩
theorem HasTup.mono {a : Addr} {xs : List PV} {τ : St} (h : HasTup X a xs σ) (hl : σ.le τ) : HasTup X a xs τ := fun fs s R => h fs s (R.less hl)
theorem HasTup.isTup {h : Heap} {a : Addr} {vs : Array Value} (x : h.IsTuple a vs) : IsTup h a vs := x

theorem srcOf_tup {l : Addr} {xs : List PV} (hh : A.handled = none) : SrcOf X A (.ref l) xs (HasTup X l xs) (fun i _ => .it "tuple_iterator" [.ref l, .int i 0]) where
  mono := fun σ τ h hl => hl.mono h
  start := fun L fr σ hl Q E h v hv σf s R => by
    obtain rfl := abs_ref hv
    obtain ⟨vs, ho, hu⟩ := hl _ _ R.own
    exact wpAny_pyIter_tuple ho ⟨fr, _, R.pushIt (T := "tuple_iterator") (vs := [.ref l, .int 0 0]), h _ R.fresh (Nat.ne_of_gt R.ltL)⟩
  src := fun it => {
    again := fun L fr σ Q hit hl hq σf s R => by
      obtain ⟨oi, g1, g2, g3⟩ := R.it (St.set_self ..)
      exact wpAny_pyIter_tupleiter ⟨oi, g1, g2, g3⟩ ⟨fr, _, R, hq⟩
    item := fun L i x fr σ Q hx hit hl hq σf s R => by
      obtain ⟨vs, ho, hu⟩ := hl _ _ (R.own.less (St.le_set hit))
      obtain ⟨v, hv, hva⟩ := get_of_map hu hx
      obtain ⟨oi, g1, g2, g3⟩ := R.it (St.set_self ..)
      refine wpAny_pyNext_tuple_item ⟨oi, g1, g2, g3⟩ ho hv fun h' hi hsb => ?_
      obtain ⟨o', k1, k2, k3⟩ := hi
      refine ⟨fr, _, R.updIt (St.set_self ..) hsb k1 k2 (vs' := [.ref l, .int (i + 1 : Nat) 0]) k3, by rw [St.set_set]; exact hq v hva⟩
    stop := fun L fr σ Q hit hl hq σf s R => by
      obtain ⟨vs, ho, hu⟩ := hl _ _ (R.own.less (St.le_set hit))
      obtain ⟨oi, g1, g2, g3⟩ := R.it (St.set_self ..)
      refine wpAny_pyNext_tuple_end hh ⟨oi, g1, g2, g3⟩ ho ?_ fun h' hx => ?_
      · rw [← hu]; simp
      · exact ⟨fr, _, R.ext (St.set_self ..) hx, by rw [St.set_del hit]; exact hq⟩ }
theorem WI.tup {value slice : Expr} {a : Addr} {xs : List PV} {i : Int} {x : PV} {Q : PV → Fm → St → Prop} (h : HasTup X a xs σ) (k : Nat) (he : i = k) (hk : k < 2 ^ 60) (hx : xs[k]? = some x) (hq : Q x fr σ)
    (hs : ∀ u, subscripted slice false (.ref a) (.int i u) = PySem.operate [.ref a, .int i u] (getItem (.ref a) (.int i u))) : WI X A L value slice (.ref a) (.int i) fr σ Q E := by
  subst he
  intro v w hv hw; obtain rfl := abs_ref hv; obtain ⟨u, rfl⟩ := abs_int hw
  intro σf s R
  obtain ⟨vs, ho, hu⟩ := h _ _ R.own
  obtain ⟨y, hy, rfl⟩ := get_of_map hu hx
  have hlt : k < vs.size := (Array.getElem?_eq_some_iff.mp hy).1
  obtain ⟨ob, h1, h2, n, h3⟩ := id ho
  refine tail_any ⟨ob, h1, h2⟩ slot_tuple_getitem.lookup (getItem_tuple (HasTup.isTup ho) (by lia) (by lia) (j := k) ?_ hy ⟨_, _, R, hq⟩) (hs u)
  exact seqIndex_pos (by simpa using hlt) (Int.natCast_nonneg k)
end

section
variable {X : Cx} {A : Around} {env : Env} {fr : Fm} {σ : St} {E : Value → Shared → Prop}
noncomputable def WEach (X : Cx) (A : Around) (env : Env) (ts : List Expr) (xs : List PV) (fr : Fm) (σ : St) (Q : Fm → St → Prop) (E : Value → Shared → Prop) : Prop :=
  ∀ vs : List Value, vs.map abs = xs → W X A env.locals (assignInOrder ((assignEach ts env).map (·.2)) vs) fr σ (fun _ => Q) E
theorem WEach.nil {Q : Fm → St → Prop} (h : Q fr σ) : WEach X A env [] [] fr σ Q E := fun vs hv σf s R => assignInOrder_nil ⟨_, _, R, h⟩
theorem WEach.cons {t : Expr} {ts : List Expr} {x : PV} {xs : List PV} {Q : Fm → St → Prop} (he : assignEach (t :: ts) env = (false, assign t env) :: assignEach ts env)
    (h : WAsg X A env t x fr σ (fun fr₁ σ₁ => WEach X A env ts xs fr₁ σ₁ Q E) E) : WEach X A env (t :: ts) (x :: xs) fr σ Q E := fun vs hv σf s R => by
  obtain ⟨v, r, rfl, h1, h2⟩ := List.map_eq_cons_iff.mp hv
  rw [he]
  exact assignInOrder_cons (W.go (h v h1) R (fun _ s₁ _ _ R₁ h₁ => h₁ r h2 σf s₁ R₁))
theorem WAsg.tup {elts : List Expr} {k : Nat} {pos : Pos} {a : Addr} {xs : List PV} {Q : Fm → St → Prop} (hh : A.handled = none) (ht : HasTup X a xs σ) (hn : (assignEach elts env).length = xs.length) (hstar : (assignEach elts env).findIdx? (·.1) = none)
    (h : WEach X A env elts xs fr σ Q E) : WAsg X A env (.Tuple elts k pos) (.ref a) fr σ Q E := fun v hv σf s R => by
  obtain rfl := abs_ref hv
  obtain ⟨vs, ho, hu⟩ := ht _ _ R.own
  refine wpAny_assign_Tuple hh ho (by rw [hn, ← hu]; simp) hstar fun h' he => ?_
  exact h vs.toList hu σf _ (R.grow fun b o e => he b o (Nat.ne_of_lt (Heap.lt_size e)) e)
end
end SL

end
section
open PySem PySem.W PyProof.Rows PySem.Calls
namespace SL
noncomputable def tupO : Obj := { cls := .type "tuple", data := .seq #[] }
noncomputable def stopO (T : Addr) : Obj := { cls := .type "StopIteration", data := .fields (#[.ref T, .none, .none, .none, .bool false, .none] ++ ownMembersOf (.type "StopIteration") []) }
theorem raise_stop {α : Type} {M : Model} {A : Around} {Q : α → Shared → Prop} {E : Value → Shared → Prop} {s : Shared} (hh : A.handled = none) (h : E (.ref (s.heap.push tupO).objs.size) { s with heap := (s.heap.push tupO).push (stopO s.heap.objs.size) }) :
    wpAny M A (newExc (.type "StopIteration") [] >>= fun e => (raiseNew e : Sem α)) Q E s := by
  refine wpAny_bind ?_
  simp only [newExc, newTuple]
  refine wpAny_bind (wpAny_newObj_type ?_ (by size_fits))
  refine wpAny_bind (m := firstArgMember _ _) (wpAny_of_eq (a := Value.none) (by first | rfl | (simp only [firstArgMember]; rfl)) ?_)
  refine wpAny_newObj_type ?_ (by size_fits)
  simp only [raiseNew]
  refine wpAny_bind (wpAny_handled ?_)
  rw [hh]
  refine wpAny_bind (wpAny_pure (wpAny_throw ?_))
  exact h
open AutoSeq1 (wpAny_loadPart')

set_option maxHeartbeats 1000000 in
set_option tactic.hygienic true in
theorem meets_enum_tup (l : Addr) (items : Array Value) (n : Nat) (dct : Option Addr) (sl : Array (Option Value)) :
    Meets (Builtin.«enumerate.__new__» ⟨[.type "enumerate", .ref l], []⟩) (fun _ R s => s.heap.get? l = some { cls := .type "tuple", dict := dct, data := .seq items n, slots := sl } ∧
      R (.ok (.ret (.ref (s.heap.push { cls := .type "tuple_iterator", data := .fields #[.ref l, .int 0 0] }).objs.size)))
        { s with heap := (s.heap.push { cls := .type "tuple_iterator", data := .fields #[.ref l, .int 0 0] }).push { cls := .type "enumerate", data := .fields #[.none, .bool false, .ref s.heap.objs.size, rawInt 0, .none, .none] } }) :=
  .of_wp fun prog w A R s h => by
    obtain ⟨hp, g, d, tk, os⟩ := s; obtain ⟨hl, h⟩ := h
    have hsub := sub_enumerate
    have hL : Heap.IsTuple (Shared.heap ⟨hp, g, d, tk, os⟩) l items := ⟨_, hl, rfl, n, rfl⟩
    wp_walk using wpAny_loadPart' hl
    refine wpAny_stack_any fun st => wpAny_pure ?_
    split
    · rename_i c _ _ _ _ _
      cases (c == Value.type "enumerate")
      · wp_walk using wpAny_loadPart' hl, wpAny_pyIter_tuple hL
        exact ⟨_, rfl, h⟩
      · wp_walk using wpAny_loadPart' hl, wpAny_pyIter_tuple hL
        exact ⟨_, rfl, h⟩
    · wp_walk using wpAny_loadPart' hl, wpAny_pyIter_tuple hL
      exact ⟨_, rfl, h⟩

section
variable {prog : Program} {w : World} {A : Around} {E : Value → Shared → Prop} {s : Shared}
theorem nextOf_tup_item {it l : Addr} {i : Nat} {items} {x : Value} {Q : Value → Shared → Prop} (hit : s.heap.IsTupleIter it l i)
    (hl : s.heap.IsTuple l items) (hx : items[i]? = some x) (hQ : ∀ h', h'.IsTupleIter it l (i + 1) → Heap.SameBut it s.heap h' → Q x { s with heap := h' }) :
    wpAny (model prog w) A (Builtin.SmallTypes.nextOf (.ref it)) Q E s := by
  obtain ⟨o, ho, hc, hd⟩ := id hit
  obtain ⟨ol, hol, _, nl, hdl⟩ := hl
  unfold Builtin.SmallTypes.nextOf
  refine wpAny_bind (wpAny_callSpecial?_slot (name := Str.ofString "__next__") hit.typeIs F.slot_tuple_iterator_next
    (wpAny_call_entry F.slot_tuple_iterator_next hit.typeIs F.entry_tuple_iterator_next ?_ (F.args_tuple_iterator_next_1 _)))
  show wpAny _ _ (field (.ref it) 0 >>= _) _ _ s
  refine wpAny_bind (wpAny_field ho hd (x := .ref l) rfl ?_)
  show wpAny _ _ (if (Value.ref l == Value.none) = true then _ else _) _ _ s
  rw [if_neg (show ¬ ((Value.ref l == Value.none) = true) from Bool.false_ne_true)]
  show wpAny _ _ (field (.ref it) 1 >>= _) _ _ s
  refine wpAny_bind (wpAny_field ho hd (x := .int i 0) rfl ?_)
  show wpAny _ _ (seqItems? (.ref l) >>= _) _ _ s
  refine wpAny_bind (wpAny_seqItems hol hdl ?_)
  simp only [Int.toNat_natCast, hx]
  refine wpAny_bind (wpAny_setField ho hd (by simp) (wpAny_pure ⟨x, rfl, wpAny_pure (hQ _ ?_ (Heap.SameBut.update ..))⟩))
  exact ⟨_, Heap.get?_update_self _ ho (Obj.isFreed_of_fields (Obj.data_mapFields hd _)), (Obj.cls_mapFields ..).trans hc, by
    rw [Obj.data_mapFields hd]; simp [rawInt]⟩
theorem nextOf_tup_end {it l : Addr} {i : Nat} {items} {Q : Value → Shared → Prop} (hh : A.handled = none)
    (hit : s.heap.IsTupleIter it l i) (hl : s.heap.IsTuple l items) (hx : items[i]? = none)
    (hE : ∀ h' e, Heap.ExtBut it s.heap h' → (∃ o, h'.get? e = some o ∧ o.cls = .type "StopIteration") → E (.ref e) { s with heap := h' }) :
    wpAny (model prog w) A (Builtin.SmallTypes.nextOf (.ref it)) Q E s := by
  obtain ⟨o, ho, hc, hd⟩ := id hit
  obtain ⟨ol, hol, _, nl, hdl⟩ := hl
  unfold Builtin.SmallTypes.nextOf
  refine wpAny_bind (wpAny_callSpecial?_slot (name := Str.ofString "__next__") hit.typeIs F.slot_tuple_iterator_next
    (wpAny_call_entry F.slot_tuple_iterator_next hit.typeIs F.entry_tuple_iterator_next ?_ (F.args_tuple_iterator_next_1 _)))
  show wpAny _ _ (field (.ref it) 0 >>= _) _ _ s
  refine wpAny_bind (wpAny_field ho hd (x := .ref l) rfl ?_)
  show wpAny _ _ (if (Value.ref l == Value.none) = true then _ else _) _ _ s
  rw [if_neg (show ¬ ((Value.ref l == Value.none) = true) from Bool.false_ne_true)]
  show wpAny _ _ (field (.ref it) 1 >>= _) _ _ s
  refine wpAny_bind (wpAny_field ho hd (x := .int i 0) rfl ?_)
  show wpAny _ _ (seqItems? (.ref l) >>= _) _ _ s
  refine wpAny_bind (wpAny_seqItems hol hdl ?_)
  simp only [Int.toNat_natCast, hx]
  refine wpAny_bind (wpAny_rule (wpAny_bind (wpAny_setField ho hd (by simp) ?_)))
  exact raise_stop (A := A.in1) hh (hE _ _ (((Heap.SameBut.update ..).extBut.push _).push _) ⟨_, Heap.get?_push_size _ rfl, rfl⟩)
theorem drawsTup (hh : A.handled = none) (it l : Addr) (hne : l ≠ it) (items : Array Value) :
    Draws prog w A it [it, l] items.size (fun i v => items[i]? = some v) (fun i h => h.IsTupleIter it l i ∧ h.IsTuple l items) where
  live := fun _ _ st => let ⟨o, ho, _⟩ := st.1; ⟨o, ho⟩
  frame := fun _ _ _ st hk => ⟨let ⟨o, ho, r⟩ := st.1; ⟨o, hk it (by simp) o ho, r⟩, let ⟨o, ho, r⟩ := st.2; ⟨o, hk l (by simp) o ho, r⟩⟩
  item := fun i s Q E hi st hQ => by
    refine nextOf_tup_item st.1 st.2 (x := items[i]) (by simp [hi]) fun h' hit' hs' => ?_
    exact hQ _ h' s.toks (by simp [hi]) ⟨hit', st.2.extBut hs'.extBut hne⟩ hs'
  done := fun s Q E st hE => nextOf_tup_end hh st.1 st.2 (by simp) hE
end

noncomputable def enumO (it : Addr) (i : Int) (old : Value) : AO := .raw { cls := .type "enumerate", dict := none, data := .fields #[.none, .bool false, .ref it, rawInt i, .none, old], slots := #[] }
section
variable {X : Cx} {A : Around} {env : Env} {L : Addr} {fr : Fm} {σ σf : St} {E : Value → Shared → Prop}
theorem WC.enumTup {l : Addr} {xs : List PV} {Q : PV → Fm → St → Prop} (h : HasTup X l xs σ)
    (hq : ∀ it e, σ it = none → it ≠ L → σ e = none → e ≠ L → it ≠ e → l ≠ it → l ≠ e → Q (.ref e) fr ((σ.set it (.it "tuple_iterator" [.ref l, .int 0 0])).set e (enumO it 0 .none))) : WC X A L (.type "enumerate") [.ref l] fr σ Q E := by
  intro fv vs hf hv; obtain rfl := abs_type hf
  obtain ⟨v1, rfl, hv1⟩ := args1 hv
  obtain rfl := abs_ref hv1
  intro σf s R
  obtain ⟨us, ⟨⟨c, dct, dt, sl⟩, hl, hc, n, hd⟩, hu⟩ := h _ _ R.own
  replace hc : c = .type "tuple" := hc
  replace hd : dt = .seq us n := hd
  subst hc hd
  refine callType_new F.called_enumerate (by decide) (F.typeCall_enumerate_1 _) (F.newCall_enumerate_1 _) (fun obj => F.args_object_init_2 obj _) F.entry_enumerate_new
    (meets_enum_tup l us n dct sl) ⟨hl, ?_⟩
  have hz : (s.heap.push { cls := .type "tuple_iterator", data := .fields #[.ref l, .int 0 0] }).objs.size = s.heap.objs.size + 1 := Heap.size_push ..
  have R1 := R.pushIt (T := "tuple_iterator") (vs := [.ref l, .int 0 0])
  have R2 := R1.push (o := enumO s.heap.objs.size 0 .none) (ob := { cls := .type "enumerate", data := .fields #[.none, .bool false, .ref s.heap.objs.size, rawInt 0, .none, .none] }) rfl rfl
  have f1 := R1.fresh
  refine ⟨⟨_, Heap.get?_push_size _ rfl, rfl⟩, fr, _, R2, hq _ _ R.fresh (Nat.ne_of_gt R.ltL) (St.set_none.mp f1).2 (Nat.ne_of_gt R1.ltL) (Ne.symm (St.set_none.mp f1).1) (Nat.ne_of_lt (Heap.lt_size hl)) (Nat.ne_of_lt (Nat.lt_of_lt_of_le (Heap.lt_size hl) (by rw [hz]; exact Nat.le_succ _)))⟩

theorem WIter.enum {it e : Addr} {i : Int} {old : Value} {Q : Value → Fm → St → Prop} (h : σ e = some (enumO it i old)) (hq : Q (.ref e) fr σ) : WIter X A L (.ref e) fr σ Q E := by
  intro v hv σf s R
  obtain rfl := abs_ref hv
  exact wpAny_pyIter_enum (R.raw h) ⟨fr, _, R, hq⟩

noncomputable abbrev tiO (l : Addr) (i : Nat) : AO := .it "tuple_iterator" [.ref l, .int (i : Nat) 0]
noncomputable abbrev enR (a it : Addr) (i : Int) (y : Value) : AO := .raw { cls := .type "enumerate", dict := none, data := .fields #[rawInt a, .bool false, .ref it, rawInt i, .none, y], slots := #[] }
theorem W.enumStop {e it l : Addr} {xs : List PV} {old : Value} {Q : Option Value → Fm → St → Prop} (hh : A.handled = none) (hl : l ≠ it) (hne : it ≠ e) (ht : HasTup X l xs σ) (hit : σ it = none) (he : σ e = none) (hq : Q none fr σ) :
    W X A L (pyNext (.ref e)) fr ((σ.set it (tiO l xs.length)).set e (enumO it (xs.length : Nat) old)) Q NoE := fun σf s R => by
  have hle1 := St.le_trans (St.le_set (o := tiO l xs.length) hit) (St.le_set (o := enumO it (xs.length : Nat) old) (St.set_none.mpr ⟨Ne.symm hne, he⟩))
  have atIt := (St.set_ne (enumO it (xs.length : Nat) old) hne).trans (St.set_self σ it (tiO l xs.length))
  obtain ⟨us, ho, hu⟩ := ht _ _ (R.own.less hle1)
  have hsz : us.size = xs.length := by rw [← hu]; simp
  obtain ⟨oi, g1, g2, g3⟩ := R.it atIt
  refine wpAny_pyNext_enum_endD (drawsTup (A := A.in1) hh it l hl us) (R.raw (St.set_self ..)) (by rw [hsz]; exact ⟨⟨oi, g1, g2, g3⟩, ho⟩) fun h' hx => ?_
  refine ⟨fr, σ, R.change (h' := h') [it] (fun b o hb e => hx b o (fun q => hb (List.mem_singleton.mpr q)) e) (fun b hb => ?_) (fun b hb o e => ?_) (fun b hb o e => hle1 b o e), hq⟩
  · rw [List.mem_singleton.mp hb]; exact .inl ⟨_, oi, _, atIt, g1, g3⟩
  · rw [List.mem_singleton.mp hb, hit] at e; cases e
theorem W.enumItem {e it l : Addr} {xs : List PV} {i : Nat} {x : PV} {old : Value} {Q : Option Value → Fm → St → Prop} (hh : A.handled = none) (hl : l ≠ it) (hle : l ≠ e) (hne : it ≠ e) (ht : HasTup X l xs σ) (hit : σ it = none) (he : σ e = none) (hx : xs[i]? = some x)
    (hq : ∀ a y, a ≠ it → a ≠ e → σ a = none → Q (some (.ref a)) fr (((σ.set a (.tuple [.int i, x])).set it (tiO l (i + 1))).set e (enR a it ((i : Int) + 1) y))) :
    W X A L (pyNext (.ref e)) fr ((σ.set it (tiO l i)).set e (enumO it (i : Nat) old)) Q NoE := fun σf s R => by
  have hle1 := St.le_trans (St.le_set (o := tiO l i) hit) (St.le_set (o := enumO it (i : Nat) old) (St.set_none.mpr ⟨Ne.symm hne, he⟩))
  have atIt := (St.set_ne (enumO it (i : Nat) old) hne).trans (St.set_self σ it (tiO l i))
  obtain ⟨us, ho, hu⟩ := ht _ _ (R.own.less hle1)
  have hsz : us.size = xs.length := by rw [← hu]; simp
  have hlt : i < us.size := hsz ▸ (List.getElem?_eq_some_iff.mp hx).1
  obtain ⟨oi, g1, g2, g3⟩ := R.it atIt
  have gE := R.raw (St.set_self ..)
  have hT := R.fresh
  have hTe := (St.set_none.mp hT).1
  have hTi := (St.set_none.mp (St.set_none.mp hT).2).1
  refine wpAny_pyNext_enum_itemD (drawsTup (A := A.in1) hh it l hl us) gE ⟨⟨oi, g1, g2, g3⟩, ho⟩ hlt (Ne.symm hne) (by simp [Ne.symm hne, Ne.symm hle]) fun y h' tk hy ke kst kt ksz kk => ?_
  obtain ⟨o2, m1, m2, m3⟩ := kst.1
  obtain ⟨v, hv, hva⟩ := get_of_map hu hx
  obtain rfl : v = y := Option.some.inj (hv.symm.trans hy)
  have hbe := (R.rel.own e _ (R.at_ (St.set_self ..))).1.2.resolve_right (fun h => nomatch h)
  have hbi := (R.rel.own it _ (R.at_ atIt)).1.2.resolve_right (fun h => nomatch h)
  refine ⟨fr, _, (R.change (h' := h') [e, it, s.heap.objs.size] (fun b o hb q => kk b o (fun z => hb (by simp [z])) (fun z => hb (by simp [z])) q) ?_ ?_ (fun b hb o q => ?_)).toks (tk + 1), hq _ v hTi hTe (St.set_none.mp (St.set_none.mp hT).2).2⟩
  · refine List.forall_mem_cons.mpr ⟨.inl ⟨_, _, _, St.set_self .., gE, rfl⟩, List.forall_mem_cons.mpr ⟨.inl ⟨_, oi, _, atIt, g1, g3⟩, List.forall_mem_cons.mpr ⟨.inr (Nat.le_refl _), fun b h => nomatch h⟩⟩⟩
  · refine List.forall_mem_cons.mpr ⟨fun o q => ?_, List.forall_mem_cons.mpr ⟨fun o q => ?_, List.forall_mem_cons.mpr ⟨fun o q => ?_, fun b h => nomatch h⟩⟩⟩
    · rw [St.set_self] at q; cases q; exact ⟨.hi hbe, _, ke, rfl⟩
    · rw [St.set_ne _ hne, St.set_self] at q; cases q; exact ⟨.hi hbi, o2, m1, m2, m3⟩
    · rw [St.set_ne _ hTe, St.set_ne _ hTi, St.set_self] at q; cases q
      exact ⟨.hi R.rel.big, _, kt, #[.int i tk, v], 0, rfl, by show [PV.int i, abs v] = _; rw [hva]⟩
  · simp only [List.mem_cons, List.not_mem_nil, or_false, not_or] at hb
    rw [St.set_ne _ hb.1, St.set_ne _ hb.2.1, St.set_ne _ hb.2.2] at q
    rw [St.set_ne _ hb.1, St.set_ne _ hb.2.1]; exact q
theorem W.enumLet {e a it : Addr} {elts : List Expr} {k : Nat} {p : Pos} {i : Int} {y : Value} {Q : Unit → Fm → St → Prop} (hq : Q () fr (σ.set e (enumO it i y))) :
    W X A L (letOwnedTupleGo (.Tuple elts k p) (.ref e) (.ref a)) fr (σ.set e (enR a it i y)) Q NoE := fun σf s R =>
  wpAny_letOwnedTupleGo_enum (R.raw (St.set_self ..)) fun h2 hen hsb => ⟨fr, _, R.updF (o := enumO it i y) (St.set_self ..) hsb (R.raw (St.set_self ..)) hen rfl (fun q => absurd rfl (q _)), by rw [St.set_set]; exact hq⟩
inductive EnInv (it e l : Addr) (len : Nat) (J : Nat → Fm → St → Prop) (n : Nat) (fr : Fm) : St → Prop
  | mk (i : Nat) (σ : St) (old : Value) (hi : i + n = len) (hit : σ it = none) (he : σ e = none) (hJ : J i fr σ) : EnInv it e l len J n fr ((σ.set it (tiO l i)).set e (enumO it (i : Nat) old))
theorem EnInv.next {it e l : Addr} {len : Nat} {J : Nat → Fm → St → Prop} {n i : Nat} {fr : Fm} {σ : St} {y : Value} (hi : i + n = len) (hit : σ it = none) (he : σ e = none) (h : Weak (J i) fr σ) : Lss (EnInv it e l len J) (n + 1) fr ((σ.set it (tiO l i)).set e (enumO it (i : Nat) y)) :=
  ⟨n, Nat.lt_succ_self n, h.casesOn fun fr' σ' h1 h2 h3 => ⟨fr', _, h1, St.le_sets (St.le_sets h2), .mk i σ' y hi (h2.no hit) (h2.no he) h3⟩⟩

theorem WFor.enum {e it l : Addr} {xs : List PV} {elts : List Expr} {k : Nat} {p : Pos} {body orelse : List Stmt} {Q : PF → Fm → St → Prop} (hh : A.handled = none) (J : Nat → Fm → St → Prop)
    (hP : ∀ i fr σ, J i fr σ → HasTup X l xs σ) (hl : l ≠ it) (hle : l ≠ e) (h0 : J 0 fr σ) (hit : σ it = none) (he : σ e = none) (hne : it ≠ e)
    (turn : ∀ i x fr σ a, xs[i]? = some x → J i fr σ → σ a = none → WAsg X A env (.Tuple elts k p) (.ref a) fr (σ.set a (.tuple [.int i, x])) (fun fr₂ σ₂ => WB X A env body fr₂ σ₂ (BodyEnd (J (i + 1)) Q) NoE) NoE)
    (done : ∀ fr σ, J xs.length fr σ → WB X A env orelse fr σ Q NoE) :
    WFor X A env (.Tuple elts k p) (.ref e) body orelse fr ((σ.set it (tiO l 0)).set e (enumO it 0 .none)) Q E := by
  refine W.keepLess (W.forLoop (Q := fun f fr' σ' => ∃ σ'', St.le σ'' σ' ∧ Q f fr' σ'') hh (EnInv it e l xs.length J) (fun n fr' σ' hI => ?_) xs.length (.mk 0 σ .none (Nat.zero_add _) hit he h0))
  cases hI with | mk i σ₁ old hi hit₁ he₁ hJ =>
  cases n with
  | zero =>
    obtain rfl : i = xs.length := hi
    exact W.enumStop hh hl hne (hP _ _ _ hJ) hit₁ he₁ (.mono (done _ _ hJ) fun f fr₂ σ₃ q => ⟨σ₃, St.le_refl _, q⟩)
  | succ n =>
    have hx := List.getElem?_eq_getElem (l := xs) (i := i) (by lia)
    refine W.enumItem hh hl hle hne (hP _ _ _ hJ) hit₁ he₁ hx fun a y hai hae ha => ?_
    refine .bind (W.enumLet ?_)
    have hi3 : ∀ {o}, (σ₁.set a o) it = none := St.set_none.mpr ⟨Ne.symm hai, hit₁⟩
    refine W.frame (St.set_none.mpr ⟨Ne.symm hne, St.set_none.mpr ⟨Ne.symm hae, he₁⟩⟩) (W.frame hi3 (.mono (turn i _ _ σ₁ a hx hJ ha _ rfl) fun _ fr₂ σ₂ g k1 k2 => ?_))
    refine W.frame k2 (W.frame k1 (.mono g fun f fr₃ σ₃ g k3 k4 => ?_))
    have k5 := (St.set_none.mp k4).2
    cases f with
    | next => exact EnInv.next (by lia) k3 k5 g
    | cont => exact EnInv.next (by lia) k3 k5 g
    | brk => exact ⟨σ₃, St.le_trans (St.le_set k3) (St.le_set k4), g⟩
    | ret v => exact ⟨σ₃, St.le_trans (St.le_set k3) (St.le_set k4), g⟩
end
end SL

end
section
open PySem PySem.W PyProof.Rows PySem.Calls
namespace SL
noncomputable abbrev sL (ts : List Str) : List PV := ts.map .str
theorem strs_of : ∀ {vs : List Value} {ts : List Str}, vs.map abs = sL ts → ∃ l : List (Str × Tok), vs = strValues l ∧ l.map (·.1) = ts
  | [], [], _ => ⟨[], rfl, rfl⟩
  | [], _ :: _, h => nomatch h
  | _ :: _, [], h => nomatch h
  | v :: vs, t :: ts, h => by
    have h1 := (List.cons.inj h).1
    have h2 := (List.cons.inj h).2
    obtain ⟨tk, rfl⟩ := abs_str h1
    obtain ⟨l, rfl, rfl⟩ := strs_of h2
    exact ⟨(t, tk) :: l, rfl, rfl⟩
section
variable {X : Cx} {A : Around} {env : Env} {L : Addr} {fr : Fm} {σ σf : St} {E : Value → Shared → Prop}
theorem WB.from {sts : List Stmt} {fr' : Fm} {σ' : St} {Q : PF → Fm → St → Prop} (h1 : fr'.le fr) (h2 : σ'.le σ) (h : WB X A env sts fr' σ' Q E) : WB X A env sts fr σ Q E := W.from h1 h2 h
theorem WM.append {a : Addr} {xs : List PV} {Q : PV → List PV → Fm → St → Prop} (h : σ a = some (.list xs)) (hq : Q (.builtin "list.append") [.ref a] fr σ) : WM X A L (.ref a) "append" fr σ Q E := .list h F.slot_list_append F.type_list_append hq
theorem WM.pop {a : Addr} {xs : List PV} {Q : PV → List PV → Fm → St → Prop} (h : σ a = some (.list xs)) (hq : Q (.builtin "list.pop") [.ref a] fr σ) : WM X A L (.ref a) "pop" fr σ Q E := .list h F.slot_list_pop F.type_list_pop hq
theorem WM.clear {a : Addr} {xs : List PV} {Q : PV → List PV → Fm → St → Prop} (h : σ a = some (.list xs)) (hq : Q (.builtin "list.clear") [.ref a] fr σ) : WM X A L (.ref a) "clear" fr σ Q E := .list h F.slot_list_clear F.type_list_clear hq
theorem WM.join {x : Str} {Q : PV → List PV → Fm → St → Prop} (hq : Q (.builtin "str.join") [.str x] fr σ) : WM X A L (.str x) "join" fr σ Q E := by
  intro v pl hv; obtain ⟨t, rfl⟩ := abs_str hv
  exact fun σf s R => GM.join ⟨_, _, R, hq⟩
theorem WC.join {x : Str} {a : Addr} {ts : List Str} {Q : PV → Fm → St → Prop} (h : σ a = some (.list (sL ts))) (hok : JoinOk x ts = true) (hq : Q (.str (Txt.join x ts)) fr σ) : WC X A L (.builtin "str.join") [.str x, .ref a] fr σ Q E := by
  intro fv vs hf hv; obtain rfl := abs_builtin hf
  obtain ⟨v1, v2, rfl, hv1, hv2⟩ := args2 hv
  obtain ⟨t, rfl⟩ := abs_str hv1
  obtain rfl := abs_ref hv2
  intro σf s R
  obtain ⟨us, n, ho, hu, hs⟩ := R.list h
  obtain ⟨l, hl, ht⟩ := strs_of hu
  refine SC.join (l := l) (by rw [← hl]; simpa using isList_of ho) ht hok fun t' k => ⟨_, _, R.toks _, hq⟩
theorem joinOk_small {x : Str} {ts : List Str} (B : Nat) (hB : ∀ y ∈ ts, y.length ≤ B) (h : ts.length * B + ts.length * x.length ≤ 16777216) : JoinOk x ts = true := by
  unfold JoinOk
  rw [StrLaws.joinFits hB h]; rfl
end
end SL

end
section
open PySem PySem.W PyProof.Rows PySem.Calls
namespace SL

theorem getL_keys {es : List DictEntry} (h : StrKeys es.toArray) (name : Str) : getL name es = some (nsFind es.toArray name) := by
  unfold getL nsFind findBy
  have hno : es.any (·.refKey) = false := by
    rw [Bool.eq_false_iff]
    intro hh
    obtain ⟨e, he, hr⟩ := List.any_eq_true.mp hh
    obtain ⟨n, t, hk⟩ := h e (by simpa using he)
    unfold DictEntry.refKey at hr
    rw [hk] at hr
    cases hr
  rw [hno]
  simp only [List.find?_toArray]
  cases es.find? (fun x => x.key.isStr name) <;> rfl
theorem nsFind_list (es : List DictEntry) (x : Str) : nsFind es.toArray x = (es.find? (·.key.isStr x)).map (·.val) := by
  unfold nsFind findBy
  simp only [List.find?_toArray]
  try rfl
theorem isStr_str {x y : Str} {t : Tok} : (Value.str x t).isStr y = true ↔ x = y := by simp [Value.isStr]
theorem nsFind_putL {name : Str} {hs : Int} {t : Tok} {v : Value} : ∀ {es : List DictEntry}, StrKeys es.toArray → ∀ x, nsFind (putL name hs (.str name t) v es).toArray x = if x = name then some v else nsFind es.toArray x
  | [], _, x => by
    rw [nsFind_list, nsFind_list]
    unfold putL
    by_cases h : x = name
    · subst h; simp [List.find?, isStr_str.mpr rfl]
    · have : (Value.str name t).isStr x = false := by rw [Bool.eq_false_iff]; intro q; exact h (isStr_str.mp q).symm
      simp [List.find?, this, h]
  | e :: r, hk, x => by
    have hr : StrKeys r.toArray := fun e' he' => hk e' (by simp at he' ⊢; exact .inr he')
    obtain ⟨n, tk, hkey⟩ := hk e (by simp)
    have ih := nsFind_putL (name := name) (hs := hs) (t := t) (v := v) hr x
    rw [nsFind_list] at ih ⊢
    rw [nsFind_list] at ih ⊢
    unfold putL
    by_cases hn : n = name
    · subst hn
      rw [hkey, if_pos (isStr_str.mpr rfl)]
      by_cases h : x = n
      · subst h; simp [List.find?, isStr_str.mpr rfl]
      · have : (Value.str n tk).isStr x = false := by rw [Bool.eq_false_iff]; intro q; exact h (isStr_str.mp q).symm
        simp [List.find?, this, h, hkey]
    · have : (Value.str n tk).isStr name = false := by rw [Bool.eq_false_iff]; intro q; exact hn (isStr_str.mp q)
      rw [hkey, this]
      simp only [Bool.false_eq_true, if_false]
      by_cases h : n = x
      · subst h
        have h2 : n ≠ name := hn
        simp [List.find?, hkey, isStr_str.mpr rfl, h2]
      · have h3 : (Value.str n tk).isStr x = false := by rw [Bool.eq_false_iff]; intro q; exact h (isStr_str.mp q)
        simp only [List.find?, hkey, h3]
        exact ih
theorem strKeys_putL {name : Str} {hs : Int} {t : Tok} {v : Value} : ∀ {es : List DictEntry}, StrKeys es.toArray → StrKeys (putL name hs (.str name t) v es).toArray
  | [], _ => fun e he => by simp [putL] at he; subst he; exact ⟨name, t, rfl⟩
  | e :: r, hk => by
    have hr : StrKeys r.toArray := fun e' he' => hk e' (by simp at he' ⊢; exact .inr he')
    unfold putL
    split
    · intro e' he'
      simp only [List.mem_toArray, List.mem_cons] at he'
      rcases he' with rfl | he'
      · exact hk e (by simp)
      · exact hk e' (by simp [he'])
    · intro e' he'
      simp only [List.mem_toArray, List.mem_cons] at he'
      rcases he' with rfl | he'
      · exact hk _ (by simp)
      · exact strKeys_putL hr e' (by simpa using he')
theorem putL_len {name : Str} {hs : Int} {key v : Value} : ∀ {es : List DictEntry}, (putL name hs key v es).length = if (es.any (·.key.isStr name)) = true then es.length else es.length + 1
  | [] => rfl
  | e :: r => by
    unfold putL
    by_cases h : e.key.isStr name = true
    · rw [if_pos h]; simp [h]
    · rw [if_neg h, List.length_cons, putL_len]
      simp only [List.any_cons, h, Bool.false_or, List.length_cons]
      split <;> rfl
theorem Fm.put_len {x : Str} {v : PV} : ∀ {f : Fm}, (Fm.put x v f).length = if (f.lookup x).isSome = true then f.length else f.length + 1
  | [] => rfl
  | (y, u) :: r => by
    unfold Fm.put
    by_cases h : x = y
    · subst h; simp [List.lookup]
    · have hb : (x == y) = false := by simpa using h
      simp only [hb, Bool.false_eq_true, if_false, List.length_cons, List.lookup]
      rw [Fm.put_len]
      split <;> rfl

structure DCls (X : Cx) (C : Addr) : Prop where
  get : plainGet X.K C "" = true
  has : hasDictIn X.K C = true
  set : findIn X.K (.ref C) "__setattr__" = some (some (.builtin "object.__setattr__"))
  over : plainOver X.K C = true
noncomputable def PV.handed : PV → Bool
  | .builtin _ => false
  | _ => true
theorem handed_of {v : Value} (h : (abs v).handed = true) : handedIn v = true := by
  cases v <;> first | rfl | (simp [abs, PV.handed] at h)

section
variable {X : Cx} {A : Around} {env : Env} {L : Addr} {fr : Fm} {σ σf : St} {E : Value → Shared → Prop} {fs : List Env} {s : Shared}
theorem RelF.inst {x C dx : Addr} {sl : List (Option PV)} {f : Fm} (R : RelF X fs L σf fr σ s) (hi : σ x = some (.inst C dx sl)) (hd : σ dx = some (.flds f)) :
    ∃ ox es n, InstAt s.heap x ox C (some (dictOf es n)) ∧ ox.dict = some dx ∧ s.heap.get? dx = some (dictOf es n) ∧ es.length ≤ f.length ∧ StrKeys es.toArray ∧ (∀ y, (nsFind es.toArray y).map abs = f.lookup y) ∧ ox.data = .plain ∧ ox.slots.toList.map (Option.map abs) = sl := by
  obtain ⟨ox, h1, c1, c2, c3, c4⟩ := R.get hi
  obtain ⟨od, h2, es, n, rfl, d2, d3, d4⟩ := R.get hd
  refine ⟨ox, es, n, ⟨h1, c1, ?_, ?_⟩, c2, h2, d2, d3, d4, c3, c4⟩
  · unfold notCls; rw [c3]
  · rw [c2]; exact h2
theorem WG.own {x C dx : Addr} {sl : List (Option PV)} {f : Fm} {name : Str} {v : PV} {Q : PV → Fm → St → Prop} (D : DCls X C) (hn : findIn X.K (.ref C) name = some none) (hi : σ x = some (.inst C dx sl)) (hd : σ dx = some (.flds f)) (hv : f.lookup name = some v)
    (hh : v.handed = true) (hq : Q v fr σ) : WG X A L (.ref x) name fr σ Q E := by
  intro a ha; obtain rfl := abs_ref ha
  intro σf s R
  obtain ⟨ox, es, n, I, d1, d2, d3, d4, d5, _⟩ := R.inst hi hd
  have := d5 name
  rw [hv] at this
  obtain ⟨u, hu, rfl⟩ := Option.map_eq_some_iff.mp this
  refine get_value R.rel.KI I (plainGet_of D.get).1 (findObj_own D.has hn rfl ?_) (handed_of hh) ⟨fr, σ, R.toks _, hq⟩
  rw [lookIn_dict, getL_keys d4, hu]
theorem WM.inst {x C dx m : Addr} {sl : List (Option PV)} {f : Fm} {name : Str} {Q : PV → List PV → Fm → St → Prop} (D : DCls X C) (hn : findIn X.K (.ref C) name = some (some (.ref m))) (hm : isFn X.K (.ref m) = true) (hi : σ x = some (.inst C dx sl)) (hd : σ dx = some (.flds f))
    (hv : f.lookup name = none) (hq : Q (.ref m) [.ref x] fr σ) : WM X A L (.ref x) name fr σ Q E := by
  intro a pl ha; obtain rfl := abs_ref ha
  intro σf s R
  obtain ⟨ox, es, n, I, d1, d2, d3, d4, d5, _⟩ := R.inst hi hd
  have := d5 name
  rw [hv] at this
  have hu : nsFind es.toArray name = none := Option.map_eq_none_iff.mp this
  exact method_fn R.rel.KI I (plainGet_of D.get).1 (plainGet_of D.get).2 hn (beq_iff_eq.mp hm) (by show (lookIn name (dictOf es n)).map _ = _; rw [lookIn_dict, getL_keys d4, hu]; rfl) ⟨fr, σ, R, hq⟩
theorem WG.bound {x C dx m : Addr} {sl : List (Option PV)} {f : Fm} {name : Str} {Q : PV → Fm → St → Prop} (D : DCls X C) (hf : ∀ es n, lookIn name (dictOf es n) = some none → findObj X.K C (some (dictOf es n)) name = some (.bind (.builtin "function.__get__") (.ref m)))
    (hm : typeIn X.K (.ref m) = some (.type "function")) (hi : σ x = some (.inst C dx sl)) (hd : σ dx = some (.flds f))
    (hv : f.lookup name = none) (hq : ∀ b, σ b = none → b ≠ L → Q (.ref b) fr (σ.set b (.raw (methodObj (.ref m) (.ref x))))) : WG X A L (.ref x) name fr σ Q E := by
  intro a ha; obtain rfl := abs_ref ha
  intro σf s R
  obtain ⟨ox, es, n, I, d1, d2, d3, d4, d5, _⟩ := R.inst hi hd
  have := d5 name
  rw [hv] at this
  have hu : nsFind es.toArray name = none := Option.map_eq_none_iff.mp this
  refine get_bind R.rel.KI I (plainGet_of D.get).1 (hf es n (by rw [lookIn_dict, getL_keys d4, hu])) (plainGet_of D.get).2 (wpAny_call (fn_get (s := { s with toks := s.toks + 1 }) R.rel.KI hm (handed_on rfl ?_)))
  exact ⟨fr, _, (R.toks (s.toks + 1)).push (o := .raw (methodObj (.ref m) (.ref x))) rfl rfl, hq _ R.fresh (Nat.ne_of_gt R.ltL)⟩
theorem WU2.setOwn {x C dx : Addr} {sl : List (Option PV)} {f : Fm} {name : Str} {v : PV} {Q : Fm → St → Prop} (D : DCls X C) (hn : findIn X.K (.ref C) name = some none) (hi : σ x = some (.inst C dx sl)) (hd : σ dx = some (.flds f)) (hz : f.length < 900)
    (hq : Q fr (σ.set dx (.flds (Fm.put name v f)))) : WU2 X A L (fun a b => setAttr a name b) (.ref x) v fr σ Q E := by
  intro a b ha hb; obtain rfl := abs_ref ha; subst hb
  intro σf s R
  obtain ⟨ox, es, n, I, d1, d2, d3, d4, d5, d6, d7⟩ := R.inst hi hd
  refine set_plain R.rel.KI I D.set ?_
  refine osa_open (s := { s with toks := s.toks + 1 }) R.rel.KI I D.over (r := none) (by unfold takerIn; rw [hn]; rfl) fun bb => ?_
  obtain ⟨cd, hc, hd'⟩ := any_some D.has
  have KI : X.K.In ({ s with toks := s.toks + 1 } : Shared).heap := R.rel.KI
  obtain ⟨hx, hcl, hno, -⟩ := I
  obtain ⟨oc, odi, oda, osl⟩ := ox
  dsimp only at hcl d1
  subst hcl d1
  refine wpAny_bind (wpAny_pure (wpAny_bind (wpAny_bind (wpAny_loadPart hx (wpAny_bind ((looks_clsIn KI hc).here ?_))))))
  rw [hd']
  refine wpAny_pure (a := some dx) (wpAny_bind (wpAny_pure (wpAny_bind ?_)))
  unfold nsSet
  refine wpAny_bind (wpAny_bind (wpAny_askSetting (wpAny_pure (wpAny_bind (wpAny_mkText (wpAny_bind (wpAny_loadPart d2 ?_)))))))
  dsimp only
  have c : (!es.toArray.any (·.key.isStr name) && es.toArray.any (·.refKey)) = false := by
    have hno : es.toArray.any (·.refKey) = false := by
      rw [Bool.eq_false_iff]
      intro hh
      obtain ⟨e, he, hr⟩ := Array.any_eq_true'.mp hh
      obtain ⟨n, t, hk⟩ := d4 e he
      unfold DictEntry.refKey at hr
      rw [hk] at hr
      cases hr
    rw [hno, Bool.and_false]
  rw [aRefKeyMayBeTheName_at, c]
  refine wpAny_updatePart d2 ?_
  have hz' : (Obj.putName name (PyData.keyHash X.w.params name) (.str name (s.toks + 1)) b (dictOf es n)) = dictOf (putL name (PyData.keyHash X.w.params name) (.str name (s.toks + 1)) b es) (putN name es n) := putName_dict ..
  have hg : (s.heap.update dx (Obj.putName name (PyData.keyHash X.w.params name) (.str name (s.toks + 1)) b)).get? dx = some (dictOf (putL name (PyData.keyHash X.w.params name) (.str name (s.toks + 1)) b es) (putN name es n)) := by
    rw [← hz']
    exact Heap.get?_update_self _ d2 (by rw [hz']; rfl)
  have hany : es.any (·.key.isStr name) = (f.lookup name).isSome := by
    have := d5 name
    rw [nsFind_list] at this
    rw [← this]
    cases q : es.find? (fun x => x.key.isStr name) with
    | none =>
      simp only [Option.map_none, Option.isSome_none]
      rw [Bool.eq_false_iff]; intro hh
      obtain ⟨e, he, hr⟩ := List.any_eq_true.mp hh
      exact absurd hr (List.find?_eq_none.mp q e he)
    | some e =>
      simp only [Option.map_some, Option.isSome_some]
      exact List.any_eq_true.mpr ⟨e, List.mem_of_find?_eq_some q, by have := List.find?_some q; exact this⟩
  have hlen : (putL name (PyData.keyHash X.w.params name) (.str name (s.toks + 1)) b es).length ≤ (Fm.put name (abs b) f).length := by
    rw [putL_len, Fm.put_len, hany]; split <;> lia
  refine wpAny_bind (wpAny_lookBehind hg (pastItsLine_dict (by rw [List.size_toArray, putL_len, sizeLine_eq]; split <;> lia)) ?_)
  refine wpAny_pure ?_
  refine ⟨fr, _, (R.upd hd (Heap.SameBut.update ..) hg (o := .flds (Fm.put name (abs b) f)) ⟨_, _, rfl, hlen, strKeys_putL d4, fun y => ?_⟩ rfl).toks _, hq⟩
  rw [nsFind_putL d4, Fm.lookup_put]
  split
  · rfl
  · exact d5 y
end
end SL

end
section
open PySem PySem.W PyProof.Rows PySem.Calls Builtin Builtin.ObjectAttr Builtin.Getset_descriptor
namespace SL
structure SCls (X : Cx) (C : Addr) : Prop where
  get : plainGet X.K C "" = true
  cls : isClsIn X.K C = true
  set : findIn X.K (.ref C) "__setattr__" = some (some (.builtin "object.__setattr__"))
  over : plainOver X.K C = true
structure SlotAt (X : Cx) (C : Addr) (name : Str) (i : Nat) : Prop where
  at_ : ∃ p, findIn X.K (.ref C) name = some (some (.ref p)) ∧ specialIn X.K (.ref p) "__get__" = some (some (.builtin "member_descriptor.__get__")) ∧ takesIn X.K (.ref p) = some true ∧ slotIn X.K p C = some i ∧ typeIn X.K (.ref p) = some (.type "member_descriptor")
section
variable {X : Cx} {A : Around} {env : Env} {L : Addr} {fr : Fm} {σ σf : St} {E : Value → Shared → Prop} {fs : List Env} {s : Shared}
theorem slots_get {sl : List (Option PV)} {a : Array (Option Value)} {i : Nat} {v : PV} (h : a.toList.map (Option.map abs) = sl) (hv : (sl[i]?).join = some v) : ∃ u, (a[i]?).join = some u ∧ abs u = v := by
  subst h
  rw [List.getElem?_map] at hv
  have e : a.toList[i]? = a[i]? := by simp
  rw [e] at hv
  cases q : a[i]? with
  | none => rw [q] at hv; cases hv
  | some o =>
    rw [q] at hv
    cases o with
    | none => cases hv
    | some u =>
      simp only [Option.map_some, Option.join_some, Option.some.injEq] at hv ⊢
      exact ⟨u, rfl, hv⟩
theorem WG.slot {x C dx : Addr} {sl : List (Option PV)} {f : Fm} {name : Str} {i : Nat} {v : PV} {Q : PV → Fm → St → Prop} (S : SCls X C) (P : SlotAt X C name i) (hi : σ x = some (.inst C dx sl)) (hd : σ dx = some (.flds f))
    (hv : (sl[i]?).join = some v) (hh : v.handed = true) (hq : Q v fr σ) : WG X A L (.ref x) name fr σ Q E := by
  intro a ha; obtain rfl := abs_ref ha
  intro σf s R
  obtain ⟨ox, es, n, I, d1, d2, d3, d4, d5, d6, d7⟩ := R.inst hi hd
  obtain ⟨p, p1, p2, p3, p4, p5⟩ := P.at_
  obtain ⟨u, hu, rfl⟩ := slots_get d7 hv
  exact get_bind R.rel.KI I (plainGet_of S.get).1 (findObj_data S.cls p1 p2 p3) (plainGet_of S.get).2 (wpAny_call (slot_get (s := { s with toks := s.toks + 1 }) R.rel.KI I p4 hu (handed_on (handed_of hh) ⟨fr, _, R.toks _, hq⟩)))
noncomputable def setSl (sl : List (Option PV)) (i : Nat) (v : PV) : List (Option PV) := (sl ++ List.replicate (i + 1 - sl.length) none).set i (some v)
theorem WU2.setSlot {x C dx : Addr} {sl : List (Option PV)} {f : Fm} {name : Str} {i : Nat} {v : PV} {Q : Fm → St → Prop} (S : SCls X C) (P : SlotAt X C name i) (hz : i < 1000) (hi : σ x = some (.inst C dx sl)) (hd : σ dx = some (.flds f))
    (hq : Q fr (σ.set x (.inst C dx (setSl sl i v)))) : WU2 X A L (fun a b => setAttr a name b) (.ref x) v fr σ Q E := by
  intro a b ha hb; obtain rfl := abs_ref ha; subst hb
  intro σf s R
  obtain ⟨ox, es, n, I, d1, d2, d3, d4, d5, d6, d7⟩ := R.inst hi hd
  obtain ⟨p, p1, p2, p3, p4, p5⟩ := P.at_
  refine set_plain R.rel.KI I S.set (osa_descr (s := { s with toks := s.toks + 1 }) KF.slot_mset R.rel.KI I S.over (by unfold takerIn; rw [p1]; simp [p3]) p5 ?_)
  obtain ⟨nn, tn, owner, behind, tb, d, slk, cd, ho, hc, hm, hb, rfl⟩ := slot_of R.rel.KI p4
  have R' := R.toks (s.toks + 1)
  revert R'
  have L0 := I.type (M := model X.prog X.w)
  have L1 := looks_mroIn (M := model X.prog X.w) R.rel.KI hm
  have L2 : Looks (model X.prog X.w) s.heap (Slots.slotNamesOf (.ref C)) cd.slotNames := (looks_clsIn R.rel.KI hc).andThen .now
  have hx := I.at_
  have hcls := I.cls
  clear I
  obtain ⟨hh, g, dr, t, os⟩ := s
  intro R'
  dsimp only at ho hx L0 L1 L2 R' ⊢
  have f0 := looks_field (M := model X.prog X.w) ho 0 (v := .str nn tn) rfl
  have f1 := looks_field (M := model X.prog X.w) ho 1 (v := owner) rfl
  have f3 := looks_field (M := model X.prog X.w) ho 3 (v := .builtin "proto.slot#set") rfl
  have f4 := looks_field (M := model X.prog X.w) ho 4 (v := .int behind tb) rfl
  refine codeAny_call_builtin KF.slot_mset.plain KF.entry_mset (KF.slot_mset.check _ _ _ _ _ _ _ _ ⟨_, ho, rfl⟩ (KF.args_mset _ _ _) ?_)
  unfold Builtin.«member_descriptor.__set__» descrSet descrStoreThrough descrCheckInstance descrNameAndClass isInstance
  have f5 : Looks (model X.prog X.w) hh (descrItself (.ref p)) [.ref p] := ((Looks.ld (part := none) ho).andThen .now).andThen (Looks.of_pure (by kernel_rfl))
  repeat lk
  refine ⟨Code.quiet_builtin _ (by decide +kernel), codeAny_builtin KF.entry_slotset ?_⟩
  unfold Builtin.«proto.slot#set» Slots.target
  repeat lk
  rw [if_neg hb]
  refine wpAny_pure (wpAny_bind ?_)
  unfold setSlotAt
  dsimp only
  rw [if_neg (by rw [sizeLine_eq]; lia)]
  refine wpAny_updatePart hx (wpAny_pure ?_)
  have hfree : ∀ o : Obj, o.data = .plain → o.isFreed = false := fun ⟨_, _, dd, _⟩ h => by cases h; rfl
  refine ⟨fr, _, R'.upd hi (Heap.SameBut.update ..) (Heap.get?_update_self _ hx (hfree _ d6)) (o := .inst C dx (setSl sl _ (abs b))) ⟨hcls, d1, d6, ?_⟩ rfl, hq⟩
  subst d7
  unfold setSl
  simp only [Array.toList_setIfInBounds, List.map_set, Array.toList_append, Array.toList_replicate, List.map_append, List.map_replicate, Option.map_some, Option.map_none, List.length_map, Array.length_toList]

theorem CC.make {C fI : Addr} {args : List PV} {Q : PV → St → Prop} {k : Nat} (hA : OkA A (k + 1)) (hm : makesIn X.K C = true) (hi : findIn X.K (.ref C) "__init__" = some (some (.ref fI))) (hf : typeIn X.K (.ref fI) = some (.type "function"))
    (h : ∀ A', OkA A' k → ∀ x dx, σ x = none → σ dx = none → dx ≠ x → CC X A' (.ref fI) (.ref x :: args) ((σ.set dx (.flds [])).set x (.inst C dx [])) (fun v σ' => v = .none ∧ Q (.ref x) σ') E) : CC X A (.ref C) args σ Q E := by
  intro σf s fv vs hfv hvs D R
  obtain rfl := abs_ref hfv
  have R0 : Rel X (fsOf A) σ s := R.less fun a o e => St.un_of e
  have KI := R0.KI
  obtain ⟨hh, g, d, t, os⟩ := s
  dsimp only at KI
  refine make_core (makes_of KI hm) (looks_findIn KI hi) (fun self => bind_fn KI self hf) (.inl rfl) ?_
  have hfr : (A.under (.builtin "type.__call__" ⟨.ref C :: vs, []⟩)).frames = A.frames := by
    show pushEnvs [] A.frames = _
    cases A.frames <;> rfl
  have hA2 : OkA (A.under (.builtin "type.__call__" ⟨.ref C :: vs, []⟩)) k := by
    obtain ⟨k1, k2, k3, k4⟩ := hA
    refine ⟨?_, ?_, k3, ?_⟩
    · show A.depth + 1 + 2 * k < 900; lia
    · show A.units + 1 + 12 * k < 9000; lia
    · rw [hfr]; exact k4
  have hfs : fsOf (A.under (.builtin "type.__call__" ⟨.ref C :: vs, []⟩)) = fsOf A := by
    unfold fsOf
    rw [hfr]
  have fr1 : (σ.un σf) hh.objs.size = none := by
    cases q : (σ.un σf) hh.objs.size with
    | none => rfl
    | some o => exact absurd (R.lt q) (Nat.lt_irrefl _)
  have R1 := R.push (o := .flds []) (ob := emptyDict) ⟨[], 0, rfl, Nat.le_refl _, fun e he => by simp at he, fun x => rfl⟩ rfl
  have hsz : (hh.push emptyDict).objs.size = hh.objs.size + 1 := Heap.size_push ..
  have fr2 : ((σ.un σf).set hh.objs.size (.flds [])) (hh.objs.size + 1) = none := by
    cases q : ((σ.un σf).set hh.objs.size (.flds [])) (hh.objs.size + 1) with
    | none => rfl
    | some o =>
      have := R1.lt q
      exact absurd this (by show ¬ _ < (hh.push emptyDict).objs.size; rw [hsz]; exact Nat.lt_irrefl _)
  have R2 := R1.push (o := .inst C hh.objs.size []) (ob := instObj C hh.objs.size) ⟨rfl, rfl, rfl, rfl⟩ rfl
  have e2 : ({ heap := hh.push emptyDict, gens := g, drawn := d, toks := t, os := os } : Shared).heap.objs.size = hh.objs.size + 1 := hsz
  rw [e2] at R2
  have n1 := (St.set_none.mp fr2).1
  have n2 := (St.set_none.mp fr2).2
  have D2 : Disj ((σ.set hh.objs.size (.flds [])).set (hh.objs.size + 1) (.inst C hh.objs.size [])) σf := (D.set (St.un_eq_none fr1).2).set (St.un_eq_none n2).2
  refine codeAny_mono (h _ hA2 (hh.objs.size + 1) hh.objs.size (St.un_eq_none n2).1 (St.un_eq_none fr1).1 (Ne.symm n1) σf _ (.ref fI) (.ref (hh.objs.size + 1) :: vs) rfl (by simp [abs, hvs]) D2 ?_) fun r s' z => ?_
  · rw [St.set_un, St.set_un, hfs]; exact R2
  · cases r with
    | error e => exact z
    | ok fl =>
      cases fl with
      | ret v =>
        obtain ⟨σ', D', R', rfl', q⟩ := z
        rw [hfs] at R'
        exact ⟨abs_none rfl', σ', D', R', q⟩
      | next => exact z
      | brk => exact z
      | cont => exact z
theorem CC.meth {p f : Addr} {self : Value} {args : List PV} {Q : PV → St → Prop} (hp : σ p = some (.raw (methodObj (.ref f) self))) (h : CC X A (.ref f) (abs self :: args) σ Q E) : CC X A (.ref p) args σ Q E := by
  intro σf s fv vs hfv hvs D R
  obtain rfl := abs_ref hfv
  obtain ⟨_, ob, h1, h2⟩ := R.own p _ (St.un_of hp)
  obtain rfl : ob = _ := h2
  exact method_call h1 (h σf s (.ref f) (self :: vs) rfl (by simp [hvs]) D R)
end
end SL

end
section
open PySem PySem.W PyProof.Rows PySem.Calls
namespace SL
section
variable {X : Cx} {A : Around} {env : Env} {L : Addr} {fr : Fm} {σ σf : St} {E : Value → Shared → Prop} {fs : List Env} {s : Shared}
theorem W2.ofStrs {f : Value → Value → Sem Value} {x y : Str} {r : PV} {Q : PV → Fm → St → Prop}
    (hf : ∀ t u s (Q' : Value → Shared → Prop), (∀ v tk, abs v = r → Q' v { s with toks := tk }) → wpAny X.M A (f (.str x t) (.str y u)) Q' E s) (h : Q r fr σ) : W2 X A L f (.str x) (.str y) fr σ Q E := by
  intro a b ha hb
  obtain ⟨t, rfl⟩ := abs_str ha
  obtain ⟨u, rfl⟩ := abs_str hb
  exact fun σf s R => hf t u s _ fun v tk hv => ⟨_, _, R.toks _, by show Q (abs v) _ _; rw [hv]; exact h⟩
theorem W2.eqS {x y : Str} {Q : PV → Fm → St → Prop} (h : Q (.bool (x == y)) fr σ) : W2 X A L (compareOp .Eq) (.str x) (.str y) fr σ Q E := .ofStrs (fun t u s Q' k => PyProof.Rows.eq_str (k _ s.toks rfl)) h
theorem W2.addS {x y : Str} {Q : PV → Fm → St → Prop} (h : Q (.str (x ++ y)) fr σ) (hz : x.length + y.length ≤ sizeLine) : W2 X A L (binaryOp .Add) (.str x) (.str y) fr σ Q E := .ofStrs (fun t u s Q' k => PyProof.Rows.add_str (fun t' tk => k _ tk rfl) hz) h
theorem W2.iaddS {x y : Str} {Q : PV → Fm → St → Prop} (h : Q (.str (x ++ y)) fr σ) (hz : x.length + y.length ≤ sizeLine) : W2 X A L (inplaceOp .Add) (.str x) (.str y) fr σ Q E := .ofStrs (fun t u s Q' k => PyProof.Rows.iadd_str (fun t' tk => k _ tk rfl) hz) h
theorem W2.inS {x y : Str} {Q : PV → Fm → St → Prop} (h : Q (.bool !(Builtin.Str.occurrences x y 0 x.length 1).isEmpty) fr σ) : W2 X A L (compareOp .In) (.str y) (.str x) fr σ Q E := .ofStrs (fun t u s Q' k => PyProof.Rows.in_str (k _ s.toks rfl)) h
theorem WC.lenStr {x : Str} {Q : PV → Fm → St → Prop} (hz : x.length < 2 ^ 62) (hq : Q (.int x.length) fr σ) : WC X A L (.builtin "len") [.str x] fr σ Q E := by
  intro fv vs hf hv; obtain rfl := abs_builtin hf
  obtain ⟨v1, rfl, hv1⟩ := args1 hv
  obtain ⟨t, rfl⟩ := abs_str hv1
  exact fun σf s R => PyProof.Rows.len_str (by lia) ⟨fr, _, R.toks _, hq⟩

theorem WE.sliceS {value lo hi : Expr} {p pos : Pos} {Q : PV → Fm → St → Prop} (ht : ∀ o r, letTemporaryGo value o r = pure ())
    (h : WE X A env value fr σ (fun x fr₁ σ₁ => WE X A env lo fr₁ σ₁ (fun i fr₂ σ₂ => WE X A env hi fr₂ σ₂ (fun j fr₃ σ₃ => ∃ t a b, x = .str t ∧ i = .int a ∧ j = .int b ∧ t.length ≤ sizeLine ∧ Q (.str (Txt.slice t (some a) (some b))) fr₃ σ₃) E) E) E) :
    WE X A env (.Subscript value (.Slice (some lo) (some hi) none p) pos) fr σ Q E := fun σf s R => by
  refine Subscript_Slice (W.go h R (fun x s₁ fr₁ σ₁ R₁ h₁ => wpAny_Slice (W.go h₁ R₁ (fun i s₂ fr₂ σ₂ R₂ h₂ => W.go h₂ R₂ (fun j s₃ fr₃ σ₃ R₃ ⟨t, a, b, e1, e2, e3, hz, h₃⟩ => wpAny_pure ?_))))) ht
  obtain ⟨tx, rfl⟩ := abs_str e1
  obtain ⟨ti, rfl⟩ := abs_int e2
  obtain ⟨tj, rfl⟩ := abs_int e3
  exact SBH.sliceItem_ss (P := fun h => ∀ b o, s₃.heap.get? b = some o → h.get? b = some o) (fun h ob k b o e => Heap.get?_push_of_some _ (k b o e)) (fun _ _ e => e) (fun h' t' k hP => ⟨fr₃, σ₃, (R₃.grow hP).toks _, h₃⟩) hz

end
end SL

end
section
open PySem PySem.W PyProof.Rows PySem.Calls
namespace SL
section
variable {X : Cx} {A : Around} {env : Env} {L : Addr} {fr : Fm} {σ σf : St} {E : Value → Shared → Prop} {fs : List Env} {s : Shared}
theorem builtinsAt_keeps {h h' : Heap} {mg : Str → Option Value} {P : Addr} (x : h.BuiltinsAt mg P) (k : ∀ b o, h.get? b = some o → h'.get? b = some o) : h'.BuiltinsAt mg P := by
  obtain ⟨bm, o, a1, a2, a3, a4, a5, a6⟩ := x
  exact ⟨bm, o, a1, a2, a3, a4, k _ _ a5, a6⟩
theorem RelF.made {h' : Heap} {P c' : Addr} {ps : Array Value} {c₁ c₂ : Value} {qual : Str} {fd : FuncData} {ob : Obj} {tk : Nat} (R : RelF X fs L σf fr σ s) (hP : σ P = some (.tab ps)) (hx : Heap.ExtBut P s.heap h') (h1 : s.heap.objs.size ≤ c') (h2 : c' < h'.objs.size) (hc : h'.CodeRec (.ref c') qual)
    (hp : h'.get? P = some (tabObj (ps ++ #[c₁, c₂, .ref c']))) (ho : ob.cls = .type "function" ∧ ob.dict = none ∧ ob.data = .func fd) :
    RelF X fs L σf fr (((σ.set P (.tab (ps ++ #[c₁, c₂, .ref c']))).set c' (.code qual)).set h'.objs.size (.fn fd none)) { s with heap := h'.push ob, toks := tk } ∧
      σ h'.objs.size = none ∧ h'.objs.size ≠ L ∧ σ c' = none ∧ c' ≠ L ∧ c' ≠ h'.objs.size ∧ c' ≠ P ∧ h'.objs.size ≠ P := by
  have hPl : P < s.heap.objs.size := R.rel.lt (R.at_ hP)
  have nf : ∀ a, s.heap.objs.size ≤ a → σ a = none := fun a ha => by
    cases q : σ a with
    | none => rfl
    | some o => exact absurd (R.rel.lt (R.at_ q)) (Nat.not_lt.mpr ha)
  have hsz : s.heap.objs.size ≤ h'.objs.size := Nat.le_trans h1 (Nat.le_of_lt h2)
  have hcP : c' ≠ P := Nat.ne_of_gt (Nat.lt_of_lt_of_le hPl h1)
  have hcf : c' ≠ h'.objs.size := Nat.ne_of_lt h2
  have hfP : h'.objs.size ≠ P := Nat.ne_of_gt (Nat.lt_of_lt_of_le hPl hsz)
  refine ⟨?_, nf _ hsz, Nat.ne_of_gt (Nat.lt_of_lt_of_le R.ltL hsz), nf _ h1, Nat.ne_of_gt (Nat.lt_of_lt_of_le R.ltL h1), hcf, hcP, hfP⟩
  have hfree : ob.isFreed = false := by
    obtain ⟨oc, od, dd, sl⟩ := ob
    obtain ⟨_, _, e⟩ := ho
    dsimp only at e
    subst e; rfl
  obtain ⟨c2, oc, vs, t, e1, e2, e3, e4⟩ := hc
  cases e1
  have gP := (R.rel.own P _ (R.at_ hP)).1
  refine (R.change (h' := h'.push ob) [P, c', h'.objs.size] (fun b o hb e => Heap.get?_push_of_some _ (hx b o (fun q => hb (by simp [q])) e)) (fun b hb => ?_) (fun b hb o e => ?_) (fun b hb o e => ?_)).toks tk
  · simp only [List.mem_cons, List.not_mem_nil, or_false] at hb
    rcases hb with rfl | rfl | rfl
    · obtain ⟨ob', g1, g2⟩ := R.get hP
      obtain rfl : ob' = _ := g2
      exact .inl ⟨_, _, _, hP, g1, rfl⟩
    · exact .inr h1
    · exact .inr hsz
  · simp only [List.mem_cons, List.not_mem_nil, or_false] at hb
    rcases hb with rfl | rfl | rfl
    · rw [St.set_ne _ (Ne.symm hfP), St.set_ne _ (Ne.symm hcP), St.set_self] at e; cases e
      exact ⟨gP.turn fun _ => rfl, _, Heap.get?_push_of_some _ hp, rfl⟩
    · rw [St.set_ne _ hcf, St.set_self] at e; cases e
      exact ⟨.hi (Nat.le_trans R.rel.big h1), oc, Heap.get?_push_of_some _ e2, vs, t, e3, e4⟩
    · rw [St.set_self] at e; cases e
      exact ⟨.hi (Nat.le_trans R.rel.big hsz), ob, Heap.get?_push_size _ hfree, ho⟩
  · simp only [List.mem_cons, List.not_mem_nil, or_false, not_or] at hb
    obtain ⟨n1, n2, n3⟩ := hb
    rw [St.set_ne _ n3, St.set_ne _ n2, St.set_ne _ n1] at e; exact e
theorem RelF.tabAt {P : Addr} {ps : Array Value} (R : RelF X fs L σf fr σ s) (hP : σ P = some (.tab ps)) : s.heap.get? P = some (tabObj ps) := by
  obtain ⟨ob, g1, g2⟩ := R.get hP
  obtain rfl : ob = _ := g2
  exact g1
theorem WE.lambdaNew {params : Arguments} {body : Expr} {scope : Scope} {pos : Pos} {c P : Addr} {ps : Array Value} {clos : List (Str × Addr)} {Q : PV → Fm → St → Prop} (C : CodeHd X.hb c P) (hb : X.hb.BuiltinsAt X.mg P) (hP : σ P = some (.tab ps)) (ht : TriplesOk ps.toList) (hnf : codeAmong pos ps.toList = none)
    (hdef : defaultsOf params env = ([], [])) (hcl : closureFor scope env = pure clos) (hge0 : env.globals = mainGlobals) (hcode : env.code = .ref c) (hgP : mainGlobals ≠ P)
    (hq : ∀ f c' ctv, σ f = none → f ≠ env.locals → σ c' = none → c' ≠ env.locals → c' ≠ f → c' ≠ P → f ≠ P →
      Q (.ref f) fr (((σ.set P (.tab (ps ++ #[rawInt pos.line, rawInt pos.col, .ref c']))).set c' (.code (env.qual ++ "<lambda>"))).set f (.fn (kla_fn "<lambda>" (env.qual ++ "<lambda>") params body scope clos ((X.mg "__name__").getD .none) (.ref c') ctv) none))) :
    WE X A env (.Lambda params body scope pos) fr σ Q E := fun σf s R => by
  refine kla_eval hdef (kla_makeFunction hcl hge0 R.rel.G hcode (C.keeps R.rel.keep) (R.tabAt hP) ht hnf hgP (builtinsAt_keeps hb R.rel.keep) fun c' ctv h' tk hx h1 h2 hc hp => ?_)
  obtain ⟨R2, n1, n2, n3, n4, n5, n6, n7⟩ := R.made (tk := tk) (ob := kla_obj "<lambda>" (env.qual ++ "<lambda>") params body scope clos ((X.mg "__name__").getD .none) c' ctv) hP hx h1 h2 hc hp ⟨rfl, rfl, rfl⟩
  exact ⟨fr, _, R2, hq _ _ _ n1 n2 n3 n4 n5 n6 n7⟩
theorem WS.defNew {name : Str} {params : Arguments} {body : List Stmt} {scope : Scope} {pos : Pos} {c P : Addr} {ps : Array Value} {clos : List (Str × Addr)} {Q : PF → Fm → St → Prop} (C : CodeHd X.hb c P) (hb : X.hb.BuiltinsAt X.mg P) (hP : σ P = some (.tab ps)) (ht : TriplesOk ps.toList) (hnf : codeAmong pos ps.toList = none)
    (hd0 : params.defaults = []) (hk0 : params.kw_defaults = []) (ha : annTrees params none env = []) (hcl : closureFor scope env = pure clos) (hge0 : env.globals = mainGlobals) (hcode : env.code = .ref c) (hgP : mainGlobals ≠ P)
    (hq : ∀ f c' doc ctv, σ f = none → f ≠ env.locals → σ c' = none → c' ≠ env.locals → c' ≠ f → c' ≠ P → f ≠ P →
      WN X A env name (.ref f) fr (((σ.set P (.tab (ps ++ #[rawInt pos.line, rawInt pos.col, .ref c']))).set c' (.code (qualnameIn env name name))).set f (.fn (fnX name (qualnameIn env name name) params body scope clos .none .none doc ((X.mg "__name__").getD .none) none (.ref c') ctv) none)) (Q .next) E) :
    WS X A env (.FunctionDef name params body [] none [] scope none name pos) fr σ Q E := fun σf s R => by
  refine nestDef_K hd0 hk0 ha (makeFunction_K hcl hge0 R.rel.G hcode (C.keeps R.rel.keep) (R.tabAt hP) ht hnf hgP (builtinsAt_keeps hb R.rel.keep) fun c' ctv doc h' tk hx h1 h2 hc hp => ?_)
  obtain ⟨R2, n1, n2, n3, n4, n5, n6, n7⟩ := R.made (tk := tk) (ob := fnMade name (qualnameIn env name name) params body scope clos doc ((X.mg "__name__").getD .none) c' ctv) hP hx h1 h2 hc hp ⟨rfl, rfl, rfl⟩
  exact W.go (hq _ _ _ _ n1 n2 n3 n4 n5 n6 n7 _ rfl) R2 (fun _ _ _ _ R' h' => ⟨_, _, R', h'⟩)
theorem IsDef.own {f c' : Addr} {fd : FuncData} {dx : Option Addr} (h : σ f = some (.fn fd dx)) (hc : σ c' = some (.code fd.qualname)) (he : fd.code = .ref c') : IsDef X σ f fd :=
  ⟨fun fs s R => by
    obtain ⟨_, ob, h1, _, _, h2⟩ := R.own f _ h
    obtain ⟨_, oc, g1, vs, t, g2, g3⟩ := R.own c' _ hc
    exact ⟨ob, h1, h2, c', oc, vs, t, he, g1, g2, g3⟩⟩
theorem Keeps.fn {a : Addr} {fd : FuncData} {dx : Option Addr} (h : σ a = some (.fn fd dx)) : Keeps X (.ref a) σ := fun fs s v R hv => by
  obtain rfl := abs_ref hv
  obtain ⟨_, ob, h1, _, _, h2⟩ := R.own a _ h
  refine ⟨.frame, (Looks.ld (part := none) h1).andThen ?_⟩
  rw [h2]; exact .now
end
end SL

end
section
open PySem PySem.W PyProof.Rows PySem.Calls Builtin Builtin.ObjectAttr
namespace SL
namespace Fn
theorem slot_ga : Slot "function" "__getattribute__" "object.__getattribute__" :=
  .of (owner := "object") (n := "__getattribute__") (by rw [typeLookup_type, builtinLookup_eq_fast]; kernel_rfl) (by decide +kernel) (by decide +kernel) (by decide +kernel)
    (by first | exact .inl (by decide +kernel) | exact .inr (by decide +kernel)) (by rw [isSubtype_type]; kernel_rfl)
theorem slot_sa : Slot "function" "__setattr__" "object.__setattr__" :=
  .of (owner := "object") (n := "__setattr__") (by rw [typeLookup_type, builtinLookup_eq_fast]; kernel_rfl) (by decide +kernel) (by decide +kernel) (by decide +kernel)
    (by first | exact .inl (by decide +kernel) | exact .inr (by decide +kernel)) (by rw [isSubtype_type]; kernel_rfl)
theorem no_ga : typeLookup (.type "function") "__getattr__" = pure none := by rw [typeLookup_type, builtinLookup_eq_fast]; kernel_rfl
theorem no_read : typeLookup (.type "function") "read" = pure none := by rw [typeLookup_type, builtinLookup_eq_fast]; kernel_rfl
theorem entry_ga : entryFor table "object.__getattribute__" = some Builtin.«object.__getattribute__» := entryFor_of_tree (by kernel_rfl)
theorem mro_fn : mroOf (.type "function") = pure [.type "function", .type "object"] := by rw [mroOf_type]; kernel_rfl
theorem args_ga (a b : Value) : argsOk "object.__getattribute__" ⟨[a, b], []⟩ := by unfold argsOk; kernel_rfl
theorem passes (self : Value) : refuseLoop self "__setattr__" [.type "function", .type "object"] = pure () := by kernel_rfl
theorem hasDict : typeHasDict (.type "function") = true := by decide +kernel
theorem notFinal : finalisedInACycleAlone "function" = false := by decide +kernel
end Fn
section
variable {X : Cx} {A : Around} {env : Env} {L : Addr} {fr : Fm} {σ σf : St} {E : Value → Shared → Prop} {fs : List Env} {s : Shared}
theorem RelF.fn {a : Addr} {fd : FuncData} {dx : Option Addr} (R : RelF X fs L σf fr σ s) (h : σ a = some (.fn fd dx)) : ∃ sl, s.heap.get? a = some ⟨.type "function", dx, .func fd, sl⟩ := by
  obtain ⟨⟨c, d, dd, sl⟩, h1, h2, h3, h4⟩ := R.get h
  dsimp only at h2 h3 h4
  subst h2 h3 h4
  exact ⟨sl, h1⟩
theorem RelF.flds {d : Addr} {f : Fm} (R : RelF X fs L σf fr σ s) (h : σ d = some (.flds f)) : ∃ es n, s.heap.get? d = some (dictOf es n) ∧ es.length ≤ f.length ∧ StrKeys es.toArray ∧ ∀ y, (nsFind es.toArray y).map abs = f.lookup y := by
  obtain ⟨ob, h1, es, n, rfl, h2, h3, h4⟩ := R.get h
  exact ⟨es, n, h1, h2, h3, h4⟩
theorem WM.fnRead {a d : Addr} {fd : FuncData} {f : Fm} {v : PV} {Q : PV → List PV → Fm → St → Prop} (hf : σ a = some (.fn fd (some d))) (hd : σ d = some (.flds f)) (hv : f.lookup (Str.ofString "read") = some v) (hh : v.handed = true) (hq : Q v [] fr σ) : WM X A L (.ref a) "read" fr σ Q E := by
  intro x pl hx; obtain rfl := abs_ref hx
  intro σf s R
  obtain ⟨sl, h1⟩ := R.fn hf
  obtain ⟨es, n, h2, h3, h4, h5⟩ := R.flds hd
  have h6 := h5 "read"
  rw [hv] at h6
  obtain ⟨u, hu, rfl⟩ := Option.map_eq_some_iff.mp h6
  have hT : s.TypeIs (.ref a) "function" := ⟨_, h1, rfl⟩
  unfold getMethod
  refine wpAny_bind (wpAny_specialOf hT Fn.slot_ga.lookup ?_)
  show wpAny _ _ (if (Manifest.canonical "object.__getattribute__" != "object.__getattribute__") = true then _ else _) _ _ s
  rw [F.canon_object_ga, if_neg (by decide)]
  refine wpAny_bind (wpAny_specialOf hT Fn.no_ga ?_)
  refine wpAny_bind (wpAny_specialOf hT Fn.no_read ?_)
  dsimp only
  refine wpAny_bind ?_
  unfold getAttr getAttrBy
  refine wpAny_bind (wpAny_mkText (wpAny_holding (wpAny_bind (wpAny_typeOf (s := { s with toks := s.toks + 1 }) ⟨_, h1, rfl⟩ (wpAny_bind (wpAny_of_eq Fn.slot_ga.lookup ?_))))))
  show wpAny _ _ (getAttrByItsOwn _ _ _ _ _ _) _ _ _
  unfold getAttrByItsOwn
  refine wpAny_bind (wpAny_pure (wpAny_bind (wpAny_attempt (wpAny_holding ?_))))
  show wpAny _ _ (boundAndCalled _ _ _) _ _ _
  unfold boundAndCalled
  rw [Fn.slot_ga.bind]
  refine wpAny_bind (wpAny_pure ?_)
  refine wpAny_call_entry (s := { s with toks := s.toks + 1 }) Fn.slot_ga ⟨_, h1, rfl⟩ Fn.entry_ga ?_ (Fn.args_ga _ _)
  unfold Builtin.«object.__getattribute__»
  refine wpAny_bind (wpAny_pure ?_)
  refine wpAny_bind (wpAny_pure ?_)
  refine wpAny_bind (wpAny_typeOf (s := { s with toks := s.toks + 1 }) ⟨_, h1, rfl⟩ ?_)
  unfold ObjectAttr.find
  refine wpAny_bind (wpAny_bind (wpAny_of_eq Fn.no_read ?_))
  refine wpAny_bind (wpAny_pure ?_)
  refine wpAny_bind (wpAny_pure ?_)
  unfold ObjectAttr.ownThenClass ObjectAttr.inOwnDict ObjectAttr.ownDict instanceDict
  refine wpAny_bind (wpAny_bind (wpAny_bind (wpAny_loadPart (s := { s with toks := s.toks + 1 }) h1 ?_)))
  refine wpAny_bind (wpAny_loadPart (s := { s with toks := s.toks + 1 }) h1 ?_)
  refine wpAny_pure (a := some d) ?_
  refine wpAny_nsGet (s := { s with toks := s.toks + 1 }) (m := nsFind es.toArray) ⟨_, _, _, h2, rfl, h4, fun _ => rfl⟩ ?_
  rw [hu]
  refine wpAny_bind (wpAny_rule (wpAny_pure ?_))
  refine wpAny_pure ⟨_, rfl, ?_⟩
  show wpAny _ _ (handedOut u) _ _ _
  rw [handedOut_of (handed_of hh)]
  exact wpAny_pure (wpAny_pure ⟨fr, σ, R.toks _, hq⟩)

theorem WU2.setFnRead {a : Addr} {fd : FuncData} {v : PV} {Q : Fm → St → Prop} (hf : σ a = some (.fn fd none))
    (hq : ∀ d, σ d = none → d ≠ L → d ≠ a → Q fr ((σ.set a (.fn fd (some d))).set d (.flds [(Str.ofString "read", v)]))) : WU2 X A L (fun x y => setAttr x "read" y) (.ref a) v fr σ Q E := by
  intro x y hx hy; obtain rfl := abs_ref hx; subst hy
  intro σf s R
  obtain ⟨sl, h1⟩ := R.fn hf
  have SF := PySem.F.store_object
  have hT : ({ s with toks := s.toks + 1 } : Shared).TypeIs (.ref a) "function" := ⟨_, h1, rfl⟩
  show wpAny _ _ (setAttr (.ref a) "read" y) _ _ _
  unfold setAttr
  refine wpAny_bind (wpAny_mkText (wpAny_bind (wpAny_callSpecial?_slot hT Fn.slot_sa ?_)))
  refine wpAny_call_entry (s := { s with toks := s.toks + 1 }) Fn.slot_sa hT SF.entry ?_ (SF.args _ _ _)
  rw [osa_eq, refuse_eq]
  refine wpAny_bind (wpAny_bind (wpAny_typeOf hT (wpAny_bind (wpAny_of_eq Fn.mro_fn ?_))))
  rw [Fn.passes]
  refine wpAny_pure (wpAny_bind (wpAny_typeOf hT (wpAny_bind (wpAny_of_eq Fn.no_read (wpAny_bind (wpAny_pure ?_))))))
  dsimp only
  unfold storeInOwnDict ownStreamTells
  refine wpAny_bind (wpAny_pure ?_)
  show wpAny _ _ (ownDictForStores (.ref a) >>= _) _ _ _
  unfold ownDictForStores instanceDict
  refine wpAny_bind (wpAny_bind (wpAny_loadPart (s := { s with toks := s.toks + 1 }) h1 ?_))
  dsimp only
  rw [Fn.hasDict]
  simp only [Bool.not_true, Bool.or_self, Bool.false_eq_true, if_false]
  refine wpAny_bind (wpAny_alloc ?_)
  have R1 := (R.toks (s.toks + 1)).push (o := .flds []) (ob := emptyDict) ⟨[], 0, rfl, Nat.le_refl _, fun e he => by simp at he, fun x => rfl⟩ rfl
  have n1 := R.fresh
  have n2 : s.heap.objs.size ≠ L := Nat.ne_of_gt R.ltL
  have n3 : a ≠ s.heap.objs.size := Nat.ne_of_lt (Heap.lt_size h1)
  have h1' : (s.heap.push emptyDict).get? a = some ⟨.type "function", none, .func fd, sl⟩ := Heap.get?_push_of_some _ h1
  have hfa : (σ.set s.heap.objs.size (.flds [])) a = some (.fn fd none) := by rw [St.set_ne _ n3]; exact hf
  refine wpAny_bind (wpAny_update (s := { s with heap := s.heap.push emptyDict, toks := s.toks + 1 }) h1' ?_)
  have g2 : ((s.heap.push emptyDict).update a (fun o => ⟨o.cls, some s.heap.objs.size, o.data, o.slots⟩)).get? a = some ⟨.type "function", some s.heap.objs.size, .func fd, sl⟩ := Heap.get?_update_self _ h1' rfl
  have R2 := R1.upd hfa (Heap.SameBut.update (f := fun o => ⟨o.cls, some s.heap.objs.size, o.data, o.slots⟩) ..) g2 (o := .fn fd (some s.heap.objs.size)) ⟨rfl, rfl, rfl⟩ rfl
  have d2 : ((s.heap.push emptyDict).update a (fun o => ⟨o.cls, some s.heap.objs.size, o.data, o.slots⟩)).get? s.heap.objs.size = some (dictOf [] 0) := by
    exact ((Heap.SameBut.update (f := fun o => ⟨o.cls, some s.heap.objs.size, o.data, o.slots⟩) ..).2 _ (Ne.symm n3)).trans (Heap.get?_push_size _ rfl)
  unfold dictMade
  dsimp only
  rw [Fn.notFinal]
  refine wpAny_pure ?_
  dsimp only
  unfold storeInDict
  refine wpAny_bind (wpAny_pure (wpAny_bind ?_))
  unfold nsSet
  refine wpAny_bind (wpAny_bind (wpAny_askSetting (wpAny_pure (wpAny_bind (wpAny_mkText (wpAny_bind (wpAny_loadPart d2 ?_)))))))
  dsimp only
  rw [show aRefKeyMayBeTheName (Str.ofString "read") #[] = false from rfl, if_neg (by decide)]
  refine wpAny_updatePart (s := { s with heap := (s.heap.push emptyDict).update a (fun o => ⟨o.cls, some s.heap.objs.size, o.data, o.slots⟩), toks := s.toks + 1 + 1 }) d2 ?_
  have hz' : (Obj.putName (Str.ofString "read") (PyData.keyHash X.w.params (Str.ofString "read")) (.str (Str.ofString "read") (s.toks + 1)) y (dictOf [] 0)) = dictOf (putL (Str.ofString "read") (PyData.keyHash X.w.params (Str.ofString "read")) (.str (Str.ofString "read") (s.toks + 1)) y []) (putN (Str.ofString "read") [] 0) := putName_dict ..
  have hg : (((s.heap.push emptyDict).update a (fun o => ⟨o.cls, some s.heap.objs.size, o.data, o.slots⟩)).update s.heap.objs.size (Obj.putName (Str.ofString "read") (PyData.keyHash X.w.params (Str.ofString "read")) (.str (Str.ofString "read") (s.toks + 1)) y)).get? s.heap.objs.size = some (dictOf (putL (Str.ofString "read") (PyData.keyHash X.w.params (Str.ofString "read")) (.str (Str.ofString "read") (s.toks + 1)) y []) (putN (Str.ofString "read") [] 0)) := by
    rw [← hz']
    exact Heap.get?_update_self _ d2 (by rw [hz']; rfl)
  refine wpAny_bind (wpAny_lookBehind (s := { s with heap := ((s.heap.push emptyDict).update a (fun o => ⟨o.cls, some s.heap.objs.size, o.data, o.slots⟩)).update s.heap.objs.size (Obj.putName (Str.ofString "read") (PyData.keyHash X.w.params (Str.ofString "read")) (.str (Str.ofString "read") (s.toks + 1)) y), toks := s.toks + 1 + 1 }) hg (pastItsLine_dict (by rw [List.size_toArray, putL_len, sizeLine_eq]; simp)) ?_)
  have hk0 : StrKeys (#[] : Array DictEntry) := fun e he => by simp at he
  have hd3 : (((σ.set s.heap.objs.size (.flds [])).set a (.fn fd (some s.heap.objs.size)))) s.heap.objs.size = some (.flds []) := by rw [St.set_ne _ (Ne.symm n3), St.set_self]
  have R3 := R2.upd hd3 (Heap.SameBut.update ..) hg (o := .flds [(Str.ofString "read", abs y)]) ⟨_, _, rfl, Nat.le_refl _, strKeys_putL hk0, fun z => by
    rw [nsFind_putL hk0]
    by_cases q : z = Str.ofString "read"
    · subst q; simp [List.lookup]
    · have hb : (z == Str.ofString "read") = false := by simpa using q
      rw [if_neg q]; simp only [List.lookup, hb]; rfl⟩ rfl
  refine wpAny_pure ⟨_, rfl, wpAny_pure ⟨fr, _, R3.toks _, ?_⟩⟩
  have := hq _ n1 n2 (Ne.symm n3)
  rw [St.set_comm _ _ _ (Ne.symm n3), St.set_set]
  exact this
end
end SL

end
section
open PySem PySem.W PyProof.Rows PySem.Calls Builtin
namespace SL
namespace CI
theorem slot_next : Slot "callable_iterator" "__next__" "callable_iterator.__next__" :=
  .of (owner := "callable_iterator") (n := "__next__") (by rw [typeLookup_type, builtinLookup_eq_fast]; kernel_rfl) (by decide +kernel) (by decide +kernel) (by decide +kernel)
    (by first | exact .inl (by decide +kernel) | exact .inr (by decide +kernel)) (by rw [isSubtype_type]; kernel_rfl)
theorem slot_iter : Slot "callable_iterator" "__iter__" "callable_iterator.__iter__" :=
  .of (owner := "callable_iterator") (n := "__iter__") (by rw [typeLookup_type, builtinLookup_eq_fast]; kernel_rfl) (by decide +kernel) (by decide +kernel) (by decide +kernel)
    (by first | exact .inl (by decide +kernel) | exact .inr (by decide +kernel)) (by rw [isSubtype_type]; kernel_rfl)
theorem entry_next : entryFor table "callable_iterator.__next__" = some Builtin.«callable_iterator.__next__» := entryFor_of_tree (by kernel_rfl)
theorem entry_iter : entryFor table "callable_iterator.__iter__" = some Builtin.«dict_keyiterator.__iter__» :=
  entryFor_alias (id' := "dict_keyiterator.__iter__") (by kernel_rfl) (by first | rfl | decide +kernel | (unfold String.splitOn; simp +decide [String.splitOnAux])) (by decide +kernel) (by kernel_rfl)
theorem args_next (a : Value) : argsOk "callable_iterator.__next__" ⟨[a], []⟩ := by unfold argsOk; kernel_rfl
theorem args_iter (a : Value) : argsOk "callable_iterator.__iter__" ⟨[a], []⟩ := by unfold argsOk; kernel_rfl
theorem entry_biter : entryFor table "iter" = some Builtin.«iter» := entryFor_of_tree (by kernel_rfl)
end CI

theorem CW.frame {X : Cx} {A : Around} {σ : St} {f : PV} {args : List PV} {Q : PV → St → Prop} {E : Value → Shared → Prop} {a : Addr} {o : AO} (ha : σ a = none) (h : CW X A f args σ (fun v σ' => σ' a = none → Q v (σ'.set a o)) E) :
    CW X A f args (σ.set a o) Q E := by
  intro σf s fv vs hf hv D R
  have eu : ∀ {τ : St}, τ a = none → τ.un (σf.set a o) = (τ.set a o).un σf := fun h => (St.un_set h).trans (St.set_un ..).symm
  exact wpAny_mono (h (σf.set a o) s fv vs hf hv (Disj.setR.mpr ⟨ha, D.less (St.le_set ha)⟩) (by rw [eu ha]; exact R)) (fun v s' x => x.casesOn fun σ' D' R' q =>
    ⟨_, (Disj.setR.mp D').2.set (D a o (St.set_self ..)), eu (Disj.setR.mp D').1 ▸ R', q (Disj.setR.mp D').1⟩) fun _ _ x => x
theorem OkA.in1 {A : Around} {k : Nat} (h : OkA A (k + 1)) : OkA A.in1 k := by
  obtain ⟨k1, k2, k3, k4⟩ := h
  refine ⟨?_, ?_, k3, k4⟩
  · show A.depth + 2 * k < 900; lia
  · show A.units + 1 + 12 * k < 9000; lia

section
variable {X : Cx} {A : Around} {env : Env} {L : Addr} {fr : Fm} {σ σf : St} {E : Value → Shared → Prop} {fs : List Env} {s : Shared}
theorem callBorrowed_eq (f : Value) (pos : List Value) : callBorrowed f pos = (call f pos).keep [borrowed] := by
  show Sem.call (.call f ⟨pos, []⟩) none false [borrowed] _ = Sem.call (.call f ⟨pos, []⟩) none false ([borrowed] ++ []) _
  rw [List.append_nil]
  congr 1
  funext r
  rcases r with e | fl
  · rfl
  · cases fl <;> rfl
theorem borrows_meth {M : Model} {b m : Addr} {self : Value} {om : Obj} {fd : FuncData} {Q : Bool → Shared → Prop} (hb : s.heap.get? b = some (methodObj (.ref m) self)) (hm : s.heap.get? m = some om) (hd : om.data = .func fd) (h : Q true s) : wpAny M A (borrowsExactly (.ref b)) Q E s := by
  unfold borrowsExactly
  refine wpAny_bind (wpAny_load hb ?_)
  show wpAny _ _ ((fun v : Value => _) (Value.ref m)) _ _ _
  dsimp only
  refine wpAny_bind (wpAny_load hm ?_)
  rw [hd]
  exact wpAny_pure h
noncomputable def ciO (b : Addr) (x : Str) (t : Tok) : AO := .it "callable_iterator" [.ref b, .str x t, .bool false]
noncomputable def ciEnd : AO := .it "callable_iterator" [.none, .none, .bool true]
inductive CiGives (X : Cx) (it b m : Addr) (x : Str) (t : Tok) (self : Value) (fr : Fm) (Q : Option Value → Fm → St → Prop) (v : PV) (σ' : St) : Prop
  | intro (y : Str) (hv : v = .str y) (hb : σ' b = some (.raw (methodObj (.ref m) self))) (hm : ∀ fs s, Rel X fs σ' s → ∃ om, s.heap.get? m = some om ∧ ∃ fd, om.data = .func fd)
    (hq : σ' it = none → if x = y then Q none fr (σ'.set it ciEnd) else ∀ u, Q (some (.str y u)) fr (σ'.set it (ciO b x t)))
theorem ci_ends {it b m : Addr} {x : Str} {t : Tok} {self : Value} {Q : Unit → Shared → Prop} {g : Code → Bool} (R : RelF X fs L σf fr (σ.set it (ciO b x t)) s) (hit : σ it = none) (hb : σ b = some (.raw (methodObj (.ref m) self))) (hm : ∃ om, s.heap.get? m = some om ∧ ∃ fd, om.data = .func fd)
    (h : ∀ h', RelF X fs L σf fr (σ.set it ciEnd) { s with heap := h' } → Q () { s with heap := h' }) :
    wpAny X.M A (field (.ref it) 0 >>= fun old => slotLetsGo "callable_iterator.__next__" old g >>= fun _ => setField (.ref it) 0 .none >>= fun _ => setField (.ref it) 1 .none >>= fun _ => setField (.ref it) 2 (.bool true)) Q E s := by
  obtain ⟨oj, k1, k2, k3⟩ := R.it (St.set_self ..)
  obtain ⟨om', hom', fd', hfd'⟩ := hm
  refine wpAny_bind (wpAny_field k1 k3 (x := .ref b) rfl ?_)
  refine wpAny_bind ?_
  unfold slotLetsGo
  refine wpAny_bind (borrows_meth (R.raw (St.le_set hit _ _ hb)) hom' hfd' ?_)
  simp only [if_true]
  refine wpAny_pure ?_
  refine wpAny_bind (wpAny_setField k1 k3 (by simp) ?_)
  have d1 := Obj.data_mapFields k3 (fun vs => vs.setIfInBounds 0 Value.none)
  have j1 := Heap.get?_update_self (Obj.mapFields (·.setIfInBounds 0 Value.none)) k1 (Obj.isFreed_of_fields d1)
  refine wpAny_bind (wpAny_setField (s := { s with heap := s.heap.update it (Obj.mapFields (·.setIfInBounds 0 Value.none)) }) j1 d1 (by simp) ?_)
  have d2 := Obj.data_mapFields d1 (fun vs => vs.setIfInBounds 1 Value.none)
  have j2 := Heap.get?_update_self (Obj.mapFields (·.setIfInBounds 1 Value.none)) j1 (Obj.isFreed_of_fields d2)
  refine (wpAny_setField (s := { s with heap := (s.heap.update it (Obj.mapFields (·.setIfInBounds 0 Value.none))).update it (Obj.mapFields (·.setIfInBounds 1 Value.none)) }) j2 d2 (by simp) ?_)
  have d3 := Obj.data_mapFields d2 (fun vs => vs.setIfInBounds 2 (Value.bool true))
  have j3 := Heap.get?_update_self (Obj.mapFields (·.setIfInBounds 2 (Value.bool true))) j2 (Obj.isFreed_of_fields d3)
  have R3 := R.updIt (St.set_self ..) ((Heap.SameBut.update ..).trans ((Heap.SameBut.update ..).trans (Heap.SameBut.update ..))) j3 (T' := "callable_iterator") (vs' := [.none, .none, .bool true]) (by rw [Obj.cls_mapFields, Obj.cls_mapFields, Obj.cls_mapFields]; exact k2) (by rw [d3]; rfl)
  rw [St.set_set] at R3
  exact h _ R3
theorem W.nextCI {it b m : Addr} {x : Str} {t : Tok} {self : Value} {fd : FuncData} {Q : Option Value → Fm → St → Prop} (hh : A.handled = none) (hit : σ it = none) (hb : σ b = some (.raw (methodObj (.ref m) self))) (hm : ∀ fs s, Rel X fs σ s → ∃ om, s.heap.get? m = some om ∧ ∃ fd, om.data = .func fd)
    (hc : CW X A.in1 (.ref b) [] σ (CiGives X it b m x t self fr Q) NoE) : W X A L (pyNext (.ref it)) fr (σ.set it (ciO b x t)) Q E := by
  intro σf s R
  obtain ⟨oi, g1, g2, g3⟩ := R.it (St.set_self ..)
  have hle := St.le_set (σ := σ) (o := ciO b x t) hit
  obtain ⟨om, hom, fd, hfd⟩ := hm _ _ (R.own.less hle)
  have hT : s.TypeIs (.ref it) "callable_iterator" := ⟨oi, g1, g2⟩
  unfold pyNext
  refine wpAny_bind (wpAny_attempt (wpAny_callSpecial?_slot (name := Str.ofString "__next__") hT CI.slot_next
    (wpAny_call_entry CI.slot_next hT CI.entry_next ?_ (CI.args_next _))))
  show wpAny _ _ (field (.ref it) 2 >>= _) _ _ s
  refine wpAny_bind (wpAny_field g1 g3 (x := .bool false) rfl ?_)
  show wpAny _ _ (if (Value.bool false == Value.bool true) = true then _ else _) _ _ s
  rw [if_neg (show ¬ ((Value.bool false == Value.bool true) = true) by decide)]
  show wpAny _ _ (field (.ref it) 0 >>= _) _ _ s
  refine wpAny_bind (wpAny_field g1 g3 (x := .ref b) rfl ?_)
  refine wpAny_bind (wpAny_attempt ?_)
  unfold callOutOfASlot
  refine wpAny_bind (borrows_meth (R.raw (hle _ _ hb)) hom hfd ?_)
  rw [if_pos rfl]
  rw [callBorrowed_eq]
  refine Calls.wpAny_keep (wpAny_mono ((CW.frame (o := ciO b x t) (Q := fun v τ => ∃ σ'', τ = St.set σ'' it (ciO b x t) ∧ σ'' it = none ∧ CiGives X it b m x t self fr Q v σ'') hit (hc.mono fun v σ' q h1 => ⟨σ', rfl, h1, q⟩)) (σf.set L (.ns fr)) s (.ref b) [] rfl rfl R.sub.2 (by rw [R.sub.1]; exact R.rel)) (fun v s' x => ?_) fun _ _ x => x.elim)
  obtain ⟨_, D', R', σ'', rfl, h1, y, hy, hb', hm', hq⟩ := x
  replace hq := hq h1
  obtain ⟨ty, rfl⟩ := abs_str hy
  have R2 : RelF X (fsOf A) L σf fr (σ''.set it (ciO b x t)) s' := RelF.enter (St.un_eq_none R.free).2 D' R'
  clear R D' R' hc
  obtain ⟨oj, k1, k2, k3⟩ := R2.it (St.set_self ..)
  dsimp only
  refine wpAny_bind (wpAny_field k1 k3 (x := .bool false) rfl ?_)
  rw [if_neg (show ¬ ((Value.bool false == Value.bool true) = true) by decide)]
  refine wpAny_bind (wpAny_field k1 k3 (x := .str x t) rfl ?_)
  refine wpAny_bind (wpAny_holding (wpAny_eqBool_str ?_))
  by_cases q : x = y
  · rw [if_pos q] at hq
    simp only [q, decide_true, Bool.not_true, Bool.false_eq_true, if_false]
    refine wpAny_bind (wpAny_rule ?_)
    refine wpAny_bind (ci_ends (m := m) (self := self) R2 h1 hb' (hm' _ _ (R2.own.less (St.le_set h1))) fun h' R3 => ?_)
    exact raise_stop (A := A.in1) hh (wpAny_bind (wpAny_isInstance (T := "StopIteration") (b := true) ⟨_, Heap.get?_push_size _ rfl, rfl⟩ isSubtype_stop (wpAny_pure ⟨fr, _, (R3.pushMore _).pushMore _, hq⟩)))
  · rw [if_neg q] at hq
    simp only [q, decide_false, Bool.not_false, if_true]
    refine wpAny_pure ⟨_, rfl, wpAny_pure ⟨fr, _, R2, hq ty⟩⟩

theorem W.nextCIend {it : Addr} {Q : Option Value → Fm → St → Prop} (hh : A.handled = none) (hit : σ it = some ciEnd) (hq : Q none fr σ) : W X A L (pyNext (.ref it)) fr σ Q E := by
  intro σf s R
  obtain ⟨oi, g1, g2, g3⟩ := R.it hit
  have hT : s.TypeIs (.ref it) "callable_iterator" := ⟨oi, g1, g2⟩
  unfold pyNext
  refine wpAny_bind (wpAny_attempt (wpAny_callSpecial?_slot (name := Str.ofString "__next__") hT CI.slot_next
    (wpAny_call_entry CI.slot_next hT CI.entry_next ?_ (CI.args_next _))))
  show wpAny _ _ (field (.ref it) 2 >>= _) _ _ s
  refine wpAny_bind (wpAny_field g1 g3 (x := .bool true) rfl ?_)
  show wpAny _ _ (if (Value.bool true == Value.bool true) = true then _ else _) _ _ s
  rw [if_pos (show (Value.bool true == Value.bool true) = true from rfl)]
  refine wpAny_bind (wpAny_rule ?_)
  refine wpAny_bind ?_
  exact raise_stop (A := A.in1) hh (wpAny_bind (wpAny_isInstance (T := "StopIteration") (b := true) ⟨_, Heap.get?_push_size _ rfl, rfl⟩ isSubtype_stop (wpAny_pure ⟨fr, σ, (R.pushMore _).pushMore _, hq⟩)))
theorem WIter.ci {it : Addr} {vs : List Value} {Q : Value → Fm → St → Prop} (h : σ it = some (.it "callable_iterator" vs)) (hq : Q (.ref it) fr σ) : WIter X A L (.ref it) fr σ Q E := by
  intro v hv σf s R
  obtain rfl := abs_ref hv
  obtain ⟨oi, g1, g2, g3⟩ := R.it h
  have hT : s.TypeIs (.ref it) "callable_iterator" := ⟨oi, g1, g2⟩
  refine wpAny_pyIter_slot hT CI.slot_iter (wpAny_call_entry CI.slot_iter hT CI.entry_iter ?_ (CI.args_iter _))
  show wpAny _ _ (ret (.ref it)) _ _ s
  exact wpAny_pure ⟨_, rfl, "callable_iterator", _, hT, CI.slot_next.lookup, fr, σ, R, hq⟩
theorem CI.method_call : typeLookup (.type "method") "__call__" = pure (some (.builtin "method.__call__")) := by rw [typeLookup_type, builtinLookup_eq_fast]; kernel_rfl
theorem CI.kind_iter : builtinKind "iter" = none := by decide +kernel
theorem CI.plain_iter : plainId "iter" = true := by decide +kernel
theorem CI.args_iter2 (a b : Value) : argsOk "iter" ⟨[a, b], []⟩ := by unfold argsOk; kernel_rfl
theorem WC.iter2 {b m : Addr} {self : Value} {x : Str} {Q : PV → Fm → St → Prop} (hb : σ b = some (.raw (methodObj (.ref m) self))) (hq : ∀ it t, σ it = none → it ≠ L → Q (.ref it) fr (σ.set it (ciO b x t))) : WC X A L (.builtin "iter") [.ref b, .str x] fr σ Q E := by
  intro fv vs hf hv; obtain rfl := abs_builtin hf
  obtain ⟨v1, v2, rfl, hv1, hv2⟩ := args2 hv
  obtain rfl := abs_ref hv1
  obtain ⟨t, rfl⟩ := abs_str hv2
  intro σf s R
  have h1 := R.raw hb
  refine call_function_entry CI.kind_iter CI.plain_iter CI.entry_biter (CI.args_iter2 _ _) ?_
  unfold Builtin.«iter»
  refine wpAny_bind (wpAny_pure (a := [Value.ref b, .str x t]) ?_)
  refine wpAny_bind (wpAny_specialOf (T := "method") ⟨_, h1, rfl⟩ CI.method_call ?_)
  simp only [Option.isNone_some, Bool.false_eq_true, if_false]
  refine wpAny_bind (wpAny_rule ?_)
  refine wpAny_bind (wpAny_newObj_type (wpAny_pure ⟨_, rfl, ?_⟩))
  exact ⟨fr, _, R.pushIt (T := "callable_iterator") (vs := [.ref b, .str x t, .bool false]), hq _ t R.fresh (Nat.ne_of_gt R.ltL)⟩
end
end SL

end
section
open PySem PySem.W PyProof.Rows PySem.Calls
namespace SL
section
variable {X : Cx} {fs : List Env} {σ : St} {fd : FuncData}
noncomputable def BindOk (X : Cx) (fs : List Env) (σ : St) (fd : FuncData) (args : List PV) (bs : Fm) (cm : Str → Option PV) : Prop :=
  ∀ s vs, vs.map abs = args → Rel X fs σ s → ∃ binds : List (Str × Value), BindsTo s fd ⟨vs, []⟩ binds ∧
      (∀ n, ∀ x ∈ binds, fd.scope.names.lookup x.1 = some .local ∨ (fd.scope.names.lookup x.1 = some .cell ∧ ((cellsFrom n fd.scope.names []).lookup x.1).isSome = true)) ∧
      (∀ x, (bindL (fd.scope.names.lookup ·) binds (fun _ => none) x).map abs = bs.lookup x) ∧ (∀ x, (bindC (fd.scope.names.lookup ·) binds (fun _ => none) x).map abs = cm x)
theorem bindsL {n : Str} {x : PV} (hb : ∀ a, bindArgs fd ⟨[a], []⟩ = Pure.pure [(n, a)]) (h1 : fd.scope.names.lookup n = some .local) : BindOk X fs σ fd [x] [(n, x)] (fun _ => none) := by
  intro s vs hv R
  obtain ⟨v, rfl, rfl⟩ := args1 hv
  refine ⟨_, .of_eq (hb v), fun k p hp => ?_, fun z => ?_, fun z => ?_⟩
  · rw [List.mem_singleton.mp hp]; exact .inl h1
  · simp only [bindL, h1, if_true]
    by_cases q : z = n
    · subst q; simp [List.lookup]
    · have hb : (z == n) = false := by simpa using q
      simp [List.lookup, hb, q]
  · simp [bindC, h1]
theorem bindsC {n : Str} {x : PV} (hb : ∀ a, bindArgs fd ⟨[a], []⟩ = Pure.pure [(n, a)]) (h1 : fd.scope.names.lookup n = some .cell) (hc1 : ∀ k, ((cellsFrom k fd.scope.names []).lookup n).isSome = true) : BindOk X fs σ fd [x] [] (fun z => if z = n then some x else none) := by
  intro s vs hv R
  obtain ⟨v, rfl, rfl⟩ := args1 hv
  refine ⟨_, .of_eq (hb v), fun k p hp => ?_, fun z => ?_, fun z => ?_⟩
  · rw [List.mem_singleton.mp hp]; exact .inr ⟨h1, hc1 k⟩
  · simp [bindL, h1, List.lookup]
  · simp only [bindC, h1]
    by_cases q : z = n <;> simp [q]
theorem bindsCC {n m : Str} {x y : PV} (hb : ∀ a b, bindArgs fd ⟨[a, b], []⟩ = Pure.pure [(n, a), (m, b)]) (h1 : fd.scope.names.lookup n = some .cell) (h2 : fd.scope.names.lookup m = some .cell)
    (hc1 : ∀ k, ((cellsFrom k fd.scope.names []).lookup n).isSome = true) (hc2 : ∀ k, ((cellsFrom k fd.scope.names []).lookup m).isSome = true) : BindOk X fs σ fd [x, y] [] (fun z => if z = m then some y else if z = n then some x else none) := by
  intro s vs hv R
  obtain ⟨v, w, rfl, rfl, rfl⟩ := args2 hv
  refine ⟨_, .of_eq (hb v w), fun k p hp => ?_, fun z => ?_, fun z => ?_⟩
  · simp only [List.mem_cons, List.not_mem_nil, or_false] at hp
    rcases hp with rfl | rfl
    · exact .inr ⟨h1, hc1 k⟩
    · exact .inr ⟨h2, hc2 k⟩
  · simp [bindL, h1, h2, List.lookup]
  · simp only [bindC, h1, h2]
    by_cases q : z = m
    · simp [q]
    · by_cases q2 : z = n
      · subst q2; simp [q]
      · simp [q, q2]
end
end SL

end
section
open PySem PySem.W PyProof.Rows PySem.Calls
namespace SL
section
variable {X : Cx} {A : Around} {env : Env} {L : Addr} {fr : Fm} {σ σf : St} {E : Value → Shared → Prop} {fs : List Env} {s : Shared}
theorem W1B.list {a : Addr} {xs : List PV} {Q : Bool → Fm → St → Prop} (h : σ a = some (.list xs)) (hz : xs.length < 2 ^ 62) (hq : Q (xs.length != 0) fr σ) : W1B X A L truthy (.ref a) fr σ Q E := by
  intro v hv; obtain rfl := abs_ref hv
  intro σf s R
  obtain ⟨us, n, ho, hu, hs⟩ := R.list h
  refine wpAny_truthy_list (isList_of ho) (by lia) ?_
  refine ⟨fr, _, R.toks _, ?_⟩
  have : (!us.isEmpty) = (xs.length != 0) := by
    rw [← hs]; unfold Array.isEmpty
    cases us.size <;> rfl
  rw [this]; exact hq
end
end SL

end
section
open PySem PySem.W PyProof.Rows PySem.Calls PySem.SeqAt
namespace SL
theorem itT {c : Prop} [Decidable c] {P Q : Prop} (h : c) (p : P) : if c then P else Q := by rw [if_pos h]; exact p
theorem itF {c : Prop} [Decidable c] {P Q : Prop} (h : ¬ c) (q : Q) : if c then P else Q := by rw [if_neg h]; exact q
theorem WFor.from {X : Cx} {A : Around} {env : Env} {target : Expr} {it : Value} {body orelse : List Stmt} {fr fr' : Fm} {σ σ' : St} {Q : PF → Fm → St → Prop} {E : Value → Shared → Prop} (h1 : fr'.le fr) (h2 : σ'.le σ) (h : WFor X A env target it body orelse fr' σ' Q E) : WFor X A env target it body orelse fr σ Q E := W.from h1 h2 h

mutual
inductive PVR (σ : St) : PV → PyData → Prop
  | none : PVR σ .none .none
  | bool (b : Bool) : PVR σ (.bool b) (.bool b)
  | int (i : Int) : PVR σ (.int i) (.int i)
  | str (x : Str) : PVR σ (.str x) (.str x)
  | list {a : Addr} {xs : List PV} {ds : List PyData} : σ a = some (.list xs) → PVRs σ xs ds → PVR σ (.ref a) (.list ds)
  | tuple {a : Addr} {xs : List PV} {ds : List PyData} : σ a = some (.tuple xs) → PVRs σ xs ds → PVR σ (.ref a) (.tuple ds)
inductive PVRs (σ : St) : List PV → List PyData → Prop
  | nil : PVRs σ [] []
  | cons {x : PV} {xs : List PV} {d : PyData} {ds : List PyData} : PVR σ x d → PVRs σ xs ds → PVRs σ (x :: xs) (d :: ds)
end
section
variable {X : Cx} {A : Around} {env : Env} {L : Addr} {fr : Fm} {σ σf : St} {E : Value → Shared → Prop} {fs : List Env} {s : Shared}
theorem PVR.reads {v : Value} {x : PV} {d : PyData} (R : RelF X fs L σf fr σ s) (hx : abs v = x) (h : PVR σ x d) : ∃ as, Reads s.heap v d as := by
  revert v
  refine PVR.rec (motive_1 := fun x d _ => ∀ {v}, abs v = x → ∃ as, Reads s.heap v d as) (motive_2 := fun xs ds _ => ∀ vs : List Value, vs.map abs = xs → ∃ as, ReadsAll s.heap vs ds as) ?_ ?_ ?_ ?_ ?_ ?_ ?_ ?_ h
  · intro v hx; obtain rfl := abs_none hx; exact ⟨_, .none⟩
  · intro b v hx; obtain rfl := abs_bool hx; exact ⟨_, .bool b⟩
  · intro i v hx; obtain ⟨t, rfl⟩ := abs_int hx; exact ⟨_, .int i t⟩
  · intro y v hx; obtain ⟨t, rfl⟩ := abs_str hx; exact ⟨_, .str y t⟩
  · intro a xs ds h _ ih v hx
    obtain rfl := abs_ref hx
    obtain ⟨vs, n, ho, hu, _⟩ := R.list h
    exact (ih _ hu).elim fun as h2 => ⟨_, .list ho rfl rfl h2⟩
  · intro a xs ds h _ ih v hx
    obtain rfl := abs_ref hx
    obtain ⟨vs, n, ho, hu, _⟩ := R.tuple h
    exact (ih _ hu).elim fun as h2 => ⟨_, .tuple ho rfl rfl h2⟩
  · intro vs hx; obtain rfl := List.map_eq_nil_iff.mp hx; exact ⟨_, .nil⟩
  · intro x xs d ds _ _ ih1 ih2 vs hx
    obtain ⟨v, r, rfl, h1, h2⟩ := List.map_eq_cons_iff.mp hx
    exact (ih1 h1).elim fun as a1 => (ih2 r h2).elim fun bs a2 => ⟨_, .cons a1 a2⟩
theorem PVRs.strs : ∀ ns : List Str, PVRs σ (ns.map .str) (ns.map .str)
  | [] => .nil
  | _ :: r => .cons (.str _) (PVRs.strs r)
theorem W2.eqD {x y : PV} {dx dy : PyData} {Q : PV → Fm → St → Prop} {k : Nat} (hA : OkA A k) (h1 : PVR σ x dx) (h2 : PVR σ y dy) (s1 : PySem.SeqAt.shaped dx = true) (s2 : PySem.SeqAt.shaped dy = true) (hq : Q (.bool (PyData.eqv dx dy)) fr σ) : W2 X A L (compareOp .Eq) x y fr σ Q E := by
  intro a b ha hb σf s R
  obtain ⟨as, r1⟩ := h1.reads R ha
  obtain ⟨bs, r2⟩ := h2.reads R hb
  exact eq_dataH r1 r2 s1 s2 (by have := hA.units; unfold cLine; lia) ⟨_, _, R, hq⟩
theorem W2.neD {x y : PV} {dx dy : PyData} {Q : PV → Fm → St → Prop} {k : Nat} (hA : OkA A k) (h1 : PVR σ x dx) (h2 : PVR σ y dy) (s1 : PySem.SeqAt.shaped dx = true) (s2 : PySem.SeqAt.shaped dy = true) (hq : Q (.bool (!PyData.eqv dx dy)) fr σ) : W2 X A L (compareOp .NotEq) x y fr σ Q E := by
  intro a b ha hb σf s R
  obtain ⟨as, r1⟩ := h1.reads R ha
  obtain ⟨bs, r2⟩ := h2.reads R hb
  exact ne_dataH r1 r2 s1 s2 (by have := hA.units; unfold cLine; lia) ⟨_, _, R, hq⟩

theorem RelF.newAt {h' : Heap} {a : Addr} {o : AO} {ob : Obj} {t : Nat} (R : RelF X fs L σf fr σ s) (keep : ∀ b o, s.heap.get? b = some o → h'.get? b = some o) (ha : s.heap.objs.size ≤ a) (hg : h'.get? a = some ob) (ho : OR X o ob) :
    RelF X fs L σf fr (σ.set a o) { s with heap := h', toks := t } := by
  refine (R.change [a] (fun b o _ e => keep b o e) (fun b hb => .inr (by simp at hb; subst hb; exact ha)) (fun b hb o' e => ?_) (fun b hb o' e => ?_)).toks t
  · simp at hb; subst hb; rw [St.set_self] at e; cases e
    exact ⟨.hi (Nat.le_trans R.rel.big ha), ob, hg, ho⟩
  · rw [St.set_ne _ (by simpa using hb)] at e; exact e
theorem RelF.freshAt {a : Addr} (R : RelF X fs L σf fr σ s) (ha : s.heap.objs.size ≤ a) : σ a = none ∧ a ≠ L := by
  exact ⟨St.no_of fun o q => absurd (R.rel.lt (R.at_ q)) (Nat.not_lt.mpr ha), Nat.ne_of_gt (Nat.lt_of_lt_of_le R.ltL ha)⟩
theorem W2.addL {l m : Addr} {xs ys : List PV} {Q : PV → Fm → St → Prop} (h : σ l = some (.list xs)) (h' : σ m = some (.list ys)) (hz : xs.length + ys.length ≤ sizeLine)
    (hq : ∀ a, σ a = none → a ≠ L → Q (.ref a) fr (σ.set a (.list (xs ++ ys)))) : W2 X A L (binaryOp .Add) (.ref l) (.ref m) fr σ Q E := by
  intro a b ha hb
  obtain rfl := abs_ref ha; obtain rfl := abs_ref hb
  intro σf s R
  obtain ⟨vs, k, ho, hu, hs⟩ := R.list h
  obtain ⟨us, k2, ho2, hu2, hs2⟩ := R.list h'
  refine P.add_list ho ho2 ?_ (by rw [hs, hs2]; exact hz)
  exact ⟨_, _, R.push (o := .list (xs ++ ys)) ⟨_, _, rfl, by simp [hu, hu2]⟩ rfl, hq _ R.fresh (Nat.ne_of_gt R.ltL)⟩
theorem WC.tupleL {l : Addr} {xs : List PV} {Q : PV → Fm → St → Prop} (h : σ l = some (.list xs)) (hz : xs.length ≤ sizeLine)
    (hq : ∀ a, σ a = none → a ≠ L → Q (.ref a) fr (σ.set a (.tuple xs))) : WC X A L (.type "tuple") [.ref l] fr σ Q E := by
  intro fv vs hf hv; obtain rfl := abs_type hf
  obtain ⟨v1, rfl, hv1⟩ := args1 hv
  obtain rfl := abs_ref hv1
  intro σf s R
  obtain ⟨us, n, ho, hu, hs⟩ := R.list h
  refine call_tuple_list (isList_of ho) (fun h' hk => ?_) (by rw [hs]; exact hz)
  have R' := R.grow hk
  exact ⟨_, _, R'.push (o := .tuple xs) ⟨_, _, rfl, hu⟩ rfl, hq _ R'.fresh (Nat.ne_of_gt R'.ltL)⟩
theorem allInts_of {us : Array Value} {ns : List Int} (hu : us.toList.map abs = iL ns) : AllInts us := by
  intro v hv
  have : abs v ∈ us.toList.map abs := List.mem_map.mpr ⟨v, by simpa using hv, rfl⟩
  rw [hu] at this
  obtain ⟨i, _, e⟩ := List.mem_map.mp this
  obtain ⟨t, rfl⟩ := abs_int e.symm
  exact ⟨i, t, rfl⟩
theorem abs_ints {us : List Value} {ns : List Int} (h : IntsAre us ns) : us.map abs = iL ns := by
  induction h with
  | nil => rfl
  | cons n t _ ih => simp only [List.map_cons, ih]; rfl
theorem any_ints {us : Array Value} {ns : List Int} {k : Int} (hu : us.toList.map abs = iL ns) : us.any (fun v => match abs v with | .int i => i == k | _ => false) = ns.contains k := by
  have : ∀ (l : List Value) (ns : List Int), l.map abs = iL ns → l.any (fun v => match abs v with | .int i => i == k | _ => false) = ns.contains k := by
    intro l
    induction l with
    | nil => intro ns e; cases ns with
      | nil => rfl
      | cons _ _ => simp [iL] at e
    | cons v l ih => intro ns e; cases ns with
      | nil => simp [iL] at e
      | cons n ns =>
        simp only [List.map_cons, List.cons.injEq] at e
        rw [List.any_cons, ih ns e.2, e.1, List.contains_cons]
        congr 1
        exact Bool.beq_comm
  rw [← this us.toList ns hu]
  simp
theorem eqAt_ints {us : Array Value} {ns : List Int} {k : Int} {t : Tok} (hu : us.toList.map abs = iL ns) : ∀ y ∈ us, EqAt A.in1 s y (.int k t) (match abs y with | .int i => i == k | _ => false) := by
  intro y hy
  obtain ⟨i, t', rfl⟩ := allInts_of hu y hy
  exact (PySem.MeetsSeq.EqGives.int i k t' t).at _ _
theorem W2.inTup {l : Addr} {ns : List Int} {k : Int} {Q : PV → Fm → St → Prop} (h : HasTup X l (iL ns) σ) (hq : Q (.bool (ns.contains k)) fr σ) : W2 X A L (compareOp .In) (.int k) (.ref l) fr σ Q E := by
  intro a b ha hb
  obtain ⟨t, rfl⟩ := abs_int ha; obtain rfl := abs_ref hb
  intro σf s R
  obtain ⟨us, ht, hu⟩ := h _ _ R.own
  refine in_tupleAt _ ht (eqAt_ints hu) ⟨_, _, R, ?_⟩
  show Q (.bool _) fr σ
  rw [any_ints hu]; exact hq
theorem meets_bool_new_list (l : Addr) (o : Obj) (items : Array Value) (n : Nat) (hc : o.cls = .type "list") (hd : o.data = .seq items n) (hfit : (items.size : Int) < 2 ^ 63) :
    Meets (Builtin.«bool.__new__» ⟨[.type "bool", .ref l], []⟩) (fun _ R s => s.heap.get? l = some o ∧ ∀ tk, R (.ok (.ret (.bool (!items.isEmpty)))) { s with toks := tk }) :=
  Meets.of_wp fun prog w A R s ⟨ho, hs⟩ => by
    have f1 := F.conv_sub_bool
    obtain ⟨hp, g, d, tk, os⟩ := s
    dsimp only at ho hs
    repeat (any_goals (first | assumption | (refine wpAny_truthy_list ⟨o, ho, hc, n, hd⟩ hfit ?_) | wp_step))
    all_goals first | exact ⟨_, rfl, hs _⟩ | exact hs _ | skip
theorem WC.boolL {l : Addr} {xs : List PV} {Q : PV → Fm → St → Prop} (h : σ l = some (.list xs)) (hz : xs.length < 2 ^ 62) (hq : Q (.bool (xs.length != 0)) fr σ) : WC X A L (.type "bool") [.ref l] fr σ Q E := by
  intro fv vs hf hv; obtain rfl := abs_type hf
  obtain ⟨v1, rfl, hv1⟩ := args1 hv
  obtain rfl := abs_ref hv1
  intro σf s R
  obtain ⟨us, n, ho, hu, hs⟩ := R.list h
  refine call_bool_1 (meets_bool_new_list l _ us n rfl rfl (by lia)) ⟨ho, fun tk => ⟨rfl, _, _, R.toks _, ?_⟩⟩
  show Q (.bool _) fr σ
  have : (!us.isEmpty) = (xs.length != 0) := by
    rw [← hs]; unfold Array.isEmpty
    cases us.size <;> rfl
  rw [this]; exact hq
end
end SL

end
section
open PySem PySem.W PyProof.Rows PySem.Calls PySem.SeqAt
namespace SL
noncomputable def St.emp : St := fun _ => none
theorem St.un_emp (σ : St) : σ.un St.emp = σ := by
  funext a; unfold St.un St.emp
  cases σ a <;> rfl
theorem Disj.emp (σ : St) : Disj σ St.emp := fun _ _ _ => rfl
noncomputable def ExcAt (X : Cx) (D : St) (e : Addr) (cls : Value) (h : Heap) : Prop :=
  X.hb.get? e = none ∧ D e = none ∧ ∃ oe vs a0, h.get? e = some oe ∧ oe.cls = cls ∧ oe.data = .fields vs ∧ vs[0]? = some a0 ∧
    (vs[1]? = some .none ∨ ∃ T oT ts, vs[1]? = some (.ref T) ∧ X.hb.get? T = none ∧ D T = none ∧ T ≠ e ∧ h.get? T = some oT ∧ oT.data = .fields ts ∧ ts[3]? = some .none)
theorem ExcAt.less {X : Cx} {D D' : St} {e : Addr} {cls : Value} {h : Heap} (x : ExcAt X D e cls h) (hl : D'.le D) : ExcAt X D' e cls h := by
  obtain ⟨h1, h2, oe, vs, a0, h3, h4, h5, h6, h7⟩ := x
  exact ⟨h1, hl.no h2, oe, vs, a0, h3, h4, h5, h6, h7.imp id fun ⟨T, oT, ts, g1, g2, g3, g4⟩ => ⟨T, oT, ts, g1, g2, hl.no g3, g4⟩⟩
section
variable {X : Cx} {A : Around} {env : Env} {L : Addr} {fr : Fm} {σ σf : St} {E : Value → Shared → Prop} {fs : List Env} {s : Shared}
theorem RelF.total (R : RelF X fs L σf fr σ s) : RelF X fs L St.emp fr (σ.un σf) s := ⟨Disj.emp _, by rw [St.un_emp]; exact R.free, by rw [St.un_emp]; exact R.rel⟩
theorem RelF.part (D : Disj σ σf) (R : RelF X fs L St.emp fr (σ.un σf) s) : RelF X fs L σf fr σ s := ⟨D, by have := R.free; rwa [St.un_emp] at this, by have := R.rel; rwa [St.un_emp] at this⟩
theorem RelF.slots {h' : Heap} (R : RelF X fs L σf fr σ s) (keep : ∀ b o, s.heap.get? b = some o → b ∉ fs.filterMap (·.frame) → (X.hb.get? b ≠ none ∨ ((σ.un σf).set L (.ns fr)) b ≠ none) → h'.get? b = some o) (ups : s.heap.UpToSlots h') :
    RelF X fs L σf fr σ { s with heap := h' } := by
  have Lh : X.hb.objs.size ≤ L := (R.rel.own L _ (St.set_self ..)).1.2.resolve_right (fun h => nomatch h)
  have own : ∀ a o, ((σ.un σf).set L (.ns fr)) a = some o → Out X a o ∧ ∃ ob, h'.get? a = some ob ∧ OR X o ob := by
    intro a o e
    obtain ⟨h1, ob, h2, h3⟩ := R.rel.own a o e
    by_cases hm : a ∈ fs.filterMap (·.frame)
    · obtain ⟨env', he, hf⟩ := List.mem_filterMap.mp hm
      have hns := R.rel.nss env' he a hf o e
      cases o with
      | ns f =>
        obtain ⟨es, ep, g1, g2, g3⟩ := h3
        obtain ⟨sl, hs⟩ := ups a ob h2 (fun vs q => by rw [g1] at q; cases q)
        exact ⟨h1, _, hs, es, ep, g1, g2, g3⟩
      | _ => cases hns
    · exact ⟨h1, ob, keep a ob h2 hm (.inr (by rw [e]; exact fun q => nomatch q)), h3⟩
  refine ⟨R.disj, R.free, ⟨fun b o e => keep b o (R.rel.keep b o e) (fun hm => ?_) (.inl (by rw [e]; exact fun q => nomatch q)), own, ?_, ?_, R.rel.gens, R.rel.os, R.rel.nss⟩⟩
  · rw [(R.rel.frames.mem hm).1] at e; cases e
  · obtain ⟨_, ob, g, _⟩ := own L _ (St.set_self ..)
    exact Nat.le_trans Lh (Nat.le_of_lt (Heap.lt_size g))
  · exact R.rel.frames.of_keeps fun b o e hn => by
      obtain ⟨sl, hs⟩ := ups b o e hn
      exact ⟨_, hs, rfl⟩
theorem RelF.leave {outer : List Env} {e : Addr} {cls : Value} {Q : Unit → Shared → Prop} (hfr : A.frames = some (env :: outer)) (hf : env.frame = some L) (R : RelF X (env :: outer) L σf fr σ s) (hx : ExcAt X ((σ.un σf).set L (.ns fr)) e cls s.heap)
    (hQ : ∀ h' base a0, RelF X (env :: outer) L σf fr σ { s with heap := h' } → ExcAt X ((σ.un σf).set L (.ns fr)) e cls h' → Heap.FlyingW base (env :: outer) e cls a0 h' →
      (∀ b o, h'.get? b = some o → b ∉ (env :: outer).filterMap (·.frame) → (X.hb.get? b ≠ none ∨ ((σ.un σf).set L (.ns fr)) b ≠ none) → base.get? b = some o) → Q () { s with heap := h' }) : wpAny X.M A (leaving env (.ref e)) Q E s := by
  obtain ⟨h1, h2, oe, vs, a0, h3, h4, h5, h6, h7⟩ := hx
  subst h4
  have frb : ∀ env' ∈ (env :: outer), ∀ b, env'.frame = some b → b ∈ (env :: outer).filterMap (·.frame) := fun env' he b hb => List.mem_filterMap.mpr ⟨env', he, hb⟩
  have main : ∀ (H : List Addr), (∀ b ∈ H, b ∈ (env :: outer).filterMap (·.frame) ∨ (X.hb.get? b = none ∧ ((σ.un σf).set L (.ns fr)) b = none)) → (∀ b ∈ (env :: outer).filterMap (·.frame), b ∈ H) → e ∈ H →
      ∀ h', Heap.LeftW (hideAll s.heap H) (env :: outer) e oe.cls a0 s.heap h' → Q () { s with heap := h' } := by
    intro H hH hHf heH h' ⟨k1, k2, k3, k4⟩
    have keep : ∀ b o, s.heap.get? b = some o → b ∉ (env :: outer).filterMap (·.frame) → (X.hb.get? b ≠ none ∨ ((σ.un σf).set L (.ns fr)) b ≠ none) → (hideAll s.heap H).get? b = some o := fun b o e' hm hb =>
      hideAll_get _ e' fun hbH => by
        rcases hH b hbH with h | ⟨g1, g2⟩
        · exact hm h
        · rcases hb with hb | hb
          · exact hb g1
          · exact hb g2
    have R' := R.slots (h' := h') (fun b o e' hm hb => k1 b o (keep b o e' hm hb)) k4
    refine hQ h' (hideAll s.heap H) a0 R' ?_ ⟨k1, hideAll_none _ heH, k2, k3⟩ fun b o e' hm hb => ?_
    · obtain ⟨oe', vs', T, oT, ts, g1, ⟨g2, g3⟩, g4, g5, g6, g7, g8, g9, g10⟩ := k3
      have hT : T ∉ (env :: outer).filterMap (·.frame) := fun hm => by
        obtain ⟨_, o, ho, hn⟩ := k2.mem hm
        rw [g8] at ho; cases ho; exact hn _ g9
      have hXT : X.hb.get? T = none := by
        cases q : X.hb.get? T with
        | none => rfl
        | some o =>
          have := keep T o (R.rel.keep T o q) hT (.inl (by rw [q]; exact fun q => nomatch q))
          rw [g6] at this; cases this
      have hDT : ((σ.un σf).set L (.ns fr)) T = none := by
        cases q : ((σ.un σf).set L (.ns fr)) T with
        | none => rfl
        | some o =>
          obtain ⟨_, ob, g, _⟩ := R.rel.own T o q
          have := keep T ob g hT (.inr (by rw [q]; exact fun q => nomatch q))
          rw [g6] at this; cases this
      exact ⟨h1, h2, oe', vs', a0, g1, g2, g4, g3, .inr ⟨T, oT, ts, g5, hXT, hDT, g7, g8, g9, g10⟩⟩
    · rcases hb with hb | hb
      · cases q : X.hb.get? b with
        | none => exact absurd q hb
        | some o' =>
          have e1 := R.rel.keep b o' q
          have e2 := keep b o' e1 hm (.inl hb)
          have e3 := k1 b o' e2
          rw [e'] at e3; cases e3; exact e2
      · cases q : ((σ.un σf).set L (.ns fr)) b with
        | none => exact absurd q hb
        | some o' =>
          obtain ⟨_, ob, g, _⟩ := R.rel.own b o' q
          have e2 := keep b ob g hm (.inr hb)
          have e3 := k1 b ob e2
          rw [e'] at e3; cases e3; exact e2
  have hfrb : ∀ {H : List Addr}, (∀ b ∈ (env :: outer).filterMap (·.frame), b ∈ H) → s.heap.FunFrames (hideAll s.heap H) (env :: outer) := by
    intro H hH
    have : ∀ l : List Env, (∀ b ∈ l.filterMap (·.frame), b ∈ H) → s.heap.FunFrames X.hb l → s.heap.FunFrames (hideAll s.heap H) l := by
      intro l
      induction l with
      | nil => exact fun _ h => h
      | cons env' r ih =>
        rintro hH ⟨k1, ⟨L', o, k2, k3, k4, k5⟩, k6⟩
        exact ⟨k1, ⟨L', o, k2, hideAll_none _ (hH L' (List.mem_filterMap.mpr ⟨env', .head _, k2⟩)), k4, k5⟩, ih (fun b hb => hH b (by
          obtain ⟨x, hx, hf⟩ := List.mem_filterMap.mp hb
          exact List.mem_filterMap.mpr ⟨x, .tail _ hx, hf⟩)) k6⟩
    exact this _ hH R.rel.frames
  rcases h7 with h7 | ⟨T, oT, ts, g1, g2, g3, g4, g5, g6, g7⟩
  · have hm := main (e :: (env :: outer).filterMap (·.frame)) (fun b hb => by
      rcases List.mem_cons.mp hb with rfl | hb
      · exact .inr ⟨h1, h2⟩
      · exact .inl hb) (fun b hb => .tail _ hb) (.head _)
    exact wpAny_leaving_firstW hfr (hfrb fun b hb => .tail _ hb) hf h3 (fun b o q => of_hideAll _ q) (hideAll_none _ (.head _)) h5 h7 h6 hm
  · have hm := main (e :: T :: (env :: outer).filterMap (·.frame)) (fun b hb => by
      rcases List.mem_cons.mp hb with rfl | hb
      · exact .inr ⟨h1, h2⟩
      · rcases List.mem_cons.mp hb with rfl | hb
        · exact .inr ⟨g2, g3⟩
        · exact .inl hb) (fun b hb => .tail _ (.tail _ hb)) (.head _)
    exact wpAny_leaving_nextW hfr (hfrb fun b hb => .tail _ (.tail _ hb)) hf ⟨oe, vs, T, oT, ts, h3, ⟨rfl, h6⟩, h5, g1, hideAll_none _ (.tail _ (.head _)), g4, g5, g6, g7⟩ (fun b o q => of_hideAll _ q) (hideAll_none _ (.head _)) hm

theorem fsOf_mark (v : Option Value) : fsOf (A.mark v) = fsOf A := rfl
noncomputable def Ev1 (X : Cx) (A : Around) (env : Env) (t : Expr) (c : Value) : Prop := ∀ fs σ s (Q : Value → Shared → Prop) E, Rel X fs σ s → Q c s → wpAny X.M A (eval t env) Q E s
theorem Ev1.builtin {x : Str} {p : Pos} {v : Value} (hk : env.scope.kind = .function) (hl : env.kindOf x = some .globalImplicit) (hg : env.globals = mainGlobals) (hb : env.builtins = builtinsNs) (hm : X.mg x = none)
    (hn : x ≠ "__name__") (hv : bootBuiltins x = some v) (hd : (x == ("__debug__" : Str)) = false) : Ev1 X A env (.Name x p) v := fun fs σ s Q E R h => by
  refine wpAny_Name ?_ hd
  rw [loadName_global hk hl]
  exact loadGlobal_builtin (hg ▸ R.G) hm (hb ▸ R.B) ((X.builtins x hn).trans hv) h
theorem looks_typeOf {M : Model} {h : Heap} {e : Addr} {oe : Obj} (he : h.get? e = some oe) : Looks M h (typeOf (.ref e)) oe.cls := by
  unfold typeOf
  exact (Looks.ld (part := some _) he).andThen .now
end
end SL

end
section
open PySem PySem.W PyProof.Rows PySem.Calls PySem.SeqAt
namespace SL
section
variable {X : Cx} {A : Around} {env : Env} {L : Addr} {fr : Fm} {σ σf : St} {E : Value → Shared → Prop} {fs : List Env} {s : Shared}
theorem deeper_frames {k : Nat} (h : OkA A k) (env : Env) : (A.deeper env).frames = some (env :: fsOf A) := by
  have := h.frames
  unfold fsOf
  show A.frames.map (env :: ·) = _
  cases q : A.frames with
  | none => rw [q] at this; cases this
  | some l => rfl
noncomputable def Flown (X : Cx) (A : Around) (L : Addr) (cls : Value) (P : Fm → St → Prop) (τ : St) (x : Value) (s' : Shared) : Prop :=
  ∃ e fr' σ1, x = .ref e ∧ Disj σ1 τ ∧ RelF X (fsOf A) L St.emp fr' (σ1.un τ) s' ∧ ExcAt X ((σ1.un τ).set L (.ns fr')) e cls s'.heap ∧ P fr' σ1
theorem WS.tryExc {body suite : List Stmt} {b₀ : Stmt} {t : Expr} {hpos pos : Pos} {cls c : Value} {P : Fm → St → Prop} {outer : List Env} {Q : PF → Fm → St → Prop} (hfr : A.frames = some (env :: outer)) (hloc : env.frame = some env.locals)
    (hev : ∀ v, Ev1 X (A.mark v) env t c) (hx : exmOne X.K cls c = some true)
    (hb : ∀ τ, Disj σ τ → WB X A env body fr (σ.un τ) (fun f fr' σ' => ∃ σ1, Disj σ1 τ ∧ (σ1.un τ).le σ' ∧ Q f fr' σ1) (Flown X A env.locals cls P τ))
    (hs : ∀ fr σ e, P fr σ → WB X (A.mark (some (.ref e))) env (b₀ :: suite) fr σ Q NoE) :
    WS X A env (.Try body [.ExceptHandler (some t) none (b₀ :: suite) hpos] [] [] pos) fr σ Q E := by
  intro σf s R
  show wpAny _ _ (exec _ env) _ _ _
  have hfs : fsOf A = env :: outer := by unfold fsOf; rw [hfr]; rfl
  rw [arm_exec_Try]
  refine wpAny_bind (wpAny_standAt ?_)
  unfold tryStmt
  simp only [List.isEmpty_nil, if_true, List.isEmpty_cons, Bool.false_and, Bool.false_eq_true, if_false]
  have conv : ∀ {fr' : Fm} {σ1 σ' : St} {s' : Shared}, Disj σ1 σf → (σ1.un σf).le σ' → RelF X (fsOf A) env.locals St.emp fr' σ' s' → RelF X (fsOf A) env.locals σf fr' σ1 s' := fun D hl R' => (R'.less hl).part D
  refine wpAny_bind (wpAny_attempt (wpAny_mono (hb σf R.disj St.emp s R.total) (fun f s₁ h₁ => ?_) fun x s₁ h₁ => ?_))
  · obtain ⟨fr', σ', R', σ1, D1, hl, hq⟩ := h₁
    have R1 := conv D1 hl R'
    cases f with
    | next => exact wpAny_execs_nil ⟨fr', σ1, R1, hq⟩
    | brk => exact wpAny_pure ⟨fr', σ1, R1, hq⟩
    | cont => exact wpAny_pure ⟨fr', σ1, R1, hq⟩
    | ret v => exact wpAny_pure ⟨fr', σ1, R1, hq⟩
  · obtain ⟨e, fr', σ1, rfl, D1, R', hex, hP⟩ := h₁
    show wpAny X.M A (noteFrame (.ref e) env >>= fun _ => setFlight (.ref e) none >>= fun _ => handleBy (.ref e) env _) _ _ _
    rw [← bind_assoc]
    show wpAny X.M A (leaving env (.ref e) >>= fun _ => _) _ _ _
    rw [hfs] at R'
    have R2 := R'.part D1
    refine wpAny_bind (R2.leave hfr hloc hex fun h' base a0 R3 hx' hfl hbk => ?_)
    obtain ⟨oe, vs, T, oT, ts, he, ⟨hcls, _⟩, _⟩ := hfl.2.2.2
    refine wpAny_handleBy_cons (codeAny_handlers_test (hev _ _ _ _ _ _ R3.rel ?_)) (by intro q; cases q)
    refine (exm_one (cls := cls) R3.rel.KI (hcls ▸ looks_typeOf he) hx).here ?_
    refine codeAny_handlers_suite (lands_againW hfl fun h2 hfl2 ups2 => ?_)
    have R4 : RelF X (env :: outer) env.locals σf fr' σ1 { s₁ with heap := h2 } := R3.slots (h' := h2) (fun b o q hm hk => hfl2.1 b o (hbk b o q hm hk)) ups2
    refine wpAny_mono (hs fr' σ1 e hP σf _ (by rw [fsOf_mark, hfs]; exact R4)) (fun f s₂ h₂ => ?_) fun _ _ x => x.elim
    rw [fsOf_mark] at h₂
    exact h₂

noncomputable def mwObj (id : String) (self : Value) : Obj := { cls := .type "method-wrapper", data := .fields #[.builtin id, self] }
theorem Keeps.mw {a : Addr} {id : String} {self : Value} (h : σ a = some (.raw (mwObj id self))) : Keeps X (.ref a) σ := fun fs s v R hv => by
  obtain rfl := abs_ref hv
  obtain ⟨_, ob, h1, h2⟩ := R.own a _ h
  obtain rfl : ob = mwObj id self := h2
  refine ⟨.machine, (Looks.ld (part := none) h1).andThen ?_⟩
  exact .now
end
end SL

end
section
open PySem PySem.W PyProof.Rows PySem.Calls PySem.SeqAt Builtin Builtin.ObjectAttr
namespace SL
namespace Mw
theorem slot_ga : Slot "list_iterator" "__getattribute__" "object.__getattribute__" :=
  .of (owner := "object") (n := "__getattribute__") (by rw [typeLookup_type, builtinLookup_eq_fast]; kernel_rfl) (by decide +kernel) (by decide +kernel) (by decide +kernel)
    (by first | exact .inl (by decide +kernel) | exact .inr (by decide +kernel)) (by rw [isSubtype_type]; kernel_rfl)
theorem next : typeLookup (.type "list_iterator") "__next__" = pure (some (.builtin "list_iterator.__next__")) := by rw [typeLookup_type, builtinLookup_eq_fast]; kernel_rfl
theorem ty : typeOf (.builtin "list_iterator.__next__") = pure (.type "wrapper_descriptor") := by show builtinType _ = _; rw [builtinType_eq_fast]; kernel_rfl
theorem get : typeLookup (.type "wrapper_descriptor") "__get__" = pure (some (.builtin "wrapper_descriptor.__get__")) := by rw [typeLookup_type, builtinLookup_eq_fast]; kernel_rfl
theorem noset : typeLookup (.type "wrapper_descriptor") "__set__" = pure none := by rw [typeLookup_type, builtinLookup_eq_fast]; kernel_rfl
theorem nodel : typeLookup (.type "wrapper_descriptor") "__delete__" = pure none := by rw [typeLookup_type, builtinLookup_eq_fast]; kernel_rfl
theorem slot_get : Slot "wrapper_descriptor" "__get__" "wrapper_descriptor.__get__" :=
  .of (owner := "wrapper_descriptor") (n := "__get__") (by rw [typeLookup_type, builtinLookup_eq_fast]; kernel_rfl) (by decide +kernel) (by decide +kernel) (by decide +kernel)
    (by first | exact .inl (by decide +kernel) | exact .inr (by decide +kernel)) (by rw [isSubtype_type]; kernel_rfl)
theorem entry_get : entryFor table "wrapper_descriptor.__get__" = some Builtin.«wrapper_descriptor.__get__» := entryFor_of_tree (by kernel_rfl)
theorem args_get (a b c : Value) : argsOk "wrapper_descriptor.__get__" ⟨[a, b, c], []⟩ := by unfold argsOk; kernel_rfl
theorem bound (it : Value) : checkBoundCall "list_iterator.__next__" ⟨[it], []⟩ = pure () := by kernel_rfl
theorem plain_next : plainId "list_iterator.__next__" = true := by decide +kernel
theorem sub_li : isSubtype (.type "list_iterator") (.type "list_iterator") = pure true := by rw [isSubtype_type]; kernel_rfl
theorem args_iter1 (a : Value) : argsOk "iter" ⟨[a], []⟩ := by unfold argsOk; kernel_rfl
end Mw
section
variable {X : Cx} {A : Around} {env : Env} {L : Addr} {fr : Fm} {σ σf : St} {E : Value → Shared → Prop} {fs : List Env} {s : Shared}
theorem RelF.recast {a : Addr} {o₀ o : AO} (R : RelF X fs L σf fr σ s) (h : σ a = some o₀) (hr : ∀ ob, OR X o₀ ob → OR X o ob) (ht : o₀.isTab = true → o.isTab = true := by first | (intro h; cases h; done) | (intro _; rfl) | assumption) (hns : o₀.isNs = true → o.isNs = true := by first | (intro h; cases h; done) | (intro _; rfl) | assumption) : RelF X fs L σf fr (σ.set a o) s := by
  obtain ⟨ob, h1, h2⟩ := R.get h
  exact R.updF (h' := s.heap) h (.refl ..) h1 h1 (hr ob h2) (fun q => q) ht hns
theorem ne_ob0 {a b : Addr} {xs : List PV} {T : String} {vs : List Value} {σ : St} (h : σ a = some (.list xs)) (h' : σ b = some (.it T vs)) : a ≠ b := fun e => by subst e; rw [h] at h'; cases h'
noncomputable def liO (l : Addr) (i : Nat) : AO := .it "list_iterator" [.ref l, .int i 0]
noncomputable def liRaw (l : Addr) : Obj := { cls := .type "list_iterator", data := .fields #[.ref l, .int 0 0] }
theorem WC.iterL {l : Addr} {xs : List PV} {Q : PV → Fm → St → Prop} (h : σ l = some (.list xs)) (hq : ∀ it, σ it = none → it ≠ L → Q (.ref it) fr (σ.set it (.raw (liRaw l)))) : WC X A L (.builtin "iter") [.ref l] fr σ Q E := by
  intro fv vs hf hv; obtain rfl := abs_builtin hf
  obtain ⟨v1, rfl, hv1⟩ := args1 hv
  obtain rfl := abs_ref hv1
  intro σf s R
  obtain ⟨us, n, ho, hu, hs⟩ := R.list h
  refine call_function_entry CI.kind_iter CI.plain_iter CI.entry_biter (Mw.args_iter1 _) ?_
  unfold Builtin.«iter»
  refine wpAny_bind (wpAny_pure (a := [Value.ref l]) ?_)
  refine wpAny_bind (wpAny_pyIter_list (isList_of ho) (wpAny_pure ⟨_, rfl, ?_⟩))
  exact ⟨fr, _, R.push (o := .raw (liRaw l)) rfl rfl, hq _ R.fresh (Nat.ne_of_gt R.ltL)⟩
theorem WG.nextLI {it l : Addr} {Q : PV → Fm → St → Prop} (h : σ it = some (.raw (liRaw l))) (hq : ∀ b, σ b = none → b ≠ L → Q (.ref b) fr ((σ.set it (liO l 0)).set b (.raw (mwObj "list_iterator.__next__" (.ref it))))) : WG X A L (.ref it) "__next__" fr σ Q E := by
  intro v hv; obtain rfl := abs_ref hv
  intro σf s R
  have h1 := R.raw h
  have R2 := R.recast (o := liO l 0) h (fun ob e => by cases e; exact ⟨rfl, rfl⟩)
  have hT : s.TypeIs (.ref it) "list_iterator" := ⟨_, h1, rfl⟩
  show wpAny _ _ (getAttr (.ref it) "__next__" true) _ _ s
  unfold getAttr getAttrBy
  refine wpAny_bind (wpAny_mkText (wpAny_holding (wpAny_bind (wpAny_typeOf (s := { s with toks := s.toks + 1 }) ⟨_, h1, rfl⟩ (wpAny_bind (wpAny_of_eq Mw.slot_ga.lookup ?_))))))
  show wpAny _ _ (getAttrByItsOwn _ _ _ _ _ _) _ _ _
  unfold getAttrByItsOwn
  refine wpAny_bind (wpAny_pure (wpAny_bind (wpAny_attempt (wpAny_holding ?_))))
  show wpAny _ _ (boundAndCalled _ _ _) _ _ _
  unfold boundAndCalled
  rw [Mw.slot_ga.bind]
  refine wpAny_bind (wpAny_pure ?_)
  refine wpAny_call_entry (s := { s with toks := s.toks + 1 }) Mw.slot_ga ⟨_, h1, rfl⟩ Fn.entry_ga ?_ (Fn.args_ga _ _)
  unfold Builtin.«object.__getattribute__»
  refine wpAny_bind (wpAny_pure ?_)
  refine wpAny_bind (wpAny_pure ?_)
  refine wpAny_bind (wpAny_typeOf (s := { s with toks := s.toks + 1 }) ⟨_, h1, rfl⟩ ?_)
  unfold ObjectAttr.find
  refine wpAny_bind (wpAny_bind (wpAny_of_eq Mw.next ?_))
  have so : ∀ {nm : Str} {r : Option Value} {Q : Option Value → Shared → Prop} {s : Shared} {A : Around} {E : Value → Shared → Prop}, typeLookup (.type "wrapper_descriptor") nm = pure r → Q r s → wpAny X.M A (specialOf (.builtin "list_iterator.__next__") nm) Q E s := fun hl hq => by
    unfold specialOf
    refine wpAny_bind (wpAny_of_eq Mw.ty ?_)
    exact wpAny_of_eq hl hq
  refine wpAny_bind (so Mw.get ?_)
  unfold ObjectAttr.dataDescriptor? ObjectAttr.takesStores
  refine wpAny_bind (wpAny_bind (wpAny_bind (so Mw.noset ?_)))
  refine wpAny_bind (so Mw.nodel ?_)
  refine wpAny_pure ?_
  refine wpAny_pure ?_
  dsimp only
  unfold ObjectAttr.ownThenClass ObjectAttr.inOwnDict ObjectAttr.ownDict instanceDict
  refine wpAny_bind (wpAny_bind (wpAny_bind (wpAny_loadPart (s := { s with toks := s.toks + 1 }) h1 ?_)))
  refine wpAny_bind (wpAny_loadPart (s := { s with toks := s.toks + 1 }) h1 ?_)
  refine wpAny_pure (a := (none : Option Addr)) ?_
  refine wpAny_pure (a := (none : Option Value)) ?_
  refine wpAny_bind (wpAny_of_eq (a := ()) (by kernel_rfl) ?_)
  unfold ObjectAttr.byTheClass
  refine wpAny_bind (wpAny_rule (wpAny_pure ?_))
  show wpAny _ _ (bindTo _ _ _ _) _ _ _
  unfold bindTo
  dsimp only
  refine wpAny_bind (wpAny_holding ?_)
  refine wpAny_call_entry (s := { s with toks := s.toks + 1 }) Mw.slot_get Mw.ty Mw.entry_get ?_ (Mw.args_get _ _ _)
  unfold Builtin.«wrapper_descriptor.__get__»
  refine wpAny_bind (wpAny_of_eq (a := (Value.builtin "list_iterator.__next__", some (Value.ref it), some (Value.type "list_iterator"))) (by kernel_rfl) ?_)
  refine wpAny_bind (wpAny_bind (wpAny_of_eq (a := (Str.ofString "__next__", Value.type "list_iterator")) (by kernel_rfl) ?_))
  refine wpAny_bind (wpAny_isInstance (T := "list_iterator") (b := true) ⟨_, h1, rfl⟩ Mw.sub_li ?_)
  refine wpAny_pure ?_
  unfold newFields
  refine wpAny_bind (wpAny_newObj_type (wpAny_pure ⟨_, rfl, wpAny_pure ⟨_, rfl, ?_⟩⟩))
  rw [handedOut_of rfl]
  have R3 := R2.toks (s.toks + 1)
  exact wpAny_pure ⟨_, _, R3.push (o := .raw (mwObj "list_iterator.__next__" (.ref it))) rfl rfl, hq _ R.fresh (Nat.ne_of_gt R.ltL)⟩

theorem mw_call {m : Addr} {self : Value} {R : Result → Shared → Prop} (ho : s.heap.get? m = some (mwObj "list_iterator.__next__" self)) (h : codeAny X.M A (.builtin "list_iterator.__next__" ⟨[self], []⟩) R s) : codeAny X.M A (.call (.ref m) ⟨[], []⟩) R s := by
  obtain ⟨hh, g, dr, t, os⟩ := s
  refine codeAny_of_tree ?_
  show wpAny _ _ (callAny (.ref m) _) _ _ _
  dsimp only at ho
  refine wpAny_bind (wpAny_load ho ?_)
  show wpAny _ _ (checkBoundCall "list_iterator.__next__" ⟨[self], []⟩ >>= fun _ => _) _ _ _
  refine wpAny_bind (wpAny_of_eq (Mw.bound self) ?_)
  exact wpAny_pure ⟨Code.quiet_builtin _ (by decide +kernel), h⟩
theorem WC.mwItem {m it l : Addr} {xs : List PV} {i : Nat} {x : PV} {Q : PV → Fm → St → Prop} (hm : σ m = some (.raw (mwObj "list_iterator.__next__" (.ref it)))) (hit : σ it = some (liO l i)) (hl : σ l = some (.list xs)) (hx : xs[i]? = some x)
    (hq : Q x fr (σ.set it (liO l (i + 1)))) : WC X A L (.ref m) [] fr σ Q E := by
  intro fv vs hf hv; obtain rfl := abs_ref hf; obtain rfl := args0 hv
  intro σf s R
  obtain ⟨us, n, ho, hu, hs⟩ := R.list hl
  obtain ⟨v, hv, rfl⟩ := get_of_map hu hx
  obtain ⟨oi, g1, g2, g3⟩ := R.it hit
  refine wpAny_call (mw_call (R.raw hm) (codeAny_builtin entry_listiter_next ?_))
  show wpAny _ _ (field (.ref it) 0 >>= _) _ _ s
  refine wpAny_bind (wpAny_field g1 g3 (x := .ref l) rfl ?_)
  show wpAny _ _ (if (Value.ref l == Value.none) = true then _ else _) _ _ s
  rw [if_neg (show ¬ ((Value.ref l == Value.none) = true) from Bool.false_ne_true)]
  show wpAny _ _ (field (.ref it) 1 >>= _) _ _ s
  refine wpAny_bind (wpAny_field g1 g3 (x := .int i 0) rfl ?_)
  show wpAny _ _ (seqItems? (.ref l) >>= _) _ _ s
  refine wpAny_bind (wpAny_seqItems ho rfl ?_)
  simp only [Int.toNat_natCast, hv]
  refine wpAny_bind (wpAny_setField g1 g3 (by simp) ?_)
  refine wpAny_pure ?_
  have hne : l ≠ it := ne_ob0 hl hit
  refine ⟨fr, _, R.updIt hit (Heap.SameBut.update ..) (T' := "list_iterator") (vs' := [.ref l, .int (i + 1 : Nat) 0]) (Heap.get?_update_self _ g1 (Obj.isFreed_of_fields (Obj.data_mapFields g3 _))) ?_ ?_, hq⟩
  · rw [Obj.cls_mapFields]; exact g2
  · rw [Obj.data_mapFields g3]; simp [rawInt]
theorem WC.mwStop {m it l : Addr} {xs : List PV} {i : Nat} {Q : PV → Fm → St → Prop} (hh : A.handled = none) (hm : σ m = some (.raw (mwObj "list_iterator.__next__" (.ref it)))) (hit : σ it = some (liO l i)) (hl : σ l = some (.list xs)) (hx : xs.length ≤ i)
    (hE : ∀ σf s' e, RelF X (fsOf A) L σf fr (σ.del it) s' → ExcAt X (((σ.del it).un σf).set L (.ns fr)) e (.type "StopIteration") s'.heap → E (.ref e) s') : WC X A L (.ref m) [] fr σ Q E := by
  intro fv vs hf hv; obtain rfl := abs_ref hf; obtain rfl := args0 hv
  intro σf s R
  obtain ⟨us, n, ho, hu, hs⟩ := R.list hl
  obtain ⟨oi, g1, g2, g3⟩ := R.it hit
  have hx' : us[i]? = none := by simp [hs]; lia
  refine wpAny_call (mw_call (R.raw hm) (codeAny_builtin entry_listiter_next ?_))
  show wpAny _ _ (field (.ref it) 0 >>= _) _ _ s
  refine wpAny_bind (wpAny_field g1 g3 (x := .ref l) rfl ?_)
  show wpAny _ _ (if (Value.ref l == Value.none) = true then _ else _) _ _ s
  rw [if_neg (show ¬ ((Value.ref l == Value.none) = true) from Bool.false_ne_true)]
  show wpAny _ _ (field (.ref it) 1 >>= _) _ _ s
  refine wpAny_bind (wpAny_field g1 g3 (x := .int i 0) rfl ?_)
  show wpAny _ _ (seqItems? (.ref l) >>= _) _ _ s
  refine wpAny_bind (wpAny_seqItems ho rfl ?_)
  simp only [Int.toNat_natCast, hx']
  refine wpAny_bind (wpAny_rule (wpAny_bind (wpAny_setField g1 g3 (by simp) ?_)))
  have kk : Heap.ExtBut it s.heap (s.heap.update it (Obj.mapFields (·.setIfInBounds 0 .none))) := (Heap.SameBut.update ..).extBut
  have R1 := R.ext hit (kk.push tupO)
  refine raise_stop hh (hE σf _ _ (R.ext hit ((kk.push _).push _)) ⟨(Out.hi (o := .cell none) R1.rel.big).1, St.no_of fun o q => Nat.lt_irrefl _ (R1.rel.lt q), _, _, _, Heap.get?_push_size _ rfl, rfl, rfl, rfl, .inl rfl⟩)
end
end SL

end
section
open PySem PySem.W PyProof.Rows PySem.Calls PySem.SeqAt
namespace SL
noncomputable def kvAt (kvs : List (KV × PV)) (k : KV) : Option PV := (kvs.find? fun p => p.1 = k).map (·.2)
noncomputable def kvPut (kvs : List (KV × PV)) (k : KV) (v : PV) : List (KV × PV) :=
  if kvs.any (fun p => p.1 = k) then kvs.map (fun p => if p.1 = k then (p.1, v) else p) else kvs ++ [(k, v)]
noncomputable def kvDel (kvs : List (KV × PV)) (k : KV) : List (KV × PV) := kvs.filter fun p => decide (p.1 ≠ k)
noncomputable abbrev absKv (p : KV × Value) : KV × PV := (p.1, abs p.2)
theorem kvAt_abs (kvs : List (KV × Value)) (k : KV) : kvAt (kvs.map absKv) k = (valueAt kvs k).map abs := by
  unfold kvAt valueAt
  rw [List.find?_map, Option.map_map, Option.map_map]
  rfl
theorem kvPut_abs (kvs : List (KV × Value)) (k : KV) (v : Value) : (stored kvs k v).map absKv = kvPut (kvs.map absKv) k (abs v) := by
  unfold stored kvPut
  have e : (kvs.map absKv).any (fun p => p.1 = k) = kvs.any (fun p => p.1 = k) := by rw [List.any_map]; rfl
  rw [e]
  split
  · rw [List.map_map, List.map_map]
    refine List.map_congr_left fun p _ => ?_
    simp only [Function.comp, absKv]
    split <;> rfl
  · simp [absKv]
theorem kvDel_abs (kvs : List (KV × Value)) (k : KV) : (without kvs k).map absKv = kvDel (kvs.map absKv) k := by
  unfold without kvDel
  rw [List.filter_map]
  rfl
noncomputable def HasDict (X : Cx) (d : Addr) (kvs : List (KV × PV)) (σ : St) : Prop := ∀ fs s, Rel X fs σ s → (d == sysModules) = false ∧ ∃ kvs' ep, s.heap.DictAt (knd X.prog X.w) d kvs' ep ∧ kvs'.map absKv = kvs
section
variable {X : Cx} {A : Around} {env : Env} {L : Addr} {fr : Fm} {σ σf : St} {E : Value → Shared → Prop} {fs : List Env} {s : Shared}
theorem notSys {d : Addr} {o : AO} (h : Out X d o) (hd : X.hb.objs.size ≤ d) : (d == sysModules) = false := by
  have : mainGlobals < X.hb.objs.size := by
    obtain ⟨o, es, ep, g, _⟩ := X.G
    exact Heap.lt_size g
  have e : mainGlobals = 3 := rfl
  have e2 : sysModules = 1 := rfl
  refine beq_eq_false_iff_ne.mpr fun q => ?_
  rw [e] at this
  rw [q, e2] at hd
  exact absurd this (by exact Nat.not_lt.mpr (Nat.le_trans hd (by decide)))
theorem dictAt_of {d : Addr} {kvs : List (KV × PV)} {h : Heap} {ob : Obj} (hg : h.get? d = some ob) (ho : OR X (.dict kvs) ob) : ∃ kvs' ep, h.DictAt (knd X.prog X.w) d kvs' ep ∧ kvs'.map absKv = kvs := by
  obtain ⟨hx, es, ep, kvs', h1, h2, h3, h4, h5⟩ := ho
  exact ⟨kvs', ep, ⟨ob, es, hg, hx, h1, h2, h3, h4⟩, h5⟩
theorem HasDict.own {d : Addr} {kvs : List (KV × PV)} (h : σ d = some (.dict kvs)) : HasDict X d kvs σ := fun fs s R => by
  obtain ⟨h1, ob, h2, h3⟩ := R.own d _ h
  exact ⟨notSys h1 (h1.2.resolve_right fun h => nomatch h), dictAt_of h2 h3⟩
theorem HasDict.pin {d : Addr} {kvs : List (KV × PV)} {ob : Obj} (h : σ d = some (.raw ob)) (ho : OR X (.dict kvs) ob) : HasDict X d kvs σ := fun fs s R => by
  obtain ⟨h1, ob', h2, h3⟩ := R.own d _ h
  cases h3
  exact ⟨notSys h1 (h1.2.resolve_right fun h => nomatch h), dictAt_of h2 ho⟩
theorem DictAt_dictOf {prog : Program} {w : World} {h : Heap} {d : Addr} {kvs : List (KV × Value)} {ep : Nat} (x : h.DictAt (knd prog w) d kvs ep) : h.DictOf (knd prog w) d kvs := by
  obtain ⟨o, es, ho, hc, hdat, hk, hp, hn⟩ := x
  exact ⟨o, es, ep, ho, hc, hdat, hk, hp, hn⟩
theorem W.pin {α : Type} {m : Sem α} {d : Addr} {kvs : List (KV × PV)} {Q : α → Fm → St → Prop} (h : σ d = some (.dict kvs)) (hq : ∀ ob, OR X (.dict kvs) ob → W X A L m fr (σ.set d (.raw ob)) Q E) : W X A L m fr σ Q E := by
  intro σf s R
  obtain ⟨ob, h1, h2⟩ := R.get h
  exact hq ob h2 σf s (R.updF (h' := s.heap) h (.refl ..) h1 h1 rfl (fun q => q))
theorem W.unpin {α : Type} {m : Sem α} {d : Addr} {kvs : List (KV × PV)} {ob : Obj} {Q : α → Fm → St → Prop} (h : σ d = some (.raw ob)) (ho : OR X (.dict kvs) ob) (hq : W X A L m fr (σ.set d (.dict kvs)) Q E) : W X A L m fr σ Q E :=
  fun σf s R => hq σf s (R.recast h fun ob' e => by cases e; exact ho)
theorem W2.inD {d : Addr} {kvs : List (KV × PV)} {k : KV} {Q : PV → Fm → St → Prop} (h : HasDict X d kvs σ) (hq : Q (.bool (kvAt kvs k).isSome) fr σ) : W2 X A L (compareOp .In) k.pv (.ref d) fr σ Q E := by
  intro a b ha hb
  obtain rfl := abs_ref hb
  intro σf s R
  obtain ⟨hd, kvs', ep, hD, rfl⟩ := h _ _ R.own
  refine wpAny_in_of (knd := knd X.prog X.w) (k := k) (KV.is_abs.mpr ha) hd (DictAt_dictOf hD).mapOf ⟨_, _, R.toks _, ?_⟩
  rw [kvAt_abs, Option.isSome_map] at hq
  exact hq
theorem W2.getD {d : Addr} {kvs : List (KV × PV)} {k : KV} {v : PV} {Q : PV → Fm → St → Prop} (h : HasDict X d kvs σ) (hv : kvAt kvs k = some v) (hq : Q v fr σ) : W2 X A L getItem (.ref d) k.pv fr σ Q E := by
  intro a b ha hb
  obtain rfl := abs_ref ha
  intro σf s R
  obtain ⟨hd, kvs', ep, hD, rfl⟩ := h _ _ R.own
  rw [kvAt_abs] at hv
  obtain ⟨u, hu, rfl⟩ := Option.map_eq_some_iff.mp hv
  exact wpAny_getItem_of (knd := knd X.prog X.w) (k := k) (KV.is_abs.mpr hb) (DictAt_dictOf hD).mapOf hu ⟨_, _, R.toks _, hq⟩
theorem KV.cases_of {v : Value} {k : KV} (h : abs v = k.pv) : (∃ n t, v = .int n t ∧ k = .i n) ∨ (∃ x t, v = .str x t ∧ k = .s x) := by
  cases k with
  | i n => obtain ⟨t, rfl⟩ := abs_int h; exact .inl ⟨n, t, rfl, rfl⟩
  | s x => obtain ⟨t, rfl⟩ := abs_str h; exact .inr ⟨x, t, rfl, rfl⟩
theorem WI.dict {value slice : Expr} {d : Addr} {kvs : List (KV × PV)} {k : KV} {v : PV} {Q : PV → Fm → St → Prop} (h : HasDict X d kvs σ) (hv : kvAt kvs k = some v) (hq : Q v fr σ)
    (hs1 : ∀ n u, subscripted slice false (.ref d) (.int n u) = PySem.operate [.ref d, .int n u] (getItem (.ref d) (.int n u)))
    (hs2 : ∀ n u, subscripted slice false (.ref d) (.str n u) = PySem.operate [.ref d, .str n u] (getItem (.ref d) (.str n u))) : WI X A L value slice (.ref d) k.pv fr σ Q E := by
  intro a b ha hb
  obtain rfl := abs_ref ha
  intro σf s R
  obtain ⟨hd, kvs', ep, hD, hkv⟩ := h _ _ R.own
  have hT := (DictAt_dictOf hD).typeIs
  have := W2.getD (A := A) (L := L) (E := E) h hv hq (.ref d) b rfl hb σf s R
  rcases KV.cases_of hb with ⟨n, t, rfl, rfl⟩ | ⟨x, t, rfl, rfl⟩
  · exact tail_any hT slot_dict_getitem.lookup this (hs1 n t)
  · exact tail_any hT slot_dict_getitem.lookup this (hs2 x t)
theorem dict_back {h : Heap} {d : Addr} {kvs : List (KV × Value)} (x : h.DictOf (knd X.prog X.w) d kvs) : ∃ ob, h.get? d = some ob ∧ OR X (.dict (kvs.map absKv)) ob := by
  obtain ⟨o, es, ep, ho, hc, hdat, hk, hp, hn⟩ := x
  exact ⟨o, ho, hc, es, ep, kvs, hdat, hk, hp, hn, rfl⟩
theorem WU3.setD {d : Addr} {kvs : List (KV × PV)} {k : KV} {v : PV} {Q : Fm → St → Prop} (h : σ d = some (.dict kvs)) (hz : kvs.length ≤ sizeLine) (hq : Q fr (σ.set d (.dict (kvPut kvs k v)))) : WU3 X A L setItem (.ref d) k.pv v fr σ Q E := by
  intro a b c ha hb hc
  obtain rfl := abs_ref ha
  subst hc
  intro σf s R
  obtain ⟨hd, kvs', ep, hD, rfl⟩ := HasDict.own h _ _ R.own
  have hD' := DictAt_dictOf hD
  unfold setItem
  try with_reducible refine wpAny_holding ?_
  refine wpAny_bind (wpAny_sequenceKey hD'.typeIs (by decide) ?_)
  refine wpAny_bind (wpAny_callSpecial?_slot (name := Str.ofString "__setitem__") hD'.typeIs slot_dict_setitem
    (call_meetsIn slot_dict_setitem hD'.typeIs entry_dict_setitem (args_dict_setitem _ _ _) (meets_dict_setitem_pairs (knd X.prog X.w) d (KV.is_abs.mpr hb) c) ⟨kvs', hD', by simpa using hz, fun h' hmm hs => ?_⟩))
  obtain ⟨ob, g1, g2⟩ := dict_back hmm
  rw [kvPut_abs] at g2
  exact wpAny_pure ⟨_, _, (R.upd h hs g1 (o := .dict (kvPut (kvs'.map absKv) k (abs c))) g2 rfl).toks _, hq⟩
theorem WU2.delD {d : Addr} {kvs : List (KV × PV)} {k : KV} {Q : Fm → St → Prop} (h : σ d = some (.dict kvs)) (hz : kvs.length ≤ sizeLine) (hk : (kvAt kvs k).isSome = true) (hq : Q fr (σ.set d (.dict (kvDel kvs k)))) : WU2 X A L delItem (.ref d) k.pv fr σ Q E := by
  intro a b ha hb
  obtain rfl := abs_ref ha
  intro σf s R
  obtain ⟨hd, kvs', ep, hD, rfl⟩ := HasDict.own h _ _ R.own
  have hD' := DictAt_dictOf hD
  rw [kvAt_abs, Option.isSome_map] at hk
  unfold delItem
  try with_reducible refine wpAny_holding ?_
  refine wpAny_bind (wpAny_sequenceKey hD'.typeIs (by decide) ?_)
  refine wpAny_bind (wpAny_callSpecial?_slot (name := Str.ofString "__delitem__") hD'.typeIs PySem.F.slot_dict_delitem
    (call_meetsIn PySem.F.slot_dict_delitem hD'.typeIs PySem.F.entry_dict_delitem (PySem.F.args_dict_delitem_2 _ _) (meets_dict_delitem_pairs (knd X.prog X.w) d (KV.is_abs.mpr hb)) ⟨kvs', hD', by simpa using hz, hk, fun h' hmm hs => ?_⟩))
  obtain ⟨ob, g1, g2⟩ := dict_back hmm
  rw [kvDel_abs] at g2
  exact wpAny_pure ⟨_, _, (R.upd h hs g1 (o := .dict (kvDel (kvs'.map absKv) k)) g2 rfl).toks _, hq⟩
theorem WM.dictM {d : Addr} {kvs : List (KV × PV)} {name : Str} {id : String} {Q : PV → List PV → Fm → St → Prop} (h : HasDict X d kvs σ) (slot : Slot "dict" name id) (hty : typeOf (.builtin id) = pure (.type "method_descriptor")) (hq : Q (.builtin id) [.ref d] fr σ) :
    WM X A L (.ref d) name fr σ Q E := by
  intro v pl hv; obtain rfl := abs_ref hv
  intro σf s R
  obtain ⟨hd, kvs', ep, hD, _⟩ := h _ _ R.own
  have hD' := DictAt_dictOf hD
  exact getMethod_builtin hD'.typeIs PySem.F.plainAttrs_dict slot hty hD'.mapOf.noDict ⟨_, _, R, hq⟩
theorem WM.dictGet {d : Addr} {kvs : List (KV × PV)} {Q : PV → List PV → Fm → St → Prop} (h : HasDict X d kvs σ) (hq : Q (.builtin "dict.get") [.ref d] fr σ) : WM X A L (.ref d) "get" fr σ Q E := .dictM h PySem.F.slot_dict_get PySem.F.type_dict_get hq
theorem WM.dictValues {d : Addr} {kvs : List (KV × PV)} {Q : PV → List PV → Fm → St → Prop} (h : HasDict X d kvs σ) (hq : Q (.builtin "dict.values") [.ref d] fr σ) : WM X A L (.ref d) "values" fr σ Q E := .dictM h PySem.F.slot_dict_values PySem.F.type_dict_values hq
theorem WC.dictGet {d : Addr} {kvs : List (KV × PV)} {k : KV} {Q : PV → Fm → St → Prop} (h : HasDict X d kvs σ) (hq : Q ((kvAt kvs k).getD .none) fr σ) : WC X A L (.builtin "dict.get") [.ref d, k.pv] fr σ Q E := by
  intro fv vs hf hv; obtain rfl := abs_builtin hf
  obtain ⟨v1, v2, rfl, hv1, hv2⟩ := args2 hv
  obtain rfl := abs_ref hv1
  intro σf s R
  obtain ⟨hd, kvs', ep, hD, rfl⟩ := h _ _ R.own
  have hD' := DictAt_dictOf hD
  refine call_meetsIn F.slot_dict_get hD'.typeIs F.entry_dict_get (F.args_dict_get_2 _ _) (meets_dict_get (knd X.prog X.w) d (KV.is_abs.mpr hv2) hd) ⟨_, hD'.mapOf, ?_⟩
  refine ⟨_, _, R.toks _, ?_⟩
  rw [kvAt_abs] at hq
  show Q (abs _) fr σ
  cases q : valueAt kvs' k with
  | none => rw [q] at hq; exact hq
  | some v => rw [q] at hq; exact hq
theorem srcOf_keys {d : Addr} {kvs : List (KV × PV)} {ob : Obj} (hh : A.handled = none) (ho : OR X (.dict kvs) ob) : ∃ ep : Nat, SrcOf X A (.ref d) (kvs.map fun p => p.1.pv) (fun σ => σ d = some (.raw ob)) (fun i _ => .it "dict_keyiterator" [.ref d, .int i 0, .int kvs.length 0, .int ep 0]) := by
  obtain ⟨hx, es, ep, kvs', h1, h2, h3, h4, rfl⟩ := id ho
  refine ⟨ep, ⟨fun σ τ h hl => h _ _ hl, fun L fr σ hl Q E h v hv σf s R => ?_, fun it => ⟨fun L fr σ Q hit hP hq σf s R => ?_, fun L i x fr σ Q hx' hit hP hq σf s R => ?_, fun L fr σ Q hit hP hq σf s R => ?_⟩⟩⟩
  · obtain rfl := abs_ref hv
    obtain ⟨g1, ob', g2, g3⟩ := R.own.own d _ hl
    cases g3
    refine wpAny_pyIter_dict (knd := knd X.prog X.w) (kvs := kvs') (ep := ep) (notSys g1 (g1.2.resolve_right fun h => nomatch h)) ⟨ob, es, g2, hx, h1, h2, h3, h4⟩ ?_
    refine ⟨fr, _, R.pushIt (T := "dict_keyiterator") (vs := [.ref d, .int 0 0, .int kvs'.length 0, .int ep 0]), ?_⟩
    have := h _ R.fresh (Nat.ne_of_gt R.ltL)
    simpa using this
  · obtain ⟨oi, g1, g2, g3⟩ := R.it (St.set_self ..)
    rw [List.length_map] at g3
    exact wpAny_pyIter_keyiter (d := d) (i := 0) (n := kvs'.length) (ep := ep) ⟨oi, g1, g2, by simpa using g3⟩ ⟨fr, _, R, hq⟩
  · have hne : d ≠ it := fun e => by rw [e, hit] at hP; cases hP
    have hl' : (σ.set it (.it "dict_keyiterator" [.ref d, .int i 0, .int (kvs'.map absKv).length 0, .int ep 0])) d = some (.raw ob) := by rw [St.set_ne _ hne]; exact hP
    have g2' := R.raw hl'
    obtain ⟨oi, g1, g2, g3⟩ := R.it (St.set_self ..)
    rw [List.length_map] at g3
    rw [List.map_map, List.getElem?_map] at hx'
    obtain ⟨⟨k, v⟩, hk, rfl⟩ := Option.map_eq_some_iff.mp hx'
    refine wpAny_pyNext_dict_item (knd := knd X.prog X.w) (i := i) ⟨oi, g1, g2, g3⟩ ⟨ob, es, g2', hx, h1, h2, h3, h4⟩ hk fun key h' hkey hi hsb => ?_
    obtain ⟨o', k1, k2, k3⟩ := hi
    refine ⟨fr, _, R.updIt (St.set_self ..) hsb k1 k2 (vs' := [.ref d, .int (i + 1 : Nat) 0, .int kvs'.length 0, .int ep 0]) k3, ?_⟩
    rw [St.set_set]
    have := hq key (KV.is_abs.mp hkey)
    rwa [List.length_map] at this
  · have hne : d ≠ it := fun e => by rw [e, hit] at hP; cases hP
    have hl' : (σ.set it (.it "dict_keyiterator" [.ref d, .int ((kvs'.map absKv).map fun p => p.1.pv).length 0, .int (kvs'.map absKv).length 0, .int ep 0])) d = some (.raw ob) := by rw [St.set_ne _ hne]; exact hP
    have g2' := R.raw hl'
    obtain ⟨oi, g1, g2, g3⟩ := R.it (St.set_self ..)
    rw [List.length_map, List.length_map] at g3
    refine wpAny_pyNext_dict_end (knd := knd X.prog X.w) (i := kvs'.length) (kvs := kvs') hh ⟨oi, g1, g2, g3⟩ ⟨ob, es, g2', hx, h1, h2, h3, h4⟩ (by simp) fun h' hx' => ?_
    exact ⟨fr, _, R.ext (St.set_self ..) hx', by rw [St.set_del hit]; exact hq⟩
end
end SL

end
section
open PySem PySem.W PyProof.Rows PySem.Calls PySem.SeqAt
namespace SL
section
variable {X : Cx} {A : Around} {env : Env} {L : Addr} {fr : Fm} {σ σf : St} {E : Value → Shared → Prop} {fs : List Env} {s : Shared}
noncomputable def valsO (d : Addr) : Obj := { cls := .type "dict_values", data := .fields #[.ref d] }
theorem WC.dictValues {d : Addr} {kvs : List (KV × PV)} {Q : PV → Fm → St → Prop} (h : HasDict X d kvs σ) (hq : ∀ v, σ v = none → v ≠ L → Q (.ref v) fr (σ.set v (.raw (valsO d)))) : WC X A L (.builtin "dict.values") [.ref d] fr σ Q E := by
  intro fv vs hf hv; obtain rfl := abs_builtin hf
  obtain ⟨v1, rfl, hv1⟩ := args1 hv
  obtain rfl := abs_ref hv1
  intro σf s R
  obtain ⟨hd, kvs', ep, hD, rfl⟩ := h _ _ R.own
  have hD' := DictAt_dictOf hD
  refine call_meetsIn F.slot_dict_values hD'.typeIs F.entry_dict_values (F.args_dict_values_1 _) (meets_dict_values (knd X.prog X.w) d hd) ⟨⟨kvs', hD'⟩, ?_⟩
  exact ⟨_, _, R.push (o := .raw (valsO d)) rfl rfl, hq _ R.fresh (Nat.ne_of_gt R.ltL)⟩
theorem srcOf_vals {d v : Addr} {kvs : List (KV × PV)} {ob : Obj} (hh : A.handled = none) (ho : OR X (.dict kvs) ob) : ∃ ep : Nat, SrcOf X A (.ref v) (kvs.map (·.2)) (fun σ => σ d = some (.raw ob) ∧ σ v = some (.raw (valsO d))) (fun i _ => .it "dict_valueiterator" [.ref d, .int i 0, .int kvs.length 0, .int ep 0]) := by
  obtain ⟨hx, es, ep, kvs', h1, h2, h3, h4, rfl⟩ := id ho
  refine ⟨ep, ⟨fun σ τ h hl => ⟨h _ _ hl.1, h _ _ hl.2⟩, fun L fr σ hl Q E h u hu σf s R => ?_, fun it => ⟨fun L fr σ Q hit hP hq σf s R => ?_, fun L i x fr σ Q hx' hit hP hq σf s R => ?_, fun L fr σ Q hit hP hq σf s R => ?_⟩⟩⟩
  · obtain rfl := abs_ref hu
    obtain ⟨g1, ob', g2, g3⟩ := R.own.own d _ hl.1
    cases g3
    have g4 := R.raw hl.2
    refine wpAny_pyIter_values (knd := knd X.prog X.w) (kvs := kvs') (ep := ep) (d := d) ⟨_, g4, rfl, rfl⟩ ⟨ob, es, g2, hx, h1, h2, h3, h4⟩ ?_
    refine ⟨fr, _, R.pushIt (T := "dict_valueiterator") (vs := [.ref d, .int 0 0, .int kvs'.length 0, .int ep 0]), ?_⟩
    have := h _ R.fresh (Nat.ne_of_gt R.ltL)
    simpa using this
  · obtain ⟨oi, g1, g2, g3⟩ := R.it (St.set_self ..)
    rw [List.length_map] at g3
    exact wpAny_pyIter_valiter (d := d) (i := 0) (n := kvs'.length) (ep := ep) ⟨oi, g1, g2, by simpa using g3⟩ ⟨fr, _, R, hq⟩
  · have hne : d ≠ it := fun e => by have := hP.1; rw [e, hit] at this; cases this
    have hl' : (σ.set it (.it "dict_valueiterator" [.ref d, .int i 0, .int (kvs'.map absKv).length 0, .int ep 0])) d = some (.raw ob) := by rw [St.set_ne _ hne]; exact hP.1
    have g2' := R.raw hl'
    obtain ⟨oi, g1, g2, g3⟩ := R.it (St.set_self ..)
    rw [List.length_map] at g3
    rw [List.map_map, List.getElem?_map] at hx'
    obtain ⟨⟨k, w⟩, hk, rfl⟩ := Option.map_eq_some_iff.mp hx'
    refine wpAny_pyNext_values_item (knd := knd X.prog X.w) (i := i) ⟨oi, g1, g2, g3⟩ ⟨ob, es, g2', hx, h1, h2, h3, h4⟩ hk fun h' hi hsb => ?_
    obtain ⟨o', k1, k2, k3⟩ := hi
    refine ⟨fr, _, R.updIt (St.set_self ..) hsb k1 k2 (vs' := [.ref d, .int (i + 1 : Nat) 0, .int kvs'.length 0, .int ep 0]) k3, ?_⟩
    rw [St.set_set]
    have := hq w rfl
    rwa [List.length_map] at this
  · have hne : d ≠ it := fun e => by have := hP.1; rw [e, hit] at this; cases this
    have hl' : (σ.set it (.it "dict_valueiterator" [.ref d, .int ((kvs'.map absKv).map (·.2)).length 0, .int (kvs'.map absKv).length 0, .int ep 0])) d = some (.raw ob) := by rw [St.set_ne _ hne]; exact hP.1
    have g2' := R.raw hl'
    obtain ⟨oi, g1, g2, g3⟩ := R.it (St.set_self ..)
    rw [List.length_map, List.length_map] at g3
    refine wpAny_pyNext_values_end (knd := knd X.prog X.w) (i := kvs'.length) (kvs := kvs') hh ⟨oi, g1, g2, g3⟩ ⟨ob, es, g2', hx, h1, h2, h3, h4⟩ (by simp) fun h' hx' => ?_
    exact ⟨fr, _, R.ext (St.set_self ..) hx', by rw [St.set_del hit]; exact hq⟩
theorem RelF.setOf {a : Addr} {S : KV → Bool} {n : Nat} (R : RelF X fs L σf fr σ s) (h : σ a = some (.set S n)) : s.heap.SetOf (knd X.prog X.w) a S n := by
  obtain ⟨ob, h1, hx, es, ep, t, h2, h3, h4, h5, h6, h7⟩ := R.get h
  exact ⟨ob, es, ep, t, h1, hx, h2, h3, h4, h5, h6, h7⟩
theorem set_back {h : Heap} {a : Addr} {S : KV → Bool} {n : Nat} (x : h.SetOf (knd X.prog X.w) a S n) : ∃ ob, h.get? a = some ob ∧ OR X (.set S n) ob := by
  obtain ⟨o, es, ep, t, h1, hx, h2, h3, h4, h5, h6, h7⟩ := x
  exact ⟨o, h1, hx, es, ep, t, h2, h3, h4, h5, h6, h7⟩
theorem scannable_of {v : Value} {k : KV} (h : abs v = k.pv) : v.scannable = true := by
  rcases KV.cases_of h with ⟨n, t, rfl, rfl⟩ | ⟨x, t, rfl, rfl⟩ <;> rfl
theorem WC.setNew {Q : PV → Fm → St → Prop} (hq : ∀ a, σ a = none → a ≠ L → Q (.ref a) fr (σ.set a (.set (fun _ => false) 0))) : WC X A L (.type "set") [] fr σ Q E := by
  intro fv vs hf hv; obtain rfl := abs_type hf; obtain rfl := args0 hv
  intro σf s R
  refine call_set_0 fun led => ⟨_, _, R.push (o := .set (fun _ => false) 0) ⟨⟨rfl, rfl, rfl⟩, #[], 0, .fresh 0 0 led, rfl, by intro e he; simp at he, by simp, by decide, by cases led <;> rfl, rfl⟩ rfl, hq _ R.fresh (Nat.ne_of_gt R.ltL)⟩
theorem W2.inSet {a : Addr} {S : KV → Bool} {n : Nat} {k : KV} {Q : PV → Fm → St → Prop} (h : σ a = some (.set S n)) (hq : Q (.bool (S k)) fr σ) : W2 X A L (compareOp .In) k.pv (.ref a) fr σ Q E := by
  intro v b hv hb
  obtain rfl := abs_ref hb
  intro σf s R
  exact wpAny_inSet_of (knd := knd X.prog X.w) (k := k) (KV.is_abs.mpr hv) (scannable_of hv) (R.setOf h) ⟨_, _, R.toks _, hq⟩
theorem WM.setAdd {a : Addr} {S : KV → Bool} {n : Nat} {Q : PV → List PV → Fm → St → Prop} (h : σ a = some (.set S n)) (hq : Q (.builtin "set.add") [.ref a] fr σ) : WM X A L (.ref a) "add" fr σ Q E := by
  intro v pl hv; obtain rfl := abs_ref hv
  intro σf s R
  exact getMethod_set_add (R.setOf h) ⟨_, _, R, hq⟩
theorem WC.setAdd {a : Addr} {S : KV → Bool} {n : Nat} {k : KV} {Q : PV → Fm → St → Prop} (h : σ a = some (.set S n)) (hz : n + 1 < scanBound) (hq : Q .none fr (σ.set a (.set (fun k' => S k' || decide (k' = k)) (if S k then n else n + 1)))) :
    WC X A L (.builtin "set.add") [.ref a, k.pv] fr σ Q E := by
  intro fv vs hf hv; obtain rfl := abs_builtin hf
  obtain ⟨v1, v2, rfl, hv1, hv2⟩ := args2 hv
  obtain rfl := abs_ref hv1
  intro σf s R
  refine call_set_add (knd := knd X.prog X.w) (KV.is_abs.mpr hv2) (scannable_of hv2) (R.setOf h) hz fun h' hsb hS' => ?_
  obtain ⟨ob, g1, g2⟩ := set_back hS'
  exact ⟨_, _, (R.upd h hsb g1 (o := .set (fun k' => S k' || decide (k' = k)) (if S k then n else n + 1)) g2 rfl).toks _, hq⟩
end
end SL

end
section
open PySem PySem.W PyProof.Rows PySem.Calls PySem.SeqAt
namespace SL
section
variable {X : Cx} {A : Around}
noncomputable def Raised (X : Cx) (A : Around) (cls : Value) (P : St → Prop) (x : Value) (s' : Shared) : Prop :=
  ∃ e σ1, x = .ref e ∧ Rel X (fsOf A) σ1 s' ∧ ExcAt X σ1 e cls s'.heap ∧ P σ1
noncomputable def RaisedF (X : Cx) (A : Around) (L : Addr) (cls : Value) (P : St → Prop) (x : Value) (s' : Shared) : Prop :=
  ∃ e fr' σ1, x = .ref e ∧ RelF X (fsOf A) L St.emp fr' σ1 s' ∧ ExcAt X (σ1.set L (.ns fr')) e cls s'.heap ∧ P σ1
theorem call_coreX {f : Addr} {fd : FuncData} {body : List Stmt} {binds : List (Str × Value)} {bs : Fm} {σ σf : St} {s : Shared} {Q : PV → St → Prop} {cls : Value} {P : St → Prop} {k : Nat}
    (hA : OkA A (k + 1)) (hk : fd.scope.kind = .function) (hcell : ∀ x ∈ fd.scope.names, x.2 ≠ .cell) (hbs : (binds.reverse.map fun p => (p.1, abs p.2)) = bs) (hloc : ∀ x ∈ binds, fd.scope.names.lookup x.1 = some .local)
    (D : Disj σ σf) (R : Rel X (fsOf A) (σ.un σf) s)
    (h : ∀ L, (∀ a o, σ a = some o → a < L) → let ev := defEnv fd L f fd.closure; let Ad := A.deeper ev; WB X Ad ev body bs σ (fun fl _ σ' => Q (retOf fl) σ') (RaisedF X Ad L cls P)) :
    wpAny X.M A.in1 (newFunctionEnv fd.scope fd.globals fd.closure binds (fd.qualname ++ ".<locals>.") (some f) fd.code none fd.builtins)
      (fun env s₂ => s₂.heap.NoLimit ∧ codeAny X.M A (.func body env) (fun r s' => match r with
        | .ok (.ret v) => Pc X (fsOf A) σf (Q (abs v)) s' | .ok _ => False | .error e => Raised X A cls P e s') s₂) (fun e s' => Raised X A cls P e s') s := by
  have R0 : Rel X (fsOf A) σ s := R.less fun a o e => St.un_of e
  refine wpAny_newFunctionEnv hcell hloc (fun h' hns hsb => ?_) hk
  have keep : ∀ b o, s.heap.get? b = some o → h'.get? b = some o := fun b o e => (hsb.2 b (Nat.ne_of_lt (Heap.lt_size e))).trans (Heap.get?_push_of_some _ e)
  refine ⟨R.nolimit.keeps keep, ?_⟩
  refine codeAny_func ?_
  obtain ⟨oL, esL, epL, gL, dL, kL, fL⟩ := hns
  have RF : RelF X (fsOf (A.deeper (defEnv fd s.heap.objs.size f fd.closure))) s.heap.objs.size σf bs σ { s with heap := h', toks := s.toks + binds.length } := by
    rw [fsOf_deeper hA]
    exact RelF.callStart (cs := []) (cm := fun _ => none) hk rfl D R keep gL dL kL (fun x v hx => by rw [fL, ← hx, ← hbs]; exact lookup_reverse_map) (fun _ _ h => nomatch h) rfl rfl
  refine wpAny_mono (h s.heap.objs.size (fun a o e => R0.lt e) σf _ RF) (fun fl s' x => ?_) (fun x s' h₁ => ?_)
  · obtain ⟨fr', σ', R', q⟩ := x
    exact ⟨σ', R'.disj, (fsOf_deeper hA _ ▸ R').callEnd, by cases fl <;> exact q⟩
  · obtain ⟨e, fr', σ1, rfl, R', hex, hP⟩ := h₁
    rw [fsOf_deeper hA] at R'
    refine R'.leave (deeper_frames hA _) rfl (by rw [St.un_emp]; exact hex) fun h' base a0 R3 hx' _ _ => ?_
    exact ⟨e, σ1, rfl, R3.own.outer, hx'.less (by rw [St.un_emp]; exact St.le_set (by have := R3.free; rwa [St.un_emp] at this)), hP⟩
theorem call_plainX {f : Addr} {fd : FuncData} {body : List Stmt} {args : List PV} {bs : Fm} {σ : St} {Q : PV → St → Prop} {cls : Value} {P : St → Prop} {k : Nat}
    (hA : OkA A (k + 1)) (hd : IsDef X σ f fd) (hbody : fd.body = .stmts body) (hco : fd.scope.isCoroutine = false) (hgen : fd.scope.isGenerator = false) (hk : fd.scope.kind = .function)
    (hcell : ∀ x ∈ fd.scope.names, x.2 ≠ .cell)
    (hbind : ∀ s vs, vs.map abs = args → Rel X (fsOf A) σ s → ∃ binds : List (Str × Value), BindsTo s fd ⟨vs, []⟩ binds ∧ (binds.reverse.map fun p => (p.1, abs p.2)) = bs ∧ ∀ x ∈ binds, fd.scope.names.lookup x.1 = some .local)
    (h : ∀ L, (∀ a o, σ a = some o → a < L) → let ev := defEnv fd L f fd.closure; let Ad := A.deeper ev; WB X Ad ev body bs σ (fun fl _ σ' => Q (retOf fl) σ') (RaisedF X Ad L cls P)) : CC X A (.ref f) args σ Q (Raised X A cls P) := by
  intro σf s fv vs hf hv D R
  obtain rfl := abs_ref hf
  have R0 : Rel X (fsOf A) σ s := R.less fun a o e => St.un_of e
  obtain ⟨o, ho, hdata, hcd⟩ := hd.here _ s R0
  obtain ⟨binds, hb, hbs, hloc⟩ := hbind s vs hv R0
  refine codeAny_call_function hA.room ho hdata hco hgen hbody hcd ?_
  exact hb _ _ _ _ (call_coreX hA hk hcell hbs hloc D R h)
theorem CC.never {f : PV} {args : List PV} {σ : St} {Q : PV → St → Prop} {cls : Value} {E : Value → Shared → Prop} (h : CC X A f args σ Q (Raised X A cls fun _ => False)) : CC X A f args σ Q E := fun σf s fv vs hf hv D R =>
  codeAny_mono (h σf s fv vs hf hv D R) fun r s' h₃ => by
    cases r with
    | error e => obtain ⟨_, _, _, _, _, q⟩ := h₃; exact q.elim
    | ok fl => cases fl <;> exact h₃
theorem call_plainC {f : Addr} {fd : FuncData} {body : List Stmt} {args : List PV} {bs : Fm} {σ : St} {Q : PV → St → Prop} {E : Value → Shared → Prop} {k : Nat}
    (hA : OkA A (k + 1)) (hd : IsDef X σ f fd) (hbody : fd.body = .stmts body) (hco : fd.scope.isCoroutine = false) (hgen : fd.scope.isGenerator = false) (hk : fd.scope.kind = .function)
    (hcell : ∀ x ∈ fd.scope.names, x.2 ≠ .cell)
    (hbind : ∀ s vs, vs.map abs = args → Rel X (fsOf A) σ s → ∃ binds : List (Str × Value), BindsTo s fd ⟨vs, []⟩ binds ∧ (binds.reverse.map fun p => (p.1, abs p.2)) = bs ∧ ∀ x ∈ binds, fd.scope.names.lookup x.1 = some .local)
    (h : ∀ L, (∀ a o, σ a = some o → a < L) → let ev := defEnv fd L f fd.closure; let Ad := A.deeper ev; WB X Ad ev body bs σ (fun fl _ σ' => Q (retOf fl) σ') (fun _ _ => False)) : CC X A (.ref f) args σ Q E :=
  (call_plainX (cls := .none) (P := fun _ => False) hA hd hbody hco hgen hk hcell hbind fun L hL σf s R => wpAny_mono (h L hL σf s R) (fun _ _ x => x) fun _ _ x => x.elim).never
theorem call_plainW {f : Addr} {fd : FuncData} {body : List Stmt} {args : List PV} {bs : Fm} {σ : St} {Q : PV → St → Prop} {E : Value → Shared → Prop} {k : Nat}
    (hA : OkA A (k + 1)) (hd : IsDef X σ f fd) (hbody : fd.body = .stmts body) (hco : fd.scope.isCoroutine = false) (hgen : fd.scope.isGenerator = false) (hk : fd.scope.kind = .function)
    (hcell : ∀ x ∈ fd.scope.names, x.2 ≠ .cell)
    (hbind : ∀ s vs, vs.map abs = args → Rel X (fsOf A) σ s → ∃ binds : List (Str × Value), BindsTo s fd ⟨vs, []⟩ binds ∧ (binds.reverse.map fun p => (p.1, abs p.2)) = bs ∧ ∀ x ∈ binds, fd.scope.names.lookup x.1 = some .local)
    (h : ∀ L, (∀ a o, σ a = some o → a < L) → let ev := defEnv fd L f fd.closure; let Ad := A.deeper ev; WB X Ad ev body bs σ (fun fl _ σ' => Q (retOf fl) σ') (fun _ _ => False)) : CW X A (.ref f) args σ Q E := (call_plainC hA hd hbody hco hgen hk hcell hbind h).cw
theorem call_starC {f : Addr} {fd : FuncData} {body : List Stmt} {args rest : List PV} {bs : Addr → Fm} {σ : St} {Q : PV → St → Prop} {k : Nat}
    (hA : OkA A (k + 1)) (hd : IsDef X σ f fd) (hbody : fd.body = .stmts body) (hco : fd.scope.isCoroutine = false) (hgen : fd.scope.isGenerator = false) (hk : fd.scope.kind = .function)
    (hcell : ∀ x ∈ fd.scope.names, x.2 ≠ .cell) (hz : rest.length ≤ sizeLine)
    (hbind : ∀ vs, vs.map abs = args → ∃ (binds : List (Str × Value)) (nm : Str) (rs : List Value), bindArgs fd ⟨vs, []⟩ = (newTuple rs >>= fun t => pure (binds ++ [(nm, t)])) ∧ rs.map abs = rest ∧
      (∀ t, (((binds ++ [(nm, Value.ref t)]).reverse).map fun p => (p.1, abs p.2)) = bs t) ∧ fd.scope.names.lookup nm = some .local ∧ ∀ x ∈ binds, fd.scope.names.lookup x.1 = some .local)
    (h : ∀ t L, σ t = none → (∀ a o, (σ.set t (.tuple rest)) a = some o → a < L) → let ev := defEnv fd L f fd.closure; let Ad := A.deeper ev; WB X Ad ev body (bs t) (σ.set t (.tuple rest)) (fun fl _ σ' => Q (retOf fl) σ') NoE) {E : Value → Shared → Prop} : CC X A (.ref f) args σ Q E := by
  intro σf s fv vs hf hv D R
  obtain rfl := abs_ref hf
  have R0 : Rel X (fsOf A) σ s := R.less fun a o e => St.un_of e
  obtain ⟨o, ho, hdata, hcd⟩ := hd.here _ s R0
  obtain ⟨binds, nm, rs, hb, hrs, hbs, hnm, hloc⟩ := hbind vs hv
  refine codeAny_call_function hA.room ho hdata hco hgen hbody hcd ?_
  rw [hb]
  have hl : rs.toArray.size ≤ sizeLine := by rw [List.size_toArray, ← List.length_map (f := abs), hrs]; exact hz
  have hnone := R.fresh
  unfold newTuple
  refine wpAny_bind (wpAny_newObj_type (wpAny_pure ?_) hl)
  have R1 := R.push (o := .tuple rest) (ob := { cls := .type "tuple", data := .seq rs.toArray }) ⟨_, _, rfl, by simpa using hrs⟩ rfl
  rw [← St.set_un] at R1
  have D1 : Disj (σ.set s.heap.objs.size (.tuple rest)) σf := D.set (St.un_eq_none hnone).2
  have core := call_coreX (cls := .none) (P := fun _ => False) (Q := Q) hA hk hcell (hbs s.heap.objs.size) (fun x hx => by
    rcases List.mem_append.mp hx with hx | hx
    · exact hloc x hx
    · simp at hx; subst hx; exact hnm) D1 R1 fun L hL => (fun τ s h' => wpAny_mono (h _ L (St.un_eq_none hnone).1 hL τ s h') (fun _ _ x => x) fun _ _ x => x.elim)
  refine wpAny_mono core (fun env s₂ ⟨h1, h2⟩ => ⟨h1, codeAny_mono h2 fun r s' h₃ => ?_⟩) fun x s' ⟨_, _, _, _, _, q⟩ => q.elim
  cases r with
  | error e => obtain ⟨_, _, _, _, _, q⟩ := h₃; exact q.elim
  | ok fl => cases fl <;> exact h₃
theorem WC.ofX {L : Addr} {f : PV} {args : List PV} {fr : Fm} {σ : St} {Q : PV → Fm → St → Prop} {E : Value → Shared → Prop}
    (h : σ L = none → CW X A f args (σ.set L (.ns fr)) (fun v σ' => ∃ σ1, σ1 L = none ∧ (σ1.set L (.ns fr)).le σ' ∧ Q v fr σ1) E) : WC X A L f args fr σ Q E := by
  intro fv vs hf hv σf s R
  have hL := St.un_eq_none R.free
  refine wpAny_mono (h hL.1 σf s fv vs hf hv (R.disj.set hL.2) (by rw [St.set_un]; exact R.rel)) (fun v s' ⟨σ', D', R', σ1, h1, h2, h3⟩ => ?_) fun _ _ x => x
  have hl : σ1.le σ' := fun a o e => h2 a o (by rw [St.set_ne _ (fun x => by rw [x, h1] at e; cases e)]; exact e)
  refine ⟨fr, σ1, ⟨D'.less hl, by rw [St.un_none h1]; exact hL.2, R'.less fun a o e => ?_⟩, h3⟩
  rw [← St.set_un] at e
  cases q : (σ1.set L (.ns fr)) a with
  | some o' => rw [St.un_of q] at e; cases e; exact St.un_of (h2 _ _ q)
  | none =>
    rw [St.un_none q] at e
    cases q2 : σ' a with
    | none => rw [St.un_none q2]; exact e
    | some o2 => rw [D' _ _ q2] at e; cases e
end
section
variable {X : Cx} {A : Around} {env : Env} {L : Addr} {fr : Fm} {σ σf : St} {E : Value → Shared → Prop} {fs : List Env} {s : Shared}
theorem WS.assign2 {o i e : Expr} {x : Str} {p pn pos : Pos} {Q : PF → Fm → St → Prop}
    (he : (assignEach [Expr.Subscript o i p, Expr.Name x pn] env).map (·.2) = [PySem.assign (Expr.Subscript o i p) env, PySem.assign (Expr.Name x pn) env]) (hw : swappedStores [Expr.Subscript o i p, Expr.Name x pn] e env = pure none)
    (h : WE X A env e fr σ (fun v fr₁ σ₁ => WE X A env o fr₁ σ₁ (fun y fr₂ σ₂ => WE X A env i fr₂ σ₂ (fun z fr₃ σ₃ => WU3 X A env.locals setItem y z v fr₃ σ₃ (fun fr₄ σ₄ => WN X A env x v fr₄ σ₄ (Q .next) E) E) E) E) E) :
    WS X A env (.Assign [Expr.Subscript o i p, Expr.Name x pn] e pos) fr σ Q E := by
  intro σf s R
  refine wpAny_Assign_two (W.go h R (fun v s₁ _ _ R₁ h₁ => ?_)) he hw
  refine wpAny_mono (Q := fun _ s₂ => Po X (fsOf A) env.locals σf (fun fr₄ σ₄ => WN X A env x (abs v) fr₄ σ₄ (Q .next) E) s₂) ?_ (fun _ s₂ ⟨fr₄, σ₄, R₄, h₄⟩ => ?_) fun _ _ x => x
  · rw [arm_assign_Subscript]
    refine wpAny_bind (wpAny_holding (W.go h₁ R₁ (fun y s₂ _ _ R₂ h₂ => ?_)))
    refine wpAny_bind (wpAny_holding (W.go h₂ R₂ (fun z s₃ _ _ R₃ h₃ => ?_)))
    refine wpAny_bind (wpAny_standAt (wpAny_bind (wpAny_holding (wpAny_mono (h₃ y z v rfl rfl rfl σf s₃ R₃) (fun _ s₄ h₄ => ?_) fun _ _ x => x))))
    exact wpAny_release h₄
  · exact WAsg.name (p := pn) h₄ v rfl σf s₂ R₄
end
end SL

end
section
open PySem PySem.W PyProof.Rows PySem.Calls PySem.SeqAt
namespace SL
section
variable {X : Cx} {A : Around} {env : Env} {L : Addr} {fr : Fm} {σ σf : St} {E : Value → Shared → Prop} {fs : List Env} {s : Shared}
theorem WE.methStar {o e : Expr} {name : Str} {apos pos sp : Pos} {Q : PV → Fm → St → Prop}
    (hbase : attributeBase o name env (eval o env) = eval o env)
    (hfew : methodCallForm ([Expr.Starred e sp].length + ([] : List Keyword).length) (backTo pos (starEach [Expr.Starred e sp] env)) [] = false)
    (hst : backTo pos (starEach [Expr.Starred e sp] env) = [(true, eval e env >>= fun v => PySem.standAt pos >>= fun _ => pure v)] ∨ backTo pos (starEach [Expr.Starred e sp] env) = [(true, eval e env)])
    (h : WE X A env o fr σ (fun x fr₁ σ₁ => WG X A env.locals x name fr₁ σ₁ (fun f fr₂ σ₂ =>
      WE X A env e fr₂ σ₂ (fun t fr₃ σ₃ => ∃ a xs, t = .ref a ∧ HasTup X a xs σ₃ ∧ xs.length ≤ sizeLine ∧ Keeps X f σ₃ ∧ WC X A env.locals f xs fr₃ σ₃ Q E) E) E) E) :
    WE X A env (.Call (.Attribute o name apos) [Expr.Starred e sp] [] pos) fr σ Q E := by
  show W _ _ _ _ _ _ _ _
  rw [arm_eval_Call, hbase]
  refine .bind (.mono h fun x fr₁ σ₁ h₁ => .bind (.standAt ?_))
  have hpos : methodCallPos false o env apos pos = pure pos := by unfold methodCallPos; simp
  unfold methodCall
  rw [show backToKw pos (keywordEach [] env) = [] from rfl, hfew]
  refine .bind (.holding (.bind (.mono (h₁ x rfl) fun f fr₂ σ₂ h₂ => .pure ?_)))
  dsimp only
  rw [hpos]
  refine .bind (.pure ?_)
  intro σf s R
  refine callWith_keeps ?_
  have core : ∀ {x : Sem Value}, (∀ {Q' : Value → Shared → Prop}, wpAny X.M A (eval e env) Q' E s → wpAny X.M A x Q' E s) → wpAny X.M A (evalArgs f true [(true, x)] []) (fun a s₁ => (∃ k, Looks X.M s₁.heap (keeperOf f) k) ∧ wpAny X.M A (PySem.call f ([] ++ a.pos) a.kw) (fun a s' => Po X (fsOf A) env.locals σf (Q (abs a)) s') E s₁) E s := by
    intro x hx
    refine evalArgs_star (hx (W.go h₂ R (fun v s₁ fr₃ σ₃ R₃ ⟨a, xs, ht, hT, hz, hk, hc⟩ => ?_)))
    obtain rfl := abs_ref ht
    obtain ⟨vs, hT', hvs⟩ := hT _ _ R₃.own
    obtain ⟨ot, hot, hcls, n, hdat⟩ := hT'
    have hTy : s₁.TypeIs (.ref a) "tuple" := ⟨ot, hot, hcls⟩
    unfold notIterableAtAll
    refine wpAny_bind (wpAny_specialOf hTy slot_tuple_iter.lookup ?_)
    refine wpAny_pure ⟨rfl, ?_⟩
    refine wpAny_collect_seq a (.inr rfl) hot hcls hdat (fun h' hk' => ?_) (by rw [← hvs] at hz; simpa using hz)
    have R₄ := R₃.grow hk'
    refine ⟨hk _ _ _ R₄.own rfl, ?_⟩
    exact hc f ([] ++ vs.toList) rfl (by simpa using hvs) σf _ R₄
  rcases hst with hst | hst
  · rw [hst]
    refine core fun h => wpAny_bind (wpAny_mono h (fun v s₁ h₁ => wpAny_bind (wpAny_standAt (wpAny_pure h₁))) fun _ _ x => x)
  · rw [hst]
    exact core fun h => h
end
end SL

end
section
open PySem PySem.W PyProof.Rows PySem.Calls PySem.SeqAt
namespace SL
theorem nodup_inj {α β : Type} {f : α → β} : ∀ {D : List α}, (D.map f).Nodup → ∀ {g h : α}, g ∈ D → h ∈ D → f g = f h → g = h
  | [], _, _, _, hg, _, _ => by cases hg
  | a :: D, hn, g, h, hg, hh, e => by
    rw [List.map_cons, List.nodup_cons] at hn
    rcases List.mem_cons.mp hg with h1 | h1
    · rcases List.mem_cons.mp hh with h2 | h2
      · rw [h1, h2]
      · exact absurd (List.mem_map.mpr ⟨h, h2, by rw [← e, h1]⟩) hn.1
    · rcases List.mem_cons.mp hh with h2 | h2
      · exact absurd (List.mem_map.mpr ⟨g, h1, by rw [e, h2]⟩) hn.1
      · exact nodup_inj hn.2 h1 h2 e
theorem KV.pv_inj {a b : KV} (h : a.pv = b.pv) : a = b := by
  cases a <;> cases b <;> simp_all [KV.pv]
section
variable {X : Cx} {A : Around} {env : Env} {L : Addr} {fr : Fm} {σ σf : St} {E : Value → Shared → Prop} {fs : List Env} {s : Shared}
theorem WC.lenTup {a : Addr} {xs : List PV} {Q : PV → Fm → St → Prop} (h : HasTup X a xs σ) (hz : xs.length < 2 ^ 62) (hq : Q (.int xs.length) fr σ) : WC X A L (.builtin "len") [.ref a] fr σ Q E := by
  intro fv vs hf hv; obtain rfl := abs_builtin hf
  obtain ⟨v1, rfl, hv1⟩ := args1 hv
  obtain rfl := abs_ref hv1
  intro σf s R
  obtain ⟨us, ht, hu⟩ := h _ _ R.own
  have hs : us.size = xs.length := by rw [← hu]; simp
  exact PyProof.Rows.len_tuple (HasTup.isTup ht) (by lia) ⟨fr, _, R.toks _, by show Q (.int _) _ _; rw [hs]; exact hq⟩
end
end SL

end
section
open PySem PySem.W PyProof.Rows PySem.Calls PySem.SeqAt
namespace SL
section
variable {X : Cx} {A : Around} {env : Env} {L : Addr} {fr : Fm} {σ σf : St} {E : Value → Shared → Prop} {fs : List Env} {s : Shared}
set_option tactic.hygienic true in
theorem RelF.dropG {X : Cx} {fs : List Env} {L : Addr} {σf : St} {fr : Fm} {σ : St} {s : Shared} (R : RelF X fs L σf fr σ s) : RelF X fs L St.emp fr σ s := by
  refine ⟨Disj.emp _, by rw [St.un_emp]; exact R.noL, R.rel.less fun a o e => ?_⟩
  rw [St.un_emp] at e
  unfold St.set at e ⊢
  split
  · rename_i q; rw [if_pos q] at e; exact e
  · rename_i q; rw [if_neg q] at e; exact St.un_of e
structure ECls (X : Cx) (C N : Addr) : Prop where
  obj : ∃ nm q bs hdct sn sub ab col dd k0 k1 k2 k3 k5, X.K.lookup C = some (excClassObj nm q C N bs [.type "ValueError", .type "Exception", .type "BaseException", .type "object"] hdct sn sub ab col dd k0 k1 k2 k3 k5 "ValueError.__new__")
  ns : ∃ oN es ep, X.K.lookup N = some oN ∧ oN.data = .dict es ep ∧ StrKeys es ∧ nsFind es "__init__" = none
end
end SL

end
section
open PySem PySem.W PyProof.Rows PySem.Calls PySem.SeqAt
namespace SL
section
variable {X : Cx} {A : Around} {env : Env} {L : Addr} {fr : Fm} {σ σf : St} {E : Value → Shared → Prop} {fs : List Env} {s : Shared}
theorem W2.fdiv {i j : Int} {Q : PV → Fm → St → Prop} (h : Q (.int (i.fdiv j)) fr σ) (hj : j ≠ 0) (hz : j.natAbs < 1073741824) : W2 X A L (binaryOp .FloorDiv) (.int i) (.int j) fr σ Q E := .ofInts (fun t u s Q' k => PyProof.Rows.floordiv_int hj (k _ _ rfl) (.inl (PyProof.noPylong_small hz))) h
end
end SL

end
section
open PySem PySem.W PyProof.Rows PySem.Calls PySem.SeqAt
namespace SL
section
variable {X : Cx} {A : Around} {env : Env} {fr : Fm} {σ : St} {E : Value → Shared → Prop}
end
end SL

end
section
open PySem PySem.W PyProof.Rows PySem.Calls PySem.SeqAt
namespace SL
noncomputable def BaseList (X : Cx) (l : Addr) (xs : List PV) : Prop := ∃ vs, X.hb.IsList l vs ∧ vs.toList.map abs = xs
section
variable {X : Cx} {A : Around} {env : Env} {L : Addr} {fr : Fm} {σ : St} {E : Value → Shared → Prop}
theorem RelF.blist {fs : List Env} {σf : St} {s : Shared} {a : Addr} {xs : List PV} (R : RelF X fs L σf fr σ s) (h : BaseList X a xs) : ∃ vs, s.heap.IsList a vs ∧ vs.toList.map abs = xs ∧ vs.size = xs.length := by
  obtain ⟨vs, ⟨o, h1, h2⟩, rfl⟩ := h
  exact ⟨vs, ⟨o, R.rel.keep _ _ h1, h2⟩, rfl, by simp⟩
theorem WC.lenB {a : Addr} {xs : List PV} {Q : PV → Fm → St → Prop} (h : BaseList X a xs) (hz : xs.length < 2 ^ 62) (hq : Q (.int xs.length) fr σ) : WC X A L (.builtin "len") [.ref a] fr σ Q E := by
  intro fv vs hf hv; obtain rfl := abs_builtin hf
  obtain ⟨v1, rfl, hv1⟩ := args1 hv
  obtain rfl := abs_ref hv1
  intro σf s R
  obtain ⟨us, ho, hu, hs⟩ := R.blist h
  exact call_len_list ho (by lia) ⟨fr, _, R.toks _, by show Q (.int _) _ _; rw [hs]; exact hq⟩
theorem WI.listB {value slice : Expr} {a : Addr} {xs : List PV} {k : Int} {x : PV} {Q : PV → Fm → St → Prop} (h : BaseList X a xs) (h0 : 0 ≤ k) (h1 : k < 2 ^ 63) (hx : xs[k.toNat]? = some x) (hq : Q x fr σ)
    (hs : ∀ u, subscripted slice false (.ref a) (.int k u) = PySem.operate [.ref a, .int k u] (getItem (.ref a) (.int k u))) : WI X A L value slice (.ref a) (.int k) fr σ Q E := by
  intro v w hv hw; obtain rfl := abs_ref hv; obtain ⟨u, rfl⟩ := abs_int hw
  intro σf s R
  obtain ⟨us, ho, hu, hsz⟩ := R.blist h
  obtain ⟨y, hy, rfl⟩ := get_of_map hu hx
  obtain ⟨o, g1, g2, g3⟩ := id ho
  exact tail_any ⟨_, g1, g2⟩ slot_list_getitem.lookup (wpAny_getItem_list ho h0 h1 hy ⟨_, _, R, hq⟩) (hs u)
theorem WI.nB {value slice : Expr} {a : Addr} {ms : List Int} {i : Int} {Q : PV → Fm → St → Prop} (h : BaseList X a (iL ms)) (k : Nat) (he : i = k) (hk : k < ms.length) (hz : ms.length ≤ 2 ^ 32) (hq : Q (.int (ms.getD k 0)) fr σ)
    (hs : ∀ u, subscripted slice false (.ref a) (.int i u) = PySem.operate [.ref a, .int i u] (getItem (.ref a) (.int i u))) : WI X A L value slice (.ref a) (.int i) fr σ Q E := by
  subst he
  refine WI.listB h (Int.natCast_nonneg k) (by lia) (iL_get (k := k) (by lia)) hq hs
theorem CC.weak {f : PV} {args : List PV} {Q : PV → St → Prop} (h : CC X A f args σ (fun v σ' => ∃ τ : St, τ.le σ' ∧ Q v τ) E) : CC X A f args σ Q E :=
  fun σf s fv vs hf hv D R => codeAny_mono (h σf s fv vs hf hv D R) fun r s' x => by
    cases r with
    | error e => exact x
    | ok f =>
      cases f with
      | ret v =>
        obtain ⟨σ', D', R', τ, hl, q⟩ := x
        refine ⟨τ, D'.less hl, R'.less fun a o e => ?_, q⟩
        cases e1 : τ a with
        | some o1 => rw [St.un_of e1] at e; cases e; exact St.un_of (hl _ _ e1)
        | none =>
          rw [St.un_none e1] at e
          cases e2 : σ' a with
          | none => rw [St.un_none e2]; exact e
          | some o2 => have := D' a o2 e2; rw [e] at this; cases this
      | next => exact x
      | brk => exact x
      | cont => exact x
end
end SL

end
section
open PySem PySem.W PyProof.Rows PySem.Calls PySem.SeqAt
namespace SL
section
variable (X : Cx) (A : Around) (env : Env) (E : Value → Shared → Prop)
noncomputable abbrev kWB (rest : List Stmt) (Q : PF → Fm → St → Prop) : PF → Fm → St → Prop := fun f fr σ => match f with | .next => WB X A env rest fr σ Q E | f => Q f fr σ
noncomputable abbrev kBinR (op : Operator) (x : PV) (Q : PV → Fm → St → Prop) : PV → Fm → St → Prop := fun y fr σ => W2 X A env.locals (binaryOp op) x y fr σ Q E
noncomputable abbrev kBinL (r : Expr) (op : Operator) (Q : PV → Fm → St → Prop) : PV → Fm → St → Prop := fun x fr σ => WE X A env r fr σ (kBinR X A env E op x Q) E
noncomputable abbrev kCmpR (op : CmpOp) (x : PV) (Q : PV → Fm → St → Prop) : PV → Fm → St → Prop := fun y fr σ => W2 X A env.locals (compareOp op) x y fr σ Q E
noncomputable abbrev kCmpL (r : Expr) (op : CmpOp) (Q : PV → Fm → St → Prop) : PV → Fm → St → Prop := fun x fr σ => WE X A env r fr σ (kCmpR X A env E op x Q) E
noncomputable abbrev kTru (Q : Bool → Fm → St → Prop) : PV → Fm → St → Prop := fun v fr σ => W1B X A env.locals truthy v fr σ Q E
noncomputable abbrev kUn (op : UnaryOp) (Q : PV → Fm → St → Prop) : PV → Fm → St → Prop := fun x fr σ => W1 X A env.locals (unaryOp op) x fr σ Q E
noncomputable abbrev kIfE (b o : Expr) (Q : PV → Fm → St → Prop) : Bool → Fm → St → Prop := fun c fr σ => if c = true then WE X A env b fr σ Q E else WE X A env o fr σ Q E
noncomputable abbrev kIfS (b o : List Stmt) (Q : PF → Fm → St → Prop) : Bool → Fm → St → Prop := fun c fr σ => if c = true then WB X A env b fr σ Q E else WB X A env o fr σ Q E
noncomputable abbrev kNamed (x : Str) (Q : PV → Fm → St → Prop) : PV → Fm → St → Prop := fun v fr σ => WN X A env x v fr σ (Q v) E
noncomputable abbrev kConsA (v : PV) (Q : List PV → Fm → St → Prop) : List PV → Fm → St → Prop := fun vs => Q (v :: vs)
noncomputable abbrev kArg (pos : Pos) (rest : List Expr) (Q : List PV → Fm → St → Prop) : PV → Fm → St → Prop := fun v fr σ => WA X A env pos rest fr σ (kConsA v Q) E
noncomputable abbrev kNot (Q : Bool → Fm → St → Prop) : Bool → Fm → St → Prop := fun b => Q (!b)
noncomputable abbrev kRet (Q : PF → Fm → St → Prop) : PV → Fm → St → Prop := fun v => Q (.ret v)
noncomputable abbrev kDrop (Q : PF → Fm → St → Prop) : PV → Fm → St → Prop := fun _ => Q .next
noncomputable abbrev kAsg (x : Str) (Q : PF → Fm → St → Prop) : PV → Fm → St → Prop := fun v fr σ => WN X A env x v fr σ (Q .next) E
noncomputable abbrev kAug2 (x : Str) (op : Operator) (v : PV) (Q : PF → Fm → St → Prop) : PV → Fm → St → Prop := fun u fr σ => W2 X A env.locals (inplaceOp op) v u fr σ (kAsg X A env E x Q) E
noncomputable abbrev kAug1 (x : Str) (e : Expr) (op : Operator) (Q : PF → Fm → St → Prop) : PV → Fm → St → Prop := fun v fr σ => WE X A env e fr σ (kAug2 X A env E x op v Q) E
noncomputable abbrev kCallA (f : PV) (Q : PV → Fm → St → Prop) : List PV → Fm → St → Prop := fun vs fr σ => Keeps X f σ ∧ WC X A env.locals f vs fr σ Q E
noncomputable abbrev kCall (pos : Pos) (es : List Expr) (Q : PV → Fm → St → Prop) : PV → Fm → St → Prop := fun f fr σ => WA X A env pos es fr σ (kCallA X A env E f Q) E
noncomputable abbrev kMethC (f : PV) (first : List PV) (Q : PV → Fm → St → Prop) : List PV → Fm → St → Prop := fun vs fr σ => Keeps X f σ ∧ WC X A env.locals f (first ++ vs) fr σ Q E
noncomputable abbrev kMethA (pos : Pos) (es : List Expr) (Q : PV → Fm → St → Prop) : PV → List PV → Fm → St → Prop := fun f first fr σ => WA X A env pos es fr σ (kMethC X A env E f first Q) E
noncomputable abbrev kMeth (name : Str) (pos : Pos) (es : List Expr) (Q : PV → Fm → St → Prop) : PV → Fm → St → Prop := fun x fr σ => WM X A env.locals x name fr σ (kMethA X A env E pos es Q) E
noncomputable abbrev kTup (env : Env) (Q : PV → Fm → St → Prop) : List PV → Fm → St → Prop := fun vs fr σ => vs.length ≤ sizeLine ∧ ∀ a, σ a = none → a ≠ env.locals → Q (.ref a) fr (σ.set a (.tuple vs))
noncomputable abbrev kLst (env : Env) (Q : PV → Fm → St → Prop) : List PV → Fm → St → Prop := fun vs fr σ => vs.length ≤ sizeLine ∧ ∀ a, σ a = none → a ≠ env.locals → Q (.ref a) fr (σ.set a (.list vs))
noncomputable abbrev kAttr (name : Str) (Q : PV → Fm → St → Prop) : PV → Fm → St → Prop := fun x fr σ => WG X A env.locals x name fr σ Q E
noncomputable abbrev kItem2 (value slice : Expr) (x : PV) (Q : PV → Fm → St → Prop) : PV → Fm → St → Prop := fun y fr σ => WI X A env.locals value slice x y fr σ Q E
noncomputable abbrev kItem1 (value slice : Expr) (Q : PV → Fm → St → Prop) : PV → Fm → St → Prop := fun x fr σ => WE X A env slice fr σ (kItem2 X A env E value slice x Q) E
noncomputable abbrev kSA2 (attr : Str) (v : PV) (Q : PF → Fm → St → Prop) : PV → Fm → St → Prop := fun x fr σ => WU2 X A env.locals (fun a b => setAttr a attr b) x v fr σ (Q .next) E
noncomputable abbrev kSA1 (o : Expr) (attr : Str) (Q : PF → Fm → St → Prop) : PV → Fm → St → Prop := fun v fr σ => WE X A env o fr σ (kSA2 X A env E attr v Q) E
noncomputable abbrev kFor2 (target : Expr) (body orelse : List Stmt) (Q : PF → Fm → St → Prop) : Value → Fm → St → Prop := fun it fr σ => WFor X A env target it body orelse fr σ Q E
noncomputable abbrev kFor1 (target : Expr) (body orelse : List Stmt) (Q : PF → Fm → St → Prop) : PV → Fm → St → Prop := fun x fr σ => WIter X A env.locals x fr σ (kFor2 X A env E target body orelse Q) E
noncomputable abbrev kCmp2 (e : Expr) (scope : Scope) (cl : List (Str × Addr)) (Q : PV → Fm → St → Prop) : Value → Fm → St → Prop := fun it fr σ => WBlock X A env e scope cl it fr σ Q
noncomputable abbrev kCmp1 (e : Expr) (scope : Scope) (cl : List (Str × Addr)) (Q : PV → Fm → St → Prop) : PV → Fm → St → Prop := fun x fr σ => WIter X A env.locals x fr σ (kCmp2 X A env e scope cl Q) E
end
section
variable {X : Cx} {A : Around} {env : Env} {fr : Fm} {σ : St} {E : Value → Shared → Prop}
theorem WB.consK {st : Stmt} {rest : List Stmt} {Q : PF → Fm → St → Prop} (h : WS X A env st fr σ (kWB X A env E rest Q) E) : WB X A env (st :: rest) fr σ Q E := WB.cons h
theorem WE.binOpK {l r : Expr} {op : Operator} {pos : Pos} {Q : PV → Fm → St → Prop} (h : WE X A env l fr σ (kBinL X A env E r op Q) E) : WE X A env (.BinOp l op r pos) fr σ Q E := WE.binOp h
theorem WE.unaryOpK {x : Expr} {op : UnaryOp} {pos : Pos} {Q : PV → Fm → St → Prop} (h : WE X A env x fr σ (kUn X A env E op Q) E) : WE X A env (.UnaryOp op x pos) fr σ Q E := WE.unaryOp h
theorem WE.compareK {l r : Expr} {op : CmpOp} {pos : Pos} {Q : PV → Fm → St → Prop} (h : WE X A env l fr σ (kCmpL X A env E r op Q) E) (hm : behindInMarks op r = false) : WE X A env (.Compare l [op] [r] pos) fr σ Q E := WE.compare h hm
theorem WE.ifExpK {t b o : Expr} {pos : Pos} {Q : PV → Fm → St → Prop} (h : WT X A env t fr σ (kIfE X A env E b o Q) E) : WE X A env (.IfExp t b o pos) fr σ Q E := WE.ifExp h
theorem WE.namedK {x : Str} {e : Expr} {p pos : Pos} {Q : PV → Fm → St → Prop} (h : WE X A env e fr σ (kNamed X A env E x Q) E) : WE X A env (.NamedExpr (.Name x p) e pos) fr σ Q E := WE.named h
theorem WA.consK {pos : Pos} {e : Expr} {rest : List Expr} {Q : List PV → Fm → St → Prop} (h : WE X A env e fr σ (kArg X A env E pos rest Q) E)
    (he : starEach (e :: rest) env = (false, eval e env) :: starEach rest env) : WA X A env pos (e :: rest) fr σ Q E := WA.cons h he
theorem WT.valueK {e : Expr} {Q : Bool → Fm → St → Prop} (h : WE X A env e fr σ (kTru X A env E Q) E)
    (he : isTrue e env (eval e env) = (do let v ← eval e env; standAt e.pos; PySem.holding [v] (truthy v))) : WT X A env e fr σ Q E := WT.value h he
theorem WT.notK {x : Expr} {pos : Pos} {Q : Bool → Fm → St → Prop} (h : WT X A env x fr σ (kNot Q) E) : WT X A env (.UnaryOp .Not x pos) fr σ Q E := WT.not h
theorem WT.compareK {l r : Expr} {op : CmpOp} {pos : Pos} {Q : Bool → Fm → St → Prop} (h : WE X A env l fr σ (kCmpL X A env E r op (kTru X A env E Q)) E) (hm : behindInMarks op r = false) : WT X A env (.Compare l [op] [r] pos) fr σ Q E := WT.compare h hm
theorem WS.retK {e : Expr} {pos : Pos} {Q : PF → Fm → St → Prop} (h : WE X A env e fr σ (kRet Q) E) : WS X A env (.Return (some e) pos) fr σ Q E := WS.ret h
theorem WS.ifK {t : Expr} {b o : List Stmt} {pos : Pos} {Q : PF → Fm → St → Prop} (h : WT X A env t fr σ (kIfS X A env E b o Q) E) : WS X A env (.If t b o pos) fr σ Q E := WS.if h
theorem WS.exprK {e : Expr} {pos : Pos} {Q : PF → Fm → St → Prop} (h : WE X A env e fr σ (kDrop Q) E) (hi : interactive env = false) (hs : swapsWith e none pos.line env = pure false) : WS X A env (.Expr e pos) fr σ Q E := WS.expr h hi hs
theorem WS.assignK {x : Str} {e : Expr} {p pos : Pos} {Q : PF → Fm → St → Prop} (h : WE X A env e fr σ (kAsg X A env E x Q) E) (hs : swapsWith e (some (.Name x p)) pos.line env = pure false) : WS X A env (.Assign [.Name x p] e pos) fr σ Q E := WS.assign h hs
theorem WS.augNameK {x : Str} {e : Expr} {op : Operator} {p pos : Pos} {Q : PF → Fm → St → Prop} (h : WL X A env x fr σ (kAug1 X A env E x e op Q) E) : WS X A env (.AugAssign (.Name x p) op e pos) fr σ Q E := WS.augName h
theorem WE.callK {func : Expr} {es : List Expr} {pos : Pos} {Q : PV → Fm → St → Prop} (hl : noLone es = true)
    (he : eval (.Call func es [] pos) env = (do PySem.callWith pos (← eval func env) [] (backTo pos (starEach es env)) []))
    (h : WE X A env func fr σ (kCall X A env E pos es Q) E) : WE X A env (.Call func es [] pos) fr σ Q E := WE.call hl he h
theorem WE.methK {o : Expr} {name : Str} {apos pos : Pos} {es : List Expr} {Q : PV → Fm → St → Prop} (hl : noLone es = true)
    (hbase : attributeBase o name env (eval o env) = eval o env)
    (hfew : methodCallForm (es.length + ([] : List Keyword).length) (backTo pos (starEach es env)) [] = true) (hline : (apos.endLine == pos.line) = true)
    (h : WE X A env o fr σ (kMeth X A env E name pos es Q) E) : WE X A env (.Call (.Attribute o name apos) es [] pos) fr σ Q E := WE.meth hl hbase hfew hline h
theorem WE.tupleK {es : List Expr} {k : Nat} {pos : Pos} {Q : PV → Fm → St → Prop} (h : WA X A env pos es fr σ (kTup env Q) E) : WE X A env (.Tuple es k pos) fr σ Q E := WE.tuple h
theorem WE.listK {es : List Expr} {pos : Pos} {Q : PV → Fm → St → Prop} (h : WA X A env pos es fr σ (kLst env Q) E) : WE X A env (.List es pos) fr σ Q E := WE.list h
theorem WE.attrK {o : Expr} {name : Str} {pos : Pos} {Q : PV → Fm → St → Prop} (hbase : attributeBase o name env (eval o env) = eval o env) (h : WE X A env o fr σ (kAttr X A env E name Q) E) : WE X A env (.Attribute o name pos) fr σ Q E := WE.attr hbase h
theorem WE.itemK {value slice : Expr} {pos : Pos} {Q : PV → Fm → St → Prop} (h : WE X A env value fr σ (kItem1 X A env E value slice Q) E) : WE X A env (.Subscript value slice pos) fr σ Q E := WE.item h
theorem WS.assignAttrK {o e : Expr} {attr : Str} {p pos : Pos} {Q : PF → Fm → St → Prop} (h : WE X A env e fr σ (kSA1 X A env E o attr Q) E) (hs : swapsWith e (some (.Attribute o attr p)) pos.line env = pure false) : WS X A env (.Assign [.Attribute o attr p] e pos) fr σ Q E := WS.assignAttr h hs
theorem WS.forK {target iter : Expr} {body orelse : List Stmt} {pos : Pos} {Q : PF → Fm → St → Prop} (hs : ∀ x, foldedSetIterable iter env x = pure x) (h : WE X A env iter fr σ (kFor1 X A env E target body orelse Q) E) : WS X A env (.For target iter body orelse pos) fr σ Q E := WS.for hs h
theorem WE.listCompK {elt target iter : Expr} {ifs : List Expr} {rest : List Comprehension} {scope : Scope} {pos : Pos} {cl : List (Str × Addr)} {Q : PV → Fm → St → Prop}
    (hh : A.handled = none) (hs : ∀ x, foldedSetIterable iter env x = pure x) (hclo : closureFor scope env = pure cl) (hkind : scope.kind = .function)
    (hnames : ∀ L, ∀ x ∈ scope.names, x.2 = .local → (cEnv scope env L cl).kindOf x.1 = some .local)
    (h : WE X A env iter fr σ (kCmp1 X A env E (.ListComp elt (⟨target, iter, ifs, 0⟩ :: rest) scope pos) scope cl Q) E) :
    WE X A env (.ListComp elt (⟨target, iter, ifs, 0⟩ :: rest) scope pos) fr σ Q E := WE.listComp hh hs hclo hkind hnames h
theorem WS.assignCompK {x : Str} {p : Pos} {elt target iter : Expr} {ifs : List Expr} {rest : List Comprehension} {scope : Scope} {pos pos' : Pos} {cl : List (Str × Addr)} {Q : PF → Fm → St → Prop}
    (hh : A.handled = none) (hs : ∀ x, foldedSetIterable iter env x = pure x) (hclo : closureFor scope env = pure cl) (hkind : scope.kind = .function)
    (hnames : ∀ L, ∀ x ∈ scope.names, x.2 = .local → (cEnv scope env L cl).kindOf x.1 = some .local)
    (hsw : swapsWith (.ListComp elt (⟨target, iter, ifs, 0⟩ :: rest) scope pos) (some (.Name x p)) pos'.line env = pure true)
    (h : WE X A env iter fr σ (kCmp1 X A env E (.ListComp elt (⟨target, iter, ifs, 0⟩ :: rest) scope pos) scope cl (kAsg X A env E x Q)) E) :
    WS X A env (.Assign [.Name x p] (.ListComp elt (⟨target, iter, ifs, 0⟩ :: rest) scope pos) pos') fr σ Q E := WS.assignComp hh hs hclo hkind hnames hsw h
theorem WE.loc {x : Str} {pos : Pos} {v : PV} {Q : PV → Fm → St → Prop} (h : Q v fr σ) (hd : (x == ("__debug__" : Str)) = false) (hk : env.scope.kind = .function) (hl : env.kindOf x = some .local) (hv : fr.lookup x = some v) : WE X A env (.Name x pos) fr σ Q E := WE.name (WL.local h hk hl hv) hd
theorem WC.ofM {L : Addr} {f : PV} {args : List PV} {P : PV → St → Prop} {Q : PV → Fm → St → Prop} (h : CW X A f args σ P E) (hq : ∀ v σ', P v σ' → Q v fr σ') : WC X A L f args fr σ Q E := WC.of (h.mono hq)
theorem hid2 {α β : Type} {P Q : α → β → Prop} (h : ∀ K : α → β → Prop, (∀ a b, Q a b → K a b) → ∀ a b, P a b → K a b) : ∀ a b, P a b → Q a b := h Q fun _ _ h => h
theorem WC.ofE {L : Addr} {f a : PV} {args : List PV} {Q : PV → Fm → St → Prop} (h : CW X A f args σ (fun v σ' => v = a ∧ σ' = σ) E) (hq : Q a fr σ) : WC X A L f args fr σ Q E := WC.of (h.mono fun _ _ ⟨e1, e2⟩ => e1 ▸ e2 ▸ hq)
theorem WB.gK {sts : List Stmt} {Q : PF → Fm → St → Prop} (h : ∀ K : PF → Fm → St → Prop, (∀ f fr σ, Q f fr σ → K f fr σ) → WB X A env sts fr σ K E) : WB X A env sts fr σ Q E := h Q fun _ _ _ x => x
theorem WT.gK {t : Expr} {Q : Bool → Fm → St → Prop} (h : ∀ K : Bool → Fm → St → Prop, (∀ f fr σ, Q f fr σ → K f fr σ) → WT X A env t fr σ K E) : WT X A env t fr σ Q E := h Q fun _ _ _ x => x
theorem WS.gK {st : Stmt} {Q : PF → Fm → St → Prop} (h : ∀ K : PF → Fm → St → Prop, (∀ f fr σ, Q f fr σ → K f fr σ) → WS X A env st fr σ K E) : WS X A env st fr σ Q E := h Q fun _ _ _ x => x
noncomputable abbrev kBody (X : Cx) (A : Around) (env : Env) (body : List Stmt) (K : PF → Fm → St → Prop) : Fm → St → Prop := fun fr σ => WB X A env body fr σ K NoE
noncomputable abbrev kWhl (X : Cx) (A : Around) (env : Env) (body orelse : List Stmt) (K1 K2 : PF → Fm → St → Prop) : Bool → Fm → St → Prop := fun b fr σ => if b = true then WB X A env body fr σ K1 NoE else WB X A env orelse fr σ K2 NoE
theorem WIter.forG {x : PV} {xs : List PV} {P : St → Prop} {o : Nat → Addr → AO} {target : Expr} {body orelse : List Stmt} {Q : PF → Fm → St → Prop} (hh : A.handled = none) (S : SrcOf X A x xs P o) (J : Nat → Fm → St → Prop)
    (hlet : ∀ it, LetOk X A target it (fun i => o i it))
    (hP : ∀ i fr σ, J i fr σ → P σ) (h0 : J 0 fr σ)
    (turn : ∀ i (K : PF → Fm → St → Prop), (∀ f fr σ, BodyEnd (J (i + 1)) Q f fr σ → K f fr σ) → ∀ x fr σ, xs[i]? = some x → J i fr σ → WAsg X A env target x fr σ (kBody X A env body K) NoE)
    (done : ∀ fr σ, J xs.length fr σ → WB X A env orelse fr σ Q NoE) :
    WIter X A env.locals x fr σ (kFor2 X A env E target body orelse Q) E := WIter.for hh S J hlet hP h0 (fun i x fr σ hx hJ => turn i _ (fun _ _ _ h => h) x fr σ hx hJ) done
theorem WS.whileG {test : Expr} {body orelse : List Stmt} {pos : Pos} {Q : PF → Fm → St → Prop} (hh : A.handled = none) (I : Nat → Fm → St → Prop)
    (turn : ∀ n fr σ, I n fr σ → ∀ K1 K2 : PF → Fm → St → Prop, (∀ f fr σ, TurnEnd I n Q f fr σ → K1 f fr σ) → (∀ f fr σ, Q f fr σ → K2 f fr σ) → WT X A env test fr σ (kWhl X A env body orelse K1 K2) NoE)
    (n : Nat) (hI : I n fr σ) : WS X A env (.While test body orelse pos) fr σ Q E := WS.while hh I (fun n fr σ h => turn n fr σ h _ _ (fun _ _ _ x => x) fun _ _ _ x => x) n hI
noncomputable abbrev kFmE (g : PV → Option PV) (x : PV) (σ : St) : PV → Fm → St → Prop := fun y _ σ₄ => g x = some y ∧ σ.le σ₄
noncomputable abbrev kFmI (X : Cx) (A : Around) (cenv : Env) (elt : Expr) (g : PV → Option PV) (x : PV) (σ : St) : Bool → Fm → St → Prop := fun ok fr₃ σ₃ => if ok = true then WE X A cenv elt fr₃ σ₃ (kFmE g x σ) NoE else g x = none ∧ σ.le σ₃
noncomputable abbrev kFmA (X : Cx) (A : Around) (cenv : Env) (ifs : List Expr) (elt : Expr) (g : PV → Option PV) (x : PV) (σ : St) : Fm → St → Prop := fun fr₂ σ₂ => WIfs X A cenv ifs fr₂ σ₂ (kFmI X A cenv elt g x σ) NoE
theorem WBlock.fm0K {elt target iter : Expr} {ifs : List Expr} {scope : Scope} {pos : Pos} {cl : List (Str × Addr)} {x : PV} {xs : List PV} {P : St → Prop} {o : Nat → Addr → AO} {Q : PV → Fm → St → Prop}
    (hh : A.handled = none) (S : SrcOf X A x xs P o) (g : PV → Option PV) (hlet : ∀ it, LetOk X A target it (fun i => o i it)) (hPσ : P σ) (hlen : xs.length ≤ sizeLine) (hnc : ∀ n, cellsFrom n scope.names [] = [])
    (turn : ∀ L' x, x ∈ xs → (∀ a o, σ a = some o → a < L') → WAsg X A (cEnv scope env L' cl) target x [] σ (kFmA X A (cEnv scope env L' cl) ifs elt g x σ) NoE)
    (done : ∀ acc, σ acc = none → acc ≠ env.locals → Weak (fun _ => Q (.ref acc) fr) [] (σ.set acc (.list (xs.filterMap g)))) :
    WIter X A env.locals x fr σ (kCmp2 X A env (.ListComp elt [⟨target, iter, ifs, 0⟩] scope pos) scope cl Q) E := WBlock.fm0 hh S g hlet hPσ hlen hnc turn done
theorem WBlock.fm0V {elt target iter : Expr} {ifs : List Expr} {scope : Scope} {pos : Pos} {cl : List (Str × Addr)} {x : PV} {xs ys : List PV} {P : St → Prop} {o : Nat → Addr → AO} {Q : PV → Fm → St → Prop}
    (hh : A.handled = none) (S : SrcOf X A x xs P o) (g : PV → Option PV) (hg : xs.filterMap g = ys) (hlet : ∀ it, LetOk X A target it (fun i => o i it)) (hPσ : P σ) (hlen : xs.length ≤ sizeLine) (hnc : ∀ n, cellsFrom n scope.names [] = [])
    (turn : ∀ L' x, x ∈ xs → (∀ a o, σ a = some o → a < L') → WAsg X A (cEnv scope env L' cl) target x [] σ (kFmA X A (cEnv scope env L' cl) ifs elt g x σ) NoE)
    (done : ∀ acc τ, σ.le τ → τ acc = some (.list ys) → Q (.ref acc) fr τ) :
    WIter X A env.locals x fr σ (kCmp2 X A env (.ListComp elt [⟨target, iter, ifs, 0⟩] scope pos) scope cl Q) E :=
  WBlock.fm0K hh S g hlet hPσ hlen hnc turn fun acc h _ => ⟨[], _, Fm.nil_le _, St.le_refl _, done acc _ (St.le_set h) (hg ▸ St.set_self ..)⟩
theorem WC.range1V {L : Addr} {n : Int} {Q : PV → Fm → St → Prop} (h : ∀ a τ, σ.le τ → τ a = some (.range 0 n 1) → Q (.ref a) fr τ) : WC X A L (.type "range") [.int n] fr σ Q E := WC.range1 fun a h0 _ => h a _ (St.le_set h0) (St.set_self ..)
theorem kLst.v {vs : List PV} {Q : PV → Fm → St → Prop} (hz : vs.length ≤ sizeLine) (h : ∀ a τ, σ.le τ → τ a = some (.list vs) → Q (.ref a) fr τ) : kLst env Q vs fr σ := ⟨hz, fun a h0 _ => h a _ (St.le_set h0) (St.set_self ..)⟩
theorem kTup.v {vs : List PV} {Q : PV → Fm → St → Prop} (hz : vs.length ≤ sizeLine) (h : ∀ a τ, σ.le τ → τ a = some (.tuple vs) → Q (.ref a) fr τ) : kTup env Q vs fr σ := ⟨hz, fun a h0 _ => h a _ (St.le_set h0) (St.set_self ..)⟩
theorem St.leV {τ : St} {a : Addr} {o : AO} (h : σ.set a o = τ) (h0 : σ a = none) : σ.le τ := h ▸ St.le_set h0
theorem St.atV {τ : St} {a : Addr} {o : AO} (h : σ.set a o = τ) : τ a = some o := h ▸ St.set_self ..
end
end SL

end
section
open PySem PySem.W PyProof.Rows PySem.Calls PySem.SeqAt
namespace SL
section
variable {X : Cx} {A : Around} {env : Env} {L : Addr} {fr : Fm} {σ σf : St} {E : Value → Shared → Prop} {fs : List Env} {s : Shared}
theorem WE.methStar1 {o e1 e : Expr} {name : Str} {apos pos sp : Pos} {Q : PV → Fm → St → Prop}
    (hbase : attributeBase o name env (eval o env) = eval o env)
    (hfew : methodCallForm ([e1, Expr.Starred e sp].length + ([] : List Keyword).length) (backTo pos (starEach [e1, Expr.Starred e sp] env)) [] = false)
    (hst : backTo pos (starEach [e1, Expr.Starred e sp] env) = [(false, eval e1 env), (true, eval e env >>= fun v => PySem.standAt pos >>= fun _ => pure v)] ∨ backTo pos (starEach [e1, Expr.Starred e sp] env) = [(false, eval e1 env), (true, eval e env)])
    (h : WE X A env o fr σ (fun x fr₁ σ₁ => WG X A env.locals x name fr₁ σ₁ (fun f fr₂ σ₂ => WE X A env e1 fr₂ σ₂ (fun y fr₃ σ₃ =>
      WE X A env e fr₃ σ₃ (fun t fr₄ σ₄ => ∃ a xs, t = .ref a ∧ σ₄ a = some (.list xs) ∧ xs.length ≤ sizeLine ∧ Keeps X f σ₄ ∧ WC X A env.locals f (y :: xs) fr₄ σ₄ Q E) E) E) E) E) :
    WE X A env (.Call (.Attribute o name apos) [e1, Expr.Starred e sp] [] pos) fr σ Q E := by
  show W _ _ _ _ _ _ _ _
  rw [arm_eval_Call, hbase]
  refine .bind (.mono h fun x fr₁ σ₁ h₁ => .bind (.standAt ?_))
  have hpos : methodCallPos false o env apos pos = pure pos := by unfold methodCallPos; simp
  unfold methodCall
  rw [show backToKw pos (keywordEach [] env) = [] from rfl, hfew]
  refine .bind (.holding (.bind (.mono (h₁ x rfl) fun f fr₂ σ₂ h₂ => .pure ?_)))
  dsimp only
  rw [hpos]
  refine .bind (.pure ?_)
  intro σf s R
  refine callWith_keeps ?_
  have core : ∀ {x : Sem Value}, (∀ {Q' : Value → Shared → Prop} {s}, wpAny X.M A (eval e env) Q' E s → wpAny X.M A x Q' E s) → wpAny X.M A (evalArgs f true [(false, eval e1 env), (true, x)] []) (fun a s₁ => (∃ k, Looks X.M s₁.heap (keeperOf f) k) ∧ wpAny X.M A (PySem.call f ([] ++ a.pos) a.kw) (fun a s' => Po X (fsOf A) env.locals σf (Q (abs a)) s') E s₁) E s := by
    intro x hx
    refine evalArgs_spliced trivial ?_
    unfold spliced
    refine wpAny_bind (W.go h₂ R (fun y s₁ fr₃ σ₃ R₃ h₃ => ?_))
    refine wpAny_bind (wpAny_pure (wpAny_bind (wpAny_holding ?_)))
    unfold spliced
    refine wpAny_bind (hx (W.go h₃ R₃ (fun t s₂ fr₄ σ₄ R₄ ⟨a, xs, ht, hT, hz, hk, hc⟩ => ?_)))
    obtain rfl := abs_ref ht
    obtain ⟨vs, n, ho, hvs, hsz⟩ := R₄.list hT
    have hTy : s₂.TypeIs (.ref a) "list" := ⟨_, ho, rfl⟩
    refine wpAny_bind ?_
    unfold notIterableAtAll
    refine wpAny_bind (wpAny_specialOf hTy slot_list_iter.lookup (wpAny_pure ?_))
    refine wpAny_bind ?_
    refine wpAny_collect_seq a (.inl rfl) ho rfl rfl (fun h' hk' => ?_) (by rw [hsz]; exact hz)
    refine wpAny_bind (wpAny_holding ?_)
    unfold spliced
    refine wpAny_pure (wpAny_pure (wpAny_pure ?_))
    have R₅ := R₄.grow hk'
    refine ⟨hk _ _ _ R₅.own rfl, ?_⟩
    exact hc f ([] ++ _) rfl (by simp [hvs]) σf _ R₅
  rcases hst with hst | hst
  · rw [hst]
    exact core fun h => wpAny_bind (wpAny_mono h (fun v s₁ h₁ => wpAny_bind (wpAny_standAt (wpAny_pure h₁))) fun _ _ x => x)
  · rw [hst]
    exact core fun h => h
end
end SL

end
section
open PySem PySem.W PyProof.Rows PySem.Calls PySem.SeqAt
namespace SL
section
variable {X : Cx} {A : Around} {env : Env} {L : Addr} {fr : Fm} {σ σf : St} {E : Value → Shared → Prop} {fs : List Env} {s : Shared}
end
end SL

end
section
open PySem PySem.W PyProof.Rows PySem.Calls PySem.SeqAt
namespace SL
section
variable {X : Cx} {A : Around} {env : Env} {L : Addr} {fr : Fm} {σ σf : St} {E : Value → Shared → Prop} {fs : List Env} {s : Shared}
theorem WI.str {value slice : Expr} {x : Str} {k : Int} {c : Nat} {Q : PV → Fm → St → Prop} (h0 : 0 ≤ k) (h1 : k < 2 ^ 63) (hc : x.cps[k.toNat]? = some c) (hq : Q (.str ⟨#[c]⟩) fr σ)
    (hs : ∀ t u, subscripted slice false (.str x t) (.int k u) = PySem.operate [.str x t, .int k u] (getItem (.str x t) (.int k u))) : WI X A L value slice (.str x) (.int k) fr σ Q E := by
  intro v w hv hw; obtain ⟨t, rfl⟩ := abs_str hv; obtain ⟨u, rfl⟩ := abs_int hw
  intro σf s R
  refine tail_any (typeIs_str s x t) F.slot_str_getitem.lookup (P.getItem_str (c := c) (by simp; lia) ?_ ⟨_, _, R.toks _, hq⟩) (hs t u)
  have hlt : k.toNat < x.length := (Array.getElem?_eq_some_iff.mp hc).1
  rw [seqIndex_pos hlt h0]
  exact hc
theorem WC.strI {a : Int} {Q : PV → Fm → St → Prop} (ha : a.natAbs.log2 < 1920) (hq : Q (.str (Str.ofString (toString a))) fr σ) : WC X A L (.type "str") [.int a] fr σ Q E := by
  intro fv vs hf hv; obtain rfl := abs_type hf
  obtain ⟨v1, rfl, hv1⟩ := args1 hv
  obtain ⟨t, rfl⟩ := abs_int hv1
  exact fun σf s R => P.str_of_int ha ⟨_, _, R.toks _, hq⟩
theorem WC.intS {x : Str} {n : Int} {Q : PV → Fm → St → Prop} (hn : PySem.intText? x = some n) (hl : x.length ≤ 640) (hq : Q (.int n) fr σ) : WC X A L (.type "int") [.str x] fr σ Q E := by
  intro fv vs hf hv; obtain rfl := abs_type hf
  obtain ⟨v1, rfl, hv1⟩ := args1 hv
  obtain ⟨t, rfl⟩ := abs_str hv1
  exact fun σf s R => KIN.call_text hn hl ⟨_, _, R.toks _, hq⟩
theorem WM.indexS {x : Str} {Q : PV → List PV → Fm → St → Prop} (hq : Q (.builtin "str.index") [.str x] fr σ) : WM X A L (.str x) "index" fr σ Q E := by
  intro v pl hv; obtain ⟨t, rfl⟩ := abs_str hv
  exact fun σf s R => GM.index ⟨_, _, R, hq⟩
theorem WM.countS {x : Str} {Q : PV → List PV → Fm → St → Prop} (hq : Q (.builtin "str.count") [.str x] fr σ) : WM X A L (.str x) "count" fr σ Q E := by
  intro v pl hv; obtain ⟨t, rfl⟩ := abs_str hv
  exact fun σf s R => GM.count ⟨_, _, R, hq⟩
theorem WC.indexS {x y : Str} {i : Nat} {rest : List Nat} {Q : PV → Fm → St → Prop} (ho : Builtin.Str.occurrences x y 0 x.length 1 = i :: rest) (hq : Q (.int i) fr σ) : WC X A L (.builtin "str.index") [.str x, .str y] fr σ Q E := by
  intro fv vs hf hv; obtain rfl := abs_builtin hf
  obtain ⟨v1, v2, rfl, hv1, hv2⟩ := args2 hv
  obtain ⟨t, rfl⟩ := abs_str hv1
  obtain ⟨u, rfl⟩ := abs_str hv2
  exact fun σf s R => call_gives F.slot_str_index (typeIs_str _ _ _) F.entry_str_index (F.args_str_index_2 _ _) (gives_str_index x y t u i rest ho) ⟨_, _, R.toks _, hq⟩
theorem WC.countS {x y : Str} {Q : PV → Fm → St → Prop} (hq : Q (.int (Builtin.Str.occurrences x y 0 x.length (x.length + 1)).length) fr σ) : WC X A L (.builtin "str.count") [.str x, .str y] fr σ Q E := by
  intro fv vs hf hv; obtain rfl := abs_builtin hf
  obtain ⟨v1, v2, rfl, hv1, hv2⟩ := args2 hv
  obtain ⟨t, rfl⟩ := abs_str hv1
  obtain ⟨u, rfl⟩ := abs_str hv2
  exact fun σf s R => call_gives F.slot_str_count (typeIs_str _ _ _) F.entry_str_count (F.args_str_count_2 _ _) (gives_str_count x y t u) ⟨_, _, R.toks _, hq⟩
theorem WE.sliceLo {value lo : Expr} {p pos : Pos} {Q : PV → Fm → St → Prop} (ht : ∀ o r, letTemporaryGo value o r = pure ())
    (h : WE X A env value fr σ (fun x fr₁ σ₁ => WE X A env lo fr₁ σ₁ (fun i fr₂ σ₂ => ∃ k : Nat, i = .int k ∧ ((∃ t, x = .str t ∧ t.length ≤ sizeLine ∧ Q (.str (Txt.slice t (some (k : Int)) none)) fr₂ σ₂) ∨ ∃ a xs, x = .ref a ∧ σ₂ a = some (.list xs) ∧ xs.length ≤ sizeLine ∧
      ∀ b, σ₂ b = none → b ≠ env.locals → Q (.ref b) fr₂ (σ₂.set b (.list (xs.drop k))))) E) E) :
    WE X A env (.Subscript value (.Slice (some lo) none none p) pos) fr σ Q E := fun σf s R => by
  refine Subscript_Slice (W.go h R (fun x s₁ fr₁ σ₁ R₁ h₁ => wpAny_Slice (W.go h₁ R₁ (fun i s₂ fr₂ σ₂ R₂ ⟨k, e2, h₂⟩ => wpAny_pure (wpAny_pure ?_))))) ht
  obtain ⟨ti, rfl⟩ := abs_int e2
  rcases h₂ with ⟨t, e1, hz, h₂⟩ | ⟨a, xs, e1, hl, hz, h₂⟩
  · obtain ⟨tx, rfl⟩ := abs_str e1
    exact SBH.sliceItem_sn (P := fun h => ∀ b o, s₂.heap.get? b = some o → h.get? b = some o) (fun h ob k b o e => Heap.get?_push_of_some _ (k b o e)) (fun _ _ e => e) (fun h' t' k hP => ⟨fr₂, σ₂, (R₂.grow hP).toks _, h₂⟩) hz
  · obtain rfl := abs_ref e1
    obtain ⟨us, n, ho, hu, hs⟩ := R₂.list hl
    have R3 := R₂.pushMore { cls := .type "slice", data := .fields #[.int k ti, .none, .none] }
    have ho' : (s₂.heap.push { cls := .type "slice", data := .fields #[.int k ti, .none, .none] }).get? a = some (listOf us n) := Heap.get?_push_of_some _ ho
    refine ⟨"list", _, slot_list_getitem.lookup, ⟨_, ho', rfl⟩, wpAny_getItem_list_slice (s := { s₂ with heap := s₂.heap.push { cls := .type "slice", data := .fields #[.int k ti, .none, .none] } }) (lo := some (k : Int)) (hi := none) (st := none) (isList_of ho') ⟨_, Heap.get?_push_size _ rfl, rfl, rfl⟩ (.int _ _) .none .none (by decide) ?_ (by rw [hs]; exact hz)⟩
    rw [slicePick_from']
    refine ⟨fr₂, _, R3.push (o := .list (xs.drop k)) ⟨_, 0, rfl, by rw [← hu, List.map_drop]⟩ rfl, h₂ _ R3.fresh (Nat.ne_of_gt R3.ltL)⟩
theorem WE.sliceHi {value hi : Expr} {p pos : Pos} {Q : PV → Fm → St → Prop} (ht : ∀ o r, letTemporaryGo value o r = pure ())
    (h : WE X A env value fr σ (fun x fr₁ σ₁ => WE X A env hi fr₁ σ₁ (fun i fr₂ σ₂ => ∃ k : Nat, i = .int k ∧ ((∃ t, x = .str t ∧ t.length ≤ sizeLine ∧ Q (.str (Txt.slice t none (some (k : Int)))) fr₂ σ₂) ∨ ∃ a xs, x = .ref a ∧ σ₂ a = some (.list xs) ∧ xs.length ≤ sizeLine ∧ k ≤ xs.length ∧
      ∀ b, σ₂ b = none → b ≠ env.locals → Q (.ref b) fr₂ (σ₂.set b (.list (xs.take k))))) E) E) :
    WE X A env (.Subscript value (.Slice none (some hi) none p) pos) fr σ Q E := fun σf s R => by
  refine Subscript_Slice (W.go h R (fun x s₁ fr₁ σ₁ R₁ h₁ => wpAny_Slice (wpAny_pure (W.go h₁ R₁ (fun i s₂ fr₂ σ₂ R₂ ⟨k, e2, h₂⟩ => wpAny_pure ?_))))) ht
  obtain ⟨ti, rfl⟩ := abs_int e2
  rcases h₂ with ⟨t, e1, hz, h₂⟩ | ⟨a, xs, e1, hl, hz, hk, h₂⟩
  · obtain ⟨tx, rfl⟩ := abs_str e1
    exact SBH.sliceItem_ns (P := fun h => ∀ b o, s₂.heap.get? b = some o → h.get? b = some o) (fun h ob k b o e => Heap.get?_push_of_some _ (k b o e)) (fun _ _ e => e) (fun h' t' k hP => ⟨fr₂, σ₂, (R₂.grow hP).toks _, h₂⟩) hz
  · obtain rfl := abs_ref e1
    obtain ⟨us, n, ho, hu, hs⟩ := R₂.list hl
    have R3 := R₂.pushMore { cls := .type "slice", data := .fields #[.none, .int k ti, .none] }
    have ho' : (s₂.heap.push { cls := .type "slice", data := .fields #[.none, .int k ti, .none] }).get? a = some (listOf us n) := Heap.get?_push_of_some _ ho
    refine ⟨"list", _, slot_list_getitem.lookup, ⟨_, ho', rfl⟩, wpAny_getItem_list_slice (s := { s₂ with heap := s₂.heap.push { cls := .type "slice", data := .fields #[.none, .int k ti, .none] } }) (lo := none) (hi := some (k : Int)) (st := none) (isList_of ho') ⟨_, Heap.get?_push_size _ rfl, rfl, rfl⟩ .none (.int _ _) .none (by decide) ?_ (by rw [hs]; exact hz)⟩
    rw [slicePick_upto _ _ (by rw [hs]; exact hk)]
    refine ⟨fr₂, _, R3.push (o := .list (xs.take k)) ⟨_, 0, rfl, by rw [← hu, List.map_take]⟩ rfl, h₂ _ R3.fresh (Nat.ne_of_gt R3.ltL)⟩
theorem WS.assignTup {elts : List Expr} {k : Nat} {tpos pos : Pos} {value : Expr} {Q : PF → Fm → St → Prop} (hs : swapsWithSole [.Tuple elts k tpos] value pos.line env = pure false) (hw : swappedStores [.Tuple elts k tpos] value env = pure none)
    (h : WE X A env value fr σ (fun v fr₁ σ₁ => WAsg X A env (.Tuple elts k tpos) v fr₁ σ₁ (Q .next) E) E) : WS X A env (.Assign [.Tuple elts k tpos] value pos) fr σ Q E :=
  fun σf s R => Assign_Tuple (W.go h R (fun v s₁ _ _ R₁ h₁ => W.go (h₁ v rfl) R₁ (fun _ _ _ _ R₂ h₂ => ⟨_, _, R₂, h₂⟩))) hs hw
theorem WS.assignSwap {elts : List Expr} {k : Nat} {tpos pos : Pos} {value : Expr} {n1 n2 : Str} {Q : PF → Fm → St → Prop} (hh : A.handled = none) (hs : swapsWithSole [.Tuple elts k tpos] value pos.line env = pure false) (hw : swappedStores [.Tuple elts k tpos] value env = pure (some [n1, n2]))
    (h : WE X A env value fr σ (fun v fr₁ σ₁ => ∃ a x y, v = .ref a ∧ HasTup X a [x, y] σ₁ ∧ WN X A env n2 y fr₁ σ₁ (fun fr₂ σ₂ => WN X A env n1 x fr₂ σ₂ (Q .next) E) E) E) : WS X A env (.Assign [.Tuple elts k tpos] value pos) fr σ Q E :=
  fun σf s R => Assign_Tuple_swapped (W.go h R (fun v s₁ _ _ R₁ ⟨a, x, y, e, ht, h₁⟩ => by
    obtain rfl := abs_ref e
    obtain ⟨vs, ho, hu⟩ := ht _ _ R₁.own
    obtain ⟨v1, v2, hvs, e1, e2⟩ := args2 hu
    have hsz : vs.size = 2 := by rw [← Array.length_toList, hvs]; rfl
    show wpAny _ _ (unpackItems (.ref a) 2 none) _ _ _
    rw [← hsz]
    refine unpackItems_tuple hh ho fun h' he => ?_
    rw [hvs]
    have R₂ := R₁.grow (h' := h') (fun b o e => he b o (Nat.ne_of_lt (Heap.lt_size e)) e)
    refine assignInOrder_cons (bindName_ (W.go (h₁ v2 e2) R₂ (fun _ s₃ fr₃ σ₃ R₃ h₃ => ?_)))
    exact assignInOrder_cons (bindName_ (W.go (h₃ v1 e1) R₃ (fun _ s₄ fr₄ σ₄ R₄ h₄ => assignInOrder_nil ⟨_, _, R₄, h₄⟩))))) hs hw
end
end SL

end
section
open PySem PySem.W PyProof.Rows PySem.Calls PySem.SeqAt
namespace SL
section
variable {X : Cx} {A : Around} {env : Env} {L : Addr} {fr : Fm} {σ σf : St} {E : Value → Shared → Prop} {fs : List Env} {s : Shared}
theorem WAsg.sub {o i : Expr} {p : Pos} {v : PV} {Q : Fm → St → Prop} (h : WE X A env o fr σ (fun x fr₁ σ₁ => WE X A env i fr₁ σ₁ (fun y fr₂ σ₂ => WU3 X A env.locals setItem x y v fr₂ σ₂ Q E) E) E) : WAsg X A env (.Subscript o i p) v fr σ Q E := fun a ha σf s R =>
  kas_sub (W.go h R (fun x s₁ _ _ R₁ h₁ => W.go h₁ R₁ (fun y s₂ _ _ R₂ h₂ => W.go (h₂ x y a rfl rfl ha) R₂ (fun _ _ _ _ R' h' => ⟨_, _, R', h'⟩))))
theorem strsAre_of : ∀ {us : List Value} {ns : List Str}, us.map abs = sL ns → StrsAre us ns
  | [], [], _ => .nil
  | [], _ :: _, h => by simp [sL] at h
  | _ :: _, [], h => by simp [sL] at h
  | v :: us, n :: ns, h => by
    simp only [sL, List.map_cons, List.cons.injEq] at h
    obtain ⟨t, rfl⟩ := abs_str h.1
    exact .cons n t (strsAre_of h.2)
theorem abs_strs : ∀ {us : List Value} {ns : List Str}, StrsAre us ns → us.map abs = sL ns
  | _, _, .nil => rfl
  | _, _, .cons x t h => by rw [List.map_cons, abs_strs h]; rfl
theorem sorted_tupS {M : Model} {prog : Program} {w : World} {l : Addr} {o : Obj} {vs : Array Value} {n : Nat} {ns : List Str} {Q : Value → Shared → Prop} (ho : s.heap.get? l = some o) (hc : o.cls = .type "tuple") (hd : o.data = .seq vs n) (hS : StrsAre vs.toList ns) (h64 : vs.toList.length < 64)
    (h : ∀ (h' : Heap) (out : Array Value) (ns' : List Str), (∀ b o', s.heap.get? b = some o' → h'.get? b = some o') → StrsAre out.toList ns' → ns'.Perm ns → sortedS ns' = true → Q (.ref h'.objs.size) { s with heap := sortedHeap (h'.push (seqObj "list" vs.toList.toArray 0)) h'.objs.size vs.toList out }) :
    wpAny (model prog w) A (call (.builtin "sorted") [.ref l]) Q E s := by
  refine Calls.call_function_entry kind_sorted plain_sorted entry_sorted (args_sorted1 _) ?_
  unfold Builtin.«sorted»
  refine wpAny_bind (m := checkCount "sorted" 1 1 _) (wpAny_pure ?_)
  refine wpAny_bind (wpAny_collect_seq l (.inr rfl) ho hc hd (fun h' hk => ?_) (by rw [sizeLine_eq]; simp at h64; lia))
  refine wpAny_bind (wpAny_newList ?_)
  have hoL : (h'.push (seqObj "list" vs.toList.toArray 0)).get? h'.objs.size = some (seqObj "list" vs.toList.toArray 0) := Heap.get?_push_size _ rfl
  refine wpAny_bind (wpAny_holding (wpAny_call_entry slot_list_sort ⟨_, hoL, rfl⟩ entry_list_sort (list_sort_treeK strKind_oneLt hoL hS.keysOf (fun v₁ v₂ rest e => keyKind_strs (by rw [← e]; exact hS)) h64 fun st' hp hs => ⟨_, rfl, ?_⟩) (args_list_sort _)))
  obtain ⟨ss', h1, h2, h3⟩ := sorted_out_str hS hp hs
  exact wpAny_pure ⟨_, rfl, h h' _ ss' hk h1 h2 h3⟩
theorem WC.sortedTS {l : Addr} {ns : List Str} {Q : PV → Fm → St → Prop} (h : σ l = some (.tuple (sL ns))) (h64 : ns.length < 64) (hq : ∀ a ns', σ a = none → ns'.Perm ns → sortedS ns' = true → Q (.ref a) fr (σ.set a (.list (sL ns')))) : WC X A L (.builtin "sorted") [.ref l] fr σ Q E := by
  intro fv vs hf hv; obtain rfl := abs_builtin hf
  obtain ⟨v1, rfl, hv1⟩ := args1 hv
  obtain rfl := abs_ref hv1
  intro σf s R
  obtain ⟨us, n, ho, hu, hs⟩ := R.tuple h
  have hI : StrsAre us.toList ns := strsAre_of hu
  have hz : us.toList.length < 64 := by simpa [hs, sL] using h64
  refine sorted_tupS (M := X.M) ho rfl rfl hI hz fun h' out ns' hk a1 a2 a3 => ?_
  have R1 := R.grow hk
  have hoL : (h'.push (seqObj "list" us.toList.toArray 0)).get? h'.objs.size = some (seqObj "list" us.toList.toArray 0) := Heap.get?_push_size _ rfl
  obtain ⟨e, he⟩ := sortedHeap_at (out := out) hoL
  have hf := R1.freshAt (a := h'.objs.size) (Nat.le_refl _)
  refine ⟨_, _, R1.newAt (t := s.toks) (o := .list (sL ns')) (fun b o hb => ?_) (Nat.le_refl _) he ⟨out, e, rfl, abs_strs a1⟩, hq _ ns' hf.1 a2 a3⟩
  have hlt : b < h'.objs.size := Heap.lt_size hb
  rw [sortedHeap_old (Nat.ne_of_lt hlt) (by rw [size_push']; exact Nat.lt_succ_of_lt hlt)]
  exact Heap.get?_push_of_some _ hb
theorem WC.tupleT {l : Addr} {xs : List PV} {Q : PV → Fm → St → Prop} (h : σ l = some (.tuple xs)) (hq : Q (.ref l) fr σ) : WC X A L (.type "tuple") [.ref l] fr σ Q E := by
  intro fv vs hf hv; obtain rfl := abs_type hf
  obtain ⟨v1, rfl, hv1⟩ := args1 hv
  obtain rfl := abs_ref hv1
  intro σf s R
  obtain ⟨us, n, ho, hu, hs⟩ := R.tuple h
  exact call_tuple_same ⟨_, ho, rfl, _, rfl⟩ ⟨_, _, R, hq⟩
theorem any_strs {us : Array Value} {ns : List Str} {k : Str} (hu : us.toList.map abs = sL ns) : us.any (fun v => match abs v with | .str x => x.cps.toList == k.cps.toList | _ => false) = ns.any (fun x => x.cps.toList == k.cps.toList) := by
  have : ∀ (l : List Value) (ns : List Str), l.map abs = sL ns → l.any (fun v => match abs v with | .str x => x.cps.toList == k.cps.toList | _ => false) = ns.any (fun x => x.cps.toList == k.cps.toList) := by
    intro l
    induction l with
    | nil => intro ns e; cases ns with
      | nil => rfl
      | cons _ _ => simp [sL] at e
    | cons v l ih => intro ns e; cases ns with
      | nil => simp [sL] at e
      | cons n ns =>
        simp only [sL, List.map_cons, List.cons.injEq] at e
        rw [List.any_cons, ih ns e.2, e.1, List.any_cons]
  rw [← this us.toList ns hu]
  simp
theorem eqAt_strs {us : Array Value} {ns : List Str} {k : Str} {t : Tok} (hu : us.toList.map abs = sL ns) : ∀ y ∈ us, EqAt A.in1 s y (.str k t) (match abs y with | .str x => x.cps.toList == k.cps.toList | _ => false) := by
  intro y hy
  have hy : abs y ∈ us.toList.map abs := List.mem_map.mpr ⟨y, by simpa using hy, rfl⟩
  rw [hu] at hy
  obtain ⟨x, _, e⟩ := List.mem_map.mp hy
  obtain ⟨t', rfl⟩ := abs_str e.symm
  exact (PySem.SeqRoads2.EqGives.str x k t' t).at _ _
theorem W2.notInLS {l : Addr} {ns : List Str} {k : Str} {Q : PV → Fm → St → Prop} (h : σ l = some (.list (sL ns))) (hk : k ∈ ns) (hq : Q (.bool false) fr σ) : W2 X A L (compareOp .NotIn) (.str k) (.ref l) fr σ Q E := by
  intro a b ha hb
  obtain ⟨t, rfl⟩ := abs_str ha; obtain rfl := abs_ref hb
  intro σf s R
  obtain ⟨us, n, ho, hu, hs⟩ := R.list h
  refine notIn_listAt _ (isList_of ho) (eqAt_strs hu) ⟨_, _, R, ?_⟩
  show Q (.bool _) fr σ
  rw [any_strs hu, List.any_eq_true.mpr ⟨k, hk, by simp⟩]; exact hq
theorem WC.pop0 {a : Addr} {xs : List PV} {x : PV} {Q : PV → Fm → St → Prop} (h : σ a = some (.list (x :: xs))) (hz : xs.length + 1 ≤ sizeLine) (hq : Q x fr (σ.set a (.list xs))) : WC X A L (.builtin "list.pop") [.ref a, .int 0] fr σ Q E := by
  intro fv vs hf hv; obtain rfl := abs_builtin hf
  obtain ⟨v1, v2, rfl, hv1, hv2⟩ := args2 hv
  obtain rfl := abs_ref hv1
  obtain ⟨tk, rfl⟩ := abs_int hv2
  intro σf s R
  obtain ⟨us, n, ho, hu, hs⟩ := R.list h
  have hsz : us.size = xs.length + 1 := by rw [hs]; simp
  obtain ⟨y, hy, rfl⟩ := get_of_map (k := 0) (x := x) hu rfl
  refine call_meets PySem.F.slot_list_pop ⟨_, ho, rfl⟩ PySem.F.entry_list_pop (PySem.F.args_list_pop_2 _ _) (PySem.MeetsSeq.list_pop_at a _ n 0 tk 0 y (by decide) (seqIndex_pos (by lia) (by decide)) hy (by rw [hsz]; exact hz)) ⟨ho, ?_⟩
  refine ⟨_, _, R.mapSeq (t := s.toks) h ho _ ?_, hq⟩
  show (us.eraseIdxIfInBounds 0).toList.map abs = xs
  have : us.toList.map abs = abs y :: xs := hu
  rw [Array.eraseIdxIfInBounds]
  split
  · rw [Array.toList_eraseIdx]
    obtain ⟨v, r, e1, e2, e3⟩ := List.map_eq_cons_iff.mp this
    rw [e1]; exact e3
  · lia
theorem WBlock.empties {elt target iter : Expr} {scope : Scope} {pos : Pos} {cl : List (Str × Addr)} {x : PV} {xs : List PV} {P : St → Prop} {o : Nat → Addr → AO} {Q : PV → Fm → St → Prop}
    (hh : A.handled = none) (S : SrcOf X A x xs P o) (hlet : ∀ it, LetOk X A target it (fun i => o i it)) (hP : P σ) (hnc : ∀ n, cellsFrom n scope.names [] = []) (hlen : xs.length ≤ sizeLine)
    (turn : ∀ (L' : Addr) (i : Nat) (x : PV) (τ : St), xs[i]? = some x → σ.le τ → WAsg X A (cEnv scope env L' cl) target x [] τ (fun fr₂ σ₂ => WE X A (cEnv scope env L' cl) elt fr₂ σ₂ (fun y _ τ' => ∃ a, y = .ref a ∧ τ a = none ∧ τ' = τ.set a (.list [])) NoE) NoE)
    (done : ∀ acc ys τ, σ.le τ → σ acc = none → τ acc = some (.list ys) → ys.length = xs.length → ys.Nodup → (∀ y ∈ ys, ∃ a, y = .ref a ∧ a ≠ acc ∧ σ a = none ∧ τ a = some (.list [])) → Q (.ref acc) fr τ) :
    WIter X A env.locals x fr σ (kCmp2 X A env (.ListComp elt [⟨target, iter, [], 0⟩] scope pos) scope cl Q) E := by
  refine WBlock.one hh S (fun L' i ys σ' => σ.le σ' ∧ ys.length = i ∧ ys.Nodup ∧ ∀ y ∈ ys, ∃ a, y = PV.ref a ∧ σ a = none ∧ σ' a = some (.list [])) hlet ?_ hP ?_ ?_ ?_
  · rintro L' i ys σ' ⟨h, _⟩; exact S.mono _ _ h hP
  · intro L' _ _
    rw [hnc]
    exact ⟨St.le_refl _, rfl, .nil, fun y hy => (by cases hy)⟩
  · rintro L' i x ys τ hx ⟨h1, h2, h3, h4⟩
    intro v hv
    refine .mono (turn L' i x τ hx h1 v hv) fun _ fr₂ σ₂ h => ?_
    refine WIfs.nil ?_
    rw [if_pos rfl]
    refine .mono h fun y fr₄ τ' ⟨a, e, g1, g2⟩ => ?_
    rw [e]; subst g2
    have hn : PV.ref a ∉ ys := fun q => by
      obtain ⟨b, e, _, hb⟩ := h4 _ q
      cases e; rw [g1] at hb; cases hb
    have h0 : σ a = none := by
      cases q : σ a with
      | none => rfl
      | some o => have := h1 _ _ q; rw [g1] at this; cases this
    refine ⟨by rw [h2]; have := (List.getElem?_eq_some_iff.mp hx).1; lia, [], _, Fm.nil_le _, St.le_refl _, St.le_trans h1 (St.le_set g1), by simp [h2], ?_, fun y hy => ?_⟩
    · rw [List.nodup_append]
      exact ⟨h3, by simp, fun x hx y hy => by simp at hy; subst hy; exact fun e => hn (e ▸ hx)⟩
    · rcases List.mem_append.mp hy with hy | hy
      · obtain ⟨b, e, hb1, hb2⟩ := h4 _ hy
        exact ⟨b, e, hb1, St.le_set g1 _ _ hb2⟩
      · simp at hy; exact ⟨a, hy, h0, St.set_self ..⟩
  · rintro L' ys τ ⟨h1, h2, h3, h4⟩ acc hacc hL
    have h0 : σ acc = none := by
      cases q : σ acc with
      | none => rfl
      | some o => have := h1 _ _ q; rw [hacc] at this; cases this
    refine ⟨[], _, Fm.nil_le _, St.le_refl _, done acc ys _ (St.le_trans h1 (St.le_set hacc)) h0 (St.set_self ..) h2 h3 fun y hy => ?_⟩
    obtain ⟨b, e, hb1, hb2⟩ := h4 _ hy
    exact ⟨b, e, St.ne_of hb2 hacc, hb1, St.le_set hacc _ _ hb2⟩
end
end SL

end
section
open PySem PySem.W PyProof.Rows PySem.Calls
namespace SL

structure C1 (X : Cx) : Prop where
  K : X.K = hd.heap_1 X.w.params

theorem C1.glob {X : Cx} (C : C1 X) {x : Str} {v : Value} (h : nsIn (hd.heap_1 X.w.params) mainGlobals x = some (some v)) : X.mg x = some v := mg_of X.KI X.G (by rw [C.K]; exact h)
theorem C1.noGlob {X : Cx} (C : C1 X) {x : Str} (h : nsIn (hd.heap_1 X.w.params) mainGlobals x = some none) : X.mg x = none := mg_none_of X.KI X.G (by rw [C.K]; exact h)
theorem C1.def {X : Cx} (C : C1 X) {σ : St} {f : Addr} {fd : FuncData} {oc : Value} {od : Option Addr} {osl : Array (Option Value)} (ho : (hd.heap_1 X.w.params).lookup f = some ⟨oc, od, .func fd, osl⟩) (hc : codeIn (hd.heap_1 X.w.params) fd.code fd.qualname = true) : IsDef X σ f fd :=
  .base (by rw [C.K]; exact ho) (by rw [C.K]; exact hc)
theorem C1.keeps {X : Cx} (C : C1 X) {a : Addr} {σ : St} (h : keepIn (hd.heap_1 X.w.params) (.ref a) = true) : Keeps X (.ref a) σ := .base (by rw [C.K]; exact h)


theorem f_IMODE {X : Cx} (C : C1 X) {A : Around} {σ : St} {E : Value → Shared → Prop} (m : Int) (hA : OkA A 1) : CW X A (.ref 190) [.int m] σ (fun v σ' => v = .int (Builtin.bitAnd m 4095) ∧ σ' = σ) E := by
  refine call_plainW (k := 0) hA (C.def rfl (by kernel_rfl)) rfl rfl rfl rfl (by decide) (binds1 (fun a => rfl) rfl) fun L hL => ?_
  intro ev Ad
  refine WB.cons (WS.ret (WE.binOp (WE.name (WL.local (v := .int m) ?_ rfl (by rfl) (by rfl)) (by decide))))
  refine WE.cInt (W2.and ?_)
  exact ⟨rfl, rfl⟩
end SL

end
section
open PySem PySem.W PyProof.Rows PySem.Calls
namespace SL
theorem n_stop {X : Cx} (C : C1 X) : X.mg (Str.ofString "StopIteration") = none := C.noGlob (by kernel_rfl)
theorem b_stop : bootBuiltins (Str.ofString "StopIteration") = some (.type "StopIteration") := by kernel_rfl
noncomputable def globTab1 : List (Str × PV) := [("len", .builtin "len"), ("range", .type "range"), ("S_IMODE", .ref 190), ("iter", .builtin "iter"), ("max", .builtin "max"), ("tuple", .type "tuple"), ("str", .type "str"), ("int", .type "int"), ("_filemode_table", .ref 230), ("S_IFMT", .ref 197), ("enumerate", .type "enumerate"), ("_netrclex", .ref 179), ("_NodeInfo", .ref 40), ("_NODE_OUT", .int (-1)), ("_NODE_DONE", .int (-2)), ("bool", .type "bool"), ("set", .type "set"), ("StopIteration", .type "StopIteration"), ("ValueError", .type "ValueError"), ("CycleError", .ref 55), ("TopologicalSorter", .ref 137), ("filemode", .ref 237), ("sorted", .builtin "sorted")]
noncomputable def globTab2 : List (Str × PV) := [("_law_numbers", .ref 242), ("_law_words", .ref 249), ("_law_written", .ref 256), ("_law_lexer", .ref 263), ("_law_deed", .ref 270), ("_law_made", .ref 277), ("_law_value", .ref 284), ("_law_shown", .ref 291), ("_law_one_by_one", .ref 298), ("_law_figure", .ref 305), ("_law_given", .ref 312), ("_law_at_once", .ref 317), ("_law_sorter", .ref 322), ("_law_stages", .ref 327), ("_law_early", .ref 334), ("_law_in_line", .ref 341)]
noncomputable def globTab : List (Str × PV) := globTab1 ++ globTab2
noncomputable def chkG (r : Option (Option Value)) (x : Str) (v : PV) : Bool := match r with
  | some (some u) => abs u == v
  | some none => (match bootBuiltins x with | some u => abs u == v && !(x == "__name__") | none => false)
  | none => false
theorem glob_chk (p : Params) : globTab.all (fun e => chkG (nsIn (hd.heap_1 p) mainGlobals e.1) e.1 e.2) = true := by kernel_rfl
theorem mem_lookup {α β : Type} [BEq α] [LawfulBEq α] {x : α} {v : β} : ∀ {l : List (α × β)}, l.lookup x = some v → (x, v) ∈ l
  | [], h => by cases h
  | (k, u) :: l, h => by
    rw [List.lookup_cons] at h
    cases q : x == k with
    | true => rw [q] at h; cases h; obtain rfl := eq_of_beq q; exact .head _
    | false => rw [q] at h; exact .tail _ (mem_lookup h)
theorem glob_is {X : Cx} (C : C1 X) {x : Str} {v : PV} (h : globTab.lookup x = some v) : (∃ u, X.mg x = some u ∧ abs u = v) ∨ (X.mg x = none ∧ ∃ u, bootBuiltins x = some u ∧ abs u = v ∧ x ≠ "__name__") := by
  have c := List.all_eq_true.mp (glob_chk X.w.params) _ (mem_lookup h)
  dsimp only at c
  revert c
  cases q : nsIn (hd.heap_1 X.w.params) mainGlobals x with
  | none => exact fun c => nomatch c
  | some r =>
    cases r with
    | some u => exact fun c => .inl ⟨u, C.glob q, eq_of_beq c⟩
    | none =>
      unfold chkG
      cases q2 : bootBuiltins x with
      | none => exact fun c => nomatch c
      | some u => exact fun c => .inr ⟨C.noGlob q, u, rfl, eq_of_beq (Bool.and_eq_true_iff.mp c).1, ne_of_beq_false ((Bool.not_eq_true' _).mp (Bool.and_eq_true_iff.mp c).2)⟩
theorem WL.glob {X : Cx} {A : Around} {env : Env} {fr : Fm} {σ : St} {E : Value → Shared → Prop} {x : Str} {v : PV} {Q : PV → Fm → St → Prop} (C : C1 X) (h : Q v fr σ) (hk : env.scope.kind = .function) (hl : env.kindOf x = some .globalImplicit)
    (hg : env.globals = mainGlobals) (hb : env.builtins = builtinsNs) (hv : globTab.lookup x = some v) : WL X A env x fr σ Q E := by
  rcases glob_is C hv with ⟨u, h1, rfl⟩ | ⟨h1, u, h2, rfl, h3⟩
  · exact WL.global h hk hl hg h1
  · exact WL.builtin h hk hl hg hb h1 h3 h2
theorem WE.glob {X : Cx} {A : Around} {env : Env} {fr : Fm} {σ : St} {E : Value → Shared → Prop} {x : Str} {pos : Pos} {v : PV} {Q : PV → Fm → St → Prop} (C : C1 X) (h : Q v fr σ) (hd : (x == ("__debug__" : Str)) = false) (hk : env.scope.kind = .function) (hl : env.kindOf x = some .globalImplicit)
    (hg : env.globals = mainGlobals) (hb : env.builtins = builtinsNs) (hv : globTab.lookup x = some v) : WE X A env (.Name x pos) fr σ Q E := WE.name (WL.glob C h hk hl hg hb hv) hd

end SL
end
section
open PySem PySem.W PyProof.Rows PySem.Calls
namespace SL

set_option hygiene false
local macro_rules | `(tactic| walk_at "look") => `(tactic| first | assumption | exact St.set_self _ _ _ | (refine (St.set_ne _ ?_).trans ?_; (first | assumption | (apply Ne.symm; assumption)); walk_at "look"))
local macro_rules | `(tactic| walk_at "name") => `(tactic| first
  | (focus (with_reducible refine WL.local (v := ?_) ?_ ?_ ?_ ?_); rotate_left 2; iterate 3 rfl)
  | (focus (with_reducible refine WL.cell (c := ?_) (v := ?_) ?_ ?_ ?_ ?_ ?_); rotate_left 3; (iterate 3 rfl); walk_at "look")
  | (focus (with_reducible refine WL.free (c := ?_) (v := ?_) ?_ ?_ ?_ ?_ ?_ ?_); rotate_left 3; (iterate 3 rfl); walk_at "look"; rfl)
  | (focus (with_reducible refine WL.glob (v := ?_) ‹_› ?_ ?_ ?_ ?_ ?_ ?_); rotate_left 2; iterate 5 rfl))
local macro_rules | `(tactic| walk_at "we") => `(tactic| first
  | with_reducible first | refine WE.cInt ?_ | refine WE.cNone ?_ | refine WE.cStr ?_ | refine WE.binOpK ?_ | refine WE.tupleK ?_ | refine WE.listK ?_
  | (focus (with_reducible refine WE.loc (v := ?_) ?_ ?_ ?_ ?_ ?_); rotate_left 2; iterate 4 rfl)
  | (focus (with_reducible refine WE.glob (v := ?_) ‹_› ?_ ?_ ?_ ?_ ?_ ?_ ?_); rotate_left 2; iterate 6 rfl)
  | (focus (with_reducible refine WE.name ?_ ?_); rotate_left; rfl; walk_at "name")
  | (focus (with_reducible refine WE.compareK ?_ ?_); rotate_left; rfl)
  | (focus (with_reducible refine WE.methK ?_ ?_ ?_ ?_ ?_); iterate 4 rfl) | (focus (with_reducible refine WE.callK ?_ ?_ ?_); iterate 2 rfl)
  | (focus (with_reducible first | refine WE.sliceS ?_ ?_ | refine WE.sliceLo ?_ ?_ | refine WE.sliceHi ?_ ?_); exact fun _ _ => rfl)
  | with_reducible refine WE.itemK ?_
  | (focus (with_reducible refine WE.attrK ?_ ?_); rfl))
local macro_rules | `(tactic| walk_at "ws") => `(tactic| first
  | with_reducible first | refine WS.retK ?_ | refine WS.augAttr ?_
  | (focus (with_reducible refine WS.exprK ?_ ?_ ?_); rotate_left; iterate 2 rfl)
  | (focus (with_reducible first | refine WS.assignK ?_ ?_ | refine WS.assignAttrK ?_ ?_); rotate_left; rfl) | ((with_reducible refine WS.augNameK ?_); walk_at "name")
  | (focus (with_reducible refine WS.forK ?_ ?_); exact fun _ => rfl))
local macro_rules | `(tactic| walk_at "comp") => `(tactic| first
  | (focus (with_reducible refine WS.assignCompK (cl := ?_) ?_ ?_ ?_ ?_ ?_ ?_ ?_); rotate_left; (exact OkA.handled (by first | assumption | exact okA_deeper ‹_› _)); exact fun _ => rfl; rfl; rfl; exact fun L => of_decide_eq_true (by rfl); rfl)
  | (focus (with_reducible refine WE.listCompK (cl := ?_) ?_ ?_ ?_ ?_ ?_ ?_); rotate_left; (exact OkA.handled (by first | assumption | exact okA_deeper ‹_› _)); exact fun _ => rfl; rfl; rfl; exact fun L => of_decide_eq_true (by rfl)))
local macro_rules | `(tactic| walk_at "sl") => `(tactic| first
  | walk_at "comp"
  | ((with_reducible refine (?_ : WE _ _ _ _ _ _ _ _)); walk_at "we")
  | ((with_reducible refine (?_ : W2 _ _ _ _ _ _ _ _ _ _)); first
    | with_reducible first | refine W2.add ?_ | refine W2.iadd ?_ | refine W2.sub ?_ | refine W2.and ?_ | refine W2.eqI ?_ | refine W2.isNone ?_ | refine W2.isNotNone ?_
    | (focus (with_reducible refine W2.mul ?_ ?_); rotate_left; mul_fits) | (focus (with_reducible refine W2.mod ?_ ?_); rotate_left; decide) | (focus (with_reducible refine W2.pow ?_ ?_ ?_); rotate_left; iterate 2 decide))
  | ((with_reducible refine (?_ : WL _ _ _ _ _ _ _ _)); walk_at "name")
  | (focus (with_reducible refine WM.append (xs := ?_) ?_ ?_); rotate_left; walk_at "look")
  | ((with_reducible refine (?_ : WS _ _ _ _ _ _ _ _)); walk_at "ws")
  | with_reducible first | refine WA.nil ?_ | refine W1B.bool ?_ | refine WT.boolOp ?_ | refine WB.nil ?_ | refine WB.consK ?_ | refine WAsg.name ?_ | refine WIfs.one ?_ | refine WIfs.nil ?_
  | (focus (with_reducible first | refine WA.consK ?_ ?_ | refine WT.compareK ?_ ?_ | refine WT.valueK ?_ ?_); rotate_left; rfl)
  | (focus (with_reducible refine WN.local ?_ ?_ ?_); rotate_left; iterate 2 rfl)
  | (focus (with_reducible refine WN.cell (c := ?_) (v₀ := ?_) ?_ ?_ ?_ ?_ ?_); rotate_left 3; (iterate 3 rfl); walk_at "look")
  | with_reducible first | refine And.intro Keeps.builtin ?_ | refine And.intro Keeps.type ?_
  | ((with_reducible show Keeps _ (PV.ref (OfNat.ofNat _)) _ ∧ _); refine ⟨C1.keeps ‹_› (by kernel_rfl), ?_⟩))
set_option hygiene true
section

noncomputable def sgS (g : Nat) : Str := ["=", "+", "-"].getD g ""
noncomputable def madeI (g : Nat) (old other : Int) : Int := if g = 0 then other else if g = 1 then Builtin.bitOr old other else old - Builtin.bitAnd old other
theorem f_made {X : Cx} (C : C1 X) {A : Around} {σ : St} {E : Value → Shared → Prop} (old other : Int) (g : Nat) (hg : g < 3) (hA : OkA A 1) : CW X A (.ref 277) [.int old, .str (sgS g), .int other] σ (fun v σ' => v = .int (madeI g old other) ∧ σ' = σ) E := by
  refine .weak (call_plainW (k := 0) hA (C.def rfl (by kernel_rfl)) rfl rfl rfl rfl (by decide) (binds3 (fun a b c => rfl) rfl rfl rfl) fun L hL => ?_)
  intro ev Ad
  have h3 : g = 0 ∨ g = 1 ∨ g = 2 := by lia
  (first | refine WB.gK ?_ | refine WT.gK ?_ | refine WS.gK ?_); intro K1 hK1
  repeat walk_at "sl"
  refine WS.ifK ?_
  repeat walk_at "sl"
  refine W2.eqS ?_
  repeat walk_at "sl"
  by_cases q0 : g = 0
  · subst q0
    refine itT (by decide) ?_
    repeat walk_at "sl"
    repeat (first | refine hK4 _ _ _ ?_ | refine hK3 _ _ _ ?_ | refine hK2 _ _ _ ?_ | refine hK1 _ _ _ ?_ | walk_at "sl")
    exact ⟨_, St.le_refl _, rfl, rfl⟩
  refine itF (by rcases h3 with rfl | rfl | rfl <;> first | exact absurd rfl q0 | decide) ?_
  repeat (first | walk_at "sl" | with_reducible refine WE.ifExpK ?_)
  refine W2.eqS ?_
  repeat walk_at "sl"
  by_cases q1 : g = 1
  · subst q1
    refine itT (by decide) ?_
    repeat (first | walk_at "sl" | with_reducible refine W2.or ?_)
    repeat (first | refine hK4 _ _ _ ?_ | refine hK3 _ _ _ ?_ | refine hK2 _ _ _ ?_ | refine hK1 _ _ _ ?_ | walk_at "sl")
    exact ⟨_, St.le_refl _, rfl, rfl⟩
  · refine itF (by rcases h3 with rfl | rfl | rfl <;> first | exact absurd rfl q0 | exact absurd rfl q1 | decide) ?_
    repeat walk_at "sl"
    repeat (first | refine hK4 _ _ _ ?_ | refine hK3 _ _ _ ?_ | refine hK2 _ _ _ ?_ | refine hK1 _ _ _ ?_ | walk_at "sl")
    exact ⟨_, St.le_refl _, by unfold madeI; rw [if_neg q0, if_neg q1]; rfl, rfl⟩
theorem pow8 {c : Int} (h0 : 0 ≤ c) (h3 : c < 3) : ((8 : Int) ^ (2 - c).toNat ≠ 0 ∧ ((8 : Int) ^ (2 - c).toNat).natAbs < 1073741824) ∧ 0 ≤ (8 : Int) ^ (2 - c).toNat ∧ (8 : Int) ^ (2 - c).toNat ≤ 64 := by
  have : c = 0 ∨ c = 1 ∨ c = 2 := by lia
  rcases this with rfl | rfl | rfl <;> decide
theorem pow2 {c : Int} (h0 : 0 ≤ c) (h3 : c < 3) : ((2 : Int) ^ (11 - c).toNat ≠ 0 ∧ ((2 : Int) ^ (11 - c).toNat).natAbs < 1073741824) ∧ 0 ≤ (2 : Int) ^ (11 - c).toNat ∧ (2 : Int) ^ (11 - c).toNat ≤ 2048 := by
  have : c = 0 ∨ c = 1 ∨ c = 2 := by lia
  rcases this with rfl | rfl | rfl <;> decide
noncomputable def figI (m c : Int) : Int := ((Builtin.bitAnd m 4095).fdiv (8 ^ (2 - c).toNat)).fmod 8 + (((Builtin.bitAnd m 4095).fdiv (2 ^ (11 - c).toNat)).fmod 2) * 8
theorem fdiv3 {f : Int} (h0 : 0 ≤ f) (h9 : f < 9) : 0 ≤ f.fdiv 3 ∧ f.fdiv 3 < 3 ∧ 0 ≤ f.fmod 3 ∧ f.fmod 3 < 3 := by
  rw [Int.fdiv_eq_ediv_of_nonneg _ (by decide), Int.fmod_eq_emod_of_nonneg _ (by decide)]; lia
theorem f_figure {X : Cx} (C : C1 X) {A : Around} {σ : St} {E : Value → Shared → Prop} (m : Addr) (M : List Int) (f : Int) (hm : σ m = some (.list (iL M))) (h3 : M.length = 3) (h0 : 0 ≤ f) (h9 : f < 9) (hA : OkA A 3) :
    CW X A (.ref 305) [.ref m, .int f] σ (fun v σ' => v = .int (figI (M.getD (f.fdiv 3).toNat 0) (f.fmod 3)) ∧ σ.le σ') E := by
  refine .weak (call_plainW (k := 2) hA (C.def rfl (by kernel_rfl)) rfl rfl rfl rfl (by decide) (binds2 (fun a b => rfl) rfl rfl) fun L hL => ?_)
  intro ev Ad
  have hA1 := okA_deeper hA
  have hh : ∀ env, (A.deeper env).handled = none := fun _ => hA.handled
  obtain ⟨d0, d3, c0, c3⟩ := fdiv3 h0 h9
  (first | refine WB.gK ?_ | refine WT.gK ?_ | refine WS.gK ?_); intro K1 hK1
  repeat walk_at "sl"
  refine WS.assignSwap (n1 := "rights") (n2 := "c") (hh _) rfl rfl ?_
  repeat walk_at "sl"
  refine W2.fdiv ?_ (by decide) (by decide)
  refine WI.nL (ms := M) hm (f.fdiv 3).toNat (by lia) (by lia) (by lia) ?_ (fun _ => rfl)
  repeat walk_at "sl"
  refine WC.ofE (f_IMODE C _ ((hA1 _).le (by decide))) ?_
  repeat walk_at "sl"
  dsimp only [kConsA]
  refine kTup.v (vs := [.int _, .int _]) (by show 2 ≤ sizeLine; decide) fun t τ q1 ht => ?_
  refine ⟨t, _, _, rfl, .own ht, ?_⟩
  repeat walk_at "sl"
  generalize hR : Builtin.bitAnd (M.getD (f.fdiv 3).toNat 0) 4095 = r
  generalize hc : f.fmod 3 = c at c0 c3
  refine W2.pow ?_ (by lia) (by have : Builtin.Int.intBits 8 = 4 := by decide
                                rw [this]; lia)
  refine W2.fdiv ?_ (pow8 c0 c3).1.1 (pow8 c0 c3).1.2
  repeat walk_at "sl"
  refine W2.pow ?_ (by lia) (by have : Builtin.Int.intBits 2 = 2 := by decide
                                rw [this]; lia)
  refine W2.fdiv ?_ (pow2 c0 c3).1.1 (pow2 c0 c3).1.2
  repeat walk_at "sl"
  repeat (first | refine hK4 _ _ _ ?_ | refine hK3 _ _ _ ?_ | refine hK2 _ _ _ ?_ | refine hK1 _ _ _ ?_ | walk_at "sl")
  exact ⟨_, St.le_refl _, by unfold figI; rw [hR]; first | rfl | (rw [hc]; rfl), q1⟩
noncomputable def givI (m c v : Int) : Int := m + ((v.fmod 8) * 8 ^ (2 - c).toNat + (v.fdiv 8) * 2 ^ (11 - c).toNat - Builtin.bitAnd m (7 * 8 ^ (2 - c).toNat + 2 ^ (11 - c).toNat))
noncomputable def givL (M : List Int) (f v : Int) : List Int := M.take (f.fdiv 3).toNat ++ [givI (M.getD (f.fdiv 3).toNat 0) (f.fmod 3) v] ++ M.drop ((f.fdiv 3).toNat + 1)
theorem small_mul {a b : Int} (h0 : -(2 ^ 64) < a) (h1 : a < 2 ^ 64) : IntMulOk a b := .of_left (PySem.intBits_le_64 h0 h1)
theorem f_given {X : Cx} (C : C1 X) {A : Around} {σ : St} {E : Value → Shared → Prop} (m : Addr) (M : List Int) (f v : Int) (hm : σ m = some (.list (iL M))) (h3 : M.length = 3) (h0 : 0 ≤ f) (h9 : f < 9) (v0 : 0 ≤ v) (v16 : v < 16) (hA : OkA A 3) :
    CW X A (.ref 312) [.ref m, .int f, .int v] σ (fun u σ' => ∃ r, u = .ref r ∧ σ.le σ' ∧ σ' r = some (.list (iL (givL M f v)))) E := by
  refine .weak (call_plainW (k := 2) hA (C.def rfl (by kernel_rfl)) rfl rfl rfl rfl (by decide) (binds3 (fun a b c => rfl) rfl rfl rfl) fun L hL => ?_)
  intro ev Ad
  have hA1 := okA_deeper hA
  have hh : ∀ env, (A.deeper env).handled = none := fun _ => hA.handled
  obtain ⟨d0, d3, c0, c3⟩ := fdiv3 h0 h9
  have b8 : Builtin.Int.intBits 8 = 4 := by decide
  have b2 : Builtin.Int.intBits 2 = 2 := by decide
  (first | refine WB.gK ?_ | refine WT.gK ?_ | refine WS.gK ?_); intro K1 hK1
  repeat walk_at "sl"
  refine WS.assignSwap (n1 := "mode") (n2 := "c") (hh _) rfl rfl ?_
  repeat walk_at "sl"
  refine W2.fdiv ?_ (by decide) (by decide)
  refine WI.nL (ms := M) hm (f.fdiv 3).toNat (by lia) (by lia) (by lia) ?_ (fun _ => rfl)
  repeat walk_at "sl"
  dsimp only [kConsA]
  refine kTup.v (vs := [.int _, .int _]) (by show 2 ≤ sizeLine; decide) fun t τ q1 ht => ?_
  refine ⟨t, _, _, rfl, .own ht, ?_⟩
  have hm1 := q1 _ _ hm
  clear ht
  repeat walk_at "sl"
  generalize hM : M.getD (f.fdiv 3).toNat 0 = mm
  generalize hc : f.fmod 3 = c at c0 c3
  have p8 := pow8 c0 c3
  have p2 := pow2 c0 c3
  refine W2.pow ?_ (by lia) (by rw [b8]; lia)
  refine W2.mul ?_ (small_mul (by decide) (by decide))
  repeat walk_at "sl"
  refine W2.pow ?_ (by lia) (by rw [b2]; lia)
  repeat walk_at "sl"
  have v8 : 0 ≤ v.fmod 8 ∧ v.fmod 8 < 8 ∧ 0 ≤ v.fdiv 8 ∧ v.fdiv 8 < 2 := by
    rw [Int.fdiv_eq_ediv_of_nonneg _ (by decide), Int.fmod_eq_emod_of_nonneg _ (by decide)]; lia
  refine W2.pow ?_ (by lia) (by rw [b8]; lia)
  refine W2.mul ?_ (small_mul (by lia) (by lia))
  repeat walk_at "sl"
  refine W2.fdiv ?_ (by decide) (by decide)
  repeat walk_at "sl"
  refine W2.pow ?_ (by lia) (by rw [b2]; lia)
  refine W2.mul ?_ (small_mul (by lia) (by lia))
  repeat walk_at "sl"
  refine W2.fdiv ?_ (by decide) (by decide)
  have e3 : (iL M).length = 3 := by rw [List.length_map, h3]
  refine ⟨(f.fdiv 3).toNat, by rw [Int.toNat_of_nonneg d0], .inr ⟨m, iL M, rfl, hm1, by rw [e3, sizeLine_eq]; decide, by lia, fun s1 h1 h1L => ?_⟩⟩
  generalize hτ : τ.set s1 (.list ((iL M).take (f.fdiv 3).toNat)) = τ1
  have q2 := St.leV hτ h1
  have hs1 := St.atV hτ
  clear hτ h1
  repeat walk_at "sl"
  repeat (first | refine hK4 _ _ _ ?_ | refine hK3 _ _ _ ?_ | refine hK2 _ _ _ ?_ | refine hK1 _ _ _ ?_ | walk_at "sl")
  refine ⟨by show 1 ≤ sizeLine; decide, fun s2 h2 h2L => ?_⟩
  generalize hτ : τ1.set s2 (.list [.int _]) = τ2
  have q3 := St.leV hτ h2
  have hs2 := St.atV hτ
  clear hτ h2
  refine W2.addL (q3 _ _ hs1) hs2 (by simp [sizeLine_eq, iL]; lia) fun s3 h3' h3L => ?_
  generalize hτ : τ2.set s3 (.list _) = τ3
  have q4 := St.leV hτ h3'
  have hs3 := St.atV hτ
  clear hτ h3'
  have q5 := St.le_trans q2 (St.le_trans q3 q4)
  repeat walk_at "sl"
  refine W2.fdiv ?_ (by decide) (by decide)
  repeat walk_at "sl"
  refine ⟨(f.fdiv 3).toNat + 1, by congr 1; lia, .inr ⟨m, iL M, rfl, q5 _ _ hm1, by rw [e3, sizeLine_eq]; decide, fun s4 h4 h4L => ?_⟩⟩
  generalize hτ : τ3.set s4 (.list ((iL M).drop ((f.fdiv 3).toNat + 1))) = τ4
  have q6 := St.leV hτ h4
  have hs4 := St.atV hτ
  clear hτ h4
  refine W2.addL (q6 _ _ hs3) hs4 (by simp [sizeLine_eq, iL]; lia) fun s5 h5 h5L => ?_
  generalize hτ : τ4.set s5 (.list _) = τ5
  have q7 := St.leV hτ h5
  have hs5 := St.atV hτ
  clear hτ h5
  repeat (first | refine hK4 _ _ _ ?_ | refine hK3 _ _ _ ?_ | refine hK2 _ _ _ ?_ | refine hK1 _ _ _ ?_ | walk_at "sl")
  refine ⟨_, St.le_refl _, s5, rfl, St.le_trans q1 (St.le_trans q5 (St.le_trans q6 q7)), ?_⟩
  rw [hs5]
  unfold givL givI
  rw [hM]
  simp [iL, hc]

end
section
noncomputable def rc (v : Int) : Nat := if (v / 4) % 2 = 1 then 114 else 45
noncomputable def wc (v : Int) : Nat := if (v / 2) % 2 = 1 then 119 else 45
noncomputable def lcS (c : Int) : Str := if c = 2 then "-xTt" else "-xSs"
noncomputable def lc (c v : Int) : Nat := (lcS c).cps.getD (v % 2 + v / 8 * 2).toNat 0
noncomputable def rowOf (t : Nat) (a b c : Int) : Str := ⟨#[t, rc a, wc a, lc 0 a, rc b, wc b, lc 1 b, rc c, wc c, lc 2 c]⟩
noncomputable def fld (a b c k : Int) : Int := if k = 0 then a else if k = 1 then b else c
theorem three {P : Int → Prop} (h0 : P 0) (h1 : P 1) (h2 : P 2) {c : Int} (a : 0 ≤ c) (b : c < 3) : P c := by
  have : c = 0 ∨ c = 1 ∨ c = 2 := by lia
  rcases this with rfl | rfl | rfl <;> assumption
theorem sixteen {P : Int → Prop} (h : ∀ n : Fin 16, P (n.val : Int)) {v : Int} (a : 0 ≤ v) (b : v < 16) : P v := by
  have e : (((⟨v.toNat, by lia⟩ : Fin 16).val : Nat) : Int) = v := by show (v.toNat : Int) = v; lia
  have := h ⟨v.toNat, by lia⟩
  rw [e] at this; exact this
theorem row_slice (t : Nat) (a b c : Int) {k : Int} (h0 : 0 ≤ k) (h3 : k < 3) : Txt.slice (rowOf t a b c) (some (3 * k + 1)) (some (3 * k + 4)) = ⟨#[rc (fld a b c k), wc (fld a b c k), lc k (fld a b c k)]⟩ :=
  three (P := fun k => Txt.slice (rowOf t a b c) (some (3 * k + 1)) (some (3 * k + 4)) = ⟨#[rc (fld a b c k), wc (fld a b c k), lc k (fld a b c k)]⟩) rfl rfl rfl h0 h3
theorem occ_r {v : Int} (h0 : 0 ≤ v) (h16 : v < 16) : Builtin.Str.occurrences "-r" ⟨#[rc v]⟩ 0 (Str.length "-r") 1 = [((v / 4) % 2).toNat] :=
  sixteen (P := fun v => Builtin.Str.occurrences "-r" ⟨#[rc v]⟩ 0 (Str.length "-r") 1 = [((v / 4) % 2).toNat]) (by decide +kernel) h0 h16
theorem occ_w {v : Int} (h0 : 0 ≤ v) (h16 : v < 16) : Builtin.Str.occurrences "-w" ⟨#[wc v]⟩ 0 (Str.length "-w") 1 = [((v / 2) % 2).toNat] :=
  sixteen (P := fun v => Builtin.Str.occurrences "-w" ⟨#[wc v]⟩ 0 (Str.length "-w") 1 = [((v / 2) % 2).toNat]) (by decide +kernel) h0 h16
theorem occ_l {k v : Int} (k0 : 0 ≤ k) (k3 : k < 3) (h0 : 0 ≤ v) (h16 : v < 16) : Builtin.Str.occurrences (lcS k) ⟨#[lc k v]⟩ 0 (Str.length (lcS k)) 1 = [(v % 2 + v / 8 * 2).toNat] :=
  sixteen (P := fun v => Builtin.Str.occurrences (lcS k) ⟨#[lc k v]⟩ 0 (Str.length (lcS k)) 1 = [(v % 2 + v / 8 * 2).toNat])
    (three (P := fun k => ∀ n : Fin 16, Builtin.Str.occurrences (lcS k) ⟨#[lc k (n.val : Int)]⟩ 0 (Str.length (lcS k)) 1 = [((n.val : Int) % 2 + (n.val : Int) / 8 * 2).toNat]) (by decide +kernel) (by decide +kernel) (by decide +kernel) k0 k3) h0 h16
theorem val_sum {v : Int} (h0 : 0 ≤ v) (h16 : v < 16) : (((v / 4) % 2).toNat : Int) * 4 + (((v / 2) % 2).toNat : Int) * 2 + ((v % 2 + v / 8 * 2).toNat : Int).fmod 2 + ((v % 2 + v / 8 * 2).toNat : Int).fdiv 2 * 8 = v :=
  sixteen (P := fun v => (((v / 4) % 2).toNat : Int) * 4 + (((v / 2) % 2).toNat : Int) * 2 + ((v % 2 + v / 8 * 2).toNat : Int).fmod 2 + ((v % 2 + v / 8 * 2).toNat : Int).fdiv 2 * 8 = v) (by decide +kernel) h0 h16
theorem ifE_join {X : Cx} {A : Around} {env : Env} {E : Value → Shared → Prop} {e1 e2 : Expr} {Q : PV → Fm → St → Prop} {c : Bool} {fr : Fm} {σ : St} (P : PV → St → Prop)
    (h : if c = true then WE X A env e1 fr σ (fun y fr' σ' => fr' = fr ∧ P y σ') E else WE X A env e2 fr σ (fun y fr' σ' => fr' = fr ∧ P y σ') E) (hq : ∀ y σ', P y σ' → Q y fr σ') : kIfE X A env E e1 e2 Q c fr σ := by
  unfold kIfE
  have hm : ∀ {e : Expr}, WE X A env e fr σ (fun y fr' σ' => fr' = fr ∧ P y σ') E → WE X A env e fr σ Q E := fun h => W.mono h fun v fr' σ' ⟨e1, e2⟩ => e1 ▸ hq _ _ e2
  cases c with
  | true => rw [if_pos rfl] at h ⊢; exact hm h
  | false => rw [if_neg (by decide)] at h ⊢; exact hm h

theorem f_value {X : Cx} (C : C1 X) {A : Around} {σ : St} {E : Value → Shared → Prop} (t : Nat) (a b c k : Int) (k0 : 0 ≤ k) (k3 : k < 3) (h0 : 0 ≤ fld a b c k) (h16 : fld a b c k < 16) (hA : OkA A 1) :
    CW X A (.ref 284) [.str (rowOf t a b c), .int k] σ (fun v σ' => v = .int (fld a b c k) ∧ σ' = σ) E := by
  refine .weak (call_plainW (k := 0) hA (C.def rfl (by kernel_rfl)) rfl rfl rfl rfl (by decide) (binds2 (fun a b => rfl) rfl rfl) fun L hL => ?_)
  intro ev Ad
  have hs := row_slice t a b c k0 k3
  generalize hx : fld a b c k = x at h0 h16 hs
  (first | refine WB.gK ?_ | refine WT.gK ?_ | refine WS.gK ?_); intro K1 hK1
  repeat walk_at "sl"
  refine ⟨_, _, _, rfl, rfl, rfl, by show 10 ≤ sizeLine; decide, ?_⟩
  rw [hs]
  repeat (first | walk_at "sl" | with_reducible refine WE.ifExpK ?_)
  refine ifE_join (fun y σ' => y = .str (lcS k) ∧ σ' = σ) ?_ fun y σ' hy => ?_
  · by_cases q : k = 2
    · refine itT (by simpa using q) ?_
      repeat walk_at "sl"
      exact ⟨rfl, by unfold lcS; rw [if_pos q], rfl⟩
    · refine itF (by simpa using q) ?_
      repeat walk_at "sl"
      exact ⟨rfl, by unfold lcS; rw [if_neg q], rfl⟩
  obtain ⟨rfl, rfl⟩ := hy
  refine WM.indexS ?_
  repeat walk_at "sl"
  refine WI.str (c := lc k x) (by decide) (by decide) rfl ?_ (fun _ _ => rfl)
  repeat walk_at "sl"
  refine WC.indexS (occ_l k0 k3 h0 h16) ?_
  repeat walk_at "sl"
  refine WM.indexS ?_
  repeat walk_at "sl"
  refine WI.str (c := rc x) (by decide) (by decide) rfl ?_ (fun _ _ => rfl)
  repeat walk_at "sl"
  refine WC.indexS (occ_r h0 h16) ?_
  repeat walk_at "sl"
  refine WM.indexS ?_
  repeat walk_at "sl"
  refine WI.str (c := wc x) (by decide) (by decide) rfl ?_ (fun _ _ => rfl)
  repeat walk_at "sl"
  refine WC.indexS (occ_w h0 h16) ?_
  repeat walk_at "sl"
  refine W2.fdiv ?_ (by decide) (by decide)
  repeat walk_at "sl"
  repeat (first | refine hK4 _ _ _ ?_ | refine hK3 _ _ _ ?_ | refine hK2 _ _ _ ?_ | refine hK1 _ _ _ ?_ | walk_at "sl")
  exact ⟨_, St.le_refl _, congrArg PV.int (val_sum h0 h16), rfl⟩
theorem Str.append_length2 (x y : Str) : (x ++ y).length = x.length + y.length := by show (x.cps ++ y.cps).size = _; simp [Str.length]
noncomputable def rowSet (t : Nat) (a b c k v : Int) : Str := if k = 0 then rowOf t v b c else if k = 1 then rowOf t a v c else rowOf t a b v
theorem row_join (t : Nat) (a b c : Int) {k : Int} (v : Int) (h0 : 0 ≤ k) (h3 : k < 3) : Txt.slice (rowOf t a b c) none (some (((3 * k + 1).toNat : Nat) : Int)) ++ (⟨#[rc v]⟩ : Str) ++ (⟨#[wc v]⟩ : Str) ++ (⟨#[lc k v]⟩ : Str) ++ Txt.slice (rowOf t a b c) (some (((3 * k + 4).toNat : Nat) : Int)) none = rowSet t a b c k v :=
  three (P := fun k => Txt.slice (rowOf t a b c) none (some (((3 * k + 1).toNat : Nat) : Int)) ++ (⟨#[rc v]⟩ : Str) ++ (⟨#[wc v]⟩ : Str) ++ (⟨#[lc k v]⟩ : Str) ++ Txt.slice (rowOf t a b c) (some (((3 * k + 4).toNat : Nat) : Int)) none = rowSet t a b c k v) (by kernel_rfl) (by kernel_rfl) (by kernel_rfl) h0 h3
theorem at_r {v : Int} (h0 : 0 ≤ v) (h16 : v < 16) : (Str.ofString "-r").cps[((v.fdiv 4).fmod 2).toNat]? = some (rc v) :=
  sixteen (P := fun v => (Str.ofString "-r").cps[((v.fdiv 4).fmod 2).toNat]? = some (rc v)) (by decide +kernel) h0 h16
theorem at_w {v : Int} (h0 : 0 ≤ v) (h16 : v < 16) : (Str.ofString "-w").cps[((v.fdiv 2).fmod 2).toNat]? = some (wc v) :=
  sixteen (P := fun v => (Str.ofString "-w").cps[((v.fdiv 2).fmod 2).toNat]? = some (wc v)) (by decide +kernel) h0 h16
theorem at_l {k v : Int} (k0 : 0 ≤ k) (k3 : k < 3) (h0 : 0 ≤ v) (h16 : v < 16) : (lcS k).cps[(v.fmod 2 + v.fdiv 8 * 2).toNat]? = some (lc k v) :=
  sixteen (P := fun v => (lcS k).cps[(v.fmod 2 + v.fdiv 8 * 2).toNat]? = some (lc k v))
    (three (P := fun k => ∀ n : Fin 16, (lcS k).cps[((n.val : Int).fmod 2 + (n.val : Int).fdiv 8 * 2).toNat]? = some (lc k (n.val : Int))) (by decide +kernel) (by decide +kernel) (by decide +kernel) k0 k3) h0 h16
theorem f_shown {X : Cx} (C : C1 X) {A : Around} {σ : St} {E : Value → Shared → Prop} (t : Nat) (a b c k v : Int) (k0 : 0 ≤ k) (k3 : k < 3) (h0 : 0 ≤ v) (h16 : v < 16) (hA : OkA A 1) :
    CW X A (.ref 291) [.str (rowOf t a b c), .int k, .int v] σ (fun u σ' => u = .str (rowSet t a b c k v) ∧ σ' = σ) E := by
  refine .weak (call_plainW (k := 0) hA (C.def rfl (by kernel_rfl)) rfl rfl rfl rfl (by decide) (binds3 (fun a b c => rfl) rfl rfl rfl) fun L hL => ?_)
  intro ev Ad
  have b1 : 0 ≤ (v.fdiv 4).fmod 2 ∧ 0 ≤ (v.fdiv 2).fmod 2 ∧ 0 ≤ v.fmod 2 + v.fdiv 8 * 2 ∧ (v.fdiv 4).fmod 2 < 2 ∧ (v.fdiv 2).fmod 2 < 2 ∧ v.fmod 2 + v.fdiv 8 * 2 < 4 := by
    simp only [Int.fdiv_eq_ediv_of_nonneg _ (show (0 : Int) ≤ 4 by decide), Int.fdiv_eq_ediv_of_nonneg _ (show (0 : Int) ≤ 2 by decide), Int.fdiv_eq_ediv_of_nonneg _ (show (0 : Int) ≤ 8 by decide), Int.fmod_eq_emod_of_nonneg _ (show (0 : Int) ≤ 2 by decide)]
    lia
  (first | refine WB.gK ?_ | refine WT.gK ?_ | refine WS.gK ?_); intro K1 hK1
  repeat (first | walk_at "sl" | with_reducible refine WE.ifExpK ?_)
  refine ifE_join (fun y σ' => y = .str (lcS k) ∧ σ' = σ) ?_ fun y σ' hy => ?_
  · by_cases q : k = 2
    · refine itT (by simpa using q) ?_
      repeat walk_at "sl"
      exact ⟨rfl, by unfold lcS; rw [if_pos q], rfl⟩
    · refine itF (by simpa using q) ?_
      repeat walk_at "sl"
      exact ⟨rfl, by unfold lcS; rw [if_neg q], rfl⟩
  obtain ⟨rfl, rfl⟩ := hy
  repeat walk_at "sl"
  refine W2.fdiv ?_ (by decide) (by decide)
  repeat walk_at "sl"
  refine WI.str b1.2.2.1 (by lia) (at_l k0 k3 h0 h16) ?_ (fun _ _ => rfl)
  repeat walk_at "sl"
  refine ⟨(3 * k + 1).toNat, by rw [Int.toNat_of_nonneg (by lia)], .inl ⟨_, rfl, by show 10 ≤ sizeLine; decide, ?_⟩⟩
  repeat walk_at "sl"
  refine W2.fdiv ?_ (by decide) (by decide)
  repeat walk_at "sl"
  refine WI.str b1.1 (by lia) (at_r h0 h16) ?_ (fun _ _ => rfl)
  have z1 : (Txt.slice (rowOf t a b c) none (some (((3 * k + 1).toNat : Nat) : Int))).length ≤ 10 := Txt.slice_le _ _ _
  have z2 : (Txt.slice (rowOf t a b c) (some (((3 * k + 4).toNat : Nat) : Int)) none).length ≤ 10 := Txt.slice_le _ _ _
  have hj := row_join t a b c v k0 k3
  generalize Txt.slice (rowOf t a b c) none (some (((3 * k + 1).toNat : Nat) : Int)) = p1 at z1 hj ⊢
  have one : ∀ n : Nat, (⟨#[n]⟩ : Str).length = 1 := fun _ => rfl
  refine W2.addS ?_ (by rw [one, sizeLine_eq]; lia)
  repeat walk_at "sl"
  refine W2.fdiv ?_ (by decide) (by decide)
  repeat walk_at "sl"
  refine WI.str b1.2.1 (by lia) (at_w h0 h16) ?_ (fun _ _ => rfl)
  refine W2.addS ?_ (by rw [Str.append_length2, one, one, sizeLine_eq]; lia)
  repeat walk_at "sl"
  refine W2.addS ?_ (by rw [Str.append_length2, Str.append_length2, one, one, one, sizeLine_eq]; lia)
  repeat walk_at "sl"
  refine ⟨(3 * k + 4).toNat, by rw [Int.toNat_of_nonneg (by lia)], .inl ⟨_, rfl, by show 10 ≤ sizeLine; decide, ?_⟩⟩
  refine W2.addS ?_ (by rw [Str.append_length2, Str.append_length2, Str.append_length2, one, one, one, sizeLine_eq]; lia)
  rw [hj]
  repeat (first | refine hK4 _ _ _ ?_ | refine hK3 _ _ _ ?_ | refine hK2 _ _ _ ?_ | refine hK1 _ _ _ ?_ | walk_at "sl")
  exact ⟨_, St.le_refl _, rfl, rfl⟩

end
section
noncomputable def ugoC (n : Nat) : Nat := [117, 103, 111].getD n 0
noncomputable def sgC (g : Nat) : Nat := [61, 43, 45].getD g 0
noncomputable def wordOf (k t g o : Nat) : Str := ⟨#[48 + k, 48 + t / 3, ugoC (t % 3), sgC g, 48 + o / 3, ugoC (o % 3)]⟩
theorem dig_int {n : Nat} (h : n < 3) : PySem.intText? ⟨#[48 + n]⟩ = some (n : Int) := by
  have key : ∀ n : Fin 3, PySem.intText? ⟨#[48 + n.val]⟩ = some (n.val : Int) := by decide +kernel
  exact key ⟨n, h⟩
theorem ugo_occ {n : Nat} (h : n < 3) : Builtin.Str.occurrences "ugo" ⟨#[ugoC n]⟩ 0 (Str.length "ugo") 1 = [n] := by
  have key : ∀ n : Fin 3, Builtin.Str.occurrences "ugo" ⟨#[ugoC n.val]⟩ 0 (Str.length "ugo") 1 = [n.val] := by decide +kernel
  exact key ⟨n, h⟩
theorem sg_str {g : Nat} (h : g < 3) : (⟨#[sgC g]⟩ : Str) = sgS g := by
  have key : ∀ g : Fin 3, (⟨#[sgC g.val]⟩ : Str) = sgS g.val := by decide +kernel
  exact key ⟨g, h⟩

theorem f_deed {X : Cx} (C : C1 X) {A : Around} {σ : St} {E : Value → Shared → Prop} (k t g o : Nat) (ht : t < 9) (hg : g < 3) (ho : o < 9) (hA : OkA A 1) :
    CW X A (.ref 270) [.str (wordOf k t g o)] σ (fun v σ' => ∃ a, v = .ref a ∧ σ.le σ' ∧ σ' a = some (.tuple [.int t, .str (sgS g), .int o])) E := by
  refine .weak (call_plainW (k := 0) hA (C.def rfl (by kernel_rfl)) rfl rfl rfl rfl (by decide) (binds1 (fun a => rfl) rfl) fun L hL => ?_)
  intro ev Ad
  have t3 : t / 3 < 3 := by lia
  have tm : t % 3 < 3 := by lia
  have o3 : o / 3 < 3 := by lia
  have om : o % 3 < 3 := by lia
  (first | refine WB.gK ?_ | refine WT.gK ?_ | refine WS.gK ?_); intro K1 hK1
  repeat walk_at "sl"
  refine WI.str (c := 48 + t / 3) (by decide) (by decide) rfl ?_ (fun _ _ => rfl)
  repeat walk_at "sl"
  refine WC.intS (dig_int t3) (by show 1 ≤ 640; decide) ?_
  repeat walk_at "sl"
  refine WM.indexS ?_
  repeat walk_at "sl"
  refine WI.str (c := ugoC (t % 3)) (by decide) (by decide) rfl ?_ (fun _ _ => rfl)
  repeat walk_at "sl"
  refine WC.indexS (ugo_occ tm) ?_
  repeat walk_at "sl"
  refine WI.str (c := sgC g) (by decide) (by decide) rfl ?_ (fun _ _ => rfl)
  rw [sg_str hg]
  repeat walk_at "sl"
  refine WI.str (c := 48 + o / 3) (by decide) (by decide) rfl ?_ (fun _ _ => rfl)
  repeat walk_at "sl"
  refine WC.intS (dig_int o3) (by show 1 ≤ 640; decide) ?_
  repeat walk_at "sl"
  refine WM.indexS ?_
  repeat walk_at "sl"
  refine WI.str (c := ugoC (o % 3)) (by decide) (by decide) rfl ?_ (fun _ _ => rfl)
  repeat walk_at "sl"
  refine WC.indexS (ugo_occ om) ?_
  repeat walk_at "sl"
  dsimp only [kConsA]
  rw [show ((3 : Int) * ((t / 3 : Nat) : Int) + ((t % 3 : Nat) : Int)) = (t : Int) from by lia, show ((3 : Int) * ((o / 3 : Nat) : Int) + ((o % 3 : Nat) : Int)) = (o : Int) from by lia]
  refine kTup.v (by show 3 ≤ sizeLine; decide) fun a τ q1 ha => ?_
  repeat (first | refine hK4 _ _ _ ?_ | refine hK3 _ _ _ ?_ | refine hK2 _ _ _ ?_ | refine hK1 _ _ _ ?_ | walk_at "sl")
  exact ⟨_, St.le_refl _, a, rfl, q1, ha⟩

end
section
noncomputable def m0 : List Int := [35305, 17864, 41876, 1972, 821, 4368, 1466, 3793, 208, 2715, 1319]
noncomputable def upd (ms : List Int) (j : Nat) (f : Int → Int) : List Int := ms.set j (f (ms.getD j 0))
noncomputable def addUp (ns : List Int) (n : Nat) : List Int := (List.range n).foldl (fun ms k => upd ms (k % 11) (· + ns.getD k 0)) m0
theorem upd_len (ms : List Int) (j : Nat) (f : Int → Int) : (upd ms j f).length = ms.length := by simp [upd]
theorem addUp_succ (ns : List Int) (n : Nat) : addUp ns (n + 1) = upd (addUp ns n) (n % 11) (· + ns.getD n 0) := by
  unfold addUp; rw [List.range_succ, List.foldl_append, List.foldl_cons, List.foldl_nil]
theorem addUp_len (ns : List Int) : ∀ n, (addUp ns n).length = 11
  | 0 => rfl
  | n + 1 => by rw [addUp_succ, upd_len]; exact addUp_len ns n
noncomputable def numsOf (ns : List Int) : List Int := ((addUp ns ns.length).take 3).map (fun m => m.fmod 262144) ++ (addUp ns ns.length).drop 3
theorem numsOf_len (ns : List Int) : (numsOf ns).length = 11 := by
  unfold numsOf
  rw [List.length_append, List.length_map, List.length_take, List.length_drop, addUp_len]; rfl

theorem f_numbers {X : Cx} (C : C1 X) {A : Around} {σ : St} {E : Value → Shared → Prop} (l : Addr) (ns : List Int) (hl : BaseList X l (iL ns)) (hlen : ns.length ≤ 63) (hA : OkA A 5) :
    CW X A (.ref 242) [.ref l] σ (fun v σ' => ∃ a, v = .ref a ∧ σ.le σ' ∧ σ' a = some (.list (iL (numsOf ns)))) E := by
  refine .weak (call_plainW (k := 4) hA (C.def rfl (by kernel_rfl)) rfl rfl rfl rfl (by decide) (binds1 (fun a => rfl) rfl) fun L hL => ?_)
  intro ev Ad
  have hA1 := okA_deeper hA
  have hh : ∀ env, (A.deeper env).handled = none := fun _ => hA.handled
  (first | refine WB.gK ?_ | refine WT.gK ?_ | refine WS.gK ?_); intro K1 hK1
  repeat walk_at "sl"
  repeat (first | refine hK4 _ _ _ ?_ | refine hK3 _ _ _ ?_ | refine hK2 _ _ _ ?_ | refine hK1 _ _ _ ?_ | walk_at "sl")
  refine ⟨by decide, fun m hm hmL => ?_⟩
  repeat walk_at "sl"
  refine WC.lenB hl (by simp [iL]; lia) ?_
  repeat walk_at "sl"
  refine WC.range1 fun r hr hrL => ?_
  have hrm : r ≠ m := (St.set_none.mp hr).1
  rw [show (iL ns).length = ns.length from List.length_map ..]
  refine WIter.forG (x := .ref r) (hh _) (srcOf_upto (m := 0) (n := ns.length) (hh _) (by decide) (by lia)) (fun i fr σ' => fr = ([("script", .ref l), ("numbers", .ref m)] : Fm) ∧ σ' = (σ.set m (.list (iL (addUp ns i)))).set r (.range 0 ns.length 1)) ?_ ?_ ?_ ?_ ?_
  · exact fun _ => LetOk.name
  · rintro i fr _ ⟨_, rfl⟩; exact St.set_self ..
  · exact ⟨rfl, rfl⟩
  · rintro i K2 hK2 x fr _ hx ⟨rfl, rfl⟩
    obtain ⟨hi, rfl⟩ := up0_get hx
    have hlen6 := addUp_len ns i
    repeat (first | walk_at "sl" | (focus (with_reducible refine WS.augSub ?_ ?_); rotate_left; exact fun _ _ _ => rfl))
    refine W2.getN (ms := addUp ns i) (by walk_at "look") (i % 11) (fmod_nat i 11) (by lia) (by lia) ?_
    repeat walk_at "sl"
    refine WI.nB (ms := ns) hl i rfl hi (by lia) ?_ (fun _ => rfl)
    repeat walk_at "sl"
    refine WU3.setN (ms := addUp ns i) (by walk_at "look") (i % 11) (fmod_nat i 11) (by lia) (by lia) ?_
    refine WB.nil ?_
    repeat (first | refine hK4 _ _ _ ?_ | refine hK3 _ _ _ ?_ | refine hK2 _ _ _ ?_ | refine hK1 _ _ _ ?_ | walk_at "sl")
    refine ⟨_, _, ?_, St.le_refl _, rfl, ?_⟩
    · repeat' (first | exact Fm.nil_le _ | (refine Fm.le_cons ?_ ?_; rfl))
    · rw [St.set3 hrm, addUp_succ]; rfl
  · refine hid2 fun Kz hKz => ?_
    rintro fr _ ⟨rfl, rfl⟩
    refine hKz _ _ ?_
    rw [up0_len]
    have hN := addUp_len ns ns.length
    have q1 : σ.le ((σ.set m (.list (iL (addUp ns ns.length)))).set r (.range 0 ns.length 1)) := St.le_trans (St.le_set hm) (St.le_set (St.set_none.mpr ⟨hrm, (St.set_none.mp hr).2⟩))
    have hm1 : ((σ.set m (.list (iL (addUp ns ns.length)))).set r (.range 0 ns.length 1)) m = some (.list (iL (addUp ns ns.length))) := by rw [St.set_ne _ (Ne.symm hrm), St.set_self]
    unfold numsOf at hK1
    generalize addUp ns ns.length = N at *
    generalize (σ.set m (.list (iL N))).set r (.range 0 ns.length 1) = σ1 at q1 hm1 ⊢
    have e11 : (iL N).length = 11 := by rw [List.length_map, hN]
    repeat walk_at "sl"
    refine ⟨3, rfl, .inr ⟨m, iL N, rfl, hm1, by rw [e11, sizeLine_eq]; decide, by lia, fun b hb hbL => ?_⟩⟩
    generalize hτ : σ1.set b (.list ((iL N).take 3)) = σ2
    have q2 := St.leV hτ hb
    have hb1 := St.atV hτ
    clear hτ hb
    rw [show (iL N).take 3 = iL (N.take 3) from by simp [iL]] at hb1
    repeat walk_at "sl"
    refine WBlock.fm0V (ys := iL ((N.take 3).map fun m => m.fmod 262144)) (hh _) (srcOf_list (l := b) (xs := iL (N.take 3)) (hh _)) (fun v => match v with | .int i => some (.int (i.fmod 262144)) | v => none) ?_ ?_ ?_ ?_ ?_ ?_ ?_
    · unfold iL; rw [List.filterMap_map, List.map_map, ← List.filterMap_eq_map]; rfl
    · exact fun _ => LetOk.name
    · exact hb1
    · simp [iL, sizeLine_eq]; lia
    · exact fun _ => rfl
    · intro L' x hx hL'
      obtain ⟨y, hy, rfl⟩ := List.mem_map.mp hx
      repeat walk_at "sl"
      refine itT rfl ?_
      repeat walk_at "sl"
      repeat (first | refine hK4 _ _ _ ?_ | refine hK3 _ _ _ ?_ | refine hK2 _ _ _ ?_ | refine hK1 _ _ _ ?_ | walk_at "sl")
      exact ⟨rfl, St.le_refl _⟩
    intro c τ3 q3 hc
    repeat walk_at "sl"
    refine ⟨3, rfl, .inr ⟨m, iL N, rfl, q3 _ _ (q2 _ _ hm1), by rw [e11, sizeLine_eq]; decide, fun d hd hdL => ?_⟩⟩
    generalize hτ : τ3.set d (.list ((iL N).drop 3)) = τ4
    have q4 := St.leV hτ hd
    have hd1 := St.atV hτ
    clear hτ hd
    refine W2.addL (q4 _ _ hc) hd1 (by simp [iL, sizeLine_eq]; lia) fun e he heL => ?_
    repeat (first | refine hK4 _ _ _ ?_ | refine hK3 _ _ _ ?_ | refine hK2 _ _ _ ?_ | refine hK1 _ _ _ ?_ | walk_at "sl")
    refine ⟨_, St.le_refl _, e, rfl, St.le_trans q1 (St.le_trans q2 (St.le_trans q3 (St.le_trans q4 (St.le_set he)))), ?_⟩
    rw [St.set_self]; simp [iL]
noncomputable def tO (N : List Int) (k : Nat) : Nat := ((N.getD (3 + k) 0).fmod 9).toNat
noncomputable def oO (N : List Int) (k : Nat) : Nat := (((N.getD (3 + k) 0).fdiv 9).fmod 9).toNat
noncomputable def gO (N : List Int) (k : Nat) : Nat := (((N.getD (3 + k) 0).fdiv 81).fmod 3).toNat
theorem fm_lt (x : Int) {n : Nat} (h : 0 < n) : (x.fmod n).toNat < n := (Int.toNat_lt (Int.fmod_nonneg_of_pos _ (by omega))).mpr (Int.fmod_lt_of_pos _ (by omega))
theorem fm_int (x : Int) {n : Nat} (h : 0 < n) : x.fmod n = ((x.fmod n).toNat : Int) := (Int.toNat_of_nonneg (Int.fmod_nonneg_of_pos _ (by omega))).symm
theorem tgo_lt (N : List Int) (k : Nat) : tO N k < 9 ∧ gO N k < 3 ∧ oO N k < 9 := ⟨fm_lt _ (by decide), fm_lt _ (by decide), fm_lt _ (by decide)⟩
theorem tgo_int (N : List Int) (k : Nat) : (N.getD (3 + k) 0).fmod 9 = (tO N k : Int) ∧ ((N.getD (3 + k) 0).fdiv 81).fmod 3 = (gO N k : Int) ∧ ((N.getD (3 + k) 0).fdiv 9).fmod 9 = (oO N k : Int) := ⟨fm_int _ (by decide), fm_int _ (by decide), fm_int _ (by decide)⟩
noncomputable def wordK (N : List Int) (k : Nat) : Str := wordOf k (tO N k) (gO N k) (oO N k)
noncomputable def wordsL (N : List Int) : List Str := (List.range 8).map (wordK N)
theorem dig_str {n : Nat} (h : n < 10) : Str.ofString (toString (n : Int)) = (⟨#[48 + n]⟩ : Str) := by
  have key : ∀ n : Fin 10, Str.ofString (toString (n.val : Int)) = (⟨#[48 + n.val]⟩ : Str) := by decide +kernel
  exact key ⟨n, h⟩
theorem log_small {n : Nat} (h : n < 10) : (n : Int).natAbs.log2 < 1920 := by
  have key : ∀ n : Fin 10, (n.val : Int).natAbs.log2 < 1920 := by decide +kernel
  exact key ⟨n, h⟩
theorem at_sg {g : Nat} (h : g < 3) : (Str.ofString "=+-").cps[g]? = some (sgC g) := by
  have key : ∀ g : Fin 3, (Str.ofString "=+-").cps[g.val]? = some (sgC g.val) := by decide +kernel
  exact key ⟨g, h⟩
theorem at_ugo {g : Nat} (h : g < 3) : (Str.ofString "ugo").cps[g]? = some (ugoC g) := by
  have key : ∀ g : Fin 3, (Str.ofString "ugo").cps[g.val]? = some (ugoC g.val) := by decide +kernel
  exact key ⟨g, h⟩

end
section
theorem ndiv3 (n : Nat) : ((n : Int)).fdiv 3 = ((n / 3 : Nat) : Int) := by rw [Int.fdiv_eq_ediv_of_nonneg _ (by decide)]; lia
theorem nmod3 (n : Nat) : ((n : Int)).fmod 3 = ((n % 3 : Nat) : Int) := fmod_nat n 3
theorem St.le_over' {σ τ : St} {c : Addr} {o : AO} (h : σ.le τ) (h0 : σ c = none) : σ.le (τ.set c o) := fun a q e => by rw [St.set_ne _ (St.ne_of e h0)]; exact h a q e
theorem St.set_keep {τ : St} {a c : Addr} {o q : AO} (h : τ a = some q) (n : a ≠ c) : (τ.set c o) a = some q := by rw [St.set_ne _ n]; exact h

theorem f_words {X : Cx} (C : C1 X) {A : Around} {σ : St} {E : Value → Shared → Prop} (m : Addr) (N : List Int) (hm : σ m = some (.list (iL N))) (h11 : N.length = 11) (hA : OkA A 5) :
    CW X A (.ref 249) [.ref m] σ (fun v σ' => ∃ a, v = .ref a ∧ σ.le σ' ∧ σ' a = some (.list (sL (wordsL N)))) E := by
  refine .weak (call_plainW (k := 4) hA (C.def rfl (by kernel_rfl)) rfl rfl rfl rfl (by decide) (binds1 (fun a => rfl) rfl) fun L hL => ?_)
  intro ev Ad
  have hA1 := okA_deeper hA
  have hh : ∀ env, (A.deeper env).handled = none := fun _ => hA.handled
  (first | refine WB.gK ?_ | refine WT.gK ?_ | refine WS.gK ?_); intro K1 hK1
  repeat walk_at "sl"
  repeat (first | refine hK4 _ _ _ ?_ | refine hK3 _ _ _ ?_ | refine hK2 _ _ _ ?_ | refine hK1 _ _ _ ?_ | walk_at "sl")
  refine ⟨by decide, fun W hW0 hWL => ?_⟩
  repeat walk_at "sl"
  refine WC.range1 fun r hr hrL => ?_
  have hW1 : (σ.set W (.list [])) W = some (.list (sL ((List.range 0).map (wordK N)))) := St.set_self ..
  have q0 := St.le_set (o := .list []) hW0
  refine WIter.forG (x := .ref r) (hh _) (srcOf_upto (m := 0) (n := 8) (hh _) (by decide) (by decide)) (fun i fr σ' => fr = ([("numbers", .ref m), ("words", .ref W)] : Fm) ∧ σ.le σ' ∧ σ' r = some (.range 0 8 1) ∧ σ' W = some (.list (sL ((List.range i).map (wordK N))))) ?_ ?_ ?_ ?_ ?_
  · exact fun _ => LetOk.name
  · rintro i fr _ ⟨_, _, h, _⟩; exact h
  · exact ⟨rfl, St.le_trans q0 (St.le_set hr), St.set_self .., by rw [St.set_ne _ (Ne.symm (St.set_none.mp hr).1)]; exact hW1⟩
  · clear hW1 q0 hr
    rintro i K2 hK2 x fr σ1 hx ⟨rfl, hle, hr, hW⟩
    obtain ⟨hi, rfl⟩ := up0_get hx
    have hm1 := hle _ _ hm
    have hlen : ((List.range i).map (wordK N)).length = i := by simp
    have hstep : (List.range (i + 1)).map (wordK N) = (List.range i).map (wordK N) ++ [wordK N i] := by rw [List.range_succ, List.map_append]; rfl
    obtain ⟨t9, g3, o9⟩ := tgo_lt N i
    obtain ⟨et, eg, eo⟩ := tgo_int N i
    generalize hL' : (List.range i).map (wordK N) = Ls at hW hlen hstep
    repeat walk_at "sl"
    refine WS.assignSwap (n1 := "to") (n2 := "of") (hh _) rfl rfl ?_
    repeat walk_at "sl"
    refine WI.nL (ms := N) hm1 (3 + i) rfl (by lia) (by lia) ?_ (fun _ => rfl)
    repeat walk_at "sl"
    rw [et]
    refine WI.nL (ms := N) hm1 (3 + i) rfl (by lia) (by lia) ?_ (fun _ => rfl)
    repeat walk_at "sl"
    refine W2.fdiv ?_ (by decide) (by decide)
    repeat walk_at "sl"
    rw [eo]
    dsimp only [kConsA]
    refine kTup.v (vs := [.int _, .int _]) (by show 2 ≤ sizeLine; decide) fun tp τ q1 ht => ?_
    refine ⟨tp, _, _, rfl, .own ht, ?_⟩
    clear ht
    have hm2 := q1 _ _ hm1
    have hr2 := q1 _ _ hr
    have hW2 := q1 _ _ hW
    have hle2 := St.le_trans hle q1
    clear hm1 hr hW hle q1
    repeat walk_at "sl"
    refine WI.nL (ms := N) hm2 (3 + i) rfl (by lia) (by lia) ?_ (fun _ => rfl)
    repeat walk_at "sl"
    refine W2.fdiv ?_ (by decide) (by decide)
    repeat walk_at "sl"
    rw [eg]
    refine WI.str (c := sgC (gO N i)) (by lia) (by lia) (at_sg g3) ?_ (fun _ _ => rfl)
    repeat walk_at "sl"
    have ew : wordK N i = (⟨#[48 + i]⟩ : Str) ++ (⟨#[48 + tO N i / 3]⟩ : Str) ++ (⟨#[ugoC (tO N i % 3)]⟩ : Str) ++ (⟨#[sgC (gO N i)]⟩ : Str) ++ (⟨#[48 + oO N i / 3]⟩ : Str) ++ (⟨#[ugoC (oO N i % 3)]⟩ : Str) := rfl
    clear et eg eo hx
    generalize tO N i = t at t9 ew ⊢
    generalize gO N i = g at g3 ew ⊢
    generalize oO N i = o at o9 ew ⊢
    have one : ∀ n : Nat, (⟨#[n]⟩ : Str).length = 1 := fun _ => rfl
    refine WC.strI (log_small (by lia)) ?_
    rw [dig_str (by lia)]
    repeat walk_at "sl"
    refine W2.fdiv ?_ (by decide) (by decide)
    repeat walk_at "sl"
    rw [ndiv3]
    refine WC.strI (log_small (by lia)) ?_
    rw [dig_str (by lia)]
    refine W2.addS ?_ (by rw [one, one, sizeLine_eq]; decide)
    repeat walk_at "sl"
    rw [nmod3]
    refine WI.str (c := ugoC (t % 3)) (by lia) (by lia) (at_ugo (by lia)) ?_ (fun _ _ => rfl)
    refine W2.addS ?_ (by rw [Str.append_length2, one, one, one, sizeLine_eq]; decide)
    repeat walk_at "sl"
    refine W2.addS ?_ (by rw [Str.append_length2, Str.append_length2, one, one, one, one, sizeLine_eq]; decide)
    repeat walk_at "sl"
    refine W2.fdiv ?_ (by decide) (by decide)
    repeat walk_at "sl"
    rw [ndiv3]
    refine WC.strI (log_small (by lia)) ?_
    rw [dig_str (by lia)]
    refine W2.addS ?_ (by rw [Str.append_length2, Str.append_length2, Str.append_length2, one, one, one, one, one, sizeLine_eq]; decide)
    repeat walk_at "sl"
    rw [nmod3]
    refine WI.str (c := ugoC (o % 3)) (by lia) (by lia) (at_ugo (by lia)) ?_ (fun _ _ => rfl)
    refine W2.addS ?_ (by rw [Str.append_length2, Str.append_length2, Str.append_length2, Str.append_length2, one, one, one, one, one, one, sizeLine_eq]; decide)
    rw [← ew]
    repeat walk_at "sl"
    refine WC.append hW2 (by rw [List.length_map, hlen, sizeLine_eq]; lia) ?_
    repeat (first | refine hK4 _ _ _ ?_ | refine hK3 _ _ _ ?_ | refine hK2 _ _ _ ?_ | refine hK1 _ _ _ ?_ | walk_at "sl")
    refine ⟨_, _, by repeat' (first | exact Fm.nil_le _ | (refine Fm.le_cons ?_ ?_; rfl)), St.le_refl _, rfl, ?_, St.set_keep hr2 (fun e => by rw [e, hW2] at hr2; cases hr2), ?_⟩
    · exact St.le_over' hle2 hW0
    · rw [St.set_self, hstep]; simp [sL]
  · refine hid2 fun Kz hKz => ?_
    rintro fr σ1 ⟨rfl, hle, hr, hW⟩
    refine hKz _ _ ?_
    rw [up0_len] at hW
    repeat walk_at "sl"
    repeat (first | refine hK4 _ _ _ ?_ | refine hK3 _ _ _ ?_ | refine hK2 _ _ _ ?_ | refine hK1 _ _ _ ?_ | walk_at "sl")
    exact ⟨_, St.le_refl _, W, rfl, hle, hW⟩

end
section
noncomputable def placeOf (n : Int) : Nat := ((n.fdiv 972).fmod 6).toNat
noncomputable def mannerOf (n : Int) : Nat := ((n.fdiv 243).fmod 4).toNat
theorem place_lt (n : Int) : placeOf n < 6 ∧ mannerOf n < 4 := ⟨fm_lt _ (by decide), fm_lt _ (by decide)⟩
theorem place_int (n : Int) : (n.fdiv 972).fmod 6 = (placeOf n : Int) ∧ (n.fdiv 243).fmod 4 = (mannerOf n : Int) := ⟨fm_int _ (by decide), fm_int _ (by decide)⟩
noncomputable def pieceOf (w : Str) (p : Nat) : Str := Txt.slice w none (some (p : Int)) ++ Str.ofString "\\" ++ Txt.slice w (some (p : Int)) none
noncomputable def blankC (m : Nat) : Nat := [10, 9, 32].getD m 0
noncomputable def writtenOf (w : Str) (p m : Nat) : Str := if m = 3 then Str.ofString "\"" ++ pieceOf w p ++ Str.ofString "\"" else pieceOf w p ++ (⟨#[blankC m]⟩ : Str)
theorem at_blank {m : Nat} (h : m < 3) : (Str.ofString "\n\t ").cps[m]? = some (blankC m) := by
  have key : ∀ m : Fin 3, (Str.ofString "\n\t ").cps[m.val]? = some (blankC m.val) := by decide +kernel
  exact key ⟨m, h⟩
theorem piece_len (w : Str) (p : Nat) : (pieceOf w p).length ≤ 2 * w.length + 1 := by
  unfold pieceOf
  rw [Str.append_length2, Str.append_length2]
  have z1 := Txt.slice_le w none (some (p : Int))
  have z2 := Txt.slice_le w (some (p : Int)) none
  have : (Str.ofString "\\").length = 1 := rfl
  lia

theorem f_written {X : Cx} (C : C1 X) {A : Around} {σ : St} {E : Value → Shared → Prop} (w : Str) (n : Int) (hw : w.length ≤ 6) (hA : OkA A 1) :
    CW X A (.ref 256) [.str w, .int n] σ (fun v σ' => v = .str (writtenOf w (placeOf n) (mannerOf n)) ∧ σ.le σ') E := by
  refine .weak (call_plainW (k := 0) hA (C.def rfl (by kernel_rfl)) rfl rfl rfl rfl (by decide) (binds2 (fun a b => rfl) rfl rfl) fun L hL => ?_)
  intro ev Ad
  have hh : ∀ env, (A.deeper env).handled = none := fun _ => hA.handled
  obtain ⟨p6, m4⟩ := place_lt n
  obtain ⟨ep, em⟩ := place_int n
  (first | refine WB.gK ?_ | refine WT.gK ?_ | refine WS.gK ?_); intro K1 hK1
  repeat walk_at "sl"
  refine WS.assignSwap (n1 := "manner") (n2 := "place") (hh _) rfl rfl ?_
  repeat walk_at "sl"
  refine W2.fdiv ?_ (by decide) (by decide)
  repeat walk_at "sl"
  rw [em]
  refine W2.fdiv ?_ (by decide) (by decide)
  repeat walk_at "sl"
  rw [ep]
  dsimp only [kConsA]
  refine kTup.v (vs := [.int _, .int _]) (by show 2 ≤ sizeLine; decide) fun tp τ q1 ht => ?_
  refine ⟨tp, _, _, rfl, .own ht, ?_⟩
  clear ht ep em
  generalize hp : placeOf n = p at p6 ⊢
  generalize hmm : mannerOf n = mm at m4 ⊢
  have hz := piece_len w p
  have z1 := Txt.slice_le w none (some (p : Int))
  have z2 := Txt.slice_le w (some (p : Int)) none
  have one : (Str.ofString "\\").length = 1 := rfl
  have one2 : (Str.ofString "\"").length = 1 := rfl
  repeat walk_at "sl"
  refine ⟨p, rfl, .inl ⟨w, rfl, by rw [sizeLine_eq]; lia, ?_⟩⟩
  repeat walk_at "sl"
  refine W2.addS ?_ (by rw [one, sizeLine_eq]; lia)
  repeat walk_at "sl"
  refine ⟨p, rfl, .inl ⟨w, rfl, by rw [sizeLine_eq]; lia, ?_⟩⟩
  refine W2.addS ?_ (by rw [Str.append_length2, one, sizeLine_eq]; lia)
  show kAsg X Ad ev (fun x x_1 => False) _ _ (.str (pieceOf w p)) _ _
  generalize hP : pieceOf w p = P at hz ⊢
  repeat (first | walk_at "sl" | with_reducible refine WE.ifExpK ?_)
  by_cases q : mm = 3
  · refine itT (by subst q; rfl) ?_
    repeat walk_at "sl"
    refine W2.addS ?_ (by rw [one2, sizeLine_eq]; lia)
    repeat walk_at "sl"
    refine W2.addS ?_ (by rw [Str.append_length2, one2, sizeLine_eq]; lia)
    repeat (first | refine hK4 _ _ _ ?_ | refine hK3 _ _ _ ?_ | refine hK2 _ _ _ ?_ | refine hK1 _ _ _ ?_ | walk_at "sl")
    refine ⟨_, St.le_refl _, ?_, q1⟩
    unfold writtenOf
    rw [hmm, if_pos q, hp, hP]; rfl
  · refine itF (by simp only [beq_iff_eq]; lia) ?_
    repeat walk_at "sl"
    refine WI.str (c := blankC mm) (by lia) (by lia) (at_blank (by lia)) ?_ (fun _ _ => rfl)
    refine W2.addS ?_ (by have : (⟨#[blankC mm]⟩ : Str).length = 1 := rfl
                          rw [this, sizeLine_eq]; lia)
    repeat (first | refine hK4 _ _ _ ?_ | refine hK3 _ _ _ ?_ | refine hK2 _ _ _ ?_ | refine hK1 _ _ _ ?_ | walk_at "sl")
    refine ⟨_, St.le_refl _, ?_, q1⟩
    unfold writtenOf
    rw [hmm, if_neg q, hp, hP]; rfl

end
section
set_option genInjectivity false in
structure Dd where
  (k t g o : Nat)
noncomputable def Dd.ok (d : Dd) : Prop := d.t < 9 ∧ d.g < 3 ∧ d.o < 9
noncomputable def Dd.word (d : Dd) : Str := wordOf d.k d.t d.g d.o
noncomputable abbrev Vals := Nat → Int
noncomputable def putV (V : Vals) (t : Nat) (v : Int) : Vals := fun f => if f = t then v else V f
noncomputable def stepV (V : Vals) (d : Dd) : Vals := putV V d.t (madeI d.g (V d.t) (V d.o))
noncomputable def VOk (V : Vals) : Prop := ∀ f, 0 ≤ V f ∧ V f < 16
theorem made_ok {g : Nat} {a b : Int} (a0 : 0 ≤ a) (a1 : a < 16) (b0 : 0 ≤ b) (b1 : b < 16) : 0 ≤ madeI g a b ∧ madeI g a b < 16 := by
  have key : ∀ a b : Fin 16, ∀ g : Fin 3, 0 ≤ madeI g.val a.val b.val ∧ madeI g.val a.val b.val < 16 := by decide +kernel
  have h2 : madeI g a b = madeI (min g 2) a b := by
    unfold madeI
    by_cases q0 : g = 0
    · subst q0; rfl
    · by_cases q1 : g = 1
      · subst q1; rfl
      · rw [if_neg q0, if_neg q1, if_neg (by lia), if_neg (by lia)]
  rw [h2]
  have := key ⟨a.toNat, by lia⟩ ⟨b.toNat, by lia⟩ ⟨min g 2, by lia⟩
  rw [show (((⟨a.toNat, by lia⟩ : Fin 16).val : Nat) : Int) = a from by show (a.toNat : Int) = a; lia, show (((⟨b.toNat, by lia⟩ : Fin 16).val : Nat) : Int) = b from by show (b.toNat : Int) = b; lia] at this
  exact this
theorem VOk.step {V : Vals} (h : VOk V) (d : Dd) : VOk (stepV V d) := by
  intro f
  unfold stepV putV
  split
  · exact made_ok (h _).1 (h _).2 (h _).1 (h _).2
  · exact h f
noncomputable def rowV (T : Nat → Nat) (V : Vals) (i : Nat) : Str := rowOf (T i) (V (3 * i)) (V (3 * i + 1)) (V (3 * i + 2))
noncomputable def rowsV (T : Nat → Nat) (V : Vals) : List Str := [rowV T V 0, rowV T V 1, rowV T V 2]
theorem nine {P : Nat → Prop} (h0 : P 0) (h1 : P 1) (h2 : P 2) (h3 : P 3) (h4 : P 4) (h5 : P 5) (h6 : P 6) (h7 : P 7) (h8 : P 8) {t : Nat} (h : t < 9) : P t := by
  have : t = 0 ∨ t = 1 ∨ t = 2 ∨ t = 3 ∨ t = 4 ∨ t = 5 ∨ t = 6 ∨ t = 7 ∨ t = 8 := by lia
  rcases this with rfl | rfl | rfl | rfl | rfl | rfl | rfl | rfl | rfl <;> assumption
theorem rowsV_get (T : Nat → Nat) (V : Vals) {t : Nat} (h : t < 9) : (sL (rowsV T V))[t / 3]? = some (.str (rowOf (T (t / 3)) (V (3 * (t / 3))) (V (3 * (t / 3) + 1)) (V (3 * (t / 3) + 2)))) :=
  nine (P := fun t => (sL (rowsV T V))[t / 3]? = some (.str (rowOf (T (t / 3)) (V (3 * (t / 3))) (V (3 * (t / 3) + 1)) (V (3 * (t / 3) + 2))))) rfl rfl rfl rfl rfl rfl rfl rfl rfl h
theorem fld_V (V : Vals) {t : Nat} (h : t < 9) : fld (V (3 * (t / 3))) (V (3 * (t / 3) + 1)) (V (3 * (t / 3) + 2)) ((t % 3 : Nat) : Int) = V t :=
  nine (P := fun t => fld (V (3 * (t / 3))) (V (3 * (t / 3) + 1)) (V (3 * (t / 3) + 2)) ((t % 3 : Nat) : Int) = V t) rfl rfl rfl rfl rfl rfl rfl rfl rfl h
theorem rows_put (T : Nat → Nat) (V : Vals) (v : Int) {t : Nat} (h : t < 9) : (sL (rowsV T V)).set (t / 3) (.str (rowSet (T (t / 3)) (V (3 * (t / 3))) (V (3 * (t / 3) + 1)) (V (3 * (t / 3) + 2)) ((t % 3 : Nat) : Int) v)) = sL (rowsV T (putV V t v)) :=
  nine (P := fun t => (sL (rowsV T V)).set (t / 3) (.str (rowSet (T (t / 3)) (V (3 * (t / 3))) (V (3 * (t / 3) + 1)) (V (3 * (t / 3) + 2)) ((t % 3 : Nat) : Int) v)) = sL (rowsV T (putV V t v))) rfl rfl rfl rfl rfl rfl rfl rfl rfl h

inductive ObI (σ : St) (r w : Addr) (T : Nat → Nat) (V : Vals) (D : List Dd) (i : Nat) : Fm → St → Prop
  | mk {τ : St} (hk : ∀ a o, a ≠ r → σ a = some o → τ a = some o) (hr : τ r = some (.list (sL (rowsV T ((D.take i).foldl stepV V))))) : ObI σ r w T V D i [("words", .ref w), ("rows", .ref r)] τ
theorem f_onebyone {X : Cx} (C : C1 X) {A : Around} {σ : St} {E : Value → Shared → Prop} (r w : Addr) (T : Nat → Nat) (V : Vals) (D : List Dd) (hr : σ r = some (.list (sL (rowsV T V)))) (hw : σ w = some (.list (sL (D.map Dd.word)))) (hrw : w ≠ r) (hD : ∀ d ∈ D, d.ok) (hz : D.length ≤ 1000) (hV : VOk V) (hA : OkA A 5) :
    CW X A (.ref 298) [.ref r, .ref w] σ (fun v σ' => v = .ref r ∧ σ' r = some (.list (sL (rowsV T (D.foldl stepV V)))) ∧ ∀ a o, a ≠ r → σ a = some o → σ' a = some o) E := by
  refine .weak (call_plainW (k := 4) hA (C.def rfl (by kernel_rfl)) rfl rfl rfl rfl (by decide) (binds2 (fun a b => rfl) rfl rfl) fun L hL => ?_)
  intro ev Ad
  have hA1 := okA_deeper hA
  have hh : ∀ env, (A.deeper env).handled = none := fun _ => hA.handled
  have hVs : ∀ i, VOk ((D.take i).foldl stepV V) := fun i => by
    have : ∀ (l : List Dd) (V : Vals), VOk V → VOk (l.foldl stepV V) := by
      intro l
      induction l with
      | nil => intro V h; exact h
      | cons d l ih => intro V h; exact ih _ (h.step d)
    exact this _ _ hV
  (first | refine WB.gK ?_ | refine WT.gK ?_ | refine WS.gK ?_); intro K1 hK1
  repeat walk_at "sl"
  refine WIter.forG (x := .ref w) (hh _) (srcOf_list (l := w) (xs := sL (D.map Dd.word)) (hh _)) (ObI σ r w T V D) ?_ ?_ ?_ ?_ ?_
  · exact fun _ => LetOk.name
  · rintro i fr τ ⟨hk, _⟩; exact hk _ _ hrw hw
  · refine .mk (fun a o _ e => e) ?_
    exact hr
  · rintro i K2 hK2 x fr τ hx ⟨hk, hr⟩
    rw [List.getElem?_map, List.getElem?_map, Option.map_map] at hx
    obtain ⟨d, hd, rfl⟩ := Option.map_eq_some_iff.mp hx
    obtain ⟨t9, g3, o9⟩ := hD d (List.mem_of_getElem? hd)
    have hstep : (D.take (i + 1)).foldl stepV V = putV ((D.take i).foldl stepV V) d.t (madeI d.g (((D.take i).foldl stepV V) d.t) (((D.take i).foldl stepV V) d.o)) := by rw [take_succ_get hd, List.foldl_append, List.foldl_cons, List.foldl_nil]; rfl
    have hV1 := hVs i
    generalize (D.take i).foldl stepV V = V1 at hr hstep hV1
    show WAsg X Ad _ _ (.str (wordOf d.k d.t d.g d.o)) _ _ _ _
    obtain ⟨k, t, g, o⟩ := d
    dsimp only at t9 g3 o9 hstep ⊢
    clear hx hd
    repeat walk_at "sl"
    refine WS.assignTup rfl rfl ?_
    repeat walk_at "sl"
    refine WC.ofM (f_deed C k t g o t9 g3 o9 ((hA1 _).le (by decide))) (hid2 fun Kz hKz => ?_)
    rintro _ τ1 ⟨a, rfl, q1, ha⟩
    refine hKz _ _ ?_
    refine WAsg.tup (hh _) (.own ha) rfl rfl ?_
    refine WEach.cons rfl (WAsg.name ?_)
    repeat walk_at "sl"
    refine WEach.cons rfl (WAsg.name ?_)
    repeat walk_at "sl"
    refine WEach.cons rfl (WAsg.name ?_)
    repeat walk_at "sl"
    refine WEach.nil ?_
    have hr1 := q1 _ _ hr
    have hk1 : ∀ a o, a ≠ r → σ a = some o → τ1 a = some o := fun a o h e => q1 _ _ (hk a o h e)
    clear ha hr hk q1
    repeat walk_at "sl"
    refine W2.fdiv ?_ (by decide) (by decide)
    rw [ndiv3]
    repeat walk_at "sl"
    refine WI.atN hr1 (t / 3) rfl (by lia) (rowsV_get T V1 t9) ?_ (fun _ => rfl)
    repeat walk_at "sl"
    rw [nmod3]
    refine WC.ofE (f_value C _ _ _ _ _ (by lia) (by lia) (by rw [fld_V V1 t9]; exact (hV1 t).1) (by rw [fld_V V1 t9]; exact (hV1 t).2) ((hA1 _).le (by decide))) ?_
    rw [fld_V V1 t9]
    repeat walk_at "sl"
    refine W2.fdiv ?_ (by decide) (by decide)
    rw [ndiv3]
    repeat walk_at "sl"
    refine WI.atN hr1 (o / 3) rfl (by lia) (rowsV_get T V1 o9) ?_ (fun _ => rfl)
    repeat walk_at "sl"
    rw [nmod3]
    refine WC.ofE (f_value C _ _ _ _ _ (by lia) (by lia) (by rw [fld_V V1 o9]; exact (hV1 o).1) (by rw [fld_V V1 o9]; exact (hV1 o).2) ((hA1 _).le (by decide))) ?_
    rw [fld_V V1 o9]
    repeat walk_at "sl"
    refine WC.ofE (f_made C _ _ g g3 ((hA1 _).le (by decide))) ?_
    have hmd := made_ok (g := g) (hV1 t).1 (hV1 t).2 (hV1 o).1 (hV1 o).2
    generalize madeI g (V1 t) (V1 o) = v at hstep hmd ⊢
    repeat (first | walk_at "sl" | (focus (with_reducible refine WS.assignSub ?_ ?_); rotate_left; rfl))
    refine W2.fdiv ?_ (by decide) (by decide)
    rw [ndiv3]
    repeat walk_at "sl"
    refine WI.atN hr1 (t / 3) rfl (by lia) (rowsV_get T V1 t9) ?_ (fun _ => rfl)
    repeat walk_at "sl"
    rw [nmod3]
    refine WC.ofE (f_shown C _ _ _ _ _ _ (by lia) (by lia) hmd.1 hmd.2 ((hA1 _).le (by decide))) ?_
    repeat walk_at "sl"
    refine W2.fdiv ?_ (by decide) (by decide)
    rw [ndiv3]
    repeat walk_at "sl"
    refine WU3.setList hr1 (by lia) (by lia) (by show _ < ((3 : Nat) : Int); lia) ?_
    rw [show (((t / 3 : Nat) : Int)).toNat = t / 3 from rfl, rows_put T V1 v t9]
    repeat walk_at "sl"
    repeat (first | refine hK4 _ _ _ ?_ | refine hK3 _ _ _ ?_ | refine hK2 _ _ _ ?_ | refine hK1 _ _ _ ?_ | walk_at "sl")
    refine ⟨_, _, by repeat' (first | exact Fm.nil_le _ | (refine Fm.le_cons ?_ ?_; rfl)), St.le_refl _, .mk (fun a o h e => (St.set_ne _ h).trans (hk1 a o h e)) ?_⟩
    rw [hstep]
    exact St.set_self ..
  · refine hid2 fun Kz hKz => ?_
    rintro fr τ ⟨hk, hr⟩
    refine hKz _ _ ?_
    rw [List.length_map, List.length_map, List.take_length] at hr
    repeat walk_at "sl"
    repeat (first | refine hK4 _ _ _ ?_ | refine hK3 _ _ _ ?_ | refine hK2 _ _ _ ?_ | refine hK1 _ _ _ ?_ | walk_at "sl")
    exact ⟨_, St.le_refl _, rfl, hr, hk⟩

end
section
noncomputable def lowI (a b c : Int) : Int := 64 * (a % 8) + 8 * (b % 8) + c % 8 + 2048 * (a / 8) + 1024 * (b / 8) + 512 * (c / 8)
noncomputable def encI (H a b c : Int) : Int := 4096 * H + lowI a b c
theorem nat_of {x : Int} {n : Nat} (h0 : 0 ≤ x) (h1 : x < n) : ∃ k : Fin n, x = (k.val : Int) := ⟨⟨x.toNat, (Int.toNat_lt h0).mpr h1⟩, (Int.toNat_of_nonneg h0).symm⟩
theorem low_lt : ∀ a b c : Fin 16, 0 ≤ lowI a.val b.val c.val ∧ lowI a.val b.val c.val < 4096 := by decide +kernel
theorem lowI_lt {a b c : Int} (a0 : 0 ≤ a) (a1 : a < 16) (b0 : 0 ≤ b) (b1 : b < 16) (c0 : 0 ≤ c) (c1 : c < 16) : 0 ≤ lowI a b c ∧ lowI a b c < 4096 := by
  obtain ⟨a, rfl⟩ := nat_of a0 a1
  obtain ⟨b, rfl⟩ := nat_of b0 b1
  obtain ⟨c, rfl⟩ := nat_of c0 c1
  exact low_lt a b c
theorem and_low {H x : Int} (hH : 0 ≤ H) (h0 : 0 ≤ x) (h1 : x < 4096) : Builtin.bitAnd (4096 * H + x) 4095 = x := by
  rw [bitAnd_pp (by lia) (by decide), show (4095 : Int).toNat = 2 ^ 12 - 1 from rfl, Nat.and_two_pow_sub_one_eq_mod]
  lia
theorem and_mask {H x : Int} (hH : 0 ≤ H) (h0 : 0 ≤ x) (h1 : x < 4096) (k : Nat) (hk : 4095 &&& k = k) : Builtin.bitAnd (4096 * H + x) (k : Int) = ((x.toNat &&& k : Nat) : Int) := by
  have e := and_low hH h0 h1
  rw [bitAnd_pp (by lia) (by decide), show (4095 : Int).toNat = 4095 from rfl] at e
  rw [bitAnd_pp (by lia) (by lia), Int.toNat_natCast, ← hk, ← Nat.and_assoc]
  have e2 : (4096 * H + x).toNat &&& 4095 = x.toNat := by lia
  rw [e2, hk]
theorem mask_at : ∀ x : Fin 4096, ((x.val &&& 2496 : Nat) : Int) = 64 * ((x.val : Int) / 64 % 8) + 2048 * ((x.val : Int) / 2048 % 2) ∧ ((x.val &&& 1080 : Nat) : Int) = 8 * ((x.val : Int) / 8 % 8) + 1024 * ((x.val : Int) / 1024 % 2) ∧ ((x.val &&& 519 : Nat) : Int) = (x.val : Int) % 8 + 512 * ((x.val : Int) / 512 % 2) := by decide +kernel
theorem mask_int {x : Int} (h0 : 0 ≤ x) (h1 : x < 4096) : ((x.toNat &&& 2496 : Nat) : Int) = 64 * (x / 64 % 8) + 2048 * (x / 2048 % 2) ∧ ((x.toNat &&& 1080 : Nat) : Int) = 8 * (x / 8 % 8) + 1024 * (x / 1024 % 2) ∧ ((x.toNat &&& 519 : Nat) : Int) = x % 8 + 512 * (x / 512 % 2) := by
  obtain ⟨k, rfl⟩ := nat_of h0 h1
  exact mask_at k
theorem low_all : ∀ a b c : Fin 16, (lowI a.val b.val c.val / 64 % 8 = a.val % 8 ∧ lowI a.val b.val c.val / 8 % 8 = b.val % 8 ∧ lowI a.val b.val c.val % 8 = c.val % 8) ∧ lowI a.val b.val c.val / 2048 % 2 = a.val / 8 ∧ lowI a.val b.val c.val / 1024 % 2 = b.val / 8 ∧ lowI a.val b.val c.val / 512 % 2 = c.val / 8 := by decide +kernel
theorem low_parts {a b c : Int} (a0 : 0 ≤ a) (a1 : a < 16) (b0 : 0 ≤ b) (b1 : b < 16) (c0 : 0 ≤ c) (c1 : c < 16) : (lowI a b c / 64 % 8 = a % 8 ∧ lowI a b c / 8 % 8 = b % 8 ∧ lowI a b c % 8 = c % 8) ∧ lowI a b c / 2048 % 2 = a / 8 ∧ lowI a b c / 1024 % 2 = b / 8 ∧ lowI a b c / 512 % 2 = c / 8 := by
  obtain ⟨a, rfl⟩ := nat_of a0 a1
  obtain ⟨b, rfl⟩ := nat_of b0 b1
  obtain ⟨c, rfl⟩ := nat_of c0 c1
  exact low_all a b c
theorem figI_enc {H a b c : Int} (hH : 0 ≤ H) (a0 : 0 ≤ a) (a1 : a < 16) (b0 : 0 ≤ b) (b1 : b < 16) (c0 : 0 ≤ c) (c1 : c < 16) : figI (encI H a b c) 0 = a ∧ figI (encI H a b c) 1 = b ∧ figI (encI H a b c) 2 = c := by
  have l := lowI_lt a0 a1 b0 b1 c0 c1
  unfold figI encI
  rw [and_low hH l.1 l.2]
  rw [show (8 : Int) ^ ((2 : Int) - 0).toNat = 64 from rfl, show (8 : Int) ^ ((2 : Int) - 1).toNat = 8 from rfl, show (8 : Int) ^ ((2 : Int) - 2).toNat = 1 from rfl, show (2 : Int) ^ ((11 : Int) - 0).toNat = 2048 from rfl, show (2 : Int) ^ ((11 : Int) - 1).toNat = 1024 from rfl, show (2 : Int) ^ ((11 : Int) - 2).toNat = 512 from rfl]
  simp only [Int.fdiv_eq_ediv_of_nonneg _ (show (0 : Int) ≤ 64 by decide), Int.fdiv_eq_ediv_of_nonneg _ (show (0 : Int) ≤ 8 by decide), Int.fdiv_eq_ediv_of_nonneg _ (show (0 : Int) ≤ 1 by decide), Int.fdiv_eq_ediv_of_nonneg _ (show (0 : Int) ≤ 2048 by decide), Int.fdiv_eq_ediv_of_nonneg _ (show (0 : Int) ≤ 1024 by decide), Int.fdiv_eq_ediv_of_nonneg _ (show (0 : Int) ≤ 512 by decide), Int.fmod_eq_emod_of_nonneg _ (show (0 : Int) ≤ 8 by decide), Int.fmod_eq_emod_of_nonneg _ (show (0 : Int) ≤ 2 by decide)]
  obtain ⟨⟨x1, x2, x3⟩, x4, x5, x6⟩ := low_parts a0 a1 b0 b1 c0 c1
  rw [x1, x2, show lowI a b c / 1 = lowI a b c from Int.ediv_one _, x3, x4, x5, x6]
  omega
theorem givI_enc {H a b c v : Int} (hH : 0 ≤ H) (a0 : 0 ≤ a) (a1 : a < 16) (b0 : 0 ≤ b) (b1 : b < 16) (c0 : 0 ≤ c) (c1 : c < 16) (v0 : 0 ≤ v) (v1 : v < 16) : givI (encI H a b c) 0 v = encI H v b c ∧ givI (encI H a b c) 1 v = encI H a v c ∧ givI (encI H a b c) 2 v = encI H a b v := by
  have l := lowI_lt a0 a1 b0 b1 c0 c1
  obtain ⟨m1, m2, m3⟩ := mask_int l.1 l.2
  unfold givI
  rw [show (8 : Int) ^ ((2 : Int) - 0).toNat = 64 from rfl, show (8 : Int) ^ ((2 : Int) - 1).toNat = 8 from rfl, show (8 : Int) ^ ((2 : Int) - 2).toNat = 1 from rfl, show (2 : Int) ^ ((11 : Int) - 0).toNat = 2048 from rfl, show (2 : Int) ^ ((11 : Int) - 1).toNat = 1024 from rfl, show (2 : Int) ^ ((11 : Int) - 2).toNat = 512 from rfl]
  rw [show (7 : Int) * 64 + 2048 = ((2496 : Nat) : Int) from rfl, show (7 : Int) * 8 + 1024 = ((1080 : Nat) : Int) from rfl, show (7 : Int) * 1 + 512 = ((519 : Nat) : Int) from rfl]
  unfold encI
  rw [and_mask hH l.1 l.2 2496 (by decide), and_mask hH l.1 l.2 1080 (by decide), and_mask hH l.1 l.2 519 (by decide), m1, m2, m3]
  simp only [Int.fdiv_eq_ediv_of_nonneg _ (show (0 : Int) ≤ 8 by decide), Int.fmod_eq_emod_of_nonneg _ (show (0 : Int) ≤ 8 by decide)]
  obtain ⟨⟨x1, x2, x3⟩, x4, x5, x6⟩ := low_parts a0 a1 b0 b1 c0 c1
  rw [x1, x2, x3, x4, x5, x6]
  unfold lowI
  clear l m1 m2 m3 x1 x2 x3 x4 x5 x6 hH a0 a1 b0 b1 c0 c1 v0 v1
  generalize a / 8 = p
  generalize a % 8 = q
  generalize b / 8 = r
  generalize b % 8 = s
  generalize c / 8 = t
  generalize c % 8 = u
  generalize v / 8 = w
  generalize v % 8 = y
  refine ⟨?_, ?_, ?_⟩ <;> lia
noncomputable def modeV (H : Nat → Int) (V : Vals) (i : Nat) : Int := encI (H i) (V (3 * i)) (V (3 * i + 1)) (V (3 * i + 2))
noncomputable def modesV (H : Nat → Int) (V : Vals) : List Int := [modeV H V 0, modeV H V 1, modeV H V 2]
theorem fig_V {H : Nat → Int} {V : Vals} (hH : ∀ i, 0 ≤ H i) (hV : VOk V) {f : Nat} (hf : f < 9) : figI ((modesV H V).getD (((f : Int)).fdiv 3).toNat 0) (((f : Int)).fmod 3) = V f := by
  have e : ∀ i, figI (modeV H V i) 0 = V (3 * i) ∧ figI (modeV H V i) 1 = V (3 * i + 1) ∧ figI (modeV H V i) 2 = V (3 * i + 2) := fun i => figI_enc (hH i) (hV _).1 (hV _).2 (hV _).1 (hV _).2 (hV _).1 (hV _).2
  exact nine (P := fun f => figI ((modesV H V).getD (((f : Int)).fdiv 3).toNat 0) (((f : Int)).fmod 3) = V f) (e 0).1 (e 0).2.1 (e 0).2.2 (e 1).1 (e 1).2.1 (e 1).2.2 (e 2).1 (e 2).2.1 (e 2).2.2 hf
theorem giv_V {H : Nat → Int} {V : Vals} (hH : ∀ i, 0 ≤ H i) (hV : VOk V) {f : Nat} (hf : f < 9) {v : Int} (v0 : 0 ≤ v) (v1 : v < 16) : givL (modesV H V) (f : Int) v = modesV H (putV V f v) := by
  have e : ∀ i, givI (modeV H V i) 0 v = encI (H i) v (V (3 * i + 1)) (V (3 * i + 2)) ∧ givI (modeV H V i) 1 v = encI (H i) (V (3 * i)) v (V (3 * i + 2)) ∧ givI (modeV H V i) 2 v = encI (H i) (V (3 * i)) (V (3 * i + 1)) v := fun i => givI_enc (hH i) (hV _).1 (hV _).2 (hV _).1 (hV _).2 (hV _).1 (hV _).2 v0 v1
  have t0 : ∀ x y z : Int, x = y → [x, modeV H V 1, modeV H V 2] = [y, modeV H V 1, modeV H V 2] := fun x y z h => by rw [h]
  refine nine (P := fun f => givL (modesV H V) (f : Int) v = modesV H (putV V f v)) ?_ ?_ ?_ ?_ ?_ ?_ ?_ ?_ ?_ hf
  · show [givI (modeV H V 0) 0 v, modeV H V 1, modeV H V 2] = [encI (H 0) v (V 1) (V 2), modeV H V 1, modeV H V 2]; rw [(e 0).1]
  · show [givI (modeV H V 0) 1 v, modeV H V 1, modeV H V 2] = [encI (H 0) (V 0) v (V 2), modeV H V 1, modeV H V 2]; rw [(e 0).2.1]
  · show [givI (modeV H V 0) 2 v, modeV H V 1, modeV H V 2] = [encI (H 0) (V 0) (V 1) v, modeV H V 1, modeV H V 2]; rw [(e 0).2.2]
  · show [modeV H V 0, givI (modeV H V 1) 0 v, modeV H V 2] = [modeV H V 0, encI (H 1) v (V 4) (V 5), modeV H V 2]; rw [(e 1).1]
  · show [modeV H V 0, givI (modeV H V 1) 1 v, modeV H V 2] = [modeV H V 0, encI (H 1) (V 3) v (V 5), modeV H V 2]; rw [(e 1).2.1]
  · show [modeV H V 0, givI (modeV H V 1) 2 v, modeV H V 2] = [modeV H V 0, encI (H 1) (V 3) (V 4) v, modeV H V 2]; rw [(e 1).2.2]
  · show [modeV H V 0, modeV H V 1, givI (modeV H V 2) 0 v] = [modeV H V 0, modeV H V 1, encI (H 2) v (V 7) (V 8)]; rw [(e 2).1]
  · show [modeV H V 0, modeV H V 1, givI (modeV H V 2) 1 v] = [modeV H V 0, modeV H V 1, encI (H 2) (V 6) v (V 8)]; rw [(e 2).2.1]
  · show [modeV H V 0, modeV H V 1, givI (modeV H V 2) 2 v] = [modeV H V 0, modeV H V 1, encI (H 2) (V 6) (V 7) v]; rw [(e 2).2.2]

end
section

noncomputable def tblD : List (Addr × List (Addr × Int × Str)) :=
  [(205, [(198, 40960, "l"), (199, 49152, "s"), (200, 32768, "-"), (201, 24576, "b"), (202, 16384, "d"), (203, 8192, "c"), (204, 4096, "p")]),
  (207, [(206, 256, "r")]),
  (209, [(208, 128, "w")]),
  (213, [(210, 2112, "s"), (211, 2048, "S"), (212, 64, "x")]),
  (215, [(214, 32, "r")]),
  (217, [(216, 16, "w")]),
  (221, [(218, 1032, "s"), (219, 1024, "S"), (220, 8, "x")]),
  (223, [(222, 4, "r")]),
  (225, [(224, 2, "w")]),
  (229, [(226, 513, "t"), (227, 512, "T"), (228, 1, "x")])]
theorem tbl_top {X : Cx} (C : C1 X) (σ : St) : HasTup X 230 (tblD.map fun r => .ref r.1) σ := .base (by rw [C.K]; rfl) rfl
theorem tbl_row {X : Cx} (C : C1 X) (σ : St) : ∀ r ∈ tblD, HasTup X r.1 (r.2.map fun e => .ref e.1) σ := by
  intro r hr
  simp only [tblD, List.mem_cons, List.not_mem_nil, or_false] at hr
  rcases hr with rfl | rfl | rfl | rfl | rfl | rfl | rfl | rfl | rfl | rfl <;> exact .base (by rw [C.K]; rfl) rfl
theorem tbl_ent {X : Cx} (C : C1 X) (σ : St) : ∀ r ∈ tblD, ∀ e ∈ r.2, HasTup X e.1 [.int e.2.1, .str e.2.2] σ := by
  intro r hr
  simp only [tblD, List.mem_cons, List.not_mem_nil, or_false] at hr
  rcases hr with rfl | rfl | rfl | rfl | rfl | rfl | rfl | rfl | rfl | rfl <;> (intro e he; simp only [List.mem_cons, List.not_mem_nil, or_false] at he) <;>
    first
    | (rcases he with rfl | rfl | rfl | rfl | rfl | rfl | rfl <;> exact .base (by rw [C.K]; rfl) rfl)
    | (rcases he with rfl | rfl | rfl <;> exact .base (by rw [C.K]; rfl) rfl)
    | (rcases he with rfl; exact .base (by rw [C.K]; rfl) rfl)
noncomputable def fmHit (mode : Int) (i : Nat) (b : Int) : Bool := if i = 0 then Builtin.bitAnd mode 61440 == b else Builtin.bitAnd mode b == b
noncomputable def fmChar (mode : Int) (i : Nat) (es : List (Addr × Int × Str)) : Str := match es.find? (fun e => fmHit mode i e.2.1) with
  | some e => e.2.2
  | none => if i = 0 then "?" else "-"
noncomputable def fmChars (mode : Int) : List Str := tblD.mapIdx fun i r => fmChar mode i r.2
noncomputable def filemodeOf (mode : Int) : Str := Txt.join "" (fmChars mode)
theorem tbl_len : (tblD.all fun r => r.2.all fun e => e.2.2.length == 1) = true := by decide +kernel
set_option tactic.hygienic true in
theorem fmChar_len (m : Int) (i : Nat) (r : Addr × List (Addr × Int × Str)) (hr : r ∈ tblD) : (fmChar m i r.2).length = 1 := by
  unfold fmChar
  split
  · rename_i e he
    have h1 := List.all_eq_true.mp tbl_len r hr
    have h2 := List.all_eq_true.mp h1 e (List.mem_of_find?_eq_some he)
    simpa using h2
  · split <;> rfl
theorem fmChars_len (m : Int) : ∀ y ∈ fmChars m, y.length = 1 := by
  intro y hy
  unfold fmChars at hy
  obtain ⟨i, hi, rfl⟩ := List.mem_mapIdx.mp hy
  exact fmChar_len m i _ (List.getElem_mem ..)
theorem f_IFMT {X : Cx} (C : C1 X) {A : Around} {σ : St} {E : Value → Shared → Prop} (m : Int) (hA : OkA A 1) : CW X A (.ref 197) [.int m] σ (fun v σ' => v = .int (Builtin.bitAnd m 61440) ∧ σ' = σ) E := by
  refine call_plainW (k := 0) hA (C.def rfl (by kernel_rfl)) rfl rfl rfl rfl (by decide) (binds1 (fun a => rfl) rfl) fun L hL => ?_
  intro ev Ad
  (first | refine WB.gK ?_ | refine WT.gK ?_ | refine WS.gK ?_); intro K1 hK1
  repeat walk_at "sl"
  repeat (first | refine hK4 _ _ _ ?_ | refine hK3 _ _ _ ?_ | refine hK2 _ _ _ ?_ | refine hK1 _ _ _ ?_ | walk_at "sl")
  exact ⟨rfl, rfl⟩
theorem f_filemode {X : Cx} (C : C1 X) {A : Around} {σ : St} {E : Value → Shared → Prop} (m : Int) (hA : OkA A 3) : CW X A (.ref 237) [.int m] σ (fun v σ' => v = .str (filemodeOf m) ∧ σ' = σ) E := by
  refine .weak (call_plainW (k := 2) hA (C.def rfl (by kernel_rfl)) rfl rfl rfl rfl (by decide) (binds1 (fun a => rfl) rfl) fun L hL => ?_)
  intro ev Ad
  have hA1 := okA_deeper hA
  have hh : ∀ env, (A.deeper env).handled = none := fun _ => hA.handled
  (first | refine WB.gK ?_ | refine WT.gK ?_ | refine WS.gK ?_); intro K1 hK1
  repeat walk_at "sl"
  repeat (first | refine hK4 _ _ _ ?_ | refine hK3 _ _ _ ?_ | refine hK2 _ _ _ ?_ | refine hK1 _ _ _ ?_ | walk_at "sl")
  refine ⟨by decide, fun p hp hpL => ?_⟩
  repeat walk_at "sl"
  refine WC.enumTup (tbl_top C _) fun it e hit hitL he heL hne tI tE => ?_
  refine WIter.enum (St.set_self ..) ?_
  refine WFor.enum (xs := tblD.map fun r => .ref r.1) (hh _) (fun i fr σ' => fr = ([("mode", .int m), ("perm", .ref p)] : Fm) ∧ σ' = σ.set p (.list (sL ((fmChars m).take i)))) (fun _ _ _ _ => tbl_top C _) tI tE ?_ hit he hne ?_ ?_
  · exact ⟨rfl, rfl⟩
  · rintro i x fr _ a hx ⟨rfl, rfl⟩ ha
    rw [List.getElem?_map] at hx
    obtain ⟨r, hr, rfl⟩ := Option.map_eq_some_iff.mp hx
    have hrm := List.mem_of_getElem? hr
    have hi : i < 10 := (List.getElem?_eq_some_iff.mp hr).1
    have hlen : (fmChars m).length = 10 := rfl
    have htake : (fmChars m).take (i + 1) = (fmChars m).take i ++ [fmChar m i r.2] := take_succ_get (by unfold fmChars; rw [List.getElem?_mapIdx, hr]; rfl)
    refine WAsg.tup (hh _) (.own (St.set_self ..)) rfl rfl ?_
    refine WEach.cons rfl (WAsg.name ?_)
    repeat walk_at "sl"
    refine WEach.cons rfl (WAsg.name ?_)
    repeat walk_at "sl"
    refine WEach.nil ?_
    refine WB.from (fr' := ([("mode", .int m), ("perm", .ref p), ("index", .int i), ("table", .ref r.1)] : Fm)) ?_ (St.le_set ha) ?_
    · repeat' (first | exact Fm.nil_le _ | (refine Fm.le_cons ?_ ?_; rfl))
    repeat walk_at "sl"
    have hsz : (sL ((fmChars m).take i)).length ≤ sizeLine := by simp [sL, sizeLine_eq, hlen]; lia
    have hend : ∀ c : Str, fmChar m i r.2 = c → (σ.set p (AO.list (sL (List.take i (fmChars m))))).set p (AO.list (sL (List.take i (fmChars m)) ++ [PV.str c])) = σ.set p (.list (sL ((fmChars m).take (i + 1)))) := by
      intro c hc
      rw [St.set_set, htake, hc]; simp [sL]
    refine WIter.forG (x := .ref r.1) (hh _) (srcOf_tup (xs := r.2.map fun e => .ref e.1) (hh _)) (fun k fr σ' => fr = ([("mode", .int m), ("perm", .ref p), ("index", .int i), ("table", .ref r.1)] : Fm) ∧ σ' = σ.set p (.list (sL ((fmChars m).take i))) ∧ (r.2.take k).find? (fun e => fmHit m i e.2.1) = none) ?_ ?_ ?_ ?_ ?_
    · exact fun _ => LetOk.it rfl fun _ => ⟨_, rfl⟩
    · intro k fr σ' _; exact tbl_row C _ r hrm
    · exact ⟨rfl, rfl, rfl⟩
    · rintro k K2 hK2 x fr _ hx ⟨rfl, rfl, hno⟩
      rw [List.getElem?_map] at hx
      obtain ⟨en, hen, rfl⟩ := Option.map_eq_some_iff.mp hx
      have hem := List.mem_of_getElem? hen
      have hfind : fmHit m i en.2.1 = true → fmChar m i r.2 = en.2.2 := by
        intro hhit
        have e1 : r.2 = r.2.take k ++ en :: r.2.drop (k + 1) := by
          have := List.getElem?_eq_some_iff.mp hen
          obtain ⟨h1, h2⟩ := this
          rw [← h2]; simp
        unfold fmChar
        rw [e1, List.find?_append, hno]
        simp [List.find?_cons, hhit]
      have hnext : fmHit m i en.2.1 = false → (r.2.take (k + 1)).find? (fun e => fmHit m i e.2.1) = none := by
        intro hmiss
        rw [take_succ_get hen, List.find?_append, hno]
        simp [List.find?_cons, hmiss]
      refine WAsg.tup (hh _) (tbl_ent C _ r hrm en hem) rfl rfl ?_
      refine WEach.cons rfl (WAsg.name ?_)
      repeat walk_at "sl"
      refine WEach.cons rfl (WAsg.name ?_)
      repeat walk_at "sl"
      refine WEach.nil ?_
      repeat walk_at "sl"
      refine WS.ifK ?_
      repeat walk_at "sl"
      by_cases q : i = 0
      · subst q
        refine itT (by simp) ?_
        repeat walk_at "sl"
        refine WS.ifK ?_
        repeat walk_at "sl"
        refine WC.ofE (f_IFMT C m ((hA1 _).le (by decide))) ?_
        repeat walk_at "sl"
        by_cases w : Builtin.bitAnd m 61440 == en.2.1
        · refine itT w ?_
          repeat walk_at "sl"
          refine WC.append (xs := sL ((fmChars m).take 0)) (by walk_at "look") hsz ?_
          repeat (first | walk_at "sl" | with_reducible refine WS.brk ?_)
          repeat (first | refine hK4 _ _ _ ?_ | refine hK3 _ _ _ ?_ | refine hK2 _ _ _ ?_ | refine hK1 _ _ _ ?_ | walk_at "sl")
          refine ⟨_, _, ?_, St.le_refl _, rfl, hend _ (hfind (by unfold fmHit; rw [if_pos rfl]; exact w))⟩
          repeat' (first | exact Fm.nil_le _ | (refine Fm.le_cons ?_ ?_; rfl))
        · refine itF w ?_
          repeat walk_at "sl"
          repeat (first | refine hK4 _ _ _ ?_ | refine hK3 _ _ _ ?_ | refine hK2 _ _ _ ?_ | refine hK1 _ _ _ ?_ | walk_at "sl")
          refine ⟨_, _, ?_, St.le_refl _, rfl, rfl, hnext (by unfold fmHit; rw [if_pos rfl]; simpa using w)⟩
          repeat' (first | exact Fm.nil_le _ | (refine Fm.le_cons ?_ ?_; rfl))
      · refine itF (by simpa using q) ?_
        repeat walk_at "sl"
        refine WS.ifK ?_
        repeat walk_at "sl"
        by_cases w : Builtin.bitAnd m en.2.1 == en.2.1
        · refine itT w ?_
          repeat walk_at "sl"
          refine WC.append (xs := sL ((fmChars m).take i)) (by walk_at "look") hsz ?_
          repeat (first | walk_at "sl" | with_reducible refine WS.brk ?_)
          repeat (first | refine hK4 _ _ _ ?_ | refine hK3 _ _ _ ?_ | refine hK2 _ _ _ ?_ | refine hK1 _ _ _ ?_ | walk_at "sl")
          refine ⟨_, _, ?_, St.le_refl _, rfl, hend _ (hfind (by unfold fmHit; rw [if_neg q]; exact w))⟩
          repeat' (first | exact Fm.nil_le _ | (refine Fm.le_cons ?_ ?_; rfl))
        · refine itF w ?_
          repeat walk_at "sl"
          repeat (first | refine hK4 _ _ _ ?_ | refine hK3 _ _ _ ?_ | refine hK2 _ _ _ ?_ | refine hK1 _ _ _ ?_ | walk_at "sl")
          refine ⟨_, _, ?_, St.le_refl _, rfl, rfl, hnext (by unfold fmHit; rw [if_neg q]; simpa using w)⟩
          repeat' (first | exact Fm.nil_le _ | (refine Fm.le_cons ?_ ?_; rfl))
    · refine hid2 fun Kz hKz => ?_
      rintro fr _ ⟨rfl, rfl, hno⟩
      refine hKz _ _ ?_
      have hno' : fmChar m i r.2 = if i = 0 then ("?" : Str) else ("-" : Str) := by
        unfold fmChar
        rw [List.length_map, List.take_length] at hno
        rw [hno]
      repeat walk_at "sl"
      refine WS.ifK ?_
      repeat walk_at "sl"
      by_cases q : i = 0
      · subst q
        refine itT (by simp) ?_
        repeat walk_at "sl"
        refine WC.append (xs := sL ((fmChars m).take 0)) (by walk_at "look") hsz ?_
        repeat walk_at "sl"
        repeat (first | refine hK4 _ _ _ ?_ | refine hK3 _ _ _ ?_ | refine hK2 _ _ _ ?_ | refine hK1 _ _ _ ?_ | walk_at "sl")
        refine ⟨_, _, ?_, St.le_refl _, rfl, hend _ (by rw [hno', if_pos rfl])⟩
        repeat' (first | exact Fm.nil_le _ | (refine Fm.le_cons ?_ ?_; rfl))
      · refine itF (by simpa using q) ?_
        repeat walk_at "sl"
        refine WC.append (xs := sL ((fmChars m).take i)) (by walk_at "look") hsz ?_
        repeat walk_at "sl"
        repeat (first | refine hK4 _ _ _ ?_ | refine hK3 _ _ _ ?_ | refine hK2 _ _ _ ?_ | refine hK1 _ _ _ ?_ | walk_at "sl")
        refine ⟨_, _, ?_, St.le_refl _, rfl, hend _ (by rw [hno', if_neg q])⟩
        repeat' (first | exact Fm.nil_le _ | (refine Fm.le_cons ?_ ?_; rfl))
  · refine hid2 fun Kz hKz => ?_
    rintro fr _ ⟨rfl, rfl⟩
    refine hKz _ _ ?_
    have hlen : (fmChars m).length = 10 := rfl
    rw [show (tblD.map fun r => PV.ref r.1).length = 10 from rfl, List.take_of_length_le (Nat.le_of_eq hlen)]
    repeat (first | walk_at "sl" | with_reducible refine WM.join ?_)
    refine WC.join (ts := fmChars m) (by walk_at "look") ?_ ?_
    · exact joinOk_small 1 (fun y hy => Nat.le_of_eq (fmChars_len m y hy)) (by rw [hlen]; decide)
    · exact hK1 _ _ _ ⟨_, St.le_set hp, rfl, rfl⟩

end
section
structure C2 (X : Cx) : Prop extends C1 X where
  cd : CodeHd X.hb 262 258
  ba : X.hb.BuiltinsAt X.mg 258

theorem dcls_lex {X : Cx} (C : C1 X) : DCls X 179 := ⟨by rw [C.K]; kernel_rfl, by rw [C.K]; kernel_rfl, by rw [C.K]; kernel_rfl, by rw [C.K]; kernel_rfl⟩
theorem lf_lineno {X : Cx} (C : C1 X) : findIn X.K (.ref 179) (Str.ofString "lineno") = some none := by rw [C.K]; kernel_rfl
theorem lf_instream {X : Cx} (C : C1 X) : findIn X.K (.ref 179) (Str.ofString "instream") = some none := by rw [C.K]; kernel_rfl
theorem lf_whitespace {X : Cx} (C : C1 X) : findIn X.K (.ref 179) (Str.ofString "whitespace") = some none := by rw [C.K]; kernel_rfl
theorem lf_pushback {X : Cx} (C : C1 X) : findIn X.K (.ref 179) (Str.ofString "pushback") = some none := by rw [C.K]; kernel_rfl
noncomputable def lexFlds (n : Int) (st : Addr) (ws : Str) (pb : Addr) : Fm := [("lineno", .int n), ("instream", .ref st), ("whitespace", .str ws), ("pushback", .ref pb)]
theorem f_lexInit {X : Cx} (C : C1 X) {A : Around} {σ : St} {E : Value → Shared → Prop} (x dx st : Addr) (hx : σ x = some (.inst 179 dx [])) (hd : σ dx = some (.flds [])) (hA : OkA A 2) :
    CC X A (.ref 155) [.ref x, .ref st] σ (fun v σ' => v = .none ∧ ∃ pb, σ pb = none ∧ σ' = (σ.set dx (.flds (lexFlds 1 st "\n\t\r " pb))).set pb (.list [])) E := by
  refine call_plainC (k := 1) hA (C.def rfl (by kernel_rfl)) rfl rfl rfl rfl (by decide) (binds2 (fun a b => rfl) rfl rfl) fun L hL => ?_
  intro ev Ad
  have D := dcls_lex C
  have hne : x ≠ dx := fun e => by rw [e, hd] at hx; cases hx
  (first | refine WB.gK ?_ | refine WT.gK ?_ | refine WS.gK ?_); intro K1 hK1
  repeat walk_at "sl"
  refine WU2.setOwn (x := x) D (lf_lineno C) hx hd (by decide) ?_
  repeat walk_at "sl"
  refine WU2.setOwn (x := x) (dx := dx) D (lf_instream C) (by rw [St.set_ne _ hne]; exact hx) (St.set_self ..) (of_decide_eq_true rfl) ?_
  rw [St.set_set]
  repeat walk_at "sl"
  refine WU2.setOwn (x := x) (dx := dx) D (lf_whitespace C) (by rw [St.set_ne _ hne]; exact hx) (St.set_self ..) (of_decide_eq_true rfl) ?_
  rw [St.set_set]
  repeat walk_at "sl"
  repeat (first | refine hK4 _ _ _ ?_ | refine hK3 _ _ _ ?_ | refine hK2 _ _ _ ?_ | refine hK1 _ _ _ ?_ | walk_at "sl")
  refine ⟨by decide, fun pb hpb hpbL => ?_⟩
  have hp := St.set_none.mp hpb
  repeat walk_at "sl"
  refine WU2.setOwn (x := x) (dx := dx) D (lf_pushback C) (by rw [St.set_ne _ (fun e => by subst e; rw [hx] at hp; cases hp.2), St.set_ne _ hne]; exact hx) (by rw [St.set_ne _ (Ne.symm hp.1), St.set_self]) (of_decide_eq_true rfl) ?_
  repeat walk_at "sl"
  repeat (first | refine hK4 _ _ _ ?_ | refine hK3 _ _ _ ?_ | refine hK2 _ _ _ ?_ | refine hK1 _ _ _ ?_ | walk_at "sl")
  refine ⟨rfl, pb, hp.2, ?_⟩
  rw [St.set3 hp.1]
  rfl

structure LexAt (X : Cx) (σ : St) (lx dx pb f d g c2 t1 t2 at_ : Addr) (fdL fdG : FuncData) (text : Str) (ws : Str) (n : Int) (pos : Nat) : Prop where
  hlx : σ lx = some (.inst 179 dx [])
  hdx : σ dx = some (.flds (lexFlds n f ws pb))
  hpb : σ pb = some (.list [])
  hf : σ f = some (.fn fdL (some d))
  hd : σ d = some (.flds [(Str.ofString "read", .ref g)])
  hg : σ g = some (.fn fdG none)
  hc : σ c2 = some (.code fdG.qualname)
  h1 : σ t1 = some (.cell (some (.str text)))
  h2 : σ t2 = some (.cell (some (.ref at_)))
  hat : σ at_ = some (.list (iL [(pos : Int)]))
noncomputable def GiveOk (X : Cx) (g c2 t1 t2 at_ : Addr) (text : Str) (fd : FuncData) : Prop := fd.code = .ref c2 ∧ ∀ (A : Around) (σ : St) (E : Value → Shared → Prop) (pos : Nat), OkA A 2 → σ g = some (.fn fd none) → σ c2 = some (.code fd.qualname) → σ t1 = some (.cell (some (.str text))) →
  σ t2 = some (.cell (some (.ref at_))) → σ at_ = some (.list (iL [(pos : Int)])) → text.length ≤ 2 ^ 20 →
  CC X A (.ref g) [.int 1] σ (fun v σ' => v = .str (Txt.slice text (some pos) (some (pos + 1))) ∧ σ' = σ.set at_ (.list (iL [((pos + (Txt.slice text (some (pos : Int)) (some (pos + 1))).length : Nat) : Int)]))) E
theorem ne_ob' {σ : St} {a b : Addr} {o o' : AO} (h : σ a = some o) (h' : σ b = some o') (hn : o ≠ o') : a ≠ b := fun e => by subst e; rw [h] at h'; cases h'; exact hn rfl
theorem WN.genFn {X : Cx} {A : Around} {env : Env} {x : Str} {v : PV} {fr : Fm} {σ : St} {g c : Addr} {q : Str} {dx : Option Addr} {fd : FuncData} {Q : Fm → St → Prop} {E : Value → Shared → Prop} (P : FuncData → Prop) (hP : P fd) (hq : fd.qualname = q)
    (h : ∀ fd', P fd' → WN X A env x v fr ((σ.set c (.code fd'.qualname)).set g (.fn fd' dx)) Q E) : WN X A env x v fr ((σ.set c (.code q)).set g (.fn fd dx)) Q E := by
  subst hq; exact h fd hP
theorem WN.gen {X : Cx} {A : Around} {env : Env} {x : Str} {v : PV} {fr : Fm} {σ : St} {Q : Fm → St → Prop} {E : Value → Shared → Prop} (P : St → Prop) (hP : P σ) (h : ∀ σ', P σ' → WN X A env x v fr σ' Q E) : WN X A env x v fr σ Q E := h σ hP
theorem f_lexer {X : Cx} (C : C2 X) {A : Around} {σ : St} {E : Value → Shared → Prop} (text : Str) (at_ : Addr) (hA : OkA A 5) (hP : σ 258 = some (.tab #[])) (hat : σ at_ = some (.list (iL [0]))) :
    CW X A (.ref 263) [.str text, .ref at_] σ (fun v σ' => ∃ lx dx pb f d g c2 t1 t2 fdL fdG, v = .ref lx ∧ GiveOk X g c2 t1 t2 at_ text fdG ∧ LexAt X σ' lx dx pb f d g c2 t1 t2 at_ fdL fdG text "\n\t\r " 1 0 ∧ (∀ a o, a ≠ 258 → σ a = some o → σ' a = some o) ∧ (∃ ps, σ' 258 = some (.tab ps)) ∧ σ dx = none) E := by
  have C1' : C1 X := C.toC1
  refine call_cellsW (k := 4) hA (C1'.def rfl (by kernel_rfl)) rfl rfl rfl rfl rfl (fun n => of_decide_eq_true rfl) (bindsCC (fun a b => rfl) rfl rfl (fun _ => rfl) (fun _ => rfl)) fun L hL => ?_
  intro ev Ad
  generalize hσ1 : (σ.set (L + 1) (.cell (some (.str text)))).set (L + 2) (.cell (some (.ref at_))) = σ1
  have e1 : (show St from σ1) = σ1 := rfl
  show WB X _ _ _ _ ((σ.set (L + 1) (.cell (some (.str text)))).set (L + 2) (.cell (some (.ref at_)))) _ _
  rw [hσ1]
  have hL1 : σ (L + 1) = none := by
    cases q : σ (L + 1) with
    | none => rfl
    | some o => exact absurd (hL _ _ q) (by exact Nat.not_lt.mpr (Nat.le_succ L))
  have hL2 : σ (L + 2) = none := by
    cases q : σ (L + 2) with
    | none => rfl
    | some o => exact absurd (hL _ _ q) (by exact Nat.not_lt.mpr (Nat.le_add_right L 2))
  have n12 : L + 1 ≠ L + 2 := by exact Nat.ne_of_lt (Nat.lt_succ_self _)
  have c1 : σ1 (L + 1) = some (.cell (some (.str text))) := by rw [← hσ1, St.set_ne _ n12, St.set_self]
  have c2 : σ1 (L + 2) = some (.cell (some (.ref at_))) := by rw [← hσ1, St.set_self]
  have hle : σ.le σ1 := by rw [← hσ1]; exact St.le_trans (St.le_set hL1) (St.le_set (St.set_none.mpr ⟨Ne.symm n12, hL2⟩))
  have hP1 := hle _ _ hP
  (first | refine WB.gK ?_ | refine WT.gK ?_ | refine WS.gK ?_); intro K1 hK1
  repeat walk_at "sl"
  refine WE.lambdaNew C.cd C.ba hP1 trivial rfl rfl rfl rfl rfl (by decide) fun f c1' ctv n1 n2 n3 n4 n5 n6 n7 => ?_
  repeat walk_at "sl"
  refine WS.defNew C.cd C.ba (P := 258) (ps := #[] ++ #[rawInt 226, rawInt 13, .ref c1']) (by rw [St.set_ne _ (Ne.symm n7), St.set_ne _ (Ne.symm n6), St.set_self]; rfl) (show TriplesOk [rawInt 226, rawInt 13, Value.ref c1'] from trivial) rfl rfl rfl rfl rfl rfl rfl (by decide) fun g c2' doc ctv' m1 m2 m3 m4 m5 m6 m7 => ?_
  refine WN.genFn (GiveOk X g c2' (L + 1) (L + 2) at_ text) ?_ rfl ?_
  · refine ⟨rfl, fun A σ E pos hA hg hc ht1 ht2 hat hlen => ?_⟩
    refine call_plainC (k := 1) hA (IsDef.own hg hc rfl) rfl rfl rfl rfl (of_decide_eq_true rfl) (binds1 (fun a => rfl) rfl) fun L hL => ?_
    intro ev Ad
    repeat walk_at "sl"
    refine WI.nL hat 0 rfl (by simp) (by simp) ?_ (fun _ => rfl)
    repeat walk_at "sl"
    refine WI.nL hat 0 rfl (by simp) (by simp) ?_ (fun _ => rfl)
    repeat walk_at "sl"
    repeat (first | refine hK4 _ _ _ ?_ | refine hK3 _ _ _ ?_ | refine hK2 _ _ _ ?_ | refine hK1 _ _ _ ?_ | walk_at "sl")
    refine ⟨text, (pos : Int), (pos : Int) + 1, rfl, rfl, rfl, Nat.le_trans hlen (by decide), ?_⟩
    repeat (first | walk_at "sl" | (focus (with_reducible refine WS.augSub ?_ ?_); rotate_left; exact fun _ _ _ => rfl))
    refine W2.getN hat 0 rfl (by simp) (by simp) ?_
    repeat walk_at "sl"
    have hsl : (Txt.slice text (some (pos : Int)) (some ((pos : Int) + 1))).length ≤ 2 ^ 20 := Nat.le_trans (Txt.slice_le text _ _) hlen
    refine WC.lenStr (by lia) ?_
    repeat walk_at "sl"
    refine WU3.setN hat 0 rfl (by simp) (by simp) ?_
    repeat walk_at "sl"
    repeat (first | refine hK4 _ _ _ ?_ | refine hK3 _ _ _ ?_ | refine hK2 _ _ _ ?_ | refine hK1 _ _ _ ?_ | walk_at "sl")
    exact ⟨rfl, rfl⟩
  intro fdG hG
  have n8 := St.set_none.mp m1
  have n9 := St.set_none.mp n8.2
  have n10 := St.set_none.mp n9.2
  have p8 := St.set_none.mp m3
  have p9 := St.set_none.mp p8.2
  have p10 := St.set_none.mp p9.2
  refine WN.gen (fun σ2 => (∃ fdL, σ2 f = some (.fn fdL none)) ∧ σ2 g = some (.fn fdG none) ∧ σ2 c2' = some (.code fdG.qualname) ∧ (∀ a o, a ≠ 258 → σ1 a = some o → σ2 a = some o) ∧ ∃ ps, σ2 258 = some (.tab ps)) ?hP ?hR
  case hP => 
   refine ⟨⟨_, (St.set_ne _ (Ne.symm n8.1)).trans ((St.set_ne _ (Ne.symm p8.1)).trans ((St.set_ne _ n7).trans (St.set_self ..)))⟩, ?_, ?_, ?_, ?_⟩
   · rw [St.set_self]
   · rw [St.set_ne _ m5, St.set_self]
   rotate_left
   · exact ⟨_, (St.set_ne _ (Ne.symm m7)).trans ((St.set_ne _ (Ne.symm m6)).trans (St.set_self ..))⟩
   · intro a o ha e
     rw [St.set_ne _ (St.ne_of e n10.2), St.set_ne _ (St.ne_of e p10.2), St.set_ne _ ha, St.set_ne _ (St.ne_of e n1), St.set_ne _ (St.ne_of e n3), St.set_ne _ ha]; exact e
  rintro σ2 ⟨⟨fdL, hf2⟩, hg2, hc2, hk2, ps, hps⟩
  repeat walk_at "sl"
  refine WU2.setFnRead hf2 fun d hd hdL hdf => ?_
  repeat walk_at "sl"
  have hf3 : ((σ2.set f (.fn fdL (some d))).set d (.flds [(Str.ofString "read", .ref g)])) f = some (.fn fdL (some d)) := by rw [St.set_ne _ (Ne.symm hdf), St.set_self]
  have hd3 : ((σ2.set f (.fn fdL (some d))).set d (.flds [(Str.ofString "read", .ref g)])) d = some (.flds [(Str.ofString "read", .ref g)]) := St.set_self ..
  have hk3 : ∀ a o, a ≠ f → σ2 a = some o → ((σ2.set f (.fn fdL (some d))).set d (.flds [(Str.ofString "read", .ref g)])) a = some o := fun a o ha e => by
    rw [St.set_ne _ (St.ne_of e hd), St.set_ne _ ha]; exact e
  have hps3 := hk3 258 _ (ne_ob' hps hf2 (fun e => nomatch e)) hps
  generalize hσ3 : (σ2.set f (.fn fdL (some d))).set d (.flds [(Str.ofString "read", .ref g)]) = σ3 at hf3 hd3 hk3 hps3
  refine WC.of (.mono (CC.make (k := 3) (okA_deeper hA _) (by rw [C1'.K]; kernel_rfl) (fI := 155) (by rw [C1'.K]; kernel_rfl) (by rw [C1'.K]; kernel_rfl)
    (Q := fun v σ' => ∃ x dx pb, v = .ref x ∧ σ' x = some (.inst 179 dx []) ∧ σ' dx = some (.flds (lexFlds 1 f "\n\t\r " pb)) ∧ σ' pb = some (.list []) ∧ (∀ a o, σ3 a = some o → (σ' a = some o ∧ a ≠ dx)) ∧ σ3 dx = none) fun A' hA' x dx hx hdx hne => ?init).cw ?_)
  case init =>
    refine (f_lexInit C1' x dx f (St.set_self ..) (by rw [St.set_ne _ hne, St.set_self]) (hA'.le (by decide))).mono ?_
    rintro v σ' ⟨rfl, pb, hpb, rfl⟩
    have q1 := St.set_none.mp hpb
    have q2 := St.set_none.mp q1.2
    refine ⟨rfl, x, dx, pb, rfl, ?_, ?_, St.set_self .., fun a o e => ⟨?_, St.ne_of e hdx⟩, hdx⟩
    · rw [St.set_ne _ (Ne.symm q1.1), St.set_ne _ (Ne.symm hne), St.set_self]
    · rw [St.set_ne _ (Ne.symm q2.1), St.set_self]
    · rw [St.set_ne _ (St.ne_of e q2.2), St.set_ne _ (St.ne_of e hdx), St.set_ne _ (St.ne_of e hx), St.set_ne _ (St.ne_of e hdx)]; exact e
  rintro v σ4 ⟨lx, dx, pb, rfl, hlx, hdx, hpb, hk4, hdx3⟩
  have k5 : ∀ a o, σ4 a = some o → a ≠ dx → σ4 a = some o := fun a o e _ => e
  have k53 : ∀ a o, σ3 a = some o → σ4 a = some o := fun a o e => (hk4 a o e).1
  have fne : ∀ a o, σ1 a = some o → a ≠ f := fun a o e => St.ne_of e n1
  have ca : L + 1 ≠ 258 := fun e => by rw [← e] at hP; rw [hL1] at hP; cases hP
  have cb : L + 2 ≠ 258 := fun e => by rw [← e] at hP; rw [hL2] at hP; cases hP
  have ka : ∀ a o, a ≠ 258 → σ1 a = some o → σ4 a = some o := fun a o ha e => k53 a o (hk3 a o (fne a o e) (hk2 a o ha e))
  have hat1 := hle _ _ hat
  have hatn : at_ ≠ 258 := fun e => by rw [e, hP1] at hat1; cases hat1
  repeat (first | refine hK4 _ _ _ ?_ | refine hK3 _ _ _ ?_ | refine hK2 _ _ _ ?_ | refine hK1 _ _ _ ?_ | walk_at "sl")
  refine ⟨lx, dx, pb, f, d, g, c2', L + 1, L + 2, fdL, fdG, rfl, hG, ⟨hlx, hdx, hpb, k53 _ _ hf3, k53 _ _ hd3,
    k53 _ _ (hk3 _ _ n8.1 hg2), k53 _ _ (hk3 _ _ p8.1 hc2), ka _ _ ca c1, ka _ _ cb c2, ka _ _ hatn hat1⟩, fun a o ha e => ka a o ha (hle a o e), ⟨ps, k53 _ _ hps3⟩, ?_⟩
  cases q : σ dx with
  | none => rfl
  | some o =>
    exfalso
    by_cases e : dx = 258
    · subst e; rw [hps3] at hdx3; cases hdx3
    · have q1 := hle _ _ q
      have := hk3 dx o (fne _ _ q1) (hk2 dx o e q1)
      rw [hdx3] at this; cases this

end
section

noncomputable def chAt (text : Str) (pos : Nat) : Str := Txt.slice text (some (pos : Int)) (some (pos + 1))
theorem lexKeep {X : Cx} {σ σ' : St} {lx dx pb f d g c2 t1 t2 at_ : Addr} {fdL fdG : FuncData} {text ws : Str} {n : Int} {pos pos' : Nat} (h : LexAt X σ lx dx pb f d g c2 t1 t2 at_ fdL fdG text ws n pos)
    (hk : ∀ a o, a ≠ at_ → σ a = some o → σ' a = some o) (hat : σ' at_ = some (.list (iL [(pos' : Int)]))) : LexAt X σ' lx dx pb f d g c2 t1 t2 at_ fdL fdG text ws n pos' := by
  have ne : ∀ {a o}, σ a = some o → o ≠ .list (iL [(pos : Int)]) → a ≠ at_ := fun e hn q => by subst q; rw [h.hat] at e; cases e; exact hn rfl
  exact ⟨hk _ _ (ne h.hlx (fun q => nomatch q)) h.hlx, hk _ _ (ne h.hdx (fun q => nomatch q)) h.hdx, hk _ _ (ne h.hpb (fun q => by simp [iL] at q)) h.hpb, hk _ _ (ne h.hf (fun q => nomatch q)) h.hf, hk _ _ (ne h.hd (fun q => nomatch q)) h.hd,
    hk _ _ (ne h.hg (fun q => nomatch q)) h.hg, hk _ _ (ne h.hc (fun q => nomatch q)) h.hc, hk _ _ (ne h.h1 (fun q => nomatch q)) h.h1, hk _ _ (ne h.h2 (fun q => nomatch q)) h.h2, hat⟩
theorem f_read {X : Cx} (C : C1 X) {A : Around} {σ : St} {E : Value → Shared → Prop} {lx dx pb f d g c2 t1 t2 at_ : Addr} {fdL fdG : FuncData} {text ws : Str} {n : Int} {pos : Nat} (hG : GiveOk X g c2 t1 t2 at_ text fdG) (hl : LexAt X σ lx dx pb f d g c2 t1 t2 at_ fdL fdG text ws n pos) (hlen : text.length ≤ 2 ^ 20)
    (hA : OkA A 4) : CC X A (.ref 162) [.ref lx] σ (fun v σ' => v = .str (chAt text pos) ∧ LexAt X σ' lx dx pb f d g c2 t1 t2 at_ fdL fdG text ws (if chAt text pos = "\n" then n + 1 else n) (pos + (chAt text pos).length) ∧ ∀ a o, a ≠ at_ → a ≠ dx → σ a = some o → σ' a = some o) E := by
  refine call_plainC (k := 3) hA (C.def rfl (by kernel_rfl)) rfl rfl rfl rfl (by decide) (binds1 (fun a => rfl) rfl) fun L hL => ?_
  intro ev Ad
  have D := dcls_lex C
  have hA1 := okA_deeper hA
  repeat walk_at "sl"
  refine WG.own D (lf_instream C) hl.hlx hl.hdx rfl rfl ?_
  refine WM.fnRead hl.hf hl.hd rfl rfl ?_
  repeat walk_at "sl"
  refine ⟨Keeps.fn hl.hg, ?_⟩
  refine WC.of (.mono (hG.2 _ _ _ pos ((hA1 _).le (by decide)) hl.hg hl.hc hl.h1 hl.h2 hl.hat hlen).cw ?_)
  rintro v σ' ⟨rfl, hσ'⟩
  have hl' : LexAt X σ' lx dx pb f d g c2 t1 t2 at_ fdL fdG text ws n (pos + (chAt text pos).length) := lexKeep hl (fun a o ha e => by rw [hσ', St.set_ne _ ha]; exact e) (by rw [hσ', St.set_self]; rfl)
  have hk' : ∀ a o, a ≠ at_ → σ a = some o → σ' a = some o := fun a o ha e => by rw [hσ', St.set_ne _ ha]; exact e
  clear hσ'
  repeat walk_at "sl"
  refine WS.nextW (fun fr σ'' => fr = ([("self", .ref lx), ("ch", .str (chAt text pos))] : Fm) ∧ LexAt X σ'' lx dx pb f d g c2 t1 t2 at_ fdL fdG text ws (if chAt text pos = "\n" then n + 1 else n) (pos + (chAt text pos).length) ∧ ∀ a o, a ≠ dx → σ' a = some o → σ'' a = some o) ?_ ?_
  · refine WS.ifK ?_
    repeat walk_at "sl"
    refine W2.eqS ?_
    repeat walk_at "sl"
    by_cases q' : chAt text pos = "\n"
    · refine itT (beq_iff_eq.mpr q') ?_
      repeat walk_at "sl"
      refine WG.own D (lf_lineno C) hl'.hlx hl'.hdx rfl rfl ?_
      repeat walk_at "sl"
      refine WU2.setOwn (x := lx) (dx := dx) D (lf_lineno C) hl'.hlx hl'.hdx (of_decide_eq_true rfl) ?_
      repeat walk_at "sl"
      have ne : ∀ {a o}, σ' a = some o → o ≠ .flds (lexFlds n f ws pb) → a ≠ dx := fun e hn q => by subst q; rw [hl'.hdx] at e; cases e; exact hn rfl
      have k : ∀ a o, a ≠ dx → σ' a = some o → (σ'.set dx (.flds (Fm.put "lineno" (.int (n + 1)) (lexFlds n f ws pb)))) a = some o := fun a o ha e => by rw [St.set_ne _ ha]; exact e
      refine ⟨rfl, .of ⟨rfl, ?_, k⟩⟩
      rw [if_pos q']
      refine ⟨k _ _ (ne hl'.hlx (fun q => nomatch q)) hl'.hlx, St.set_self .., k _ _ (ne hl'.hpb (fun q => nomatch q)) hl'.hpb, k _ _ (ne hl'.hf (fun q => nomatch q)) hl'.hf, ?_, k _ _ (ne hl'.hg (fun q => nomatch q)) hl'.hg, k _ _ (ne hl'.hc (fun q => nomatch q)) hl'.hc,
        k _ _ (ne hl'.h1 (fun q => nomatch q)) hl'.h1, k _ _ (ne hl'.h2 (fun q => nomatch q)) hl'.h2, k _ _ (ne hl'.hat (fun q => nomatch q)) hl'.hat⟩
      exact k _ _ (ne hl'.hd (fun q => by simp [lexFlds] at q)) hl'.hd
    · refine itF (fun e => q' (eq_of_beq e)) ?_
      repeat walk_at "sl"
      refine ⟨rfl, .of ⟨rfl, ?_, fun _ _ _ e => e⟩⟩
      rw [if_neg q']; exact hl'
  refine hid2 fun Kz hKz => ?_
  rintro fr σ'' ⟨rfl, hl'', hk''⟩
  refine hKz _ _ ?_
  repeat walk_at "sl"
  exact ⟨rfl, hl'', fun a o h1 h2 e => hk'' a o h2 (hk' a o h1 e)⟩

end
section
theorem chAt_lt {text : Str} {pos : Nat} (h : pos < text.length) : chAt text pos = ⟨#[text.cps.getD pos 0]⟩ := by
  have := slice_one_closes (x := text) (n := pos) (by lia) (by lia)
  have e := eq_of_beq this
  unfold chAt
  rw [e]; rfl
theorem chAt_ge {text : Str} {pos : Nat} (h : text.length ≤ pos) : chAt text pos = "" := by
  unfold chAt Txt.slice
  have e : Builtin.Str.strSliceIndices (some (pos : Int)) (some ((pos : Int) + 1)) 1 text.length = [] := by
    unfold Builtin.Str.strSliceIndices sliceRange
    have h1 : ¬ ((pos : Int) < 0) := by lia
    have h2 : ¬ ((pos : Int) + 1 < 0) := by lia
    have e1 : max (0 : Int) (min (pos : Int) (text.length : Int)) = text.length := by lia
    have e2 : max (0 : Int) (min ((pos : Int) + 1) (text.length : Int)) = text.length := by lia
    simp only [h1, h2, if_false, e1, e2, show ((1 : Int) > 0) = True from by simp, if_true]
    simp
  rw [e]
  by_cases q : text.length = 0
  · have : text = "" := by
      obtain ⟨c⟩ := text
      have : c = #[] := by simpa [Str.length] using q
      subst this; rfl
    subst this
    rfl
  · have : ((1 : Int) == 1 && ([] : List Nat).length == text.length) = false := by
      simp; lia
    rw [this]; rfl
set_option tactic.hygienic true in
theorem chAt_len (text : Str) (pos : Nat) : (chAt text pos).length = if pos < text.length then 1 else 0 := by
  split
  · rename_i h; rw [chAt_lt h]; rfl
  · rename_i h; rw [chAt_ge (Nat.not_lt.mp h)]; rfl
theorem chAt_empty {text : Str} {pos : Nat} : chAt text pos = "" ↔ text.length ≤ pos := by
  constructor
  · intro h
    rcases Nat.lt_or_ge pos text.length with q | q
    · have := chAt_len text pos
      rw [h, if_pos q] at this; cases this
    · exact q
  · exact chAt_ge

noncomputable def lns (text : Str) (pos : Nat) : Int := 1 + ((text.cps.toList.take pos).count 10 : Nat)
set_option tactic.hygienic true in
theorem lns_step (text : Str) (pos : Nat) : lns text (pos + (chAt text pos).length) = if chAt text pos = "\n" then lns text pos + 1 else lns text pos := by
  rw [chAt_len]
  split
  · rename_i h
    have hl : pos < text.cps.toList.length := by simpa [Str.length] using h
    have e : text.cps.toList[pos]? = some (text.cps.getD pos 0) := by
      rw [List.getElem?_eq_getElem hl]
      simp [Array.getD, show pos < text.cps.size from h]
    rw [chAt_lt h]
    unfold lns
    rw [List.take_add_one, e]
    generalize text.cps.getD pos 0 = c
    have en : (Str.ofString "\n") = ⟨#[10]⟩ := by kernel_rfl
    by_cases q : c = 10
    · subst q
      rw [if_pos en.symm, Option.toList_some, List.count_append, List.count_singleton]
      simp; lia
    · have hc : ¬ ((⟨#[c]⟩ : Str) = Str.ofString "\n") := fun x => by rw [en] at x; injection x with x; exact q (by simpa using x)
      rw [if_neg hc, Option.toList_some, List.count_append, List.count_singleton]
      simp [q]
  · rename_i h
    rw [chAt_ge (Nat.not_lt.mp h), if_neg (by decide)]; rfl

end
section

noncomputable def inS (ws ch : Str) : Bool := !(Builtin.Str.occurrences ws ch 0 ws.length 1).isEmpty
noncomputable def tokPlain (text ws : Str) : Nat → Nat → Str → Str × Nat × Bool
  | 0, pos, tok => (tok, pos, true)
  | k + 1, pos, tok =>
    if chAt text pos = "" then (tok, pos, true)
    else if inS ws (chAt text pos) = true then (tok, pos + 1, false)
    else if chAt text pos = "\\" then tokPlain text ws k (pos + 1 + (chAt text (pos + 1)).length) (tok ++ chAt text (pos + 1))
    else tokPlain text ws k (pos + 1) (tok ++ chAt text pos)
noncomputable def tokQuoted (text : Str) : Nat → Nat → Str → Str × Nat × Bool
  | 0, pos, tok => (tok, pos, true)
  | k + 1, pos, tok =>
    if chAt text pos = "" then (tok, pos, true)
    else if chAt text pos = "\"" then (tok, pos + 1, false)
    else if chAt text pos = "\\" then tokQuoted text k (pos + 1 + (chAt text (pos + 1)).length) (tok ++ chAt text (pos + 1))
    else tokQuoted text k (pos + 1) (tok ++ chAt text pos)
noncomputable def tokAt (text ws : Str) : Nat → Nat → Str × Nat
  | 0, pos => ("", pos)
  | k + 1, pos =>
    if chAt text pos = "" then ("", pos)
    else if inS ws (chAt text pos) = true then tokAt text ws k (pos + 1)
    else
      let r := if chAt text pos = "\"" then tokQuoted text k (pos + 1) ""
        else if chAt text pos = "\\" then tokPlain text ws k (pos + 1 + (chAt text (pos + 1)).length) (chAt text (pos + 1)) else tokPlain text ws k (pos + 1) (chAt text pos)
      (r.1, r.2.1)
theorem lex_bound {X : Cx} (C : C1 X) : ∀ es n, lookIn "_read_char" (dictOf es n) = some none → findObj X.K 179 (some (dictOf es n)) "_read_char" = some (.bind (.builtin "function.__get__") (.ref 162)) := by
  intro es n h
  have ha : findIn X.K (.ref 179) (Str.ofString "_read_char") = some (some (.ref 162)) := by rw [C.K]; kernel_rfl
  have hg : specialIn X.K (.ref 162) (Str.ofString "__get__") = some (some (.builtin "function.__get__")) := by rw [C.K]; kernel_rfl
  have ht : takesIn X.K (.ref 162) = some false := by rw [C.K]; kernel_rfl
  obtain ⟨cd, hc, hd⟩ := any_some (dcls_lex C).has
  unfold findObj
  have ho : PySem.W.ownOf cd (some (dictOf es n)) (Str.ofString "_read_char") = some none := by unfold PySem.W.ownOf; rw [if_pos hd]; exact h
  rw [hc, Option.bind_some, ha, Option.bind_some]
  simp only [hg, ht, Option.bind_some, ho]
  rfl
theorem base_fn {X : Cx} (C : C1 X) {σ : St} : ∀ fs s, Rel X fs σ s → ∃ om, s.heap.get? 162 = some om ∧ ∃ fd, om.data = .func fd := fun fs s R => by
  obtain ⟨o, h1, h2, _⟩ := (C.def (σ := σ) (f := 162) rfl (by kernel_rfl)).here fs s R
  exact ⟨o, h1, _, h2⟩
noncomputable def Drawn1 (X : Cx) (lx dx pb f d g c2 t1 t2 at_ it b : Addr) (fdL fdG : FuncData) (text ws : Str) (pos : Nat) (σ : St) (σ' : St) (ended : Bool) : Prop :=
  ∃ σ₃, σ₃ it = none ∧ LexAt X σ₃ lx dx pb f d g c2 t1 t2 at_ fdL fdG text ws (lns text pos) pos ∧ σ₃ b = some (.raw (methodObj (.ref 162) (.ref lx))) ∧ (∀ a o, a ≠ at_ → a ≠ dx → σ a = some o → σ₃ a = some o) ∧
    if ended = true then σ' = σ₃.set it ciEnd else ∃ t, σ' = σ₃.set it (ciO b "" t)
theorem nextCh {X : Cx} (C : C1 X) {A : Around} {L : Addr} {fr : Fm} {σ : St} {E : Value → Shared → Prop} {lx dx pb f d g c2 t1 t2 at_ it b : Addr} {t : Tok} {fdL fdG : FuncData} {text ws : Str} {pos : Nat} (hG : GiveOk X g c2 t1 t2 at_ text fdG) (hl : LexAt X σ lx dx pb f d g c2 t1 t2 at_ fdL fdG text ws (lns text pos) pos) (hlen : text.length ≤ 2 ^ 20)
    (hb : σ b = some (.raw (methodObj (.ref 162) (.ref lx)))) (hit : σ it = none) (hA : OkA A 5) :
    W X A L (pyNext (.ref it)) fr (σ.set it (ciO b "" t)) (fun r fr' σ' => fr' = fr ∧ if chAt text pos = "" then r = none ∧ Drawn1 X lx dx pb f d g c2 t1 t2 at_ it b fdL fdG text ws pos σ σ' true
      else ∃ u, r = some (.str (chAt text pos) u) ∧ Drawn1 X lx dx pb f d g c2 t1 t2 at_ it b fdL fdG text ws (pos + 1) σ σ' false) E := by
  refine W.nextCI (self := .ref lx) (fd := default) hA.handled hit hb (base_fn C) (CW.mono (CC.meth hb (f_read C hG hl hlen (OkA.in1 hA))).cw ?_)
  rintro v σ' ⟨rfl, hl', hk⟩
  rw [← lns_step] at hl'
  have hbat : b ≠ at_ := fun e => by subst e; rw [hl.hat] at hb; cases hb
  have hbdx : b ≠ dx := fun e => by subst e; rw [hl.hdx] at hb; cases hb
  have hb' := hk _ _ hbat hbdx hb
  refine ⟨_, rfl, hb', base_fn C, fun hit' => ?_⟩
  have hlen' := chAt_len text pos
  by_cases q : chAt text pos = ""
  · rw [if_pos q.symm]
    refine ⟨rfl, ?_⟩
    rw [if_pos q]
    refine ⟨rfl, σ', hit', ?_, hb', hk, by rw [if_pos rfl]⟩
    rw [if_neg (Nat.not_lt.mpr (chAt_empty.mp q))] at hlen'
    rw [hlen'] at hl'
    exact hl'
  · rw [if_neg (fun e => q e.symm)]
    intro u
    refine ⟨rfl, ?_⟩
    rw [if_neg q]
    refine ⟨u, rfl, σ', hit', ?_, hb', hk, by rw [if_neg (by decide)]; exact ⟨t, rfl⟩⟩
    rw [if_pos (Nat.lt_of_not_le fun e => q (chAt_empty.mpr e))] at hlen'
    rw [hlen'] at hl'
    exact hl'
noncomputable def CiAt (X : Cx) (lx dx pb f d g c2 t1 t2 at_ it b : Addr) (fdL fdG : FuncData) (text ws : Str) (σ : St) (pos : Nat) (ended : Bool) (σ' : St) : Prop := Drawn1 X lx dx pb f d g c2 t1 t2 at_ it b fdL fdG text ws pos σ σ' ended
theorem CiAt.step {X : Cx} (C : C1 X) {A : Around} {L : Addr} {fr : Fm} {σ σ' : St} {E : Value → Shared → Prop} {lx dx pb f d g c2 t1 t2 at_ it b : Addr} {fdL fdG : FuncData} {text ws : Str} {pos : Nat} (hG : GiveOk X g c2 t1 t2 at_ text fdG) (hlen : text.length ≤ 2 ^ 20) (hA : OkA A 5)
    (h : CiAt X lx dx pb f d g c2 t1 t2 at_ it b fdL fdG text ws σ pos false σ') :
    W X A L (pyNext (.ref it)) fr σ' (fun r fr' σ₂ => fr' = fr ∧ if chAt text pos = "" then r = none ∧ CiAt X lx dx pb f d g c2 t1 t2 at_ it b fdL fdG text ws σ pos true σ₂
      else ∃ u, r = some (.str (chAt text pos) u) ∧ CiAt X lx dx pb f d g c2 t1 t2 at_ it b fdL fdG text ws σ (pos + 1) false σ₂) E := by
  obtain ⟨σ₃, h1, h2, h3, h4, h5⟩ := h
  rw [if_neg (by decide)] at h5
  obtain ⟨t, rfl⟩ := h5
  refine .mono (nextCh C hG h2 hlen h3 h1 hA) ?_
  rintro r fr' σ₂ ⟨rfl, hq⟩
  refine ⟨rfl, ?_⟩
  have ext : ∀ {p e}, Drawn1 X lx dx pb f d g c2 t1 t2 at_ it b fdL fdG text ws p σ₃ σ₂ e → CiAt X lx dx pb f d g c2 t1 t2 at_ it b fdL fdG text ws σ p e σ₂ := fun ⟨σ₄, k1, k2, k3, k4, k5⟩ => ⟨σ₄, k1, k2, k3, fun a o ha hb e => k4 a o ha hb (h4 a o ha hb e), k5⟩
  by_cases q : chAt text pos = ""
  · rw [if_pos q] at hq ⊢
    exact ⟨hq.1, ext hq.2⟩
  · rw [if_neg q] at hq ⊢
    obtain ⟨u, e, hd⟩ := hq
    exact ⟨u, e, ext hd⟩
theorem CiAt.lex {X : Cx} {σ σ' : St} {lx dx pb f d g c2 t1 t2 at_ it b : Addr} {fdL fdG : FuncData} {text ws : Str} {pos : Nat} {e : Bool} (h : CiAt X lx dx pb f d g c2 t1 t2 at_ it b fdL fdG text ws σ pos e σ') :
    LexAt X σ' lx dx pb f d g c2 t1 t2 at_ fdL fdG text ws (lns text pos) pos := by
  obtain ⟨σ₃, h1, h2, h3, h4, h5⟩ := h
  have hle : σ₃.le σ' := by
    cases e with
    | true => rw [if_pos rfl] at h5; rw [h5]; exact St.le_set h1
    | false => rw [if_neg (by decide)] at h5; obtain ⟨t, rfl⟩ := h5; exact St.le_set h1
  exact ⟨hle _ _ h2.hlx, hle _ _ h2.hdx, hle _ _ h2.hpb, hle _ _ h2.hf, hle _ _ h2.hd, hle _ _ h2.hg, hle _ _ h2.hc, hle _ _ h2.h1, hle _ _ h2.h2, hle _ _ h2.hat⟩
theorem CiAt.read {X : Cx} (C : C1 X) {A : Around} {σ σ' : St} {E : Value → Shared → Prop} {lx dx pb f d g c2 t1 t2 at_ it b : Addr} {fdL fdG : FuncData} {text ws : Str} {pos : Nat} (hG : GiveOk X g c2 t1 t2 at_ text fdG) (hlen : text.length ≤ 2 ^ 20) (hA : OkA A 4)
    (h : CiAt X lx dx pb f d g c2 t1 t2 at_ it b fdL fdG text ws σ pos false σ') :
    CW X A (.ref 162) [.ref lx] σ' (fun v σ₂ => v = .str (chAt text pos) ∧ CiAt X lx dx pb f d g c2 t1 t2 at_ it b fdL fdG text ws σ (pos + (chAt text pos).length) false σ₂) E := by
  obtain ⟨σ₃, h1, h2, h3, h4, h5⟩ := h
  rw [if_neg (by decide)] at h5
  obtain ⟨t, rfl⟩ := h5
  refine CW.frame (o := ciO b "" t) h1 ((f_read C hG h2 hlen hA).cw.mono ?_)
  rintro v σ₄ ⟨rfl, k2, k3⟩ k1
  rw [← lns_step] at k2
  have hbat : b ≠ at_ := fun e => by subst e; rw [h2.hat] at h3; cases h3
  have hbdx : b ≠ dx := fun e => by subst e; rw [h2.hdx] at h3; cases h3
  exact ⟨rfl, σ₄, k1, k2, k3 _ _ hbat hbdx h3, fun a o ha hb e => k3 a o ha hb (h4 a o ha hb e), by rw [if_neg (by decide)]; exact ⟨t, rfl⟩⟩
theorem CiAt.keep {X : Cx} {σ σ' : St} {lx dx pb f d g c2 t1 t2 at_ it b : Addr} {fdL fdG : FuncData} {text ws : Str} {pos : Nat} {e : Bool} (h : CiAt X lx dx pb f d g c2 t1 t2 at_ it b fdL fdG text ws σ pos e σ') :
    ∀ a o, a ≠ at_ → a ≠ dx → σ a = some o → σ' a = some o := by
  obtain ⟨σ₃, h1, h2, h3, h4, h5⟩ := h
  have hle : σ₃.le σ' := by
    cases e with
    | true => rw [if_pos rfl] at h5; rw [h5]; exact St.le_set h1
    | false => rw [if_neg (by decide)] at h5; obtain ⟨t, rfl⟩ := h5; exact St.le_set h1
  exact fun a o p q r => hle _ _ (h4 a o p q r)
theorem CiAt.ended {X : Cx} {σ σ' : St} {lx dx pb f d g c2 t1 t2 at_ it b : Addr} {fdL fdG : FuncData} {text ws : Str} {pos : Nat} (h : CiAt X lx dx pb f d g c2 t1 t2 at_ it b fdL fdG text ws σ pos true σ') : σ' it = some ciEnd := by
  obtain ⟨σ₃, h1, h2, h3, h4, h5⟩ := h
  rw [if_pos rfl] at h5; rw [h5]; exact St.set_self ..
theorem chLoop {X : Cx} (C : C1 X) {A : Around} {env : Env} {fr : Fm} {σ σ' : St} {E : Value → Shared → Prop} {lx dx pb f d g c2 t1 t2 at_ it b : Addr} {fdL fdG : FuncData} {text ws : Str} {pos : Nat} {body : List Stmt} {p : Pos} {Q : PF → Fm → St → Prop}
    (hG : GiveOk X g c2 t1 t2 at_ text fdG) (hlen : text.length ≤ 2 ^ 20) (hA : OkA A 5) (J K : Nat → Fm → Prop)
    (hk : env.scope.kind = .function) (hl : env.kindOf "ch" = some .local)
    (turn : ∀ pos fr σ', pos < text.length → J pos fr → CiAt X lx dx pb f d g c2 t1 t2 at_ it b fdL fdG text ws σ (pos + 1) false σ' →
      WB X A env body (Fm.put "ch" (.str (chAt text pos)) fr) σ' (fun fl fr₂ σ₂ => match fl with
        | .ret v => Q (.ret v) fr₂ σ₂
        | .brk => Q .next fr₂ σ₂
        | _ => ∃ pos' fr', fr'.le fr₂ ∧ ((pos < pos' ∧ J pos' fr' ∧ CiAt X lx dx pb f d g c2 t1 t2 at_ it b fdL fdG text ws σ pos' false σ₂) ∨ (K pos' fr' ∧ CiAt X lx dx pb f d g c2 t1 t2 at_ it b fdL fdG text ws σ pos' true σ₂))) NoE)
    (stop : ∀ pos fr σ', text.length ≤ pos → J pos fr → CiAt X lx dx pb f d g c2 t1 t2 at_ it b fdL fdG text ws σ pos true σ' → Q .next fr σ')
    (stop2 : ∀ pos fr σ', K pos fr → CiAt X lx dx pb f d g c2 t1 t2 at_ it b fdL fdG text ws σ pos true σ' → Q .next fr σ')
    (h0 : J pos fr) (hc : CiAt X lx dx pb f d g c2 t1 t2 at_ it b fdL fdG text ws σ pos false σ') :
    WFor X A env (.Name "ch" p) (.ref it) body [] fr σ' Q E := by
  refine W.forLoop hA.handled (fun n fr σ' => (∃ pos, CiAt X lx dx pb f d g c2 t1 t2 at_ it b fdL fdG text ws σ pos false σ' ∧ n = text.length - pos + 1 ∧ J pos fr) ∨ (∃ pos, CiAt X lx dx pb f d g c2 t1 t2 at_ it b fdL fdG text ws σ pos true σ' ∧ n = 0 ∧ K pos fr)) ?_ (text.length - pos + 1) (.inl ⟨pos, hc, rfl, h0⟩)
  rintro n fr σ' (⟨pos, hc, rfl, hJ⟩ | ⟨pos, hc, rfl, hK⟩)
  · refine .mono (CiAt.step C hG hlen hA hc) ?_
    rintro r fr' σ₂ ⟨rfl, hq⟩
    by_cases q : chAt text pos = ""
    · rw [if_pos q] at hq
      obtain ⟨rfl, hq⟩ := hq
      exact WB.nil (stop pos fr' σ₂ (chAt_empty.mp q) hJ hq)
    · rw [if_neg q] at hq
      obtain ⟨u, rfl, hq⟩ := hq
      have hlt : pos < text.length := Nat.lt_of_not_le fun e => q (chAt_empty.mpr e)
      refine WAs.name (WN.local ?_ hk hl) _ rfl
      refine .mono (turn pos fr' σ₂ hlt hJ hq) ?_
      rintro fl fr₂ σ₃ h
      cases fl with
      | next =>
        obtain ⟨pos', fr'', h1, h2⟩ := h
        rcases h2 with ⟨h2, h3, h4⟩ | ⟨h3, h4⟩
        · exact ⟨text.length - pos' + 1, by lia, fr'', σ₃, h1, St.le_refl _, .inl ⟨pos', h4, rfl, h3⟩⟩
        · exact ⟨0, by lia, fr'', σ₃, h1, St.le_refl _, .inr ⟨pos', h4, rfl, h3⟩⟩
      | cont =>
        obtain ⟨pos', fr'', h1, h2⟩ := h
        rcases h2 with ⟨h2, h3, h4⟩ | ⟨h3, h4⟩
        · exact ⟨text.length - pos' + 1, by lia, fr'', σ₃, h1, St.le_refl _, .inl ⟨pos', h4, rfl, h3⟩⟩
        · exact ⟨0, by lia, fr'', σ₃, h1, St.le_refl _, .inr ⟨pos', h4, rfl, h3⟩⟩
      | brk => exact h
      | ret v => exact h
  · exact W.nextCIend hA.handled hc.ended (WB.nil (stop2 pos fr σ' hK hc))
theorem CiAt.live {X : Cx} {σ σ' : St} {lx dx pb f d g c2 t1 t2 at_ it b : Addr} {fdL fdG : FuncData} {text ws : Str} {pos : Nat} (h : CiAt X lx dx pb f d g c2 t1 t2 at_ it b fdL fdG text ws σ pos false σ') : ∃ vs, σ' it = some (.it "callable_iterator" vs) := by
  obtain ⟨σ₃, h1, h2, h3, h4, h5⟩ := h
  rw [if_neg (by decide)] at h5; obtain ⟨t, rfl⟩ := h5; exact ⟨_, St.set_self ..⟩
theorem tokAt_ws {text ws : Str} {p : Nat} (h : p < text.length) (q : inS ws (chAt text p) = true) : tokAt text ws (text.length - p + 1) p = tokAt text ws (text.length - (p + 1) + 1) (p + 1) := by
  have e : text.length - p + 1 = (text.length - (p + 1) + 1) + 1 := by lia
  have n : ¬ chAt text p = "" := fun x => absurd (chAt_empty.mp x) (by lia)
  rw [e, tokAt, if_neg n, if_pos q]
theorem tokAt_q {text ws : Str} {p : Nat} (h : p < text.length) (q : ¬ inS ws (chAt text p) = true) (q2 : chAt text p = "\"") : tokAt text ws (text.length - p + 1) p = ((tokQuoted text (text.length - p) (p + 1) "").1, (tokQuoted text (text.length - p) (p + 1) "").2.1) := by
  have n : ¬ chAt text p = "" := fun x => absurd (chAt_empty.mp x) (by lia)
  rw [tokAt.eq_2, if_neg n, if_neg q]; simp only [if_pos q2]
theorem tokAt_b {text ws : Str} {p : Nat} (h : p < text.length) (q : ¬ inS ws (chAt text p) = true) (q2 : ¬ chAt text p = "\"") (q3 : chAt text p = "\\") : tokAt text ws (text.length - p + 1) p =
    ((tokPlain text ws (text.length - p) (p + 1 + (chAt text (p + 1)).length) (chAt text (p + 1))).1, (tokPlain text ws (text.length - p) (p + 1 + (chAt text (p + 1)).length) (chAt text (p + 1))).2.1) := by
  have n : ¬ chAt text p = "" := fun x => absurd (chAt_empty.mp x) (by lia)
  rw [tokAt.eq_2, if_neg n, if_neg q]; simp only [if_neg q2, if_pos q3]
theorem tokAt_p {text ws : Str} {p : Nat} (h : p < text.length) (q : ¬ inS ws (chAt text p) = true) (q2 : ¬ chAt text p = "\"") (q3 : ¬ chAt text p = "\\") : tokAt text ws (text.length - p + 1) p =
    ((tokPlain text ws (text.length - p) (p + 1) (chAt text p)).1, (tokPlain text ws (text.length - p) (p + 1) (chAt text p)).2.1) := by
  have n : ¬ chAt text p = "" := fun x => absurd (chAt_empty.mp x) (by lia)
  rw [tokAt.eq_2, if_neg n, if_neg q]; simp only [if_neg q2, if_neg q3]
theorem Str.append_length' (x y : Str) : (x ++ y).length = x.length + y.length := by show (x.cps ++ y.cps).size = _; simp [Str.length]
theorem Str.empty_append' (x : Str) : Str.ofString "" ++ x = x := by
  obtain ⟨c⟩ := x
  show Str.mk (#[] ++ c) = _; simp
theorem tokQ_end {text : Str} {k p : Nat} {tok : Str} (h : text.length ≤ p) : tokQuoted text k p tok = (tok, p, true) := by
  cases k with
  | zero => rfl
  | succ k => rw [tokQuoted.eq_2, if_pos (chAt_empty.mpr h)]
theorem tokP_end {text ws : Str} {k p : Nat} {tok : Str} (h : text.length ≤ p) : tokPlain text ws k p tok = (tok, p, true) := by
  cases k with
  | zero => rfl
  | succ k => rw [tokPlain.eq_2, if_pos (chAt_empty.mpr h)]
theorem chAt_le (text : Str) (p : Nat) : (chAt text p).length ≤ 1 := by rw [chAt_len]; split <;> lia
theorem chAt_in {text : Str} {p : Nat} (h : p ≤ text.length) : p + (chAt text p).length ≤ text.length := by rw [chAt_len]; split <;> lia
theorem lf_read {X : Cx} (C : C1 X) : findIn X.K (.ref 179) (Str.ofString "_read_char") = some (some (.ref 162)) := by rw [C.K]; kernel_rfl
theorem fn_read {X : Cx} (C : C1 X) : isFn X.K (.ref 162) = true := by rw [C.K]; kernel_rfl
inductive TokJ (text : Str) (spec : Nat → Nat → Str → Str × Nat × Bool) (lx it : Addr) (R : Str × Nat) (p : Nat) : Fm → Prop
  | mk (k : Nat) (tok : Str) (hk : text.length < p + k) (hp : p ≤ text.length) (ht : tok.length ≤ p) (hR : ((spec k p tok).1, (spec k p tok).2.1) = R) : TokJ text spec lx it R p [("self", .ref lx), ("token", .str tok), ("fiter", .ref it)]
theorem f_token {X : Cx} (C : C1 X) {A : Around} {σ : St} {E : Value → Shared → Prop} {lx dx pb f d g c2 t1 t2 at_ : Addr} {fdL fdG : FuncData} {text ws : Str} {pos : Nat} (hG : GiveOk X g c2 t1 t2 at_ text fdG) (hl : LexAt X σ lx dx pb f d g c2 t1 t2 at_ fdL fdG text ws (lns text pos) pos) (hlen : text.length ≤ 2 ^ 20)
    (hA : OkA A 8) : CW X A (.ref 169) [.ref lx] σ (fun v σ' => v = .str (tokAt text ws (text.length - pos + 1) pos).1 ∧ LexAt X σ' lx dx pb f d g c2 t1 t2 at_ fdL fdG text ws (lns text (tokAt text ws (text.length - pos + 1) pos).2) (tokAt text ws (text.length - pos + 1) pos).2 ∧ ∀ a o, a ≠ at_ → a ≠ dx → σ a = some o → σ' a = some o) E := by
  refine .weak (call_plainW (k := 7) hA (C.def rfl (by kernel_rfl)) rfl rfl rfl rfl (by decide) (binds1 (fun a => rfl) rfl) fun L hL => ?_)
  intro ev Ad
  have D := dcls_lex C
  have hA1 := okA_deeper hA
  repeat walk_at "sl"
  refine WS.ifK ?_
  repeat walk_at "sl"
  refine WG.own D (lf_pushback C) hl.hlx hl.hdx rfl rfl ?_
  refine W1B.list hl.hpb (by decide) ?_
  refine itF (by decide) ?_
  repeat walk_at "sl"
  refine WG.bound D (lex_bound C) (by rw [C.K]; kernel_rfl) hl.hlx hl.hdx rfl fun b hb hbL => ?_
  repeat walk_at "sl"
  refine WC.iter2 (St.set_self ..) fun it t hit hitL => ?_
  repeat walk_at "sl"
  generalize hR : tokAt text ws (text.length - pos + 1) pos = R
  have hA5 : ∀ env, OkA (A.deeper env) 5 := fun env => (hA1 env).le (by decide)
  refine WIter.ci (St.set_self ..) ?_
  have hbx : ∀ a o, σ a = some o → a ≠ b := fun a o e q => by subst q; rw [hb] at e; cases e
  have hc0 : CiAt X lx dx pb f d g c2 t1 t2 at_ it b fdL fdG text ws (σ.set b (.raw (methodObj (.ref 162) (.ref lx)))) pos false ((σ.set b (.raw (methodObj (.ref 162) (.ref lx)))).set it (ciO b "" t)) := by
    have hle : σ.le (σ.set b (.raw (methodObj (.ref 162) (.ref lx)))) := St.le_set hb
    exact ⟨_, hit, ⟨hle _ _ hl.hlx, hle _ _ hl.hdx, hle _ _ hl.hpb, hle _ _ hl.hf, hle _ _ hl.hd, hle _ _ hl.hg, hle _ _ hl.hc, hle _ _ hl.h1, hle _ _ hl.h2, hle _ _ hl.hat⟩, St.set_self .., fun _ _ _ _ e => e, by rw [if_neg (by decide)]; exact ⟨t, rfl⟩⟩
  have fin : ∀ {σ' : St} {p : Nat} {tok : Str} {e : Bool}, CiAt X lx dx pb f d g c2 t1 t2 at_ it b fdL fdG text ws (σ.set b (.raw (methodObj (.ref 162) (.ref lx)))) p e σ' → (tok, p) = R →
      ∃ σ'', σ''.le σ' ∧ PV.str tok = PV.str R.1 ∧ LexAt X σ'' lx dx pb f d g c2 t1 t2 at_ fdL fdG text ws (lns text R.2) R.2 ∧ ∀ a o, a ≠ at_ → a ≠ dx → σ a = some o → σ'' a = some o := by
    rintro σ' p tok e hc rfl
    exact ⟨σ', St.le_refl _, rfl, hc.lex, fun a o h1 h2 h3 => hc.keep a o h1 h2 (by rw [St.set_ne _ (hbx _ _ h3)]; exact h3)⟩
  refine chLoop C hG hlen (hA5 _) (fun p fr => fr = ([("self", .ref lx), ("token", .str ""), ("fiter", .ref it)] : Fm) ∧ tokAt text ws (text.length - p + 1) p = R) (fun p fr => fr = ([("self", .ref lx), ("token", .str R.1), ("fiter", .ref it)] : Fm) ∧ p = R.2) rfl rfl ?_ ?_ ?_ ⟨rfl, hR⟩ hc0
  · rintro p fr σ' hp ⟨rfl, hR⟩ hc
    have hlx := hc.lex
    (first | refine WB.gK ?_ | refine WT.gK ?_ | refine WS.gK ?_); intro K1 hK1
    repeat walk_at "sl"
    refine WS.ifK ?_
    repeat walk_at "sl"
    refine WG.own D (lf_whitespace C) hlx.hlx hlx.hdx rfl rfl ?_
    refine W2.inS ?_
    repeat walk_at "sl"
    by_cases q : inS ws (chAt text p) = true
    · refine itT q ?_
      repeat (first | walk_at "sl" | with_reducible refine WS.cont ?_)
      repeat (first | refine hK4 _ _ _ ?_ | refine hK3 _ _ _ ?_ | refine hK2 _ _ _ ?_ | refine hK1 _ _ _ ?_ | walk_at "sl")
      refine ⟨p + 1, _, ?_, .inl ⟨by lia, ⟨rfl, by rw [← hR]; exact (tokAt_ws hp q).symm⟩, hc⟩⟩
      repeat' (first | exact Fm.nil_le _ | (refine Fm.le_cons ?_ ?_; rfl))
    refine itF q ?_
    repeat walk_at "sl"
    refine WS.ifK ?_
    repeat walk_at "sl"
    refine W2.eqS ?_
    repeat walk_at "sl"
    by_cases q2 : chAt text p = "\""
    · refine itT (beq_iff_eq.mpr q2) ?_
      rw [tokAt_q hp q q2] at hR
      repeat walk_at "sl"
      obtain ⟨vs, hci⟩ := hc.live
      refine WIter.ci hci ?_
      refine WFor.from (fr' := [("self", .ref lx), ("token", .str ""), ("fiter", .ref it)]) ?_ (St.le_refl _) ?_
      · repeat' (first | exact Fm.nil_le _ | (refine Fm.le_cons ?_ ?_; rfl))
      refine chLoop C hG hlen (hA5 _) (TokJ text (tokQuoted text) lx it R) (fun _ _ => False) rfl rfl ?_ ?_ ?_ (.mk (text.length - p) "" (by lia) (by lia) (Nat.zero_le _) hR) hc
      · rintro p' fr σ2 hp' ⟨k, tok, hk, hple, htl, hR2⟩ hc2
        obtain ⟨k, rfl⟩ : ∃ j, k = j + 1 := ⟨k - 1, by lia⟩
        have n : ¬ chAt text p' = "" := fun x => absurd (chAt_empty.mp x) (by lia)
        (first | refine WB.gK ?_ | refine WT.gK ?_ | refine WS.gK ?_); intro K2 hK2
        repeat walk_at "sl"
        refine WS.ifK ?_
        repeat walk_at "sl"
        refine W2.eqS ?_
        repeat walk_at "sl"
        rw [tokQuoted.eq_2, if_neg n] at hR2
        by_cases r1 : chAt text p' = "\""
        · refine itT (beq_iff_eq.mpr r1) ?_
          rw [if_pos r1] at hR2
          repeat walk_at "sl"
          repeat (first | refine hK4 _ _ _ ?_ | refine hK3 _ _ _ ?_ | refine hK2 _ _ _ ?_ | refine hK1 _ _ _ ?_ | walk_at "sl")
          exact fin hc2 hR2
        refine itF (fun e => r1 (eq_of_beq e)) ?_
        rw [if_neg r1] at hR2
        repeat walk_at "sl"
        refine WS.ifK ?_
        repeat walk_at "sl"
        refine W2.eqS ?_
        repeat walk_at "sl"
        by_cases r2 : chAt text p' = "\\"
        · refine itT (beq_iff_eq.mpr r2) ?_
          rw [if_pos r2] at hR2
          repeat walk_at "sl"
          refine WM.inst D (lf_read C) (fn_read C) hc2.lex.hlx hc2.lex.hdx rfl ?_
          repeat walk_at "sl"
          refine WC.ofM (CiAt.read C hG hlen ((hA1 _).le (by decide)) hc2) (hid2 fun Kz hKz => ?_)
          rintro v σ3 ⟨rfl, hc3⟩
          refine hKz _ _ ?_
          repeat walk_at "sl"
          have z := chAt_le text (p' + 1)
          have z2 := chAt_in (text := text) (p := p' + 1) (by lia)
          refine W2.iaddS ?_ (by rw [sizeLine_eq]; lia)
          repeat walk_at "sl"
          repeat (first | refine hK4 _ _ _ ?_ | refine hK3 _ _ _ ?_ | refine hK2 _ _ _ ?_ | refine hK1 _ _ _ ?_ | walk_at "sl")
          refine ⟨p' + 1 + (chAt text (p' + 1)).length, [("self", .ref lx), ("token", .str (tok ++ chAt text (p' + 1))), ("fiter", .ref it)], ?_, .inl ⟨by lia, .mk k _ (by lia) (by lia) (by rw [Str.append_length']; lia) hR2, hc3⟩⟩
          repeat' (first | exact Fm.nil_le _ | (refine Fm.le_cons ?_ ?_; rfl))
        · refine itF (fun e => r2 (eq_of_beq e)) ?_
          rw [if_neg r2] at hR2
          repeat walk_at "sl"
          have z := chAt_le text p'
          refine W2.iaddS ?_ (by rw [sizeLine_eq]; lia)
          repeat walk_at "sl"
          repeat (first | refine hK4 _ _ _ ?_ | refine hK3 _ _ _ ?_ | refine hK2 _ _ _ ?_ | refine hK1 _ _ _ ?_ | walk_at "sl")
          refine ⟨p' + 1, [("self", .ref lx), ("token", .str (tok ++ chAt text p')), ("fiter", .ref it)], ?_, .inl ⟨by lia, .mk k _ (by lia) (by lia) (by rw [Str.append_length']; lia) hR2, hc2⟩⟩
          repeat' (first | exact Fm.nil_le _ | (refine Fm.le_cons ?_ ?_; rfl))
      · rintro p' fr σ2 hp' ⟨k, tok, hk, hple, htl, hR2⟩ hc2
        rw [tokQ_end hp'] at hR2
        subst hR2
        repeat refine WB.nil ?_
        repeat (first | refine hK4 _ _ _ ?_ | refine hK3 _ _ _ ?_ | refine hK2 _ _ _ ?_ | refine hK1 _ _ _ ?_ | walk_at "sl")
        refine ⟨p', [("self", .ref lx), ("token", .str tok), ("fiter", .ref it)], ?_, .inr ⟨⟨rfl, rfl⟩, hc2⟩⟩
        repeat' (first | exact Fm.nil_le _ | (refine Fm.le_cons ?_ ?_; rfl))
      · exact fun _ _ _ x => x.elim
    refine itF (fun e => q2 (eq_of_beq e)) ?_
    repeat walk_at "sl"
    refine WS.ifK ?_
    repeat walk_at "sl"
    refine W2.eqS ?_
    repeat walk_at "sl"
    by_cases q3 : chAt text p = "\\"
    · refine itT (beq_iff_eq.mpr q3) ?_
      rw [tokAt_b hp q q2 q3] at hR
      repeat walk_at "sl"
      refine WM.inst D (lf_read C) (fn_read C) hlx.hlx hlx.hdx rfl ?_
      repeat walk_at "sl"
      refine WC.ofM (CiAt.read C hG hlen ((hA1 _).le (by decide)) hc) (hid2 fun Kz hKz => ?_)
      rintro v σ3 ⟨rfl, hc3⟩
      refine hKz _ _ ?_
      repeat walk_at "sl"
      have z := chAt_le text (p + 1)
      have z2 := chAt_in (text := text) (p := p + 1) (by lia)
      refine W2.iaddS ?_ (by rw [sizeLine_eq]; show 0 + _ ≤ _; lia)
      rw [show (Str.ofString "" ++ chAt text (p + 1) : Str) = chAt text (p + 1) from Str.empty_append' _]
      repeat walk_at "sl"
      obtain ⟨vs, hci⟩ := hc3.live
      refine WIter.ci hci ?_
      refine WFor.from (fr' := [("self", .ref lx), ("token", .str (chAt text (p + 1))), ("fiter", .ref it)]) ?_ (St.le_refl _) ?_
      · repeat' (first | exact Fm.nil_le _ | (refine Fm.le_cons ?_ ?_; rfl))
      refine chLoop C hG hlen (hA5 _) (TokJ text (tokPlain text ws) lx it R) (fun _ _ => False) rfl rfl ?_ ?_ ?_ (.mk (text.length - p) (chAt text (p + 1)) (by lia) (by lia) (by lia) hR) hc3
      · rintro p' fr σ2 hp' ⟨k, tok, hk, hple, htl, hR2⟩ hc2
        obtain ⟨k, rfl⟩ : ∃ j, k = j + 1 := ⟨k - 1, by lia⟩
        have n : ¬ chAt text p' = "" := fun x => absurd (chAt_empty.mp x) (by lia)
        (first | refine WB.gK ?_ | refine WT.gK ?_ | refine WS.gK ?_); intro K2 hK2
        repeat walk_at "sl"
        refine WS.ifK ?_
        repeat walk_at "sl"
        refine WG.own D (lf_whitespace C) hc2.lex.hlx hc2.lex.hdx rfl rfl ?_
        refine W2.inS ?_
        repeat walk_at "sl"
        rw [tokPlain.eq_2, if_neg n] at hR2
        by_cases r1 : inS ws (chAt text p') = true
        · refine itT r1 ?_
          rw [if_pos r1] at hR2
          repeat walk_at "sl"
          repeat (first | refine hK4 _ _ _ ?_ | refine hK3 _ _ _ ?_ | refine hK2 _ _ _ ?_ | refine hK1 _ _ _ ?_ | walk_at "sl")
          exact fin hc2 hR2
        refine itF r1 ?_
        rw [if_neg r1] at hR2
        repeat walk_at "sl"
        refine WS.ifK ?_
        repeat walk_at "sl"
        refine W2.eqS ?_
        repeat walk_at "sl"
        by_cases r2 : chAt text p' = "\\"
        · refine itT (beq_iff_eq.mpr r2) ?_
          rw [if_pos r2] at hR2
          repeat walk_at "sl"
          refine WM.inst D (lf_read C) (fn_read C) hc2.lex.hlx hc2.lex.hdx rfl ?_
          repeat walk_at "sl"
          refine WC.ofM (CiAt.read C hG hlen ((hA1 _).le (by decide)) hc2) (hid2 fun Kz hKz => ?_)
          rintro v σ3 ⟨rfl, hc3⟩
          refine hKz _ _ ?_
          repeat walk_at "sl"
          have z := chAt_le text (p' + 1)
          have z2 := chAt_in (text := text) (p := p' + 1) (by lia)
          refine W2.iaddS ?_ (by rw [sizeLine_eq]; lia)
          repeat walk_at "sl"
          repeat (first | refine hK4 _ _ _ ?_ | refine hK3 _ _ _ ?_ | refine hK2 _ _ _ ?_ | refine hK1 _ _ _ ?_ | walk_at "sl")
          refine ⟨p' + 1 + (chAt text (p' + 1)).length, [("self", .ref lx), ("token", .str (tok ++ chAt text (p' + 1))), ("fiter", .ref it)], ?_, .inl ⟨by lia, .mk k _ (by lia) (by lia) (by rw [Str.append_length']; lia) hR2, hc3⟩⟩
          repeat' (first | exact Fm.nil_le _ | (refine Fm.le_cons ?_ ?_; rfl))
        · refine itF (fun e => r2 (eq_of_beq e)) ?_
          rw [if_neg r2] at hR2
          repeat walk_at "sl"
          have z := chAt_le text p'
          refine W2.iaddS ?_ (by rw [sizeLine_eq]; lia)
          repeat walk_at "sl"
          repeat (first | refine hK4 _ _ _ ?_ | refine hK3 _ _ _ ?_ | refine hK2 _ _ _ ?_ | refine hK1 _ _ _ ?_ | walk_at "sl")
          refine ⟨p' + 1, [("self", .ref lx), ("token", .str (tok ++ chAt text p')), ("fiter", .ref it)], ?_, .inl ⟨by lia, .mk k _ (by lia) (by lia) (by rw [Str.append_length']; lia) hR2, hc2⟩⟩
          repeat' (first | exact Fm.nil_le _ | (refine Fm.le_cons ?_ ?_; rfl))
      · rintro p' fr σ2 hp' ⟨k, tok, hk, hple, htl, hR2⟩ hc2
        rw [tokP_end hp'] at hR2
        subst hR2
        repeat refine WB.nil ?_
        repeat (first | refine hK4 _ _ _ ?_ | refine hK3 _ _ _ ?_ | refine hK2 _ _ _ ?_ | refine hK1 _ _ _ ?_ | walk_at "sl")
        refine ⟨p', [("self", .ref lx), ("token", .str tok), ("fiter", .ref it)], ?_, .inr ⟨⟨rfl, rfl⟩, hc2⟩⟩
        repeat' (first | exact Fm.nil_le _ | (refine Fm.le_cons ?_ ?_; rfl))
      · exact fun _ _ _ x => x.elim
    · refine itF (fun e => q3 (eq_of_beq e)) ?_
      rw [tokAt_p hp q q2 q3] at hR
      repeat walk_at "sl"
      have z := chAt_le text p
      refine W2.iaddS ?_ (by rw [sizeLine_eq]; show 0 + _ ≤ _; lia)
      rw [show (Str.ofString "" ++ chAt text p : Str) = chAt text p from Str.empty_append' _]
      repeat walk_at "sl"
      obtain ⟨vs, hci⟩ := hc.live
      refine WIter.ci hci ?_
      refine WFor.from (fr' := [("self", .ref lx), ("token", .str (chAt text p)), ("fiter", .ref it)]) ?_ (St.le_refl _) ?_
      · repeat' (first | exact Fm.nil_le _ | (refine Fm.le_cons ?_ ?_; rfl))
      refine chLoop C hG hlen (hA5 _) (TokJ text (tokPlain text ws) lx it R) (fun _ _ => False) rfl rfl ?_ ?_ ?_ (.mk (text.length - p) (chAt text p) (by lia) (by lia) (by lia) hR) hc
      · rintro p' fr σ2 hp' ⟨k, tok, hk, hple, htl, hR2⟩ hc2
        obtain ⟨k, rfl⟩ : ∃ j, k = j + 1 := ⟨k - 1, by lia⟩
        have n : ¬ chAt text p' = "" := fun x => absurd (chAt_empty.mp x) (by lia)
        (first | refine WB.gK ?_ | refine WT.gK ?_ | refine WS.gK ?_); intro K2 hK2
        repeat walk_at "sl"
        refine WS.ifK ?_
        repeat walk_at "sl"
        refine WG.own D (lf_whitespace C) hc2.lex.hlx hc2.lex.hdx rfl rfl ?_
        refine W2.inS ?_
        repeat walk_at "sl"
        rw [tokPlain.eq_2, if_neg n] at hR2
        by_cases r1 : inS ws (chAt text p') = true
        · refine itT r1 ?_
          rw [if_pos r1] at hR2
          repeat walk_at "sl"
          repeat (first | refine hK4 _ _ _ ?_ | refine hK3 _ _ _ ?_ | refine hK2 _ _ _ ?_ | refine hK1 _ _ _ ?_ | walk_at "sl")
          exact fin hc2 hR2
        refine itF r1 ?_
        rw [if_neg r1] at hR2
        repeat walk_at "sl"
        refine WS.ifK ?_
        repeat walk_at "sl"
        refine W2.eqS ?_
        repeat walk_at "sl"
        by_cases r2 : chAt text p' = "\\"
        · refine itT (beq_iff_eq.mpr r2) ?_
          rw [if_pos r2] at hR2
          repeat walk_at "sl"
          refine WM.inst D (lf_read C) (fn_read C) hc2.lex.hlx hc2.lex.hdx rfl ?_
          repeat walk_at "sl"
          refine WC.ofM (CiAt.read C hG hlen ((hA1 _).le (by decide)) hc2) (hid2 fun Kz hKz => ?_)
          rintro v σ3 ⟨rfl, hc3⟩
          refine hKz _ _ ?_
          repeat walk_at "sl"
          have z := chAt_le text (p' + 1)
          have z2 := chAt_in (text := text) (p := p' + 1) (by lia)
          refine W2.iaddS ?_ (by rw [sizeLine_eq]; lia)
          repeat walk_at "sl"
          repeat (first | refine hK4 _ _ _ ?_ | refine hK3 _ _ _ ?_ | refine hK2 _ _ _ ?_ | refine hK1 _ _ _ ?_ | walk_at "sl")
          refine ⟨p' + 1 + (chAt text (p' + 1)).length, [("self", .ref lx), ("token", .str (tok ++ chAt text (p' + 1))), ("fiter", .ref it)], ?_, .inl ⟨by lia, .mk k _ (by lia) (by lia) (by rw [Str.append_length']; lia) hR2, hc3⟩⟩
          repeat' (first | exact Fm.nil_le _ | (refine Fm.le_cons ?_ ?_; rfl))
        · refine itF (fun e => r2 (eq_of_beq e)) ?_
          rw [if_neg r2] at hR2
          repeat walk_at "sl"
          have z := chAt_le text p'
          refine W2.iaddS ?_ (by rw [sizeLine_eq]; lia)
          repeat walk_at "sl"
          repeat (first | refine hK4 _ _ _ ?_ | refine hK3 _ _ _ ?_ | refine hK2 _ _ _ ?_ | refine hK1 _ _ _ ?_ | walk_at "sl")
          refine ⟨p' + 1, [("self", .ref lx), ("token", .str (tok ++ chAt text p')), ("fiter", .ref it)], ?_, .inl ⟨by lia, .mk k _ (by lia) (by lia) (by rw [Str.append_length']; lia) hR2, hc2⟩⟩
          repeat' (first | exact Fm.nil_le _ | (refine Fm.le_cons ?_ ?_; rfl))
      · rintro p' fr σ2 hp' ⟨k, tok, hk, hple, htl, hR2⟩ hc2
        rw [tokP_end hp'] at hR2
        subst hR2
        repeat refine WB.nil ?_
        repeat (first | refine hK4 _ _ _ ?_ | refine hK3 _ _ _ ?_ | refine hK2 _ _ _ ?_ | refine hK1 _ _ _ ?_ | walk_at "sl")
        refine ⟨p', [("self", .ref lx), ("token", .str tok), ("fiter", .ref it)], ?_, .inr ⟨⟨rfl, rfl⟩, hc2⟩⟩
        repeat' (first | exact Fm.nil_le _ | (refine Fm.le_cons ?_ ?_; rfl))
      · exact fun _ _ _ x => x.elim
  · rintro p fr σ' hp ⟨rfl, hR⟩ hc
    repeat walk_at "sl"
    rw [show text.length - p + 1 = 0 + 1 from by lia, tokAt, if_pos (chAt_empty.mpr hp)] at hR
    exact fin hc hR
  · rintro p fr σ' ⟨rfl, rfl⟩ hc
    repeat walk_at "sl"
    exact fin hc rfl

end
section
noncomputable def valD (V : Vals) (d : Dd) : Int := madeI d.g (V d.t) (V d.o)
noncomputable def onceS (V W : Vals) (d : Dd) : Vals := putV W d.t (valD V d)
noncomputable def onceV (V : Vals) (D : List Dd) : Vals := D.foldl (onceS V) V
theorem valD_ok {V : Vals} (hV : VOk V) (d : Dd) : 0 ≤ valD V d ∧ valD V d < 16 := made_ok (hV _).1 (hV _).2 (hV _).1 (hV _).2
theorem VOk.put {V : Vals} (h : VOk V) (t : Nat) {v : Int} (h0 : 0 ≤ v) (h1 : v < 16) : VOk (putV V t v) := by
  intro f; unfold putV; split
  · exact ⟨h0, h1⟩
  · exact h f
theorem VOk.once {V : Vals} (hV : VOk V) : ∀ (D : List Dd) {W : Vals}, VOk W → VOk (D.foldl (onceS V) W)
  | [], _, h => h
  | d :: D, _, h => VOk.once hV D (h.put d.t (valD_ok hV d).1 (valD_ok hV d).2)
noncomputable def conf (x y : Dd) : Bool := decide (x.t = y.t) || decide (x.t = y.o) || decide (x.o = y.t)
theorem conf_iff {x y : Dd} : conf x y = true ↔ x.t = y.t ∨ x.t = y.o ∨ x.o = y.t := by simp [conf, or_assoc]
structure Ahead (D : Nat → Dd) (n : Nat) (P : Nat → List Nat) : Prop where
  sub : ∀ a, a < n → ∀ j ∈ P a, j < a ∧ conf (D j) (D a) = true
  cov : ∀ i a, i < a → a < n → conf (D i) (D a) = true → i ∈ P a ∨ ∃ j ∈ P a, i < j ∧ conf (D i) (D j) = true
structure Clo (D : Nat → Dd) (n : Nat) (S : List Nat) : Prop where
  lt : ∀ a ∈ S, a < n
  up : ∀ a ∈ S, ∀ i, i < a → conf (D i) (D a) = true → i ∈ S
theorem Ahead.clo {D : Nat → Dd} {n : Nat} {P : Nat → List Nat} (h : Ahead D n P) {S : List Nat} (hl : ∀ a ∈ S, a < n) (hS : ∀ a ∈ S, ∀ j ∈ P a, j ∈ S) : Clo D n S := by
  refine ⟨hl, fun a => ?_⟩
  induction a using Nat.strongRecOn with
  | ind a ih =>
    intro hs i hi c
    rcases h.cov i a hi (hl a hs) c with q | ⟨j, hj, hij, c'⟩
    · exact hS a hs i q
    · exact ih j (h.sub a (hl a hs) j hj).1 (hS a hs j hj) i hij c'
theorem Ahead.next {D : Nat → Dd} {n : Nat} {P : Nat → List Nat} (h : Ahead D n P) {S : List Nat} (hS : Clo D n S) {a : Nat} (ha : a < n) (hp : ∀ j ∈ P a, j ∈ S) : ∀ i, i < a → conf (D i) (D a) = true → i ∈ S := by
  intro i hi c
  rcases h.cov i a hi ha c with q | ⟨j, hj, hij, c'⟩
  · exact hp i q
  · exact hS.up j (hp j hj) i hij c'
noncomputable def seqV (V : Vals) (D : Nat → Dd) (a : Nat) : Vals := ((List.range a).map D).foldl stepV V
theorem seqV_succ (V : Vals) (D : Nat → Dd) (a : Nat) : seqV V D (a + 1) = putV (seqV V D a) (D a).t (valD (seqV V D a) (D a)) := by
  unfold seqV
  rw [List.range_succ, List.map_append, List.foldl_append]; rfl
noncomputable def Cur (V : Vals) (D : Nat → Dd) (S : List Nat) (W : Vals) : Prop := ∀ f, (∃ a ∈ S, (D a).t = f ∧ (∀ b ∈ S, (D b).t = f → b ≤ a) ∧ W f = valD (seqV V D a) (D a)) ∨ ((∀ b ∈ S, (D b).t ≠ f) ∧ W f = V f)
theorem Cur.nil (V : Vals) (D : Nat → Dd) : Cur V D [] V := fun f => .inr ⟨fun b hb => (by cases hb), rfl⟩
theorem Cur.put {V : Vals} {D : Nat → Dd} {S : List Nat} {W : Vals} (h : Cur V D S W) (a : Nat) (hb : ∀ b ∈ S, (D b).t = (D a).t → b ≤ a) : Cur V D (S ++ [a]) (putV W (D a).t (valD (seqV V D a) (D a))) := by
  intro f
  by_cases q : f = (D a).t
  · subst q
    refine .inl ⟨a, by simp, rfl, fun b hm e => ?_, by simp [putV]⟩
    rcases List.mem_append.mp hm with hm | hm
    · exact hb b hm e
    · simp at hm; lia
  · have e0 : putV W (D a).t (valD (seqV V D a) (D a)) f = W f := by simp [putV, q]
    rw [e0]
    rcases h f with ⟨b, hm, ht, hl, hw⟩ | ⟨hl, hw⟩
    · refine .inl ⟨b, List.mem_append_left _ hm, ht, fun c hc e => ?_, hw⟩
      rcases List.mem_append.mp hc with hc | hc
      · exact hl c hc e
      · simp at hc; subst hc; exact absurd e.symm q
    · refine .inr ⟨fun c hc e => ?_, hw⟩
      rcases List.mem_append.mp hc with hc | hc
      · exact hl c hc e
      · simp at hc; subst hc; exact absurd e.symm q
theorem Cur.at2 {V : Vals} {D : Nat → Dd} {S S' : List Nat} {W W' : Vals} (h : Cur V D S W) (h' : Cur V D S' W') {f : Nat} (e : ∀ b, (D b).t = f → (b ∈ S ↔ b ∈ S')) : W f = W' f := by
  rcases h f with ⟨a, ha, ht, hl, hw⟩ | ⟨hl, hw⟩
  · rcases h' f with ⟨a', ha', ht', hl', hw'⟩ | ⟨hl', _⟩
    · have h1 := hl a' ((e a' ht').mpr ha') ht'
      have h2 := hl' a ((e a ht).mp ha) ht
      have : a = a' := by lia
      subst this
      rw [hw, hw']
    · exact absurd ht (hl' a ((e a ht).mp ha))
  · rcases h' f with ⟨a', ha', ht', _, _⟩ | ⟨_, hw'⟩
    · exact absurd ht' (hl a' ((e a' ht').mpr ha'))
    · rw [hw, hw']
theorem Cur.seq (V : Vals) (D : Nat → Dd) : ∀ a, Cur V D (List.range a) (seqV V D a)
  | 0 => Cur.nil V D
  | a + 1 => by
    rw [List.range_succ, seqV_succ]
    exact (Cur.seq V D a).put a fun b hb _ => by have := List.mem_range.mp hb; lia
theorem Cur.read {V : Vals} {D : Nat → Dd} {n : Nat} {S : List Nat} {W : Vals} (h : Cur V D S W) (hS : Clo D n S) {a : Nat} (ha : a ∉ S) (hp : ∀ i, i < a → conf (D i) (D a) = true → i ∈ S) : valD W (D a) = valD (seqV V D a) (D a) := by
  have key : ∀ f, (f = (D a).t ∨ f = (D a).o) → W f = seqV V D a f := by
    intro f hf
    refine h.at2 (Cur.seq V D a) fun b hb => ?_
    rw [List.mem_range]
    constructor
    · intro hm
      apply Classical.byContradiction
      intro q
      have hne : b ≠ a := fun e => ha (e ▸ hm)
      refine ha (hS.up b hm a (by lia) (conf_iff.mpr ?_))
      rcases hf with hf | hf
      · exact .inl (by rw [hb, hf])
      · exact .inr (.inr (by rw [hb, hf]))
    · intro hlt
      refine hp b hlt (conf_iff.mpr ?_)
      rcases hf with hf | hf
      · exact .inl (by rw [hb, hf])
      · exact .inr (.inl (by rw [hb, hf]))
  unfold valD
  rw [key _ (.inl rfl), key _ (.inr rfl)]
theorem Cur.once {V : Vals} {D : Nat → Dd} {n : Nat} {S : List Nat} {W : Vals} (h : Cur V D S W) (hS : Clo D n S) {r : List Nat} (hr : ∀ a ∈ r, a ∉ S ∧ ∀ i, i < a → conf (D i) (D a) = true → i ∈ S) : Cur V D (S ++ r) (onceV W (r.map D)) := by
  have key : ∀ (rest p : List Nat) (W2 : Vals), r = p ++ rest → Cur V D (S ++ p) W2 → Cur V D (S ++ r) ((rest.map D).foldl (onceS W) W2) := by
    intro rest
    induction rest with
    | nil => intro p W2 e hc; rw [List.append_nil] at e; subst e; exact hc
    | cons a rest ih =>
      intro p W2 e hc
      obtain ⟨ha, hp⟩ := hr a (by rw [e]; simp)
      have hput := hc.put a fun b hb ht => by
        apply Classical.byContradiction
        intro q
        have hc : conf (D a) (D b) = true := conf_iff.mpr (.inl ht.symm)
        rcases List.mem_append.mp hb with hb | hb
        · exact ha (hS.up b hb a (by lia) hc)
        · exact ha ((hr b (by rw [e]; exact List.mem_append_left _ hb)).2 a (by lia) hc)
      rw [List.append_assoc] at hput
      rw [List.map_cons, List.foldl_cons]
      have e2 : onceS W W2 (D a) = putV W2 (D a).t (valD (seqV V D a) (D a)) := by unfold onceS; rw [h.read hS ha hp]
      rw [e2]
      exact ih (p ++ [a]) _ (by rw [e]; simp) hput
  exact key r [] W rfl (by rw [List.append_nil]; exact h)
theorem Cur.all {V : Vals} {D : Nat → Dd} {n : Nat} {S : List Nat} {W : Vals} (h : Cur V D S W) (hS : ∀ a, a ∈ S ↔ a < n) : W = seqV V D n := funext fun f => h.at2 (Cur.seq V D n) fun b _ => by rw [hS, List.mem_range]
noncomputable def aheadI (D : Nat → Dd) (l : List Int) (k : Nat) : List Int := ((List.range k).filter fun i => conf (D i) (D k)).map fun i => l.getD i 0
noncomputable def maxI (l : List Int) : Int := l.foldl max (-1)
noncomputable def depL (D : Nat → Dd) : Nat → List Int
  | 0 => []
  | k + 1 => depL D k ++ [1 + maxI (aheadI D (depL D k) k)]
theorem depL_len (D : Nat → Dd) : ∀ k, (depL D k).length = k
  | 0 => rfl
  | k + 1 => by rw [depL, List.length_append, depL_len D k]; rfl
noncomputable def dep (D : Nat → Dd) (a : Nat) : Int := (depL D (a + 1)).getD a 0
theorem depL_at (D : Nat → Dd) {a : Nat} : ∀ {k}, a < k → (depL D k).getD a 0 = dep D a
  | 0, h => absurd h (Nat.not_lt_zero _)
  | k + 1, h => by
    by_cases q : a = k
    · subst q; rfl
    · rw [depL, List.getD_eq_getElem?_getD, List.getElem?_append_left (by rw [depL_len]; lia), ← List.getD_eq_getElem?_getD]
      exact depL_at D (by lia)
theorem fmax_spec : ∀ (l : List Int) (m : Int), m ≤ l.foldl max m ∧ (∀ x ∈ l, x ≤ l.foldl max m) ∧ (l.foldl max m = m ∨ l.foldl max m ∈ l)
  | [], m => ⟨Int.le_refl _, fun x hx => (by cases hx), .inl rfl⟩
  | y :: l, m => by
    obtain ⟨h1, h2, h3⟩ := fmax_spec l (max m y)
    rw [List.foldl_cons]
    refine ⟨by lia, fun x hx => ?_, ?_⟩
    · rcases List.mem_cons.mp hx with rfl | hx
      · lia
      · exact h2 x hx
    · rcases h3 with h3 | h3
      · by_cases q : m ≤ y
        · right; rw [h3, Int.max_eq_right q]; exact .head _
        · left; rw [h3, Int.max_eq_left (by lia)]
      · exact .inr (.tail _ h3)
theorem dep_eq (D : Nat → Dd) (a : Nat) : dep D a = 1 + maxI (((List.range a).filter fun i => conf (D i) (D a)).map (dep D)) := by
  show (depL D a ++ [1 + maxI (aheadI D (depL D a) a)]).getD a 0 = _
  rw [List.getD_eq_getElem?_getD, List.getElem?_append_right (by rw [depL_len]; exact Nat.le_refl _), depL_len, Nat.sub_self]
  show 1 + maxI (aheadI D (depL D a) a) = _
  unfold aheadI
  rw [List.map_congr_left fun i hi => depL_at D (List.mem_range.mp (List.mem_filter.mp hi).1)]
theorem dep_up {D : Nat → Dd} {i a : Nat} (h : i < a) (c : conf (D i) (D a) = true) : dep D i + 1 ≤ dep D a := by
  rw [dep_eq D a]
  have := (fmax_spec (((List.range a).filter fun i => conf (D i) (D a)).map (dep D)) (-1)).2.1 (dep D i) (List.mem_map.mpr ⟨i, List.mem_filter.mpr ⟨List.mem_range.mpr h, c⟩, rfl⟩)
  unfold maxI; lia
theorem dep_0 (D : Nat → Dd) (a : Nat) : 0 ≤ dep D a := by
  rw [dep_eq D a]
  have := (fmax_spec (((List.range a).filter fun i => conf (D i) (D a)).map (dep D)) (-1)).1
  unfold maxI; lia
theorem dep_by (D : Nat → Dd) (a : Nat) : dep D a = 0 ∨ ∃ i, i < a ∧ conf (D i) (D a) = true ∧ dep D a = dep D i + 1 := by
  rw [dep_eq D a]
  rcases (fmax_spec (((List.range a).filter fun i => conf (D i) (D a)).map (dep D)) (-1)).2.2 with h | h
  · left; unfold maxI; rw [h]; rfl
  · right
    obtain ⟨i, hi, e⟩ := List.mem_map.mp h
    obtain ⟨h1, h2⟩ := List.mem_filter.mp hi
    exact ⟨i, List.mem_range.mp h1, h2, by unfold maxI; lia⟩
theorem dep_ex (D : Nat → Dd) {d : Int} (h0 : 0 ≤ d) : ∀ a, d ≤ dep D a → ∃ b, b ≤ a ∧ dep D b = d := by
  intro a
  induction a using Nat.strongRecOn with
  | ind a ih =>
    intro h
    by_cases q : dep D a = d
    · exact ⟨a, Nat.le_refl _, q⟩
    · rcases dep_by D a with e | ⟨i, hi, _, e⟩
      · lia
      · obtain ⟨b, hb, e2⟩ := ih i hi (by lia)
        exact ⟨b, by lia, e2⟩
theorem dep_turn {D : Nat → Dd} {n : Nat} {P : Nat → List Nat} (h : Ahead D n P) {d : Int} (h0 : 0 ≤ d) {S : List Nat} (hS : ∀ a, a ∈ S ↔ a < n ∧ dep D a < d) {a : Nat} (ha : a < n) : (a ∉ S ∧ ∀ j ∈ P a, j ∈ S) ↔ dep D a = d := by
  have hC : Clo D n S := ⟨fun a q => ((hS a).mp q).1, fun a q i hi c => (hS i).mpr ⟨by have := ((hS a).mp q).1; lia, by have := dep_up hi c; have := ((hS a).mp q).2; lia⟩⟩
  constructor
  · rintro ⟨h1, h2⟩
    have h3 := h.next hC ha h2
    have h4 : d ≤ dep D a := by
      apply Classical.byContradiction
      intro q
      exact h1 ((hS a).mpr ⟨ha, by lia⟩)
    rcases dep_by D a with e | ⟨i, hi, c, e⟩
    · lia
    · have := ((hS i).mp (h3 i hi c)).2; lia
  · intro e
    refine ⟨fun q => by have := ((hS a).mp q).2; lia, fun j hj => ?_⟩
    obtain ⟨g1, g2⟩ := h.sub a ha j hj
    have := dep_up g1 g2
    exact (hS j).mpr ⟨by lia, by lia⟩

end
section
noncomputable def All2 {α β : Type} (R : α → β → Prop) (xs : List α) (ys : List β) : Prop := xs.length = ys.length ∧ ∀ (i : Nat) (x : α) (y : β), xs[i]? = some x → ys[i]? = some y → R x y
theorem All2.nil {α β : Type} {R : α → β → Prop} : All2 R [] [] := ⟨rfl, fun i x y h => by simp at h⟩
theorem All2.snoc {α β : Type} {R : α → β → Prop} {xs : List α} {ys : List β} {x : α} {y : β} (h : All2 R xs ys) (hr : R x y) : All2 R (xs ++ [x]) (ys ++ [y]) := by
  refine ⟨by simp [h.1], fun i a b ha hb => ?_⟩
  by_cases q : i < xs.length
  · rw [List.getElem?_append_left q] at ha
    rw [List.getElem?_append_left (by rw [← h.1]; exact q)] at hb
    exact h.2 i a b ha hb
  · rw [List.getElem?_append_right (by lia)] at ha
    rw [List.getElem?_append_right (by rw [← h.1]; lia), ← h.1] at hb
    have e : i - xs.length = 0 := by
      have := (List.getElem?_eq_some_iff.mp ha).1
      simp at this; lia
    rw [e] at ha hb
    cases ha; cases hb; exact hr
theorem All2.mono {α β : Type} {R R' : α → β → Prop} {xs : List α} {ys : List β} (h : All2 R xs ys) (hm : ∀ x y, R x y → R' x y) : All2 R' xs ys := ⟨h.1, fun i x y a b => hm _ _ (h.2 i x y a b)⟩
theorem ne_ob {σ : St} {a b : Addr} {o o' : AO} (h : σ a = some o) (h' : σ b = some o') (hn : o ≠ o') : a ≠ b := ne_ob' h h' hn
theorem lf_token {X : Cx} (C : C1 X) : findIn X.K (.ref 179) (Str.ofString "get_token") = some (some (.ref 169)) := by rw [C.K]; kernel_rfl
theorem fn_token {X : Cx} (C : C1 X) : isFn X.K (.ref 169) = true := by rw [C.K]; kernel_rfl
theorem LexAt.mono {X : Cx} {σ τ : St} {lx dx pb f d g c2 t1 t2 at_ : Addr} {fdL fdG : FuncData} {text ws : Str} {n : Int} {pos : Nat} (h : LexAt X σ lx dx pb f d g c2 t1 t2 at_ fdL fdG text ws n pos) (P : Addr → Prop)
    (hk : ∀ a o, P a → σ a = some o → τ a = some o) (hP : ∀ a o, σ a = some o → (∀ xs, o = .list xs → a = pb ∨ a = at_) → (∀ v, o = .cell v → a = t1 ∨ a = t2) → P a) : LexAt X τ lx dx pb f d g c2 t1 t2 at_ fdL fdG text ws n pos :=
  ⟨hk _ _ (hP _ _ h.hlx (fun _ q => nomatch q) (fun _ q => nomatch q)) h.hlx, hk _ _ (hP _ _ h.hdx (fun _ q => nomatch q) (fun _ q => nomatch q)) h.hdx, hk _ _ (hP _ _ h.hpb (fun _ _ => .inl rfl) (fun _ q => nomatch q)) h.hpb,
    hk _ _ (hP _ _ h.hf (fun _ q => nomatch q) (fun _ q => nomatch q)) h.hf, hk _ _ (hP _ _ h.hd (fun _ q => nomatch q) (fun _ q => nomatch q)) h.hd, hk _ _ (hP _ _ h.hg (fun _ q => nomatch q) (fun _ q => nomatch q)) h.hg,
    hk _ _ (hP _ _ h.hc (fun _ q => nomatch q) (fun _ q => nomatch q)) h.hc, hk _ _ (hP _ _ h.h1 (fun _ q => nomatch q) (fun _ _ => .inl rfl)) h.h1, hk _ _ (hP _ _ h.h2 (fun _ q => nomatch q) (fun _ _ => .inr rfl)) h.h2, hk _ _ (hP _ _ h.hat (fun _ _ => .inr rfl) (fun _ q => nomatch q)) h.hat⟩
theorem All2.filterMap {α β γ : Type} {R : α → β → Prop} {g : α → Option γ} {f : β → γ} (hg : ∀ x y, R x y → g x = some (f y)) : ∀ {xs : List α} {ys : List β}, All2 R xs ys → xs.filterMap g = ys.map f
  | [], [], _ => rfl
  | x :: xs, [], h => by have := h.1; simp at this
  | [], y :: ys, h => by have := h.1; simp at this
  | x :: xs, y :: ys, h => by
    have h0 := hg x y (h.2 0 x y rfl rfl)
    rw [List.filterMap_cons, h0, List.map_cons]
    dsimp only
    congr 1
    exact All2.filterMap hg ⟨by simpa using h.1, fun i a b ha hb => h.2 (i + 1) a b (by simpa using ha) (by simpa using hb)⟩
theorem sh_depth {α : Type} (f : α → PyData) (h : ∀ a, (f a).depth = 0) : ∀ ns : List α, PyData.depthAll (ns.map f) = 0
  | [] => rfl
  | a :: r => by simp [PyData.depthAll, h, sh_depth f h r]
theorem St.le_over {σ τ : St} {c : Addr} {o : AO} (h : σ.le τ) (h0 : σ c = none) : σ.le (τ.set c o) := fun a q e => by rw [St.set_ne _ (St.ne_of e h0)]; exact h a q e
theorem St.none_le {σ τ : St} (h : σ.le τ) {a : Addr} (e : τ a = none) : σ a = none := by
  cases q : σ a with
  | none => rfl
  | some o => have := h a o q; rw [e] at this; cases this
theorem fresh_of {σ : St} {L : Addr} (hL : ∀ a o, σ a = some o → a < L) (n : Nat) : σ (L + n) = none := by
  cases q : σ (L + n) with
  | none => rfl
  | some o => exact absurd (hL _ _ q) (Nat.not_lt.mpr (Nat.le_add_right L n))
theorem All2.at {α β : Type} {R : α → β → Prop} {xs : List α} {ys : List β} (h : All2 R xs ys) {k : Nat} {y : β} (hy : ys[k]? = some y) : ∃ x, xs[k]? = some x ∧ R x y := by
  have hl : k < xs.length := by rw [h.1]; exact (List.getElem?_eq_some_iff.mp hy).1
  exact ⟨xs[k], List.getElem?_eq_getElem hl, h.2 k _ y (List.getElem?_eq_getElem hl) hy⟩
theorem All2.eq {α β : Type} {f : β → α} {xs : List α} {ys : List β} (h : All2 (fun x y => x = f y) xs ys) : xs = ys.map f := by
  have := All2.filterMap (g := some) (f := f) (fun x y e => congrArg some e) h
  rwa [List.filterMap_some] at this
theorem bindsCL {X : Cx} {fs : List Env} {σ : St} {fd : FuncData} {n m : Str} {x y : PV} (hb : ∀ a b, bindArgs fd ⟨[a, b], []⟩ = Pure.pure [(n, a), (m, b)]) (h1 : fd.scope.names.lookup n = some .cell) (h2 : fd.scope.names.lookup m = some .local)
    (hc1 : ∀ k, ((cellsFrom k fd.scope.names []).lookup n).isSome = true) : BindOk X fs σ fd [x, y] [(m, y)] (fun z => if z = n then some x else none) := by
  intro s vs hv R
  obtain ⟨v, w, rfl, rfl, rfl⟩ := args2 hv
  refine ⟨_, .of_eq (hb v w), fun k p hp => ?_, fun z => ?_, fun z => ?_⟩
  · simp only [List.mem_cons, List.not_mem_nil, or_false] at hp
    rcases hp with rfl | rfl
    · exact .inr ⟨h1, hc1 k⟩
    · exact .inl h2
  · simp only [bindL, h1, h2]
    by_cases q : z = m
    · subst q; simp [List.lookup]
    · have hb : (z == m) = false := by simpa using q
      simp [List.lookup, hb, q]
  · simp only [bindC, h1, h2]
    by_cases q : z = n <;> simp [q]
theorem WBlock.objs {X : Cx} {A : Around} {env : Env} {E : Value → Shared → Prop} {fr : Fm} {σ : St} {elt target iter : Expr} {scope : Scope} {pos : Pos} {cl : List (Str × Addr)} {x : PV} {xs : List PV} {P : St → Prop} {o : Nat → Addr → AO} {Q : PV → Fm → St → Prop} {α : Type}
    (hh : A.handled = none) (S : SrcOf X A x xs P o) (zs : List α) (R : St → PV → α → Prop) (hR : ∀ {σ τ y z}, St.le σ τ → R σ y z → R τ y z) (hxz : xs.length = zs.length) (hlet : ∀ it, LetOk X A target it (fun i => o i it)) (hP : P σ) (hnc : ∀ n, cellsFrom n scope.names [] = []) (hlen : zs.length ≤ sizeLine)
    (turn : ∀ (L' : Addr) (i : Nat) (x : PV) (z : α) (τ : St), xs[i]? = some x → zs[i]? = some z → σ.le τ → WAsg X A (cEnv scope env L' cl) target x [] τ (fun fr₂ σ₂ => WE X A (cEnv scope env L' cl) elt fr₂ σ₂ (fun y _ τ' => R τ' y z ∧ τ.le τ') NoE) NoE)
    (done : ∀ acc ys τ, σ.le τ → τ acc = some (.list ys) → All2 (R τ) ys zs → Q (.ref acc) fr τ) :
    WIter X A env.locals x fr σ (kCmp2 X A env (.ListComp elt [⟨target, iter, [], 0⟩] scope pos) scope cl Q) E := by
  refine WBlock.one hh S (fun L' i ys σ' => σ.le σ' ∧ All2 (R σ') ys (zs.take i)) hlet ?_ hP ?_ ?_ ?_
  · rintro L' i ys σ' ⟨h, _⟩; exact S.mono _ _ h hP
  · intro L' _ _
    rw [hnc]
    exact ⟨St.le_refl _, .nil⟩
  · rintro L' i x ys τ hx ⟨h1, h2⟩
    have hi : i < zs.length := by rw [← hxz]; exact (List.getElem?_eq_some_iff.mp hx).1
    have hz := List.getElem?_eq_getElem hi
    intro v hv
    refine .mono (turn L' i x _ τ hx hz h1 v hv) fun _ fr₂ σ₂ h3 => ?_
    refine WIfs.nil ?_
    rw [if_pos rfl]
    refine .mono h3 fun y fr₄ τ' ⟨g1, g2⟩ => ⟨?_, [], _, Fm.nil_le _, St.le_refl _, St.le_trans h1 g2, ?_⟩
    · rw [h2.1, List.length_take]; lia
    · rw [take_succ_get hz]
      exact All2.snoc (h2.mono fun _ _ => hR g2) g1
  · rintro L' ys τ ⟨h1, h2⟩ acc hacc hL
    rw [hxz, List.take_length] at h2
    exact ⟨[], _, Fm.nil_le _, St.le_refl _, done acc ys _ (St.le_trans h1 (St.le_set hacc)) (St.set_self ..) (h2.mono fun _ _ => hR (St.le_set hacc))⟩


end
section

theorem scls_node {X : Cx} (C : C1 X) : SCls X 40 := ⟨by rw [C.K]; kernel_rfl, by rw [C.K]; kernel_rfl, by rw [C.K]; kernel_rfl, by rw [C.K]; kernel_rfl⟩
theorem dcls_sort {X : Cx} (C : C1 X) : DCls X 137 := ⟨by rw [C.K]; kernel_rfl, by rw [C.K]; kernel_rfl, by rw [C.K]; kernel_rfl, by rw [C.K]; kernel_rfl⟩
theorem sl_node {X : Cx} (C : C1 X) : SlotAt X 40 "node" 0 := ⟨41, by rw [C.K]; kernel_rfl, by rw [C.K]; kernel_rfl, by rw [C.K]; kernel_rfl, by rw [C.K]; kernel_rfl, by rw [C.K]; kernel_rfl⟩
theorem sl_np {X : Cx} (C : C1 X) : SlotAt X 40 "npredecessors" 1 := ⟨42, by rw [C.K]; kernel_rfl, by rw [C.K]; kernel_rfl, by rw [C.K]; kernel_rfl, by rw [C.K]; kernel_rfl, by rw [C.K]; kernel_rfl⟩
theorem sl_succ {X : Cx} (C : C1 X) : SlotAt X 40 "successors" 2 := ⟨43, by rw [C.K]; kernel_rfl, by rw [C.K]; kernel_rfl, by rw [C.K]; kernel_rfl, by rw [C.K]; kernel_rfl, by rw [C.K]; kernel_rfl⟩
theorem f_nodeInit {X : Cx} (C : C1 X) {A : Around} {σ : St} {E : Value → Shared → Prop} (x dx : Addr) (v : PV) (hx : σ x = some (.inst 40 dx [])) (hd : σ dx = some (.flds [])) (hA : OkA A 2) :
    CC X A (.ref 36) [.ref x, v] σ (fun w σ' => w = .none ∧ ∃ s, σ s = none ∧ σ' = (σ.set x (.inst 40 dx [some v, some (.int 0), some (.ref s)])).set s (.list [])) E := by
  refine call_plainC (k := 1) hA (C.def rfl (by kernel_rfl)) rfl rfl rfl rfl (by decide) (binds2 (fun a b => rfl) rfl rfl) fun L hL => ?_
  intro ev Ad
  have S := scls_node C
  have hne : dx ≠ x := fun e => by rw [e, hx] at hd; cases hd
  (first | refine WB.gK ?_ | refine WT.gK ?_ | refine WS.gK ?_); intro K1 hK1
  repeat walk_at "sl"
  refine WU2.setSlot (x := x) S (sl_node C) (by decide) hx hd ?_
  repeat walk_at "sl"
  refine WU2.setSlot (x := x) (dx := dx) S (sl_np C) (by decide) (St.set_self ..) (by rw [St.set_ne _ hne]; exact hd) ?_
  rw [St.set_set]
  repeat walk_at "sl"
  repeat (first | refine hK4 _ _ _ ?_ | refine hK3 _ _ _ ?_ | refine hK2 _ _ _ ?_ | refine hK1 _ _ _ ?_ | walk_at "sl")
  refine ⟨by decide, fun s hs hsL => ?_⟩
  have hp := St.set_none.mp hs
  repeat walk_at "sl"
  refine WU2.setSlot (x := x) (dx := dx) S (sl_succ C) (by decide) (by rw [St.set_ne _ (Ne.symm hp.1), St.set_self]) (by rw [St.set_ne _ (fun e => by subst e; rw [hd] at hp; cases hp.2), St.set_ne _ hne]; exact hd) ?_
  repeat walk_at "sl"
  repeat (first | refine hK4 _ _ _ ?_ | refine hK3 _ _ _ ?_ | refine hK2 _ _ _ ?_ | refine hK1 _ _ _ ?_ | walk_at "sl")
  refine ⟨rfl, s, hp.2, ?_⟩
  rw [St.set3 hp.1]
  rfl
set_option genInjectivity false in
structure NdA where
  (k : KV) (np : Int) (succ : List KV) (n dn s : Addr)
set_option genInjectivity false in
structure Nd where
  (k : KV) (np : Int) (succ : List KV)
noncomputable def NdA.nd (g : NdA) : Nd := ⟨g.k, g.np, g.succ⟩
noncomputable def nO (g : NdA) : AO := .inst 40 g.dn [some g.k.pv, some (.int g.np), some (.ref g.s)]
noncomputable def NdOk (σ : St) (g : NdA) : Prop := σ g.n = some (nO g) ∧ σ g.dn = some (.flds []) ∧ σ g.s = some (.list (g.succ.map KV.pv))
noncomputable def sFlds (d : Addr) (rdy : PV) (po fi : Int) : Fm := [("_node2info", .ref d), ("_ready_nodes", rdy), ("_npassedout", .int po), ("_nfinished", .int fi)]
noncomputable def dKv (D : List NdA) : List (KV × PV) := D.map fun g => (g.k, .ref g.n)
structure SortB (σ0 σ : St) (x dx d : Addr) (D : List NdA) (rdy : PV) (po fi : Int) : Prop where
  hx : σ x = some (.inst 137 dx [])
  hdx : σ dx = some (.flds (sFlds d rdy po fi))
  hd : σ d = some (.dict (dKv D))
  ok : ∀ g ∈ D, NdOk σ g
  keys : (D.map (·.k)).Nodup
  ss : (D.map (·.s)).Nodup
  base : σ0.le σ
  fx : σ0 x = none
  fdx : σ0 dx = none
  fd : σ0 d = none
  fg : ∀ g ∈ D, σ0 g.n = none ∧ σ0 g.dn = none ∧ σ0 g.s = none
theorem f_sortInit {X : Cx} (C : C1 X) {A : Around} {σ : St} {E : Value → Shared → Prop} (x dx : Addr) (hx : σ x = some (.inst 137 dx [])) (hd : σ dx = some (.flds [])) (hA : OkA A 2) :
    CC X A (.ref 73) [.ref x] σ (fun w σ' => w = .none ∧ ∃ d, σ d = none ∧ σ' = (σ.set dx (.flds (sFlds d .none 0 0))).set d (.dict [])) E := by
  refine call_plainC (k := 1) hA (C.def rfl (by kernel_rfl)) rfl rfl rfl rfl (by decide) (bs := [("graph", .none), ("self", .ref x)]) ?_ fun L hL => ?_
  · intro s vs hv R
    obtain ⟨v, rfl, hv1⟩ := args1 hv
    obtain rfl := abs_ref hv1
    exact ⟨[("self", .ref x), ("graph", .none)], binds_K (k := _) (T := _) (o := _) (items := _) (n := _) R.KI rfl (by rw [C.K]; rfl) rfl rfl rfl, rfl, by
      intro p hp
      simp only [List.mem_cons, List.not_mem_nil, or_false] at hp
      rcases hp with rfl | rfl <;> rfl⟩
  intro ev Ad
  have D := dcls_sort C
  have hne : x ≠ dx := fun e => by rw [e, hd] at hx; cases hx
  (first | refine WB.gK ?_ | refine WT.gK ?_ | refine WS.gK ?_); intro K1 hK1
  repeat (first | walk_at "sl" | with_reducible refine WE.dict0 ?_)
  intro d hdn hdL
  have hdx : dx ≠ d := St.ne_of hd hdn
  have hxd : x ≠ d := St.ne_of hx hdn
  repeat walk_at "sl"
  refine WU2.setOwn (x := x) (dx := dx) D (by rw [C.K]; kernel_rfl) (by walk_at "look") (by walk_at "look") (of_decide_eq_true rfl) ?_
  repeat walk_at "sl"
  refine WU2.setOwn (x := x) (dx := dx) D (by rw [C.K]; kernel_rfl) (by walk_at "look") (by walk_at "look") (of_decide_eq_true rfl) ?_
  rw [St.set_set]
  repeat walk_at "sl"
  refine WU2.setOwn (x := x) (dx := dx) D (by rw [C.K]; kernel_rfl) (by walk_at "look") (by walk_at "look") (of_decide_eq_true rfl) ?_
  rw [St.set_set]
  repeat walk_at "sl"
  refine WU2.setOwn (x := x) (dx := dx) D (by rw [C.K]; kernel_rfl) (by walk_at "look") (by walk_at "look") (of_decide_eq_true rfl) ?_
  rw [St.set_set]
  repeat walk_at "sl"
  refine WS.ifK ?_
  repeat walk_at "sl"
  refine itF (by decide) ?_
  repeat walk_at "sl"
  repeat (first | refine hK4 _ _ _ ?_ | refine hK3 _ _ _ ?_ | refine hK2 _ _ _ ?_ | refine hK1 _ _ _ ?_ | walk_at "sl")
  refine ⟨rfl, d, hdn, ?_⟩
  rw [St.set_comm _ _ _ hdx.symm]
  rfl

noncomputable def gGet (G : List Nd) (k : KV) : List Nd := if G.any (fun g => g.k = k) then G else G ++ [⟨k, 0, []⟩]
noncomputable def gNp (G : List Nd) (k : KV) (f : Int → Int) : List Nd := G.map fun g => if g.k = k then { g with np := f g.np } else g
noncomputable def gSu (G : List Nd) (k : KV) (v : KV) : List Nd := G.map fun g => if g.k = k then { g with succ := g.succ ++ [v] } else g
theorem kvAt_dKv_some {D : List NdA} {g : NdA} (hn : (D.map (·.k)).Nodup) (hg : g ∈ D) : kvAt (dKv D) g.k = some (.ref g.n) := by
  unfold kvAt dKv
  induction D with
  | nil => cases hg
  | cons h D ih =>
    rw [List.map_cons, List.find?_cons]
    rw [List.map_cons, List.nodup_cons] at hn
    rcases List.mem_cons.mp hg with rfl | hg
    · simp
    · have : ¬ h.k = g.k := fun e => hn.1 (e ▸ List.mem_map.mpr ⟨g, hg, rfl⟩)
      simp only [this, decide_false]
      exact ih hn.2 hg
theorem kvAt_dKv_none {D : List NdA} {k : KV} (h : ∀ g ∈ D, g.k ≠ k) : kvAt (dKv D) k = none := by
  unfold kvAt dKv
  rw [Option.map_eq_none_iff, List.find?_eq_none]
  intro p hp
  obtain ⟨g, hg, rfl⟩ := List.mem_map.mp hp
  simpa using h g hg
theorem kvPut_dKv {D : List NdA} {k : KV} {v : PV} (h : ∀ g ∈ D, g.k ≠ k) : kvPut (dKv D) k v = dKv D ++ [(k, v)] := by
  unfold kvPut
  rw [if_neg]
  simp only [dKv, List.any_map, List.any_eq_true, Function.comp, decide_eq_true_eq, not_exists, not_and]
  exact h
theorem SortB.mono {σ0 σ τ : St} {x dx d : Addr} {D : List NdA} {rdy : PV} {po fi : Int} (h : SortB σ0 σ x dx d D rdy po fi) (hk : σ.le τ) : SortB σ0 τ x dx d D rdy po fi :=
  { h with hx := hk _ _ h.hx, hdx := hk _ _ h.hdx, hd := hk _ _ h.hd, ok := fun g hg => ⟨hk _ _ (h.ok g hg).1, hk _ _ (h.ok g hg).2.1, hk _ _ (h.ok g hg).2.2⟩, base := St.le_trans h.base hk }
theorem f_getinfo {X : Cx} (C : C1 X) {A : Around} {σ0 σ : St} {E : Value → Shared → Prop} {x dx d : Addr} {D : List NdA} {rdy : PV} {po fi : Int} (k : KV) (hB : SortB σ0 σ x dx d D rdy po fi) (hlen : D.length < 2 ^ 20) (hA : OkA A 5) :
    CW X A (.ref 80) [.ref x, k.pv] σ (fun v σ' => ∃ D' g, v = .ref g.n ∧ g ∈ D' ∧ g.k = k ∧ SortB σ0 σ' x dx d D' rdy po fi ∧ D'.map NdA.nd = gGet (D.map NdA.nd) k) E := by
  refine .weak (call_plainW (k := 4) hA (C.def rfl (by kernel_rfl)) rfl rfl rfl rfl (by decide) (binds2 (fun a b => rfl) rfl rfl) fun L hL => ?_)
  intro ev Ad
  have hA1 := okA_deeper hA
  have DS := dcls_sort C
  (first | refine WB.gK ?_ | refine WT.gK ?_ | refine WS.gK ?_); intro K1 hK1
  repeat walk_at "sl"
  refine WS.ifK ?_
  repeat (first | walk_at "sl" | with_reducible refine WE.namedK ?_)
  refine WG.own DS (by rw [C.K]; kernel_rfl) hB.hx hB.hdx rfl rfl ?_
  refine WM.dictGet (.own hB.hd) ?_
  repeat walk_at "sl"
  refine WC.dictGet (.own hB.hd) ?_
  by_cases hg : ∃ g ∈ D, g.k = k
  · obtain ⟨g, hgD, rfl⟩ := hg
    rw [kvAt_dKv_some hB.keys hgD]
    repeat walk_at "sl"
    refine itF (by simp) ?_
    repeat walk_at "sl"
    repeat (first | refine hK4 _ _ _ ?_ | refine hK3 _ _ _ ?_ | refine hK2 _ _ _ ?_ | refine hK1 _ _ _ ?_ | walk_at "sl")
    refine ⟨σ, St.le_refl _, D, g, rfl, hgD, rfl, hB, ?_⟩
    unfold gGet
    rw [if_pos]
    exact List.any_eq_true.mpr ⟨g.nd, List.mem_map.mpr ⟨g, hgD, rfl⟩, by simp [NdA.nd]⟩
  · have hno : ∀ g ∈ D, g.k ≠ k := fun g h e => hg ⟨g, h, e⟩
    rw [kvAt_dKv_none hno]
    repeat walk_at "sl"
    refine itT (by simp) ?_
    repeat walk_at "sl"
    refine WS.assign2 (by rfl) (by rfl) ?_
    repeat walk_at "sl"
    refine WC.of (.mono (CC.make (k := 3) (hA1 _) (by rw [C.K]; kernel_rfl) (fI := 36) (by rw [C.K]; kernel_rfl) (by rw [C.K]; kernel_rfl)
      (Q := fun v σ' => ∃ n dn s, v = .ref n ∧ σ n = none ∧ σ dn = none ∧ σ s = none ∧ σ' n = some (.inst 40 dn [some k.pv, some (.int 0), some (.ref s)]) ∧ σ' dn = some (.flds []) ∧ σ' s = some (.list []) ∧ σ.le σ') fun A' hA' n dn hn hdn hne => ?init).cw ?_)
    case init =>
      refine (f_nodeInit C n dn k.pv (St.set_self ..) (by rw [St.set_ne _ hne, St.set_self]) (hA'.le (by decide))).mono ?_
      rintro v σ' ⟨rfl, s, hs, rfl⟩
      have q1 := St.set_none.mp hs
      have q2 := St.set_none.mp q1.2
      refine ⟨rfl, n, dn, s, rfl, hn, hdn, q2.2, ?_, ?_, St.set_self .., fun a o e => ?_⟩
      · rw [St.set_ne _ (Ne.symm q1.1), St.set_self]
      · rw [St.set_ne _ (Ne.symm q2.1), St.set_ne _ hne, St.set_ne _ hne, St.set_self]
      · rw [St.set_ne _ (St.ne_of e q2.2), St.set_ne _ (St.ne_of e hn), St.set_ne _ (St.ne_of e hn), St.set_ne _ (St.ne_of e hdn)]; exact e
    rintro v σ' ⟨n, dn, s, rfl, fn, fdn, fs, hn, hdn, hs, hle⟩
    have hB' := hB.mono hle
    repeat walk_at "sl"
    refine WG.own DS (by rw [C.K]; kernel_rfl) hB'.hx hB'.hdx rfl rfl ?_
    repeat walk_at "sl"
    refine WU3.setD hB'.hd (by rw [sizeLine_eq]; simp [dKv]; lia) ?_
    rw [kvPut_dKv hno]
    repeat walk_at "sl"
    have nd : ∀ a o, σ' a = some o → a ≠ d → (σ'.set d (.dict (dKv D ++ [(k, .ref n)]))) a = some o := fun a o e h => by rw [St.set_ne _ h]; exact e
    have b0 : ∀ a, σ a = none → σ0 a = none := fun a h => by
      cases q : σ0 a with
      | none => rfl
      | some o => have := hB.base _ _ q; rw [h] at this; cases this
    repeat (first | refine hK4 _ _ _ ?_ | refine hK3 _ _ _ ?_ | refine hK2 _ _ _ ?_ | refine hK1 _ _ _ ?_ | walk_at "sl")
    refine ⟨_, St.le_refl _, D ++ [⟨k, 0, [], n, dn, s⟩], ⟨k, 0, [], n, dn, s⟩, rfl, by simp, rfl, ?_, ?_⟩
    · refine ⟨nd _ _ hB'.hx (ne_ob hB'.hx hB'.hd (fun e => nomatch e)), nd _ _ hB'.hdx (ne_ob hB'.hdx hB'.hd (fun e => nomatch e)), ?_, ?_, ?_, ?_, ?_, hB.fx, hB.fdx, hB.fd, ?_⟩
      · rw [St.set_self]; simp [dKv]
      · intro g hg
        have : NdOk σ' g := by
          rcases List.mem_append.mp hg with hg | hg
          · exact hB'.ok g hg
          · simp at hg; subst hg; exact ⟨hn, hdn, hs⟩
        exact ⟨nd _ _ this.1 (ne_ob this.1 hB'.hd (fun e => nomatch e)), nd _ _ this.2.1 (ne_ob this.2.1 hB'.hd (fun e => nomatch e)), nd _ _ this.2.2 (ne_ob this.2.2 hB'.hd (fun e => nomatch e))⟩
      · rw [List.map_append, List.nodup_append]
        refine ⟨hB.keys, by simp, fun a ha b hb => ?_⟩
        obtain ⟨g, hgm, rfl⟩ := List.mem_map.mp ha
        simp at hb; rw [hb]; exact hno g hgm
      · rw [List.map_append, List.nodup_append]
        refine ⟨hB.ss, by simp, fun a ha b hb => ?_⟩
        obtain ⟨g, hg, rfl⟩ := List.mem_map.mp ha
        simp at hb; subst hb; exact St.ne_of (hB.ok g hg).2.2 fs
      · exact fun a o e => nd _ _ (hB'.base _ _ e) (fun q => by subst q; rw [hB.fd] at e; cases e)
      · intro g hg
        rcases List.mem_append.mp hg with hg | hg
        · exact hB.fg g hg
        · simp at hg; subst hg; exact ⟨b0 _ fn, b0 _ fdn, b0 _ fs⟩
    · unfold gGet
      rw [if_neg]
      · simp [NdA.nd]
      · simp only [List.any_map, List.any_eq_true, Function.comp, not_exists, not_and, NdA.nd]
        exact fun g hgm e => hno g hgm (of_decide_eq_true e)

theorem SortB.setNp {σ0 σ : St} {x dx d : Addr} {D : List NdA} {rdy : PV} {po fi : Int} (h : SortB σ0 σ x dx d D rdy po fi) {g : NdA} (hg : g ∈ D) (v : Int) :
    SortB σ0 (σ.set g.n (.inst 40 g.dn [some g.k.pv, some (.int v), some (.ref g.s)])) x dx d (D.map fun h => if h.k = g.k then { h with np := v } else h) rdy po fi := by
  have gn := (h.ok g hg).1
  have ne : ∀ a o, σ a = some o → o ≠ nO g → (σ.set g.n (.inst 40 g.dn [some g.k.pv, some (.int v), some (.ref g.s)])) a = some o := fun a o e hn => by rw [St.set_ne _ (ne_ob e gn hn)]; exact e
  have mk : (D.map fun h => if h.k = g.k then { h with np := v } else h).map (·.k) = D.map (·.k) := by rw [List.map_map]; exact List.map_congr_left fun a _ => by simp only [Function.comp]; split <;> rfl
  have ms : (D.map fun h => if h.k = g.k then { h with np := v } else h).map (·.s) = D.map (·.s) := by rw [List.map_map]; exact List.map_congr_left fun a _ => by simp only [Function.comp]; split <;> rfl
  have md : dKv (D.map fun h => if h.k = g.k then { h with np := v } else h) = dKv D := by unfold dKv; rw [List.map_map]; exact List.map_congr_left fun a _ => by simp only [Function.comp]; split <;> rfl
  refine ⟨ne _ _ h.hx (fun e => by injection e with e; cases e), ne _ _ h.hdx (fun e => nomatch e), by rw [md]; exact ne _ _ h.hd (fun e => nomatch e), ?_, by rw [mk]; exact h.keys, by rw [ms]; exact h.ss, ?_, h.fx, h.fdx, h.fd, ?_⟩
  · intro a ha
    obtain ⟨b, hb, rfl⟩ := List.mem_map.mp ha
    by_cases q : b.k = g.k
    · have e := nodup_inj h.keys hb hg q
      subst e
      simp only [if_true]
      exact ⟨St.set_self .., ne _ _ (h.ok b hb).2.1 (fun e => nomatch e), ne _ _ (h.ok b hb).2.2 (fun e => nomatch e)⟩
    · simp only [if_neg q]
      refine ⟨ne _ _ (h.ok b hb).1 (fun e => ?_), ne _ _ (h.ok b hb).2.1 (fun e => nomatch e), ne _ _ (h.ok b hb).2.2 (fun e => nomatch e)⟩
      unfold nO at e
      injection e with _ _ e
      injection e with e _
      exact q (KV.pv_inj (Option.some.inj e))
  · exact fun a o e => by
      have := h.base _ _ e
      rw [St.set_ne _ (fun q => by subst q; rw [(h.fg g hg).1] at e; cases e)]; exact this
  · intro a ha
    obtain ⟨b, hb, rfl⟩ := List.mem_map.mp ha
    split <;> exact h.fg b hb
set_option tactic.hygienic true in
theorem nd_setNp {D : List NdA} {k : KV} {v : Int} : (D.map fun h => if h.k = k then { h with np := v } else h).map NdA.nd = gNp (D.map NdA.nd) k (fun _ => v) := by
  unfold gNp
  rw [List.map_map, List.map_map]
  refine List.map_congr_left fun a _ => ?_
  simp only [Function.comp, NdA.nd]
  split <;> rename_i q <;> simp [q]
theorem SortB.setSu {σ0 σ : St} {x dx d : Addr} {D : List NdA} {rdy : PV} {po fi : Int} (h : SortB σ0 σ x dx d D rdy po fi) {g : NdA} (hg : g ∈ D) (v : KV) :
    SortB σ0 (σ.set g.s (.list ((g.succ ++ [v]).map KV.pv))) x dx d (D.map fun h => if h.k = g.k then { h with succ := h.succ ++ [v] } else h) rdy po fi := by
  have gs := (h.ok g hg).2.2
  have ne : ∀ a o, σ a = some o → a ≠ g.s → (σ.set g.s (.list ((g.succ ++ [v]).map KV.pv))) a = some o := fun a o e hn => by rw [St.set_ne _ hn]; exact e
  have mk : (D.map fun h => if h.k = g.k then { h with succ := h.succ ++ [v] } else h).map (·.k) = D.map (·.k) := by rw [List.map_map]; exact List.map_congr_left fun a _ => by simp only [Function.comp]; split <;> rfl
  have ms : (D.map fun h => if h.k = g.k then { h with succ := h.succ ++ [v] } else h).map (·.s) = D.map (·.s) := by rw [List.map_map]; exact List.map_congr_left fun a _ => by simp only [Function.comp]; split <;> rfl
  have md : dKv (D.map fun h => if h.k = g.k then { h with succ := h.succ ++ [v] } else h) = dKv D := by unfold dKv; rw [List.map_map]; exact List.map_congr_left fun a _ => by simp only [Function.comp]; split <;> rfl
  refine ⟨ne _ _ h.hx (ne_ob h.hx gs (fun e => nomatch e)), ne _ _ h.hdx (ne_ob h.hdx gs (fun e => nomatch e)), by rw [md]; exact ne _ _ h.hd (ne_ob h.hd gs (fun e => nomatch e)), ?_, by rw [mk]; exact h.keys, by rw [ms]; exact h.ss, ?_, h.fx, h.fdx, h.fd, ?_⟩
  · intro a ha
    obtain ⟨b, hb, rfl⟩ := List.mem_map.mp ha
    by_cases q : b.k = g.k
    · have e := nodup_inj h.keys hb hg q
      subst e
      simp only [if_true]
      exact ⟨ne _ _ (h.ok b hb).1 (ne_ob (h.ok b hb).1 gs (fun e => nomatch e)), ne _ _ (h.ok b hb).2.1 (ne_ob (h.ok b hb).2.1 gs (fun e => nomatch e)), St.set_self ..⟩
    · simp only [if_neg q]
      exact ⟨ne _ _ (h.ok b hb).1 (ne_ob (h.ok b hb).1 gs (fun e => nomatch e)), ne _ _ (h.ok b hb).2.1 (ne_ob (h.ok b hb).2.1 gs (fun e => nomatch e)), ne _ _ (h.ok b hb).2.2 (fun e => q (congrArg (·.k) (nodup_inj h.ss hb hg e)))⟩
  · exact fun a o e => by
      have := h.base _ _ e
      rw [St.set_ne _ (fun q => by subst q; rw [(h.fg g hg).2.2] at e; cases e)]; exact this
  · intro a ha
    obtain ⟨b, hb, rfl⟩ := List.mem_map.mp ha
    split <;> exact h.fg b hb
set_option tactic.hygienic true in
theorem nd_setSu {D : List NdA} {k : KV} {v : KV} : (D.map fun h => if h.k = k then { h with succ := h.succ ++ [v] } else h).map NdA.nd = gSu (D.map NdA.nd) k v := by
  unfold gSu
  rw [List.map_map, List.map_map]
  refine List.map_congr_left fun a _ => ?_
  simp only [Function.comp, NdA.nd]
  split <;> rename_i q <;> simp [q]
theorem SortB.addBase {σ0 σ : St} {x dx d : Addr} {D : List NdA} {rdy : PV} {po fi : Int} (h : SortB σ0 σ x dx d D rdy po fi) {t : Addr} (o : AO) (ht : σ t = none) : SortB (σ0.set t o) (σ.set t o) x dx d D rdy po fi := by
  have h2 := h.mono (St.le_set (o := o) ht)
  have n : ∀ {a p}, σ a = some p → σ0 a = none → (σ0.set t o) a = none := fun e q => by rw [St.set_ne _ (St.ne_of e ht)]; exact q
  exact { h2 with base := St.le_sets h.base, fx := n h.hx h.fx, fdx := n h.hdx h.fdx, fd := n h.hd h.fd, fg := fun g hg => ⟨n (h.ok g hg).1 (h.fg g hg).1, n (h.ok g hg).2.1 (h.fg g hg).2.1, n (h.ok g hg).2.2 (h.fg g hg).2.2⟩ }
theorem SortB.lessBase {σ0 σ1 σ : St} {x dx d : Addr} {D : List NdA} {rdy : PV} {po fi : Int} (h : SortB σ1 σ x dx d D rdy po fi) (hl : σ0.le σ1) : SortB σ0 σ x dx d D rdy po fi := by
  have n : ∀ {a}, σ1 a = none → σ0 a = none := fun {a} e => by
    cases q : σ0 a with
    | none => rfl
    | some o => have := hl _ _ q; rw [e] at this; cases this
  exact { h with base := St.le_trans hl h.base, fx := n h.fx, fdx := n h.fdx, fd := n h.fd, fg := fun g hg => ⟨n (h.fg g hg).1, n (h.fg g hg).2.1, n (h.fg g hg).2.2⟩ }
theorem SortB.fresh0 {σ0 σ : St} {x dx d : Addr} {D : List NdA} {rdy : PV} {po fi : Int} (h : SortB σ0 σ x dx d D rdy po fi) {a : Addr} (e : σ a = none) : σ0 a = none := by
  cases q : σ0 a with
  | none => rfl
  | some o => have := h.base _ _ q; rw [e] at this; cases this
noncomputable def gAdd1 (G : List Nd) (v : KV) (p : KV) : List Nd := gSu (gGet G p) p v
noncomputable def gAdd (G : List Nd) (k : KV) (preds : List KV) : List Nd := preds.foldl (fun G p => gAdd1 G k p) (gNp (gGet G k) k (· + preds.length))
noncomputable def gBound (G : List Nd) (N : Nat) : Prop := G.length ≤ N ∧ ∀ g ∈ G, g.succ.length ≤ N
theorem gBound.le {G : List Nd} {N M : Nat} (h : gBound G N) (hm : N ≤ M) : gBound G M := ⟨Nat.le_trans h.1 hm, fun g hg => Nat.le_trans (h.2 g hg) hm⟩
theorem gBound.get {G : List Nd} {N : Nat} (h : gBound G N) (k : KV) : gBound (gGet G k) (N + 1) := by
  unfold gGet
  split
  · exact h.le (Nat.le_succ _)
  · refine ⟨by rw [List.length_append]; have := h.1; simp; lia, fun g hg => ?_⟩
    rcases List.mem_append.mp hg with hg | hg
    · have := h.2 g hg; lia
    · simp at hg; subst hg; simp
theorem gBound.np {G : List Nd} {N : Nat} (h : gBound G N) (k : KV) (f : Int → Int) : gBound (gNp G k f) N := by
  unfold gNp
  refine ⟨by rw [List.length_map]; exact h.1, fun g hg => ?_⟩
  obtain ⟨a, ha, rfl⟩ := List.mem_map.mp hg
  split <;> exact h.2 a ha
theorem gBound.su {G : List Nd} {N : Nat} (h : gBound G N) (k : KV) (v : KV) : gBound (gSu G k v) (N + 1) := by
  unfold gSu
  refine ⟨by rw [List.length_map]; have := h.1; lia, fun g hg => ?_⟩
  obtain ⟨a, ha, rfl⟩ := List.mem_map.mp hg
  have := h.2 a ha
  split
  · simp; lia
  · lia
theorem gBound.fold {G : List Nd} {N : Nat} (h : gBound G N) (v : KV) : ∀ preds : List KV, gBound (preds.foldl (fun G p => gAdd1 G v p) G) (N + 2 * preds.length) := by
  intro preds
  induction preds generalizing G N with
  | nil => exact h
  | cons p r ih =>
    rw [List.foldl_cons]
    exact (ih ((h.get p).su p v)).le (by simp; lia)
theorem gBound.add {G : List Nd} {N : Nat} (h : gBound G N) (k : KV) (preds : List KV) : gBound (gAdd G k preds) (N + 1 + 2 * preds.length) := ((h.get k).np k _).fold k preds
theorem gGet_len (G : List Nd) (k : KV) : (gGet G k).length ≤ G.length + 1 := by unfold gGet; split <;> simp

theorem f_add {X : Cx} (C : C1 X) {A : Around} {σ0 σ : St} {E : Value → Shared → Prop} {x dx d : Addr} {D : List NdA} {po fi : Int} (k : KV) (preds : List KV) (hB : SortB σ0 σ x dx d D .none po fi) {N : Nat} (hN : gBound (D.map NdA.nd) N) (hNz : N + 2 * preds.length + 2 ≤ 2 ^ 20) (hA : OkA A 7) :
    CC X A (.ref 87) (.ref x :: k.pv :: preds.map KV.pv) σ (fun v σ' => v = .none ∧ ∃ D', SortB σ0 σ' x dx d D' .none po fi ∧ D'.map NdA.nd = gAdd (D.map NdA.nd) k preds) E := by
  refine call_starC (k := 6) (rest := preds.map KV.pv) (bs := fun t => [("predecessors", .ref t), ("node", k.pv), ("self", .ref x)]) hA (C.def rfl (by kernel_rfl)) rfl rfl rfl rfl (by decide) (by simp [sizeLine_eq]; lia) ?_ fun t L ht hL => ?_
  · intro vs hv
    obtain ⟨v1, r, rfl, h1, h2⟩ := List.map_eq_cons_iff.mp hv
    obtain ⟨v2, rs, rfl, h3, h4⟩ := List.map_eq_cons_iff.mp h2
    exact ⟨[("self", v1), ("node", v2)], "predecessors", rs, by cases rs <;> rfl, h4, fun t => by rw [← h1, ← h3]; rfl, rfl, by
      intro p hp
      simp only [List.mem_cons, List.not_mem_nil, or_false] at hp
      rcases hp with rfl | rfl <;> rfl⟩
  intro ev Ad
  have hA1 := okA_deeper hA
  have hh : ∀ env, (A.deeper env).handled = none := fun _ => hA.handled
  have DS := dcls_sort C
  have SN := scls_node C
  have hB1 := hB.addBase (.tuple (preds.map KV.pv)) ht
  have hl0 : σ0.le (σ0.set t (.tuple (preds.map KV.pv))) := St.le_set (hB.fresh0 ht)
  have htup : ∀ {τ : St}, (σ0.set t (.tuple (preds.map KV.pv))).le τ → HasTup X t (preds.map KV.pv) τ := fun h => .own (h _ _ (St.set_self ..))
  generalize σ0.set t (.tuple (preds.map KV.pv)) = σ1 at hB1 hl0 htup
  have hlen : D.length ≤ N := by have := hN.1; rwa [List.length_map] at this
  repeat walk_at "sl"
  refine WS.ifK ?_
  repeat walk_at "sl"
  refine WG.own DS (by rw [C.K]; kernel_rfl) hB1.hx hB1.hdx rfl rfl ?_
  repeat walk_at "sl"
  refine itF (by decide) ?_
  repeat walk_at "sl"
  refine WM.inst DS (m := 80) (by rw [C.K]; kernel_rfl) (by rw [C.K]; kernel_rfl) hB1.hx hB1.hdx rfl ?_
  repeat walk_at "sl"
  refine WC.ofM (f_getinfo C k hB1 (by lia) ((hA1 _).le (by decide))) (hid2 fun Kz hKz => ?_)
  rintro v σ2 ⟨D2, g, rfl, hg, rfl, hB2, hG2⟩
  refine hKz _ _ ?_
  have g2 := hB2.ok g hg
  have hlen2 : D2.length ≤ D.length + 1 := by
    have := congrArg List.length hG2
    rw [List.length_map] at this
    have h3 := gGet_len (D.map NdA.nd) g.k
    rw [List.length_map] at h3
    lia
  repeat walk_at "sl"
  refine WG.slot SN (sl_np C) g2.1 g2.2.1 rfl rfl ?_
  repeat walk_at "sl"
  refine WC.lenTup (htup hB2.base) (by simp; lia) ?_
  repeat walk_at "sl"
  refine WU2.setSlot SN (sl_np C) (by decide) g2.1 g2.2.1 ?_
  have hB3 := hB2.setNp hg (g.np + ((preds.map KV.pv).length : Int))
  have hN3 : (D2.map fun h => if h.k = g.k then { h with np := g.np + ((preds.map KV.pv).length : Int) } else h).map NdA.nd = gNp (gGet (D.map NdA.nd) g.k) g.k (· + preds.length) := by
    rw [← hG2]
    unfold gNp
    rw [List.map_map, List.map_map]
    refine List.map_congr_left fun a ha => ?_
    simp only [Function.comp, NdA.nd]
    by_cases q : a.k = g.k
    · have := nodup_inj hB2.keys ha hg q
      subst this
      simp
    · simp [q]
  have hl3 : (D2.map fun h => if h.k = g.k then { h with np := g.np + ((preds.map KV.pv).length : Int) } else h).length ≤ D.length + 1 := by rw [List.length_map]; exact hlen2
  show WB X _ _ _ _ (σ2.set g.n (.inst 40 g.dn [some g.k.pv, some (.int (g.np + ((preds.map KV.pv).length : Int))), some (.ref g.s)])) _ _
  generalize (D2.map fun h => if h.k = g.k then { h with np := g.np + ((preds.map KV.pv).length : Int) } else h) = D3 at hB3 hN3 hl3
  generalize σ2.set g.n (.inst 40 g.dn [some g.k.pv, some (.int (g.np + ((preds.map KV.pv).length : Int))), some (.ref g.s)]) = σ3 at hB3 ⊢
  repeat walk_at "sl"
  refine WIter.forG (x := .ref t) (hh _) (srcOf_tup (xs := preds.map KV.pv) (hh _)) (fun i fr σ' => fr = ([("predecessors", .ref t), ("node", g.k.pv), ("self", .ref x), ("nodeinfo", .ref g.n)] : Fm) ∧ ∃ Di, SortB σ1 σ' x dx d Di .none po fi ∧ Di.map NdA.nd = (preds.take i).foldl (fun G p => gAdd1 G g.k p) (gNp (gGet (D.map NdA.nd) g.k) g.k (· + preds.length))) ?_ ?_ ?_ ?_ ?_
  · exact fun _ => LetOk.name
  · rintro i fr σ' ⟨_, Di, hBi, _⟩; exact htup hBi.base
  · exact ⟨rfl, D3, hB3, hN3⟩
  · rintro i K2 hK2 y fr σ4 hy ⟨rfl, D4, hB4, hN4⟩
    rw [List.getElem?_map] at hy
    obtain ⟨p, hp, rfl⟩ := Option.map_eq_some_iff.mp hy
    have hi : i < preds.length := (List.getElem?_eq_some_iff.mp hp).1
    have hb4 : gBound (D4.map NdA.nd) (N + 1 + 2 * i) := by
      rw [hN4]
      exact (((hN.get g.k).np g.k _).fold _ _).le (by rw [List.length_take]; lia)
    have hl4 : D4.length ≤ N + 1 + 2 * i := by have := hb4.1; rwa [List.length_map] at this
    repeat walk_at "sl"
    refine WM.inst DS (m := 80) (by rw [C.K]; kernel_rfl) (by rw [C.K]; kernel_rfl) hB4.hx hB4.hdx rfl ?_
    repeat walk_at "sl"
    refine WC.ofM (f_getinfo C p hB4 (by lia) ((hA1 _).le (by decide))) (hid2 fun Kz hKz => ?_)
    rintro v σ5 ⟨D5, g5, rfl, hg5, rfl, hB5, hG5⟩
    refine hKz _ _ ?_
    have q5 := hB5.ok g5 hg5
    repeat walk_at "sl"
    refine WG.slot SN (sl_succ C) q5.1 q5.2.1 rfl rfl ?_
    refine WM.append q5.2.2 ?_
    repeat walk_at "sl"
    have hb5 : gBound (D5.map NdA.nd) (N + 1 + 2 * i + 1) := by rw [hG5]; exact hb4.get _
    have hs5 : g5.succ.length ≤ N + 1 + 2 * i + 1 := hb5.2 g5.nd (List.mem_map.mpr ⟨g5, hg5, rfl⟩)
    refine WC.append q5.2.2 (by rw [sizeLine_eq, List.length_map]; lia) ?_
    rw [show g5.succ.map KV.pv ++ [g.k.pv] = (g5.succ ++ [g.k]).map KV.pv from by simp]
    refine WB.nil ?_
    repeat (first | refine hK4 _ _ _ ?_ | refine hK3 _ _ _ ?_ | refine hK2 _ _ _ ?_ | refine hK1 _ _ _ ?_ | walk_at "sl")
    refine ⟨[("predecessors", .ref t), ("node", g.k.pv), ("self", .ref x), ("nodeinfo", .ref g.n)], _, by repeat' (first | exact Fm.nil_le _ | (refine Fm.le_cons ?_ ?_; rfl)), St.le_refl _, rfl, _, hB5.setSu hg5 g.k, ?_⟩
    rw [nd_setSu, hG5, hN4, take_succ_get hp, List.foldl_append]
    rfl
  · refine hid2 fun Kz hKz => ?_
    rintro fr σ' ⟨rfl, Di, hBi, hNi⟩
    refine hKz _ _ ?_
    refine WB.nil (WB.nil ⟨rfl, Di, hBi.lessBase hl0, ?_⟩)
    rw [hNi, List.length_map, List.take_of_length_le (Nat.le_refl _)]
    rfl

end
section

structure SortR (σ0 σ : St) (x dx d : Addr) (D : List NdA) (r : Addr) (R : List KV) (po fi : Int) : Prop where
  b : SortB σ0 σ x dx d D (.ref r) po fi
  hr : σ r = some (.list (R.map KV.pv))
  fr : σ0 r = none
  nr : ∀ g ∈ D, g.s ≠ r
theorem f_isActive {X : Cx} (C : C1 X) {A : Around} {σ0 σ : St} {E : Value → Shared → Prop} {x dx d r : Addr} {D : List NdA} {R : List KV} {po fi : Int} (hR : SortR σ0 σ x dx d D r R po fi) (hz : R.length ≤ 2 ^ 20) (hA : OkA A 3) :
    CW X A (.ref 106) [.ref x] σ (fun v σ' => v = .bool (decide (fi < po) || R.length != 0) ∧ σ' = σ) E := by
  refine .weak (call_plainW (k := 2) hA (C.def rfl (by kernel_rfl)) rfl rfl rfl rfl (by decide) (binds1 (fun a => rfl) rfl) fun L hL => ?_)
  intro ev Ad
  have hA1 := okA_deeper hA
  have DS := dcls_sort C
  have hB := hR.b
  (first | refine WB.gK ?_ | refine WT.gK ?_ | refine WS.gK ?_); intro K1 hK1
  repeat walk_at "sl"
  refine WS.ifK ?_
  repeat walk_at "sl"
  refine WG.own DS (by rw [C.K]; kernel_rfl) hB.hx hB.hdx rfl rfl ?_
  repeat walk_at "sl"
  refine itF (by simp) ?_
  repeat walk_at "sl"
  refine WE.or2 ?_
  repeat walk_at "sl"
  refine WG.own DS (by rw [C.K]; kernel_rfl) hB.hx hB.hdx rfl rfl ?_
  repeat walk_at "sl"
  refine WG.own DS (by rw [C.K]; kernel_rfl) hB.hx hB.hdx rfl rfl ?_
  repeat (first | walk_at "sl" | with_reducible refine W2.ltI ?_)
  by_cases q : fi < po
  · refine itT (by simpa using q) ?_
    repeat (first | refine hK4 _ _ _ ?_ | refine hK3 _ _ _ ?_ | refine hK2 _ _ _ ?_ | refine hK1 _ _ _ ?_ | walk_at "sl")
    exact ⟨σ, St.le_refl _, by simp [retOf, q], rfl⟩
  · refine itF (by simpa using q) ?_
    repeat walk_at "sl"
    refine WG.own DS (by rw [C.K]; kernel_rfl) hB.hx hB.hdx rfl rfl ?_
    repeat walk_at "sl"
    refine WC.boolL hR.hr (by rw [List.length_map]; lia) ?_
    repeat (first | refine hK4 _ _ _ ?_ | refine hK3 _ _ _ ?_ | refine hK2 _ _ _ ?_ | refine hK1 _ _ _ ?_ | walk_at "sl")
    exact ⟨σ, St.le_refl _, by simp [retOf, q], rfl⟩
theorem SortR.mono {σ0 σ τ : St} {x dx d r : Addr} {D : List NdA} {R : List KV} {po fi : Int} (h : SortR σ0 σ x dx d D r R po fi) (hk : σ.le τ) : SortR σ0 τ x dx d D r R po fi := ⟨h.b.mono hk, hk _ _ h.hr, h.fr, h.nr⟩
theorem SortR.addBase {σ0 σ : St} {x dx d r : Addr} {D : List NdA} {R : List KV} {po fi : Int} (h : SortR σ0 σ x dx d D r R po fi) {t : Addr} (o : AO) (ht : σ t = none) : SortR (σ0.set t o) (σ.set t o) x dx d D r R po fi :=
  ⟨h.b.addBase o ht, St.le_set ht _ _ h.hr, by rw [St.set_ne _ (St.ne_of h.hr ht)]; exact h.fr, h.nr⟩
theorem SortR.setNp {σ0 σ : St} {x dx d r : Addr} {D : List NdA} {R : List KV} {po fi : Int} (h : SortR σ0 σ x dx d D r R po fi) {g : NdA} (hg : g ∈ D) (v : Int) :
    SortR σ0 (σ.set g.n (.inst 40 g.dn [some g.k.pv, some (.int v), some (.ref g.s)])) x dx d (D.map fun h => if h.k = g.k then { h with np := v } else h) r R po fi := by
  refine ⟨h.b.setNp hg v, by rw [St.set_ne _ (ne_ob h.hr (h.b.ok g hg).1 (fun e => nomatch e))]; exact h.hr, h.fr, fun a ha => ?_⟩
  obtain ⟨b, hb, rfl⟩ := List.mem_map.mp ha
  split <;> exact h.nr b hb
theorem SortR.setR {σ0 σ : St} {x dx d r : Addr} {D : List NdA} {R R' : List KV} {po fi : Int} (h : SortR σ0 σ x dx d D r R po fi) : SortR σ0 (σ.set r (.list (R'.map KV.pv))) x dx d D r R' po fi := by
  have ne : ∀ a o, σ a = some o → a ≠ r → (σ.set r (.list (R'.map KV.pv))) a = some o := fun a o e hn => by rw [St.set_ne _ hn]; exact e
  have hb := h.b
  exact ⟨{ hb with hx := ne _ _ hb.hx (ne_ob hb.hx h.hr (fun e => nomatch e)), hdx := ne _ _ hb.hdx (ne_ob hb.hdx h.hr (fun e => nomatch e)), hd := ne _ _ hb.hd (ne_ob hb.hd h.hr (fun e => nomatch e)),
                   ok := fun g hg => ⟨ne _ _ (hb.ok g hg).1 (ne_ob (hb.ok g hg).1 h.hr (fun e => nomatch e)), ne _ _ (hb.ok g hg).2.1 (ne_ob (hb.ok g hg).2.1 h.hr (fun e => nomatch e)), ne _ _ (hb.ok g hg).2.2 (h.nr g hg)⟩,
                   base := fun a o e => ne _ _ (hb.base _ _ e) (fun q => by subst q; rw [h.fr] at e; cases e) }, St.set_self .., h.fr, h.nr⟩
theorem SortR.setF {σ0 σ : St} {x dx d r : Addr} {D : List NdA} {R : List KV} {po fi po' fi' : Int} (h : SortR σ0 σ x dx d D r R po fi) : SortR σ0 (σ.set dx (.flds (sFlds d (.ref r) po' fi'))) x dx d D r R po' fi' := by
  have hb := h.b
  have ne : ∀ a o, σ a = some o → o ≠ .flds (sFlds d (.ref r) po fi) → (σ.set dx (.flds (sFlds d (.ref r) po' fi'))) a = some o := fun a o e hn => by rw [St.set_ne _ (ne_ob e hb.hdx hn)]; exact e
  exact ⟨{ hb with hx := ne _ _ hb.hx (fun e => nomatch e), hdx := St.set_self .., hd := ne _ _ hb.hd (fun e => nomatch e),
                   ok := fun g hg => ⟨ne _ _ (hb.ok g hg).1 (fun e => nomatch e), ne _ _ (hb.ok g hg).2.1 (fun e => by injection e with e; cases e), ne _ _ (hb.ok g hg).2.2 (fun e => nomatch e)⟩,
                   base := fun a o e => by
                     have := hb.base _ _ e
                     rw [St.set_ne _ (fun q => by subst q; rw [hb.fdx] at e; cases e)]; exact this }, ne _ _ h.hr (fun e => nomatch e), h.fr, h.nr⟩
theorem SortB.find {σ0 σ : St} {x dx d : Addr} {D : List NdA} {rdy : PV} {po fi : Int} (h : SortB σ0 σ x dx d D rdy po fi) {k : KV} (hk : k ∈ (D.map NdA.nd).map (·.k)) : ∃ g ∈ D, g.k = k ∧ kvAt (dKv D) k = some (.ref g.n) := by
  rw [List.map_map] at hk
  obtain ⟨g, hg, rfl⟩ := List.mem_map.mp hk
  exact ⟨g, hg, rfl, kvAt_dKv_some h.keys hg⟩
theorem gNp_keys (G : List Nd) (k : KV) (f : Int → Int) : (gNp G k f).map (·.k) = G.map (·.k) := by
  unfold gNp; rw [List.map_map]; exact List.map_congr_left fun a _ => by simp only [Function.comp]; split <;> rfl
noncomputable def gOut (G : List Nd) (ks : List KV) : List Nd := ks.foldl (fun G k => gNp G k (fun _ => -1)) G
theorem gOut_keys (ks : List KV) : ∀ G : List Nd, (gOut G ks).map (·.k) = G.map (·.k) := by
  unfold gOut
  induction ks with
  | nil => intro G; rfl
  | cons k r ih => intro G; rw [List.foldl_cons, ih, gNp_keys]
theorem f_getReady {X : Cx} (C : C1 X) {A : Around} {σ0 σ : St} {E : Value → Shared → Prop} {x dx d r : Addr} {D : List NdA} {R : List KV} {po fi : Int} (hR : SortR σ0 σ x dx d D r R po fi) (hz : R.length ≤ 2 ^ 20) (hk : ∀ k ∈ R, k ∈ (D.map NdA.nd).map (·.k)) (hA : OkA A 4) :
    CW X A (.ref 99) [.ref x] σ (fun v σ' => ∃ t D', v = .ref t ∧ σ t = none ∧ SortR (σ0.set t (.tuple (R.map KV.pv))) σ' x dx d D' r [] (po + R.length) fi ∧ D'.map NdA.nd = gOut (D.map NdA.nd) R) E := by
  refine .weak (call_plainW (k := 3) hA (C.def rfl (by kernel_rfl)) rfl rfl rfl rfl (by decide) (binds1 (fun a => rfl) rfl) fun L hL => ?_)
  intro ev Ad
  have hA1 := okA_deeper hA
  have hh : ∀ env, (A.deeper env).handled = none := fun _ => hA.handled
  have DS := dcls_sort C
  have SN := scls_node C
  have hB := hR.b
  (first | refine WB.gK ?_ | refine WT.gK ?_ | refine WS.gK ?_); intro K1 hK1
  repeat walk_at "sl"
  refine WS.ifK ?_
  repeat walk_at "sl"
  refine WG.own DS (by rw [C.K]; kernel_rfl) hB.hx hB.hdx rfl rfl ?_
  repeat walk_at "sl"
  refine itF (by simp) ?_
  repeat walk_at "sl"
  refine WG.own DS (by rw [C.K]; kernel_rfl) hB.hx hB.hdx rfl rfl ?_
  repeat walk_at "sl"
  refine WC.tupleL hR.hr (by rw [List.length_map, sizeLine_eq]; lia) fun t ht htL => ?_
  have hR1 := hR.addBase (.tuple (R.map KV.pv)) ht
  have htup : ∀ {τ : St}, (σ0.set t (.tuple (R.map KV.pv))).le τ → HasTup X t (R.map KV.pv) τ := fun h => .own (h _ _ (St.set_self ..))
  generalize hσ1 : σ0.set t (.tuple (R.map KV.pv)) = σ1 at hR1 htup
  generalize σ.set t (.tuple (R.map KV.pv)) = σ2 at hR1
  repeat walk_at "sl"
  refine WG.own DS (by rw [C.K]; kernel_rfl) hR1.b.hx hR1.b.hdx rfl rfl ?_
  repeat walk_at "sl"
  refine WIter.forG (x := .ref t) (hh _) (srcOf_tup (xs := R.map KV.pv) (hh _)) (fun i fr σ' => fr = ([("self", .ref x), ("result", .ref t), ("n2i", .ref d)] : Fm) ∧ ∃ Di, SortR σ1 σ' x dx d Di r R po fi ∧ Di.map NdA.nd = gOut (D.map NdA.nd) (R.take i)) ?_ ?_ ?_ ?_ ?_
  · exact fun _ => LetOk.name
  · rintro i fr σ' ⟨_, Di, hBi, _⟩; exact htup hBi.b.base
  · exact ⟨rfl, D, hR1, rfl⟩
  · rintro i K2 hK2 y fr σ4 hy ⟨rfl, D4, hB4, hN4⟩
    rw [List.getElem?_map] at hy
    obtain ⟨p, hp, rfl⟩ := Option.map_eq_some_iff.mp hy
    have hpm : p ∈ (D4.map NdA.nd).map (·.k) := by rw [hN4, gOut_keys]; exact hk p (List.mem_of_getElem? hp)
    obtain ⟨g, hg, rfl, hkv⟩ := hB4.b.find hpm
    have q := hB4.b.ok g hg
    repeat walk_at "sl"
    refine WI.dict (.own hB4.b.hd) hkv ?_ (fun _ _ => rfl) (fun _ _ => rfl)
    refine WU2.setSlot SN (sl_np C) (by decide) q.1 q.2.1 ?_
    refine WB.nil ?_
    repeat (first | refine hK4 _ _ _ ?_ | refine hK3 _ _ _ ?_ | refine hK2 _ _ _ ?_ | refine hK1 _ _ _ ?_ | walk_at "sl")
    refine ⟨[("self", .ref x), ("result", .ref t), ("n2i", .ref d)], _, by repeat' (first | exact Fm.nil_le _ | (refine Fm.le_cons ?_ ?_; rfl)), St.le_refl _, rfl, _, hB4.setNp hg (-1), ?_⟩
    rw [nd_setNp, hN4, take_succ_get hp]
    unfold gOut
    rw [List.foldl_append]
    rfl
  · refine hid2 fun Kz hKz => ?_
    rintro fr σ' ⟨rfl, Di, hBi, hNi⟩
    refine hKz _ _ ?_
    rw [List.length_map, List.take_of_length_le (Nat.le_refl _)] at hNi
    repeat walk_at "sl"
    refine WG.own DS (by rw [C.K]; kernel_rfl) hBi.b.hx hBi.b.hdx rfl rfl ?_
    refine WM.clear hBi.hr ?_
    repeat walk_at "sl"
    refine WC.clear hBi.hr (by rw [List.length_map, sizeLine_eq]; lia) ?_
    have hB5 := hBi.setR (R' := [])
    repeat walk_at "sl"
    refine WG.own DS (by rw [C.K]; kernel_rfl) hB5.b.hx hB5.b.hdx rfl rfl ?_
    repeat walk_at "sl"
    refine WC.lenTup (htup hB5.b.base) (by rw [List.length_map]; lia) ?_
    repeat walk_at "sl"
    refine WU2.setOwn (x := x) (dx := dx) DS (by rw [C.K]; kernel_rfl) hB5.b.hx hB5.b.hdx (of_decide_eq_true rfl) ?_
    have hB6 := hB5.setF (po' := po + ((R.map KV.pv).length : Int)) (fi' := fi)
    repeat walk_at "sl"
    repeat (first | refine hK4 _ _ _ ?_ | refine hK3 _ _ _ ?_ | refine hK2 _ _ _ ?_ | refine hK1 _ _ _ ?_ | walk_at "sl")
    refine ⟨_, St.le_refl _, t, Di, rfl, ht, ?_, hNi⟩
    rw [hσ1]
    have e : po + ((R.map KV.pv).length : Int) = po + R.length := by rw [List.length_map]
    rw [← e]
    exact hB6

noncomputable def npAt (G : List Nd) (k : KV) : Int := ((G.find? fun g => g.k = k).map (·.np)).getD 0
noncomputable def suAt (G : List Nd) (k : KV) : List KV := ((G.find? fun g => g.k = k).map (·.succ)).getD []
noncomputable def gDec (st : List Nd × List KV) (s : KV) : List Nd × List KV := (gNp st.1 s (· - 1), if npAt st.1 s - 1 = 0 then st.2 ++ [s] else st.2)
noncomputable def gDone1 (st : List Nd × List KV) (k : KV) : List Nd × List KV := (suAt st.1 k).foldl gDec (gNp st.1 k (fun _ => -2), st.2)
noncomputable def doneOk : List Nd × List KV → List KV → Prop
  | _, [] => True
  | st, k :: r => (k ∈ st.1.map (·.k) ∧ npAt st.1 k = -1) ∧ doneOk (gDone1 st k) r
noncomputable def gClosed (G : List Nd) : Prop := ∀ g ∈ G, ∀ s ∈ g.succ, s ∈ G.map (·.k)
theorem find_nd {D : List NdA} (hn : (D.map (·.k)).Nodup) {g : NdA} (hg : g ∈ D) : (D.map NdA.nd).find? (fun a => a.k = g.k) = some g.nd := by
  induction D with
  | nil => cases hg
  | cons h D ih =>
    rw [List.map_cons, List.nodup_cons] at hn
    rw [List.map_cons, List.find?_cons]
    rcases List.mem_cons.mp hg with rfl | hg
    · simp [NdA.nd]
    · have : ¬ h.nd.k = g.k := fun e => hn.1 (List.mem_map.mpr ⟨g, hg, e.symm⟩)
      simp only [this, decide_false]
      exact ih hn.2 hg
theorem npAt_nd {D : List NdA} (hn : (D.map (·.k)).Nodup) {g : NdA} (hg : g ∈ D) : npAt (D.map NdA.nd) g.k = g.np := by unfold npAt; rw [find_nd hn hg]; rfl
theorem suAt_nd {D : List NdA} (hn : (D.map (·.k)).Nodup) {g : NdA} (hg : g ∈ D) : suAt (D.map NdA.nd) g.k = g.succ := by unfold suAt; rw [find_nd hn hg]; rfl
theorem gDec_keys (st : List Nd × List KV) (s : KV) : (gDec st s).1.map (·.k) = st.1.map (·.k) := gNp_keys st.1 s (fun x => x - 1)
theorem gDecs_keys (l : List KV) : ∀ st : List Nd × List KV, (l.foldl gDec st).1.map (·.k) = st.1.map (·.k) := by
  induction l with
  | nil => intro st; rfl
  | cons k r ih => intro st; rw [List.foldl_cons, ih, gDec_keys]
theorem gDone1_keys (st : List Nd × List KV) (k : KV) : (gDone1 st k).1.map (·.k) = st.1.map (·.k) := by unfold gDone1; rw [gDecs_keys, gNp_keys]
theorem gNp_succ (G : List Nd) (k : KV) (f : Int → Int) : (gNp G k f).map (·.succ) = G.map (·.succ) := by
  unfold gNp; rw [List.map_map]; exact List.map_congr_left fun a _ => by simp only [Function.comp]; split <;> rfl
theorem gDecs_succ (l : List KV) : ∀ st : List Nd × List KV, (l.foldl gDec st).1.map (·.succ) = st.1.map (·.succ) := by
  induction l with
  | nil => intro st; rfl
  | cons k r ih => intro st; rw [List.foldl_cons, ih]; exact gNp_succ st.1 k (fun x => x - 1)
theorem gDone1_succ (st : List Nd × List KV) (k : KV) : (gDone1 st k).1.map (·.succ) = st.1.map (·.succ) := by unfold gDone1; rw [gDecs_succ, gNp_succ]
theorem gClosed.of {G G' : List Nd} (h : gClosed G) (h1 : G'.map (·.k) = G.map (·.k)) (h2 : G'.map (·.succ) = G.map (·.succ)) : gClosed G' := by
  intro g hg s hs
  rw [h1]
  have : g.succ ∈ G.map (·.succ) := by rw [← h2]; exact List.mem_map.mpr ⟨g, hg, rfl⟩
  obtain ⟨g', hg', e⟩ := List.mem_map.mp this
  exact h g' hg' s (by rw [e]; exact hs)
theorem gDec_rlen (l : List KV) : ∀ st : List Nd × List KV, (l.foldl gDec st).2.length ≤ st.2.length + l.length := by
  induction l with
  | nil => intro st; simp
  | cons k r ih =>
    intro st
    rw [List.foldl_cons]
    refine Nat.le_trans (ih _) ?_
    unfold gDec
    simp only [List.length_cons]
    split <;> simp <;> lia
noncomputable def gDones (st : List Nd × List KV) (ks : List KV) : List Nd × List KV := ks.foldl gDone1 st
theorem doneOk_at : ∀ {st : List Nd × List KV} {ks : List KV} {i : Nat} {k : KV}, doneOk st ks → ks[i]? = some k → k ∈ (gDones st (ks.take i)).1.map (·.k) ∧ npAt (gDones st (ks.take i)).1 k = -1
  | _, [], _, _, _, h => by simp at h
  | st, a :: r, 0, k, h, e => by simp at e; subst e; exact h.1
  | st, a :: r, i + 1, k, h, e => by
    rw [List.getElem?_cons_succ] at e
    have := doneOk_at h.2 e
    rw [List.take_succ_cons]
    exact this
theorem gDones_bound {G : List Nd} {R : List KV} {N : Nat} (hs : ∀ g ∈ G, g.succ.length ≤ N) (ks : List KV) : ∀ st : List Nd × List KV, st.1.map (·.succ) = G.map (·.succ) → (gDones st ks).2.length ≤ st.2.length + N * ks.length ∧ (gDones st ks).1.map (·.succ) = G.map (·.succ) ∧ (gDones st ks).1.map (·.k) = st.1.map (·.k) := by
  induction ks with
  | nil => intro st h; exact ⟨by simp [gDones], h, rfl⟩
  | cons k r ih =>
    intro st h
    have h1 := gDone1_succ st k
    obtain ⟨a, b, c⟩ := ih (gDone1 st k) (h1.trans h)
    have hl : (gDone1 st k).2.length ≤ st.2.length + N := by
      unfold gDone1
      refine Nat.le_trans (gDec_rlen _ _) ?_
      show st.2.length + _ ≤ _
      have : (suAt st.1 k).length ≤ N := by
        unfold suAt
        cases q : st.1.find? fun g => g.k = k with
        | none => simp
        | some g =>
          have hg := List.mem_of_find?_eq_some q
          have : g.succ ∈ G.map (·.succ) := by rw [← h]; exact List.mem_map.mpr ⟨g, hg, rfl⟩
          obtain ⟨g', hg', e⟩ := List.mem_map.mp this
          simp only [Option.map_some, Option.getD_some]
          rw [← e]; exact hs g' hg'
      lia
    refine ⟨?_, b, c.trans (gDone1_keys st k)⟩
    show (gDones (gDone1 st k) r).2.length ≤ _
    rw [List.length_cons, Nat.mul_succ]
    lia
theorem f_done {X : Cx} (C : C1 X) {A : Around} {σ0 σ : St} {E : Value → Shared → Prop} {x dx d r : Addr} {D : List NdA} {R : List KV} {po fi : Int} (ks : List KV) (hR : SortR σ0 σ x dx d D r R po fi) {N : Nat} (hN : ∀ g ∈ D, g.succ.length ≤ N) (hz : R.length + N * ks.length + ks.length + N ≤ 2 ^ 20) (hcl : gClosed (D.map NdA.nd))
    (hok : doneOk (D.map NdA.nd, R) ks) (hA : OkA A 5) :
    CC X A (.ref 120) (.ref x :: ks.map KV.pv) σ (fun v σ' => v = .none ∧ ∃ D', SortR σ0 σ' x dx d D' r (gDones (D.map NdA.nd, R) ks).2 po (fi + ks.length) ∧ D'.map NdA.nd = (gDones (D.map NdA.nd, R) ks).1) E := by
  refine call_starC (k := 4) (rest := ks.map KV.pv) (bs := fun t => [("nodes", .ref t), ("self", .ref x)]) hA (C.def rfl (by kernel_rfl)) rfl rfl rfl rfl (by decide) (by simp [sizeLine_eq]; lia) ?_ fun t L ht hL => ?_
  · intro vs hv
    obtain ⟨v1, rs, rfl, h1, h2⟩ := List.map_eq_cons_iff.mp hv
    exact ⟨[("self", v1)], "nodes", rs, by cases rs <;> rfl, h2, fun t => by rw [← h1]; rfl, rfl, by
      intro p hp
      simp only [List.mem_cons, List.not_mem_nil, or_false] at hp
      subst hp; rfl⟩
  intro ev Ad
  have hA1 := okA_deeper hA
  have hh : ∀ env, (A.deeper env).handled = none := fun _ => hA.handled
  have DS := dcls_sort C
  have SN := scls_node C
  have hR1 := hR.addBase (.tuple (ks.map KV.pv)) ht
  have hl0 : σ0.le (σ0.set t (.tuple (ks.map KV.pv))) := St.le_set (hR.b.fresh0 ht)
  have htup : ∀ {τ : St}, (σ0.set t (.tuple (ks.map KV.pv))).le τ → HasTup X t (ks.map KV.pv) τ := fun h => .own (h _ _ (St.set_self ..))
  generalize σ0.set t (.tuple (ks.map KV.pv)) = σ1 at hR1 hl0 htup
  generalize σ.set t (.tuple (ks.map KV.pv)) = σ2 at hR1 ⊢
  generalize hG : D.map NdA.nd = G at hcl hok ⊢
  have hNG : ∀ g ∈ G, g.succ.length ≤ N := by
    rw [← hG]; intro g hg
    obtain ⟨a, ha, rfl⟩ := List.mem_map.mp hg
    exact hN a ha
  repeat walk_at "sl"
  refine WS.ifK ?_
  repeat walk_at "sl"
  refine WG.own DS (by rw [C.K]; kernel_rfl) hR1.b.hx hR1.b.hdx rfl rfl ?_
  repeat walk_at "sl"
  refine itF (by simp) ?_
  repeat walk_at "sl"
  refine WG.own DS (by rw [C.K]; kernel_rfl) hR1.b.hx hR1.b.hdx rfl rfl ?_
  repeat walk_at "sl"
  refine WIter.forG (x := .ref t) (hh _) (srcOf_tup (xs := ks.map KV.pv) (hh _)) (fun i fr σ' => fr = ([("nodes", .ref t), ("self", .ref x), ("n2i", .ref d)] : Fm) ∧ ∃ Di, SortR σ1 σ' x dx d Di r (gDones (G, R) (ks.take i)).2 po (fi + i) ∧ Di.map NdA.nd = (gDones (G, R) (ks.take i)).1) ?_ ?_ ?_ ?_ ?_
  · exact fun _ => LetOk.name
  · rintro i fr σ' ⟨_, Di, hBi, _⟩; exact htup hBi.b.base
  · exact ⟨rfl, D, by simpa [gDones] using hR1, hG⟩
  · rintro i K2 hK2 y fr σ4 hy ⟨rfl, D4, hB4, hN4⟩
    rw [List.getElem?_map] at hy
    obtain ⟨p, hp, rfl⟩ := Option.map_eq_some_iff.mp hy
    have hi : i < ks.length := (List.getElem?_eq_some_iff.mp hp).1
    obtain ⟨o1, o2⟩ := doneOk_at hok hp
    obtain ⟨bnd, sc, kc⟩ := gDones_bound (R := R) hNG (ks.take i) (G, R) rfl
    rw [← hN4] at o1 o2
    obtain ⟨g, hg, rfl, hkv⟩ := hB4.b.find o1
    rw [npAt_nd hB4.b.keys hg] at o2
    have q := hB4.b.ok g hg
    repeat walk_at "sl"
    refine WS.ifK ?_
    repeat (first | walk_at "sl" | with_reducible refine WE.namedK ?_)
    refine WM.dictGet (.own hB4.b.hd) ?_
    repeat walk_at "sl"
    refine WC.dictGet (.own hB4.b.hd) ?_
    rw [hkv]
    repeat walk_at "sl"
    refine itF (by simp) ?_
    repeat walk_at "sl"
    refine WG.slot SN (sl_np C) q.1 q.2.1 rfl rfl ?_
    repeat walk_at "sl"
    refine WS.ifK ?_
    repeat (first | walk_at "sl" | with_reducible refine W2.neI ?_)
    refine itF (by rw [o2]; decide) ?_
    repeat walk_at "sl"
    refine WU2.setSlot SN (sl_np C) (by decide) q.1 q.2.1 ?_
    repeat walk_at "sl"
    generalize hst : gDones (G, R) (ks.take i) = st at hB4 hN4 bnd sc kc
    have hB5 := hB4.setNp hg (-2)
    have hN5 : (D4.map fun h => if h.k = g.k then { h with np := -2 } else h).map NdA.nd = gNp st.1 g.k (fun _ => -2) := by rw [nd_setNp, hN4]
    have hg5 : ({ g with np := -2 } : NdA) ∈ (D4.map fun h => if h.k = g.k then { h with np := -2 } else h) := List.mem_map.mpr ⟨g, hg, by simp⟩
    rw [show setSl [some g.k.pv, some (.int g.np), some (.ref g.s)] 1 (.int (-2)) = [some g.k.pv, some (.int (-2)), some (.ref g.s)] from rfl]
    generalize (D4.map fun h => if h.k = g.k then { h with np := -2 } else h) = D5 at hB5 hN5 hg5
    generalize σ4.set g.n (.inst 40 g.dn [some g.k.pv, some (.int (-2)), some (.ref g.s)]) = σ5 at hB5 ⊢
    have q5 := hB5.b.ok _ hg5
    have hgr := hB4.nr g hg
    have hsu : suAt st.1 g.k = g.succ := by rw [← hN4]; exact suAt_nd hB4.b.keys hg
    have hsl : g.succ.length ≤ N := by
      have : g.succ ∈ st.1.map (·.succ) := by rw [← hN4]; exact List.mem_map.mpr ⟨g.nd, List.mem_map.mpr ⟨g, hg, rfl⟩, rfl⟩
      rw [sc] at this
      obtain ⟨g', hg', e⟩ := List.mem_map.mp this
      rw [← e]; exact hNG g' hg'
    have hcl5 : gClosed (D5.map NdA.nd) := by
      rw [hN5]
      refine (hcl.of kc sc).of (gNp_keys _ _ _) (gNp_succ _ _ _)
    have hcg : ∀ s ∈ g.succ, s ∈ (D5.map NdA.nd).map (·.k) := fun s hs => hcl5 { g with np := -2 }.nd (List.mem_map.mpr ⟨_, hg5, rfl⟩) s hs
    refine WG.slot SN (sl_succ C) q5.1 q5.2.1 rfl rfl ?_
    refine WIter.forG (x := .ref g.s) (hh _) (srcOf_list (xs := g.succ.map KV.pv) (hh _)) (fun j fr σ' => fr = ([("nodes", .ref t), ("self", .ref x), ("n2i", .ref d), ("node", g.k.pv), ("nodeinfo", .ref g.n), ("stat", .int g.np)] : Fm) ∧ σ' g.s = some (.list (g.succ.map KV.pv)) ∧
      ∃ Dj, SortR σ1 σ' x dx d Dj r ((g.succ.take j).foldl gDec (gNp st.1 g.k (fun _ => -2), st.2)).2 po (fi + i) ∧ Dj.map NdA.nd = ((g.succ.take j).foldl gDec (gNp st.1 g.k (fun _ => -2), st.2)).1) ?_ ?_ ?_ ?_ ?_
    · exact fun _ => LetOk.name
    · rintro j fr σ' ⟨_, h, _⟩; exact h
    · exact ⟨rfl, q5.2.2, D5, hB5, hN5⟩
    · rintro j K3 hK3 y fr σ6 hy ⟨rfl, hgs, D6, hB6, hN6⟩
      rw [List.getElem?_map] at hy
      obtain ⟨p, hp2, rfl⟩ := Option.map_eq_some_iff.mp hy
      have hj : j < g.succ.length := (List.getElem?_eq_some_iff.mp hp2).1
      have hrl := gDec_rlen (g.succ.take j) (gNp st.1 g.k (fun _ => -2), st.2)
      generalize hs6 : (g.succ.take j).foldl gDec (gNp st.1 g.k (fun _ => -2), st.2) = s6 at hB6 hN6 hrl
      have hk6 : s6.1.map (·.k) = (D5.map NdA.nd).map (·.k) := by rw [← hs6, gDecs_keys, hN5]
      have hpm : p ∈ (D6.map NdA.nd).map (·.k) := by rw [hN6, hk6]; exact hcg p (List.mem_of_getElem? hp2)
      obtain ⟨g6, hg6, rfl, hkv6⟩ := hB6.b.find hpm
      have q6 := hB6.b.ok g6 hg6
      have hnp : npAt s6.1 g6.k = g6.np := by rw [← hN6]; exact npAt_nd hB6.b.keys hg6
      repeat walk_at "sl"
      refine WI.dict (.own hB6.b.hd) hkv6 ?_ (fun _ _ => rfl) (fun _ _ => rfl)
      repeat walk_at "sl"
      refine WG.slot SN (sl_np C) q6.1 q6.2.1 rfl rfl ?_
      repeat (first | walk_at "sl" | with_reducible refine W2.isub ?_)
      refine WU2.setSlot SN (sl_np C) (by decide) q6.1 q6.2.1 ?_
      have hB7 := hB6.setNp hg6 (g6.np - 1)
      have hN7 : (D6.map fun h => if h.k = g6.k then { h with np := g6.np - 1 } else h).map NdA.nd = gNp s6.1 g6.k (· - 1) := by
        rw [← hN6]
        unfold gNp
        rw [List.map_map, List.map_map]
        refine List.map_congr_left fun a ha => ?_
        simp only [Function.comp, NdA.nd]
        by_cases q : a.k = g6.k
        · have := nodup_inj hB6.b.keys ha hg6 q
          subst this
          simp
        · simp [q]
      have hg7 : ({ g6 with np := g6.np - 1 } : NdA) ∈ (D6.map fun h => if h.k = g6.k then { h with np := g6.np - 1 } else h) := List.mem_map.mpr ⟨g6, hg6, by simp⟩
      have hgs7 : (σ6.set g6.n (.inst 40 g6.dn [some g6.k.pv, some (.int (g6.np - 1)), some (.ref g6.s)])) g.s = some (.list (g.succ.map KV.pv)) := by rw [St.set_ne _ (ne_ob hgs q6.1 (fun e => nomatch e))]; exact hgs
      rw [show setSl [some g6.k.pv, some (.int g6.np), some (.ref g6.s)] 1 (.int (g6.np - 1)) = [some g6.k.pv, some (.int (g6.np - 1)), some (.ref g6.s)] from rfl]
      generalize (D6.map fun h => if h.k = g6.k then { h with np := g6.np - 1 } else h) = D7 at hB7 hN7 hg7
      generalize σ6.set g6.n (.inst 40 g6.dn [some g6.k.pv, some (.int (g6.np - 1)), some (.ref g6.s)]) = σ7 at hB7 hgs7 ⊢
      have q7 := hB7.b.ok _ hg7
      have estep : (g.succ.take (j + 1)).foldl gDec (gNp st.1 g.k (fun _ => -2), st.2) = gDec s6 g6.k := by rw [take_succ_get hp2, List.foldl_append, hs6]; rfl
      repeat walk_at "sl"
      refine WS.ifK ?_
      repeat walk_at "sl"
      refine WG.slot SN (sl_np C) q7.1 q7.2.1 rfl rfl ?_
      repeat walk_at "sl"
      by_cases q0 : g6.np - 1 = 0
      · refine itT (by simpa using q0) ?_
        repeat walk_at "sl"
        refine WG.own DS (by rw [C.K]; kernel_rfl) hB7.b.hx hB7.b.hdx rfl rfl ?_
        refine WM.append hB7.hr ?_
        repeat walk_at "sl"
        refine WC.append hB7.hr (by rw [List.length_map, sizeLine_eq]; rw [List.length_take] at hrl bnd; have := Nat.mul_le_mul_left N (Nat.min_le_right i ks.length); have := Nat.mul_le_mul_left N (Nat.min_le_left i ks.length); have h5 : N * min i ks.length ≤ N * ks.length := Nat.mul_le_mul_left N (Nat.min_le_right _ _); simp at hrl bnd; lia) ?_
        have hB8 := hB7.setR (R' := s6.2 ++ [g6.k])
        rw [show s6.2.map KV.pv ++ [g6.k.pv] = (s6.2 ++ [g6.k]).map KV.pv from by simp]
        repeat (first | refine hK4 _ _ _ ?_ | refine hK3 _ _ _ ?_ | refine hK2 _ _ _ ?_ | refine hK1 _ _ _ ?_ | walk_at "sl")
        refine ⟨[("nodes", .ref t), ("self", .ref x), ("n2i", .ref d), ("node", g.k.pv), ("nodeinfo", .ref g.n), ("stat", .int g.np)], _, by repeat' (first | exact Fm.nil_le _ | (refine Fm.le_cons ?_ ?_; rfl)), St.le_refl _, rfl, by rw [St.set_ne _ hgr]; exact hgs7, D7, ?_, ?_⟩
        · rw [estep]; unfold gDec; simp only [hnp, if_pos q0]; exact hB8
        · rw [estep]; unfold gDec; exact hN7
      · refine itF (by simpa using q0) ?_
        repeat (first | refine hK4 _ _ _ ?_ | refine hK3 _ _ _ ?_ | refine hK2 _ _ _ ?_ | refine hK1 _ _ _ ?_ | walk_at "sl")
        refine ⟨[("nodes", .ref t), ("self", .ref x), ("n2i", .ref d), ("node", g.k.pv), ("nodeinfo", .ref g.n), ("stat", .int g.np)], _, by repeat' (first | exact Fm.nil_le _ | (refine Fm.le_cons ?_ ?_; rfl)), St.le_refl _, rfl, hgs7, D7, ?_, ?_⟩
        · rw [estep]; unfold gDec; simp only [hnp, if_neg q0]; exact hB7
        · rw [estep]; unfold gDec; exact hN7
    · refine hid2 fun Kz hKz => ?_
      rintro fr σ6 ⟨rfl, hgs, D6, hB6, hN6⟩
      refine hKz _ _ ?_
      rw [List.length_map, List.take_of_length_le (Nat.le_refl _)] at hB6 hN6
      have estep : gDones (G, R) (ks.take (i + 1)) = gDone1 st g.k := by
        unfold gDones at hst ⊢
        rw [take_succ_get hp, List.foldl_append, hst]; rfl
      have e1 : g.succ.foldl gDec (gNp st.1 g.k (fun _ => -2), st.2) = gDone1 st g.k := by unfold gDone1; rw [hsu]
      rw [e1] at hB6 hN6
      repeat walk_at "sl"
      refine WG.own DS (by rw [C.K]; kernel_rfl) hB6.b.hx hB6.b.hdx rfl rfl ?_
      repeat walk_at "sl"
      refine WU2.setOwn (x := x) (dx := dx) DS (by rw [C.K]; kernel_rfl) hB6.b.hx hB6.b.hdx (of_decide_eq_true rfl) ?_
      have hB7 := hB6.setF (po' := po) (fi' := fi + i + 1)
      refine WB.nil ?_
      repeat (first | refine hK4 _ _ _ ?_ | refine hK3 _ _ _ ?_ | refine hK2 _ _ _ ?_ | refine hK1 _ _ _ ?_ | walk_at "sl")
      refine ⟨[("nodes", .ref t), ("self", .ref x), ("n2i", .ref d)], _, by repeat' (first | exact Fm.nil_le _ | (refine Fm.le_cons ?_ ?_; rfl)), St.le_refl _, rfl, D6, ?_, ?_⟩
      · rw [estep, show fi + ((i + 1 : Nat) : Int) = fi + i + 1 from by lia]; exact hB7
      · rw [estep]; exact hN6
  · refine hid2 fun Kz hKz => ?_
    rintro fr σ' ⟨rfl, Di, hBi, hNi⟩
    refine hKz _ _ ?_
    rw [List.length_map, List.take_of_length_le (Nat.le_refl _)] at hBi hNi
    repeat (first | refine hK4 _ _ _ ?_ | refine hK3 _ _ _ ?_ | refine hK2 _ _ _ ?_ | refine hK1 _ _ _ ?_ | walk_at "sl")
    refine ⟨rfl, Di, ⟨hBi.b.lessBase hl0, hBi.hr, hR.fr, hBi.nr⟩, hNi⟩

end
section
structure Inv (G : List Nd) (seen : KV → Bool) (st : List (KV × Nat)) (fin : List KV) : Prop where
  nd : (st.map (·.1)).Nodup
  sn : ∀ v, seen v = true ↔ v ∈ st.map (·.1) ∨ v ∈ fin
  dj : ∀ v ∈ st.map (·.1), v ∉ fin
  path : ∀ (i : Nat) u p w q, st[i]? = some (u, p) → st[i + 1]? = some (w, q) → 1 ≤ p ∧ (suAt G u)[p - 1]? = some w
  done : ∀ (i : Nat) u p (j : Nat) w, st[i]? = some (u, p) → j + 1 < p → (suAt G u)[j]? = some w → w ∈ fin
  topo : ∀ (k : Nat) v w, fin[k]? = some v → w ∈ suAt G v → w ∈ fin.take k
  ks : ∀ v, v ∈ st.map (·.1) ∨ v ∈ fin → v ∈ G.map (·.k)
noncomputable def Pend (G : List Nd) (st : List (KV × Nat)) (node : KV) : Prop := ∀ st' u p, st = st' ++ [(u, p)] → 1 ≤ p ∧ (suAt G u)[p - 1]? = some node
noncomputable def Settled (G : List Nd) (st : List (KV × Nat)) (fin : List KV) : Prop := ∀ st' u p, st = st' ++ [(u, p)] → ∀ (j : Nat) w, j < p → (suAt G u)[j]? = some w → w ∈ fin
theorem last_get {α : Type} (l : List α) (x : α) : (l ++ [x])[l.length]? = some x := by simp
theorem Inv.settle {G : List Nd} {seen : KV → Bool} {st : List (KV × Nat)} {fin : List KV} {node : KV} (h : Inv G seen st fin) (hp : Pend G st node) (hs : seen node = true) (hn : node ∉ st.map (·.1)) : Settled G st fin := by
  rintro st' u p rfl j w hj hw
  obtain ⟨h1, h2⟩ := hp st' u p rfl
  have hf : node ∈ fin := ((h.sn node).mp hs).resolve_left hn
  by_cases q : j + 1 < p
  · exact h.done st'.length u p j w (last_get _ _) q hw
  · have : j = p - 1 := by lia
    subst this
    rw [h2] at hw; cases hw; exact hf
theorem get_snoc {α : Type} {l : List α} {x y : α} {i : Nat} (h : (l ++ [x])[i]? = some y) : (i < l.length ∧ l[i]? = some y) ∨ (i = l.length ∧ x = y) := by
  rcases Nat.lt_or_ge i l.length with q | q
  · rw [List.getElem?_append_left q] at h; exact .inl ⟨q, h⟩
  · rw [List.getElem?_append_right q] at h
    have : i - l.length = 0 := by
      have := (List.getElem?_eq_some_iff.mp h).1
      simp at this; lia
    rw [this] at h
    exact .inr ⟨by lia, by simpa using h⟩
theorem Inv.push {G : List Nd} {seen : KV → Bool} {st : List (KV × Nat)} {fin : List KV} {node : KV} (h : Inv G seen st fin) (hp : Pend G st node) (hs : ¬ seen node = true) (hk : node ∈ G.map (·.k)) :
    Inv G (fun k' => seen k' || decide (k' = node)) (st ++ [(node, 0)]) fin ∧ Settled G (st ++ [(node, 0)]) fin := by
  have hno : ¬ (node ∈ st.map (·.1) ∨ node ∈ fin) := fun x => hs ((h.sn node).mpr x)
  refine ⟨⟨?_, ?_, ?_, ?_, ?_, h.topo, ?_⟩, ?_⟩
  · rw [List.map_append, List.nodup_append]
    refine ⟨h.nd, by simp, fun a ha b hb => ?_⟩
    simp at hb; subst hb
    exact fun e => hno (.inl (e ▸ ha))
  · intro v
    simp only [Bool.or_eq_true, decide_eq_true_eq, List.map_append, List.mem_append, h.sn v, List.map_cons, List.map_nil, List.mem_singleton]
    constructor
    · rintro ((a | a) | a)
      · exact .inl (.inl a)
      · exact .inr a
      · exact .inl (.inr a)
    · rintro ((a | a) | a)
      · exact .inl (.inl a)
      · exact .inr a
      · exact .inl (.inr a)
  · intro v hv
    rw [List.map_append, List.mem_append] at hv
    rcases hv with hv | hv
    · exact h.dj v hv
    · simp at hv; subst hv; exact fun q => hno (.inr q)
  · intro i u p w q h1 h2
    rcases get_snoc h1 with ⟨a1, a2⟩ | ⟨a1, a2⟩
    · rcases get_snoc h2 with ⟨b1, b2⟩ | ⟨b1, b2⟩
      · exact h.path i u p w q a2 b2
      · cases b2
        refine hp (st.take i) u p ?_
        have : st.length = i + 1 := b1.symm
        have e := take_succ_get a2
        rw [← this, List.take_length] at e
        exact e
    · have := (List.getElem?_eq_some_iff.mp h2).1
      simp at this; lia
  · intro i u p j w h1 h2 h3
    rcases get_snoc h1 with ⟨a1, a2⟩ | ⟨a1, a2⟩
    · exact h.done i u p j w a2 h2 h3
    · cases a2; lia
  · rintro v (hv | hv)
    · rw [List.map_append, List.mem_append] at hv
      rcases hv with hv | hv
      · exact h.ks v (.inl hv)
      · simp at hv; subst hv; exact hk
    · exact h.ks v (.inr hv)
  · intro st' u p e j w hj hw
    obtain ⟨_, e2⟩ := List.append_inj' e rfl
    simp at e2; obtain ⟨rfl, rfl⟩ := e2; lia
theorem Inv.step {G : List Nd} {seen : KV → Bool} {st : List (KV × Nat)} {fin : List KV} {u w : KV} {p : Nat} (h : Inv G seen (st ++ [(u, p)]) fin) (hs : Settled G (st ++ [(u, p)]) fin) (hw : (suAt G u)[p]? = some w) :
    Inv G seen (st ++ [(u, p + 1)]) fin ∧ Pend G (st ++ [(u, p + 1)]) w := by
  have em : (st ++ [(u, p + 1)]).map (·.1) = (st ++ [(u, p)]).map (·.1) := by simp
  refine ⟨⟨by rw [em]; exact h.nd, by rw [em]; exact h.sn, by rw [em]; exact h.dj, ?_, ?_, h.topo, by rw [em]; exact h.ks⟩, ?_⟩
  · intro i a b c e h1 h2
    rcases get_snoc h1 with ⟨a1, a2⟩ | ⟨a1, a2⟩
    · rcases get_snoc h2 with ⟨b1, b2⟩ | ⟨b1, b2⟩
      · exact h.path i a b c e (by rw [List.getElem?_append_left a1]; exact a2) (by rw [List.getElem?_append_left b1]; exact b2)
      · cases b2
        exact h.path i a b u p (by rw [List.getElem?_append_left a1]; exact a2) (by rw [b1]; exact last_get _ _)
    · have := (List.getElem?_eq_some_iff.mp h2).1
      simp at this; lia
  · intro i a b j c h1 h2 h3
    rcases get_snoc h1 with ⟨a1, a2⟩ | ⟨a1, a2⟩
    · exact h.done i a b j c (by rw [List.getElem?_append_left a1]; exact a2) h2 h3
    · cases a2
      exact hs st u p rfl j c (by lia) h3
  · intro st' a b e
    obtain ⟨_, e2⟩ := List.append_inj' e rfl
    simp at e2; obtain ⟨rfl, rfl⟩ := e2
    exact ⟨by lia, by simpa using hw⟩
theorem Inv.pop {G : List Nd} {seen : KV → Bool} {st : List (KV × Nat)} {fin : List KV} {u : KV} {p : Nat} (h : Inv G seen (st ++ [(u, p)]) fin) (hs : Settled G (st ++ [(u, p)]) fin) (hw : (suAt G u).length ≤ p) :
    Inv G seen st (fin ++ [u]) ∧ Settled G st (fin ++ [u]) := by
  have hnd := h.nd
  rw [List.map_append, List.nodup_append] at hnd
  refine ⟨⟨hnd.1, ?_, ?_, ?_, ?_, ?_, ?_⟩, ?_⟩
  · intro v
    rw [h.sn v, List.map_append, List.mem_append, List.mem_append]
    simp only [List.map_cons, List.map_nil, List.mem_singleton]
    constructor
    · rintro ((a | a) | a)
      · exact .inl a
      · exact .inr (.inr a)
      · exact .inr (.inl a)
    · rintro (a | a | a)
      · exact .inl (.inl a)
      · exact .inr a
      · exact .inl (.inr a)
  · intro v hv hf
    rw [List.mem_append] at hf
    rcases hf with hf | hf
    · exact h.dj v (by rw [List.map_append]; exact List.mem_append_left _ hv) hf
    · simp at hf; subst hf; exact hnd.2.2 v hv v (by simp) rfl
  · intro i a b c e h1 h2
    exact h.path i a b c e (by rw [List.getElem?_append_left (List.getElem?_eq_some_iff.mp h1).1]; exact h1) (by rw [List.getElem?_append_left (List.getElem?_eq_some_iff.mp h2).1]; exact h2)
  · intro i a b j c h1 h2 h3
    exact List.mem_append_left _ (h.done i a b j c (by rw [List.getElem?_append_left (List.getElem?_eq_some_iff.mp h1).1]; exact h1) h2 h3)
  · intro k v w h1 h2
    rcases get_snoc h1 with ⟨a1, a2⟩ | ⟨a1, a2⟩
    · rw [List.take_append_of_le_length (by lia)]
      exact h.topo k v w a2 h2
    · subst a2
      rw [List.take_append_of_le_length (by lia), a1, List.take_length]
      obtain ⟨j, hj⟩ := List.mem_iff_getElem?.mp h2
      exact hs st u p rfl j w (Nat.lt_of_lt_of_le (List.getElem?_eq_some_iff.mp hj).1 hw) hj
  · rintro v (hv | hv)
    · exact h.ks v (.inl (by rw [List.map_append]; exact List.mem_append_left _ hv))
    · rw [List.mem_append] at hv
      rcases hv with hv | hv
      · exact h.ks v (.inr hv)
      · simp at hv; subst hv; exact h.ks v (.inl (by simp))
  · rintro st' a b rfl j c hj hc
    by_cases q : j + 1 < b
    · exact List.mem_append_left _ (h.done st'.length a b j c (by simp) q hc)
    · have hp := h.path st'.length a b u p (by simp) (by simp)
      have : j = b - 1 := by lia
      subst this
      rw [hp.2] at hc; cases hc
      exact List.mem_append_right _ (by simp)
noncomputable def IsRing (G : List Nd) (ring : List KV) : Prop := ∃ l v, ring = l ++ [v] ∧ l.head? = some v ∧ l.Nodup ∧ (∀ x ∈ l, x ∈ G.map (·.k)) ∧ ∀ (k : Nat) a b, ring[k]? = some a → ring[k + 1]? = some b → b ∈ suAt G a
theorem Inv.ring {G : List Nd} {seen : KV → Bool} {st : List (KV × Nat)} {fin : List KV} {node : KV} (h : Inv G seen st fin) (hp : Pend G st node) {i : Nat} (hi : (st.map (·.1))[i]? = some node) : IsRing G ((st.map (·.1)).drop i ++ [node]) := by
  have hlt : i < (st.map (·.1)).length := (List.getElem?_eq_some_iff.mp hi).1
  refine ⟨(st.map (·.1)).drop i, node, rfl, ?_, h.nd.sublist (List.drop_sublist _ _), fun x hx => h.ks x (.inl (List.mem_of_mem_drop hx)), ?_⟩
  · rw [List.head?_drop, hi]
  · intro k a b h1 h2
    have hlen : ((st.map (·.1)).drop i).length = st.length - i := by simp
    rcases get_snoc h1 with ⟨a1, a2⟩ | ⟨a1, a2⟩
    · rw [List.getElem?_drop, List.getElem?_map] at a2
      obtain ⟨⟨ua, pa⟩, ha, rfl⟩ := Option.map_eq_some_iff.mp a2
      rcases get_snoc h2 with ⟨b1, b2⟩ | ⟨b1, b2⟩
      · rw [List.getElem?_drop, List.getElem?_map] at b2
        obtain ⟨⟨ub, pb⟩, hb, rfl⟩ := Option.map_eq_some_iff.mp b2
        exact List.mem_of_getElem? (h.path (i + k) ua pa ub pb ha (by rw [show i + k + 1 = i + (k + 1) from by lia]; exact hb)).2
      · subst b2
        have e : st.length = i + k + 1 := by simp at hlt; lia
        have e2 := take_succ_get ha
        rw [← e, List.take_length] at e2
        exact List.mem_of_getElem? (hp _ ua pa e2).2
    · have := (List.getElem?_eq_some_iff.mp h2).1
      simp at this; lia
noncomputable def unseen (G : List Nd) (seen : KV → Bool) : Nat := (G.map fun g => if seen g.k = true then 0 else g.succ.length + 1).sum
noncomputable def mu (G : List Nd) (seen : KV → Bool) (st : List (KV × Nat)) : Nat := 2 * unseen G seen + (st.map fun p => (suAt G p.1).length - p.2 + 1).sum
theorem sum_le' {f g : Nd → Nat} (h : ∀ a, f a ≤ g a) : ∀ G : List Nd, (G.map f).sum ≤ (G.map g).sum
  | [] => by simp
  | a :: G => by
    have := sum_le' h G
    have := h a
    simp only [List.map_cons, List.sum_cons]
    lia
theorem sum_gap {f g : Nd → Nat} {c : Nat} (h : ∀ a, f a ≤ g a) : ∀ {G : List Nd} {a : Nd}, a ∈ G → f a + c ≤ g a → (G.map f).sum + c ≤ (G.map g).sum
  | [], _, ha, _ => by cases ha
  | b :: G, a, ha, hc => by
    simp only [List.map_cons, List.sum_cons]
    rcases List.mem_cons.mp ha with e | ha
    · subst e
      have := sum_le' h G
      lia
    · have := sum_gap h ha hc
      have := h b
      lia
theorem unseen_add {G : List Nd} {seen : KV → Bool} {node : KV} (hk : node ∈ G.map (·.k)) (hs : ¬ seen node = true) : unseen G (fun k' => seen k' || decide (k' = node)) + ((suAt G node).length + 1) ≤ unseen G seen := by
  obtain ⟨g0, hg0, e0⟩ := List.mem_map.mp hk
  cases q : G.find? (fun g => g.k = node) with
  | none =>
    have := List.find?_eq_none.mp q g0 hg0
    simp [e0] at this
  | some g =>
    have hg := List.mem_of_find?_eq_some q
    have hgk : g.k = node := by simpa using List.find?_some q
    have hsu : suAt G node = g.succ := by unfold suAt; rw [q]; rfl
    rw [hsu]
    refine sum_gap (fun a => ?_) hg ?_
    · by_cases q : seen a.k = true
      · simp [q]
      · simp only [q, Bool.false_or]
        split <;> simp
    · simp [hgk, hs]
theorem mu_push {G : List Nd} {seen : KV → Bool} {st : List (KV × Nat)} {node : KV} (hk : node ∈ G.map (·.k)) (hs : ¬ seen node = true) : mu G (fun k' => seen k' || decide (k' = node)) (st ++ [(node, 0)]) ≤ mu G seen st := by
  have := unseen_add hk hs
  unfold mu
  simp only [List.map_append, List.sum_append, List.map_cons, List.map_nil, List.sum_cons, List.sum_nil]
  lia
theorem mu_step {G : List Nd} {seen : KV → Bool} {st : List (KV × Nat)} {u : KV} {p : Nat} (h : p < (suAt G u).length) : mu G seen (st ++ [(u, p + 1)]) < mu G seen (st ++ [(u, p)]) := by
  unfold mu; simp only [List.map_append, List.sum_append, List.map_cons, List.map_nil, List.sum_cons, List.sum_nil]; lia
theorem mu_pop {G : List Nd} {seen : KV → Bool} {st : List (KV × Nat)} {u : KV} {p : Nat} : mu G seen st < mu G seen (st ++ [(u, p)]) := by
  unfold mu; simp only [List.map_append, List.sum_append, List.map_cons, List.map_nil, List.sum_cons, List.sum_nil]; lia
theorem Inv.start (G : List Nd) : Inv G (fun _ => false) [] [] := ⟨by simp, by simp, by simp, by simp, by simp, by simp, by simp⟩

end
section

theorem St.set_apply (σ : St) (a b : Addr) (o : AO) : (σ.set a o) b = if b = a then some o else σ b := rfl
theorem WIter.pin {X : Cx} {A : Around} {L : Addr} {x : PV} {fr : Fm} {σ : St} {d : Addr} {kvs : List (KV × PV)} {Q : Value → Fm → St → Prop} {E : Value → Shared → Prop} (h : σ d = some (.dict kvs)) (hq : ∀ ob, OR X (.dict kvs) ob → WIter X A L x fr (σ.set d (.raw ob)) Q E) : WIter X A L x fr σ Q E :=
  fun v hv => W.pin h fun ob ho => hq ob ho v hv
theorem WB.unpin {X : Cx} {A : Around} {env : Env} {sts : List Stmt} {fr : Fm} {σ : St} {d : Addr} {kvs : List (KV × PV)} {ob : Obj} {Q : PF → Fm → St → Prop} {E : Value → Shared → Prop} (h : σ d = some (.raw ob)) (ho : OR X (.dict kvs) ob) (hq : WB X A env sts fr (σ.set d (.dict kvs)) Q E) : WB X A env sts fr σ Q E := W.unpin h ho hq
noncomputable def nsKv (vs : List KV) : List (KV × PV) := vs.zipIdx.map fun p => (p.1, .int p.2)
theorem nsKv_snoc (vs : List KV) (v : KV) : nsKv (vs ++ [v]) = nsKv vs ++ [(v, .int vs.length)] := by simp [nsKv, List.zipIdx_append]
theorem nsKv_mem {vs : List KV} {p : KV × PV} (h : p ∈ nsKv vs) : p.1 ∈ vs := by
  unfold nsKv at h
  obtain ⟨⟨a, i⟩, h1, rfl⟩ := List.mem_map.mp h
  exact List.mem_of_getElem? (List.mem_zipIdx_iff_getElem?.mp h1)
theorem kvAt_ns0 : ∀ {vs : List KV} (k : Nat), vs.Nodup → ∀ {i : Nat} {v : KV}, vs[i]? = some v → kvAt ((vs.zipIdx k).map fun p => (p.1, PV.int p.2)) v = some (.int (i + k : Nat))
  | [], _, _, _, _, h => by simp at h
  | w :: vs, k, hn, i, v, h => by
    rw [List.nodup_cons] at hn
    rw [List.zipIdx_cons, List.map_cons]
    unfold kvAt
    rw [List.find?_cons]
    cases i with
    | zero => simp at h; subst h; simp
    | succ i =>
      rw [List.getElem?_cons_succ] at h
      have hne : ¬ w = v := fun e => hn.1 (e ▸ List.mem_of_getElem? h)
      simp only [hne, decide_false]
      have := kvAt_ns0 (k + 1) hn.2 h
      unfold kvAt at this
      rw [this]
      congr 2; lia
theorem kvAt_ns {vs : List KV} (hn : vs.Nodup) {i : Nat} {v : KV} (h : vs[i]? = some v) : kvAt (nsKv vs) v = some (.int i) := kvAt_ns0 0 hn h
theorem kvAt_ns_none {vs : List KV} {v : KV} (h : v ∉ vs) : kvAt (nsKv vs) v = none := by
  unfold kvAt
  rw [Option.map_eq_none_iff, List.find?_eq_none]
  exact fun p hp e => h (of_decide_eq_true e ▸ nsKv_mem hp)
theorem kvPut_ns {vs : List KV} {v : KV} (h : v ∉ vs) : kvPut (nsKv vs) v (.int vs.length) = nsKv (vs ++ [v]) := by
  unfold kvPut
  rw [if_neg, nsKv_snoc]
  simp only [List.any_eq_true, decide_eq_true_eq, not_exists, not_and]
  exact fun p hp e => h (e ▸ nsKv_mem hp)
theorem kvDel_ns {vs : List KV} {v : KV} (h : v ∉ vs) : kvDel (nsKv (vs ++ [v])) v = nsKv vs := by
  unfold kvDel
  rw [nsKv_snoc, List.filter_append]
  simp only [List.filter_cons, ne_eq, not_true_eq_false, decide_false, Bool.false_eq_true, if_false, List.filter_nil, List.append_nil]
  exact List.filter_eq_self.mpr fun p hp => by simpa using fun e : p.1 = v => h (e ▸ nsKv_mem hp)
noncomputable def ucount (G : List Nd) (seen : KV → Bool) : Nat := (G.map fun g => if seen g.k = true then 0 else 1).sum
theorem ucount_add {G : List Nd} {seen : KV → Bool} {node : KV} (hk : node ∈ G.map (·.k)) (hs : ¬ seen node = true) : ucount G (fun k' => seen k' || decide (k' = node)) + 1 ≤ ucount G seen := by
  obtain ⟨g, hg, rfl⟩ := List.mem_map.mp hk
  refine sum_gap (fun a => ?_) hg ?_
  · by_cases q : seen a.k = true
    · simp [q]
    · simp only [q, Bool.false_or]
      split <;> simp
  · simp [hs]
noncomputable abbrev mwO (it : Addr) : AO := .raw (mwObj "list_iterator.__next__" (.ref it))
structure DLay (τ0 σ : St) (D : List NdA) (sk ik se ns : Addr) (st : List (KV × Nat)) (mi : List (Addr × Addr)) (seen : KV → Bool) (n : Nat) : Prop where
  base : τ0.le σ
  hsk : σ sk = some (.list ((st.map (·.1)).map KV.pv))
  hik : σ ik = some (.list (mi.map fun q => .ref q.1))
  hse : σ se = some (.set seen n)
  hns : σ ns = some (.dict (nsKv (st.map (·.1))))
  len : mi.length = st.length
  its : ∀ (i : Nat) m it v p, mi[i]? = some (m, it) → st[i]? = some (v, p) → σ m = some (mwO it) ∧ ∃ g ∈ D, g.k = v ∧ σ it = some (liO g.s p)
  fsk : τ0 sk = none
  fik : τ0 ik = none
  fse : τ0 se = none
  fns : τ0 ns = none
  fit : ∀ q ∈ mi, τ0 q.2 = none
  ne : sk ≠ ik
  inj : (mi.map (·.2)).Nodup
  cnt : n + ucount (D.map NdA.nd) seen ≤ D.length
  dep : st.length ≤ n
theorem DLay.push {τ0 σ : St} {D : List NdA} {sk ik se ns : Addr} {st : List (KV × Nat)} {mi : List (Addr × Addr)} {seen : KV → Bool} {n : Nat} (h : DLay τ0 σ D sk ik se ns st mi seen n) {g : NdA} (hg : g ∈ D) (hs : ¬ seen g.k = true) (hno : g.k ∉ st.map (·.1)) {m it : Addr}
    (hit : σ it = none) (hm : σ m = none) (hmi : m ≠ it) :
    DLay τ0 ((((((σ.set se (.set (fun k' => seen k' || decide (k' = g.k)) (n + 1))).set it (liO g.s 0)).set m (mwO it)).set ik (.list (mi.map (fun q => .ref q.1) ++ [.ref m]))).set ns (.dict (nsKv (st.map (·.1) ++ [g.k])))).set sk (.list ((st.map (·.1)).map KV.pv ++ [g.k.pv])))
      D sk ik se ns (st ++ [(g.k, 0)]) (mi ++ [(m, it)]) (fun k' => seen k' || decide (k' = g.k)) (n + 1) := by
  have hsk := h.hsk
  have hik := h.hik
  have hse := h.hse
  have hns := h.hns
  have hne := h.ne
  have e1 : ∀ a o, a ≠ se → a ≠ ik → a ≠ ns → a ≠ sk → σ a = some o → ((((((σ.set se (.set (fun k' => seen k' || decide (k' = g.k)) (n + 1))).set it (liO g.s 0)).set m (mwO it)).set ik (.list (mi.map (fun q => .ref q.1) ++ [.ref m]))).set ns (.dict (nsKv (st.map (·.1) ++ [g.k])))).set sk (.list ((st.map (·.1)).map KV.pv ++ [g.k.pv]))) a = some o := by
    intro a o h1 h2 h3 h4 e
    rw [St.set_ne _ h4, St.set_ne _ h3, St.set_ne _ h2, St.set_ne _ (St.ne_of e hm), St.set_ne _ (St.ne_of e hit), St.set_ne _ h1]; exact e
  have d1 : sk ≠ ns := ne_ob hsk hns (fun e => nomatch e)
  have d2 : sk ≠ se := ne_ob hsk hse (fun e => nomatch e)
  have d3 : ik ≠ ns := ne_ob hik hns (fun e => nomatch e)
  have d4 : ik ≠ se := ne_ob hik hse (fun e => nomatch e)
  have d5 : ns ≠ se := ne_ob hns hse (fun e => nomatch e)
  have m1 : m ≠ sk := St.ne_of' hsk hm
  have m2 : m ≠ ik := St.ne_of' hik hm
  have m3 : m ≠ ns := St.ne_of' hns hm
  have i1 : it ≠ sk := St.ne_of' hsk hit
  have i2 : it ≠ ik := St.ne_of' hik hit
  have i3 : it ≠ ns := St.ne_of' hns hit
  have s1 : se ≠ m := St.ne_of hse hm
  have s2 : se ≠ it := St.ne_of hse hit
  refine ⟨fun a o e => e1 a o (fun q => by subst q; rw [h.fse] at e; cases e) (fun q => by subst q; rw [h.fik] at e; cases e) (fun q => by subst q; rw [h.fns] at e; cases e) (fun q => by subst q; rw [h.fsk] at e; cases e) (h.base _ _ e), ?_, ?_, ?_, ?_, ?_, ?_, h.fsk, h.fik, h.fse, h.fns, ?_, hne, ?_, ?_, by have := h.dep; simp; lia⟩
  · rw [St.set_self]; simp
  · rw [St.set_ne _ (Ne.symm hne), St.set_ne _ d3, St.set_self]; simp
  · rw [St.set_ne _ (Ne.symm d2), St.set_ne _ (Ne.symm d5), St.set_ne _ (Ne.symm d4), St.set_ne _ s1, St.set_ne _ s2, St.set_self]
  · rw [St.set_ne _ (Ne.symm d1), St.set_self]; simp
  · simp [h.len]
  · intro i m' it' v p h1 h2
    rcases get_snoc h1 with ⟨a1, a2⟩ | ⟨a1, a2⟩
    · rcases get_snoc h2 with ⟨b1, b2⟩ | ⟨b1, b2⟩
      · obtain ⟨q1, g', q2, q3, q4⟩ := h.its i m' it' v p a2 b2
        exact ⟨e1 _ _ (ne_ob q1 hse (fun e => nomatch e)) (ne_ob q1 hik (fun e => nomatch e)) (ne_ob q1 hns (fun e => nomatch e)) (ne_ob q1 hsk (fun e => nomatch e)) q1, g', q2, q3, e1 _ _ (ne_ob q4 hse (fun e => nomatch e)) (ne_ob q4 hik (fun e => nomatch e)) (ne_ob q4 hns (fun e => nomatch e)) (ne_ob q4 hsk (fun e => nomatch e)) q4⟩
      · have := h.len; lia
    · rcases get_snoc h2 with ⟨b1, b2⟩ | ⟨b1, b2⟩
      · have := h.len; lia
      · cases a2; cases b2
        refine ⟨?_, g, hg, rfl, ?_⟩
        · rw [St.set_ne _ m1, St.set_ne _ m3, St.set_ne _ m2, St.set_self]
        · rw [St.set_ne _ i1, St.set_ne _ i3, St.set_ne _ i2, St.set_ne _ (Ne.symm hmi), St.set_self]
  · intro q hq
    rcases List.mem_append.mp hq with hq | hq
    · exact h.fit q hq
    · simp at hq; subst hq
      cases q2 : τ0 it with
      | none => rfl
      | some o => have := h.base _ _ q2; rw [hit] at this; cases this
  · rw [List.map_append, List.nodup_append]
    refine ⟨h.inj, by simp, fun a ha b hb => ?_⟩
    simp at hb; subst hb
    intro e
    obtain ⟨⟨m', it'⟩, hq, e2⟩ := List.mem_map.mp ha
    obtain ⟨i, hi⟩ := List.mem_iff_getElem?.mp hq
    have hlt : i < st.length := by rw [← h.len]; exact (List.getElem?_eq_some_iff.mp hi).1
    obtain ⟨_, g', _, _, q4⟩ := h.its i m' it' st[i].1 st[i].2 hi (by simp [hlt])
    rw [show it' = a from e2, e, hit] at q4; cases q4
  · have := ucount_add (G := D.map NdA.nd) (node := g.k) (by rw [List.map_map]; exact List.mem_map.mpr ⟨g, hg, rfl⟩) hs
    have := h.cnt
    lia
theorem DLay.step {τ0 σ : St} {D : List NdA} {sk ik se ns : Addr} {st : List (KV × Nat)} {mi : List (Addr × Addr)} {seen : KV → Bool} {n : Nat} {u : KV} {p : Nat} {m it : Addr} (h : DLay τ0 σ D sk ik se ns (st ++ [(u, p)]) (mi ++ [(m, it)]) seen n) {g : NdA} (hg : g ∈ D) (hu : g.k = u) :
    DLay τ0 (σ.set it (liO g.s (p + 1))) D sk ik se ns (st ++ [(u, p + 1)]) (mi ++ [(m, it)]) seen n := by
  have hl : mi.length = st.length := by have := h.len; simp at this; exact this
  obtain ⟨q1, g0, q2, q3, q4⟩ := h.its mi.length m it u p (last_get _ _) (by rw [hl]; exact last_get _ _)
  have e1 : ∀ a o, a ≠ it → σ a = some o → (σ.set it (liO g.s (p + 1))) a = some o := fun a o h1 e => by rw [St.set_ne _ h1]; exact e
  have em : (st ++ [(u, p + 1)]).map (·.1) = (st ++ [(u, p)]).map (·.1) := by simp
  refine ⟨fun a o e => e1 a o (fun q => by subst q; rw [h.fit (m, a) (by simp)] at e; cases e) (h.base _ _ e), by rw [em]; exact e1 _ _ (ne_ob h.hsk q4 (fun e => nomatch e)) h.hsk, e1 _ _ (ne_ob h.hik q4 (fun e => nomatch e)) h.hik, e1 _ _ (ne_ob h.hse q4 (fun e => nomatch e)) h.hse, by rw [em]; exact e1 _ _ (ne_ob h.hns q4 (fun e => nomatch e)) h.hns,
    by simp [hl], ?_, h.fsk, h.fik, h.fse, h.fns, h.fit, h.ne, h.inj, h.cnt, by have := h.dep; simp at this ⊢; lia⟩
  intro i m' it' v p' h1 h2
  have hinj := h.inj
  rw [List.map_append, List.nodup_append] at hinj
  rcases get_snoc h1 with ⟨a1, a2⟩ | ⟨a1, a2⟩
  · rcases get_snoc h2 with ⟨b1, b2⟩ | ⟨b1, b2⟩
    · obtain ⟨r1, g', r2, r3, r4⟩ := h.its i m' it' v p' (by rw [List.getElem?_append_left a1]; exact a2) (by rw [List.getElem?_append_left b1]; exact b2)
      have hne : it' ≠ it := hinj.2.2 it' (List.mem_map.mpr ⟨_, List.mem_of_getElem? a2, rfl⟩) it (by simp)
      exact ⟨e1 _ _ (ne_ob r1 q4 (fun e => nomatch e)) r1, g', r2, r3, e1 _ _ hne r4⟩
    · lia
  · rcases get_snoc h2 with ⟨b1, b2⟩ | ⟨b1, b2⟩
    · lia
    · cases a2; cases b2
      exact ⟨e1 _ _ (ne_ob q1 q4 (fun e => nomatch e)) q1, g, hg, hu, St.set_self ..⟩
theorem DLay.pop {τ0 σ : St} {D : List NdA} {sk ik se ns : Addr} {st : List (KV × Nat)} {mi : List (Addr × Addr)} {seen : KV → Bool} {n : Nat} {u : KV} {p : Nat} {m it : Addr} (h : DLay τ0 σ D sk ik se ns (st ++ [(u, p)]) (mi ++ [(m, it)]) seen n) :
    DLay τ0 ((((σ.del it).set sk (.list ((st.map (·.1)).map KV.pv))).set ns (.dict (nsKv (st.map (·.1))))).set ik (.list (mi.map fun q => .ref q.1))) D sk ik se ns st mi seen n := by
  have hl : mi.length = st.length := by have := h.len; simp at this; exact this
  obtain ⟨q1, g0, q2, q3, q4⟩ := h.its mi.length m it u p (last_get _ _) (by rw [hl]; exact last_get _ _)
  have hsk := h.hsk
  have hik := h.hik
  have hse := h.hse
  have hns := h.hns
  have d1 : sk ≠ ns := ne_ob hsk hns (fun e => nomatch e)
  have d3 : ik ≠ ns := ne_ob hik hns (fun e => nomatch e)
  have e1 : ∀ a o, a ≠ it → a ≠ sk → a ≠ ns → a ≠ ik → σ a = some o → ((((σ.del it).set sk (.list ((st.map (·.1)).map KV.pv))).set ns (.dict (nsKv (st.map (·.1))))).set ik (.list (mi.map fun q => .ref q.1))) a = some o := fun a o h1 h2 h3 h4 e => by
    rw [St.set_ne _ h4, St.set_ne _ h3, St.set_ne _ h2, St.del_ne h1]; exact e
  refine ⟨fun a o e => e1 a o (fun q => by subst q; rw [h.fit (m, a) (by simp)] at e; cases e) (fun q => by subst q; rw [h.fsk] at e; cases e) (fun q => by subst q; rw [h.fns] at e; cases e) (fun q => by subst q; rw [h.fik] at e; cases e) (h.base _ _ e), ?_, ?_, ?_, ?_, hl, ?_, h.fsk, h.fik, h.fse, h.fns, fun q hq => h.fit q (List.mem_append_left _ hq), h.ne, ?_, h.cnt, by have := h.dep; simp at this; lia⟩
  · rw [St.set_ne _ h.ne, St.set_ne _ d1, St.set_self]
  · rw [St.set_self]
  · exact e1 _ _ (ne_ob hse q4 (fun e => nomatch e)) (ne_ob hse hsk (fun e => nomatch e)) (ne_ob hse hns (fun e => nomatch e)) (ne_ob hse hik (fun e => nomatch e)) hse
  · rw [St.set_ne _ (Ne.symm d3), St.set_self]
  · intro i m' it' v p' h1 h2
    have hinj := h.inj
    rw [List.map_append, List.nodup_append] at hinj
    have a1 := (List.getElem?_eq_some_iff.mp h1).1
    have b1 := (List.getElem?_eq_some_iff.mp h2).1
    obtain ⟨r1, g', r2, r3, r4⟩ := h.its i m' it' v p' (by rw [List.getElem?_append_left a1]; exact h1) (by rw [List.getElem?_append_left b1]; exact h2)
    have hne : it' ≠ it := hinj.2.2 it' (List.mem_map.mpr ⟨_, List.mem_of_getElem? h1, rfl⟩) it (by simp)
    exact ⟨e1 _ _ (ne_ob r1 q4 (fun e => nomatch e)) (ne_ob r1 hsk (fun e => nomatch e)) (ne_ob r1 hns (fun e => nomatch e)) (ne_ob r1 hik (fun e => nomatch e)) r1, g', r2, r3, e1 _ _ hne (ne_ob r4 hsk (fun e => nomatch e)) (ne_ob r4 hns (fun e => nomatch e)) (ne_ob r4 hik (fun e => nomatch e)) r4⟩
  · have hinj := h.inj
    rw [List.map_append, List.nodup_append] at hinj
    exact hinj.1

end
section

theorem St.del_un {σ τ : St} {a : Addr} (h : τ a = none) : (σ.un τ).del a = (σ.del a).un τ := by
  funext b
  unfold St.del St.un
  by_cases q : b = a
  · subst q; simp [h]
  · simp [q]
set_option tactic.hygienic true in
theorem RelF.dropF {X : Cx} {fs : List Env} {L : Addr} {σf : St} {fr : Fm} {σ : St} {s : Shared} (R : RelF X fs L σf fr σ s) : RelF X fs L St.emp fr σ s := by
  refine ⟨Disj.emp _, by rw [St.un_emp]; exact R.noL, R.rel.less fun a o e => ?_⟩
  rw [St.un_emp] at e
  unfold St.set at e ⊢
  split
  · rename_i q; rw [if_pos q] at e; exact e
  · rename_i q; rw [if_neg q] at e; exact St.un_of e
theorem lastNeg {α : Type} (xs : List α) (x : α) : (xs ++ [x])[((-1 : Int) + ((xs ++ [x]).length : Int)).toNat]? = some x := by
  rw [show ((-1 : Int) + ((xs ++ [x]).length : Int)).toNat = xs.length from by simp; lia]
  exact last_get _ _
theorem ucount_le (seen : KV → Bool) : ∀ G : List Nd, ucount G seen ≤ G.length
  | [] => by simp [ucount]
  | g :: G => by
    have := ucount_le seen G
    unfold ucount at this ⊢
    simp only [List.map_cons, List.sum_cons, List.length_cons]
    split <;> lia
noncomputable def Topo (G : List Nd) (fin : List KV) : Prop := (∀ (k : Nat) v w, fin[k]? = some v → w ∈ suAt G v → w ∈ fin.take k) ∧ ∀ k ∈ G.map (·.k), k ∈ fin
noncomputable def CycOut (G : List Nd) (σ σ' : St) (v : PV) : Prop := (v = .none ∧ ∃ fin, Topo G fin) ∨ ∃ a ring, v = .ref a ∧ σ a = none ∧ σ' a = some (.list (ring.map KV.pv)) ∧ IsRing G ring
noncomputable abbrev fcF (x d sk ik se ns : Addr) : Fm := [("self", .ref x), ("n2i", .ref d), ("stack", .ref sk), ("itstack", .ref ik), ("seen", .ref se), ("node2stacki", .ref ns)]
noncomputable def dnAt (D : List NdA) (i : Nat) (fin : List KV) : Prop := ∀ (j : Nat) g, j < i → D[j]? = some g → g.k ∈ fin
inductive FcO (F : Fm) (τ0 : St) (D : List NdA) (sk ik se ns : Addr) (G : List Nd) (i : Nat) : Fm → St → Prop
  | mk (seen : KV → Bool) (n : Nat) (fin : List KV) {σ : St} (hl : DLay τ0 σ D sk ik se ns [] [] seen n) (hI : Inv G seen [] fin) (hd : dnAt D i fin) : FcO F τ0 D sk ik se ns G i F σ
inductive FcS (F : Fm) (τ0 : St) (D : List NdA) (sk ik se ns : Addr) (G : List Nd) (i : Nat) (P : List (KV × Nat) → List KV → KV → (KV → Bool) → Prop) (M : Nat) : Fm → St → Prop
  | mk (st : List (KV × Nat)) (mi : List (Addr × Addr)) (seen : KV → Bool) (n : Nat) (fin : List KV) (node : KV) {σ : St} (hM : mu G seen st ≤ M) (hl : DLay τ0 σ D sk ik se ns st mi seen n) (hI : Inv G seen st fin) (hP : P st fin node seen) (hd : dnAt D i fin) : FcS F τ0 D sk ik se ns G i P M (Fm.put "node" (KV.pv node) F) σ
noncomputable def fcA (G : List Nd) (r : KV) (st : List (KV × Nat)) (fin : List KV) (node : KV) (seen : KV → Bool) : Prop := Pend G st node ∧ node ∈ G.map (·.k) ∧ (node = r ∨ seen r = true)
noncomputable def fcB (G : List Nd) (r : KV) (st : List (KV × Nat)) (fin : List KV) (node : KV) (seen : KV → Bool) : Prop := Settled G st fin ∧ seen r = true
noncomputable def fcE (r : KV) (st : List (KV × Nat)) (fin : List KV) (node : KV) (seen : KV → Bool) : Prop := st = [] ∧ seen r = true
set_option tactic.hygienic true in
theorem f_findCycle {X : Cx} (C : C1 X) {A : Around} {σ0 σ : St} {E : Value → Shared → Prop} {x dx d : Addr} {D : List NdA} {rdy : PV} {po fi : Int} (hB : SortB σ0 σ x dx d D rdy po fi) {N : Nat} (hN : gBound (D.map NdA.nd) N) (hNz : N ≤ 1000) (hcl : gClosed (D.map NdA.nd)) (hA : OkA A 6) :
    CW X A (.ref 127) [.ref x] σ (fun v σ' => σ.le σ' ∧ CycOut (D.map NdA.nd) σ σ' v) E := by
  refine .weak (call_plainW (k := 5) hA (C.def rfl (by kernel_rfl)) rfl rfl rfl rfl (by decide) (binds1 (fun a => rfl) rfl) fun L hL => ?_)
  intro ev Ad
  have hA1 := okA_deeper hA
  have hh : ∀ env, (A.deeper env).handled = none := fun _ => hA.handled
  have DS := dcls_sort C
  have SN := scls_node C
  (first | refine WB.gK ?_ | refine WT.gK ?_ | refine WS.gK ?_); intro K1 hK1
  repeat walk_at "sl"
  refine WG.own DS (by rw [C.K]; kernel_rfl) hB.hx hB.hdx rfl rfl ?_
  repeat walk_at "sl"
  repeat (first | refine hK4 _ _ _ ?_ | refine hK3 _ _ _ ?_ | refine hK2 _ _ _ ?_ | refine hK1 _ _ _ ?_ | walk_at "sl")
  refine ⟨by decide, fun sk hsk hskL => ?_⟩
  repeat walk_at "sl"
  repeat (first | refine hK4 _ _ _ ?_ | refine hK3 _ _ _ ?_ | refine hK2 _ _ _ ?_ | refine hK1 _ _ _ ?_ | walk_at "sl")
  refine ⟨by decide, fun ik hik hikL => ?_⟩
  repeat walk_at "sl"
  refine WC.setNew fun se hse hseL => ?_
  repeat (first | walk_at "sl" | with_reducible refine WE.dict0 ?_)
  intro ns hns hnsL
  repeat walk_at "sl"
  have hik1 := St.set_none.mp hik
  have hse1 := St.set_none.mp hse
  have hse2 := St.set_none.mp hse1.2
  have hns1 := St.set_none.mp hns
  have hns2 := St.set_none.mp hns1.2
  have hns3 := St.set_none.mp hns2.2
  have dsk : d ≠ sk := St.ne_of hB.hd hsk
  have dik : d ≠ ik := St.ne_of hB.hd hik1.2
  have dse : d ≠ se := St.ne_of hB.hd hse2.2
  have dns : d ≠ ns := St.ne_of hB.hd hns3.2
  have hd0 := hB.hd
  refine WIter.pin (d := d) (kvs := dKv D) (by walk_at "look") fun ob ho => ?_
  have lay : DLay (σ.set d (.raw ob)) (((((σ.set sk (.list [])).set ik (.list [])).set se (.set (fun _ => false) 0)).set ns (.dict [])).set d (.raw ob)) D sk ik se ns [] [] (fun _ => false) 0 := by
    refine ⟨fun a o e => ?_, ?_, ?_, ?_, ?_, rfl, by simp, ?_, ?_, ?_, ?_, by simp, (Ne.symm hik1.1), by simp, ?_, Nat.le_refl _⟩
    · unfold St.set at e
      split at e
      · rename_i q; cases e; subst q; exact St.set_self ..
      · rename_i q
        rw [St.set_ne _ q, St.set_ne _ (St.ne_of e hns3.2), St.set_ne _ (St.ne_of e hse2.2), St.set_ne _ (St.ne_of e hik1.2), St.set_ne _ (St.ne_of e hsk)]; exact e
    · rw [St.set_ne _ (Ne.symm dsk), St.set_ne _ (Ne.symm hns3.1), St.set_ne _ (Ne.symm hse2.1), St.set_ne _ (Ne.symm hik1.1), St.set_self]; rfl
    · rw [St.set_ne _ (Ne.symm dik), St.set_ne _ (Ne.symm hns2.1), St.set_ne _ (Ne.symm hse1.1), St.set_self]; rfl
    · rw [St.set_ne _ (Ne.symm dse), St.set_ne _ (Ne.symm hns1.1), St.set_self]
    · rw [St.set_ne _ (Ne.symm dns), St.set_self]; rfl
    · rw [St.set_ne _ (Ne.symm dsk)]; exact hsk
    · rw [St.set_ne _ (Ne.symm dik)]; exact hik1.2
    · rw [St.set_ne _ (Ne.symm dse)]; exact hse2.2
    · rw [St.set_ne _ (Ne.symm dns)]; exact hns3.2
    · have := ucount_le (fun _ => false) (D.map NdA.nd); rw [List.length_map] at this; lia
  have ok0 : ∀ g ∈ D, NdOk (σ.set d (.raw ob)) g := fun g hg => by
    obtain ⟨a1, a2, a3⟩ := hB.ok g hg
    exact ⟨by rw [St.set_ne _ (ne_ob a1 hB.hd (fun e => nomatch e))]; exact a1, by rw [St.set_ne _ (ne_ob a2 hB.hd (fun e => nomatch e))]; exact a2, by rw [St.set_ne _ (ne_ob a3 hB.hd (fun e => nomatch e))]; exact a3⟩
  have pin0 : (σ.set d (.raw ob)) d = some (.raw ob) := St.set_self ..
  have back : ∀ {τ : St}, (σ.set d (.raw ob)).le τ → σ.le (τ.set d (.dict (dKv D))) := fun {τ} hl a o e => by
    by_cases q : a = d
    · subst q; rw [hB.hd] at e; cases e; exact St.set_self ..
    · rw [St.set_ne _ q]; exact hl a o (by rw [St.set_ne _ q]; exact e)
  have frn : ∀ {a : Addr}, (σ.set d (.raw ob)) a = none → σ a = none ∧ a ≠ d := fun {a} e => ⟨(St.set_none.mp e).2, (St.set_none.mp e).1⟩
  generalize hτ : σ.set d (.raw ob) = τ0 at lay ok0 pin0 back frn
  generalize hG : D.map NdA.nd = G at hN hcl
  have hkG : ∀ g ∈ D, g.k ∈ G.map (·.k) := fun g hg => by rw [← hG, List.map_map]; exact List.mem_map.mpr ⟨g, hg, rfl⟩
  have hsG : ∀ g ∈ D, suAt G g.k = g.succ := fun g hg => by rw [← hG]; exact suAt_nd hB.keys hg
  have hclw : ∀ g ∈ D, ∀ w ∈ g.succ, w ∈ G.map (·.k) := fun g hg w hw => hcl g.nd (by rw [← hG]; exact List.mem_map.mpr ⟨g, hg, rfl⟩) w hw
  have hlD : D.length ≤ N := by have := hN.1; rw [← hG, List.length_map] at this; exact this
  obtain ⟨ep, S⟩ := srcOf_keys (A := A.deeper (defEnv _ L 127 _)) (hh _) ho
  refine WIter.forG (hh _) S (FcO (fcF x d sk ik se ns) τ0 D sk ik se ns G) ?_ ?_ ?_ ?_ ?_
  · exact fun _ => LetOk.name
  · rintro i fr σ' ⟨_, _, _, hl, _, _⟩; exact hl.base _ _ pin0
  · exact .mk _ 0 [] lay (Inv.start G) fun j g h => absurd h (Nat.not_lt_zero j)
  · rintro i K2 hK2 y fr σ1 hy ⟨seen, n, fin, hl, hI, hdone⟩
    unfold dKv at hy
    rw [List.map_map, List.getElem?_map] at hy
    obtain ⟨root, hroot, rfl⟩ := Option.map_eq_some_iff.mp hy
    have hrD := List.mem_of_getElem? hroot
    show WAsg X _ _ _ root.k.pv _ _ _ _
    have hdone2 : ∀ {fin' : List KV}, dnAt D i fin' → root.k ∈ fin' → dnAt D (i + 1) fin' := fun h1 h2 j g hj hg => by
      by_cases q : j = i
      · subst q; rw [hroot] at hg; cases hg; exact h2
      · exact h1 j g (by lia) hg
    repeat walk_at "sl"
    refine WS.ifK ?_
    repeat walk_at "sl"
    refine W2.inSet hl.hse ?_
    repeat walk_at "sl"
    by_cases hsn : seen root.k = true
    · refine itT hsn ?_
      repeat (first | walk_at "sl" | with_reducible refine WS.cont ?_)
      repeat (first | refine hK4 _ _ _ ?_ | refine hK3 _ _ _ ?_ | refine hK2 _ _ _ ?_ | refine hK1 _ _ _ ?_ | walk_at "sl")
      exact ⟨fcF x d sk ik se ns, σ1, by repeat' (first | exact Fm.nil_le _ | (refine Fm.le_cons ?_ ?_; rfl)), St.le_refl _, .mk seen n fin hl hI (hdone2 hdone (((hI.sn _).mp hsn).resolve_left (by simp)))⟩
    refine itF hsn ?_
    repeat walk_at "sl"
    refine WS.whileG (hh _) (FcS (fcF x d sk ik se ns) τ0 D sk ik se ns G i (fcA G root.k)) ?_ (mu G seen []) (.mk [] [] seen n fin root.k (Nat.le_refl _) hl hI ⟨fun st' u p e => by simp at e, hkG root hrD, .inl rfl⟩ hdone)
    clear hsn hl hI hdone
    intro M0 fr σ2 hq K3 K4 hK3 hK4
    obtain ⟨st, mi, seen, n, fin, node, hMu, hl, hI, ⟨hP, hkn, hro⟩, hdone⟩ := hq
    repeat (first | walk_at "sl" | with_reducible refine WE.cBool ?_)
    refine itT rfl ?_
    repeat walk_at "sl"
    refine WS.mid (Q' := fun f fr σ' => match f with
      | .next => FcS (fcF x d sk ik se ns) τ0 D sk ik se ns G i (fcB G root.k) M0 fr σ'
      | .ret v => ∃ τ : St, τ.le σ' ∧ σ.le τ ∧ CycOut G σ τ v
      | _ => False) ?_ ?_
    · (first | refine WB.gK ?_ | refine WT.gK ?_ | refine WS.gK ?_); intro K1 hK1
      refine WS.ifK ?_
      repeat walk_at "sl"
      refine W2.inSet hl.hse ?_
      repeat walk_at "sl"
      by_cases hsn : seen node = true
      · refine itT hsn ?_
        repeat walk_at "sl"
        refine WS.ifK ?_
        repeat walk_at "sl"
        refine W2.inD (.own hl.hns) ?_
        repeat walk_at "sl"
        have hro' : seen root.k = true := by
          rcases hro with e | e
          · rw [← e]; exact hsn
          · exact e
        by_cases hmem : node ∈ st.map (·.1)
        · obtain ⟨k, hk⟩ := List.mem_iff_getElem?.mp hmem
          have hkv := kvAt_ns hI.nd hk
          refine itT (by rw [hkv]; rfl) ?_
          refine WB.unpin (hl.base _ _ pin0) ho ?_
          have dn : ∀ {a o}, σ2 a = some o → a ≠ d → (σ2.set d (.dict (dKv D))) a = some o := fun e q => by rw [St.set_ne _ q]; exact e
          have f1 := dn hl.hsk (frn hl.fsk).2
          have f2 := dn hl.hns (frn hl.fns).2
          have f3 := back hl.base
          generalize σ2.set d (.dict (dKv D)) = σ4 at f1 f2 f3 ⊢
          repeat walk_at "sl"
          refine WI.dict (.own f2) hkv ?_ (fun _ _ => rfl) (fun _ _ => rfl)
          have hst : st.length ≤ N := by have := hl.dep; have := hl.cnt; lia
          refine ⟨k, rfl, .inr ⟨sk, _, rfl, f1, by simp [sizeLine_eq]; lia, fun b hb hbL => ?_⟩⟩
          repeat walk_at "sl"
          repeat (first | refine hK4 _ _ _ ?_ | refine hK3 _ _ _ ?_ | refine hK2 _ _ _ ?_ | refine hK1 _ _ _ ?_ | walk_at "sl")
          refine ⟨by simp [sizeLine_eq], fun c hc hcL => ?_⟩
          have hc' := St.set_none.mp hc
          refine W2.addL (xs := ((st.map (·.1)).map KV.pv).drop k) (ys := [node.pv]) (by rw [St.set_ne _ (Ne.symm hc'.1), St.set_self]) (St.set_self ..) (by simp [sizeLine_eq]; lia) fun a ha haL => ?_
          have ha' := St.set_none.mp ha
          have ha2 := St.set_none.mp ha'.2
          repeat (first | refine hK4 _ _ _ ?_ | refine hK3 _ _ _ ?_ | refine hK2 _ _ _ ?_ | refine hK1 _ _ _ ?_ | walk_at "sl")
          refine ⟨_, St.le_refl _, fun a' o e => ?_, .inr ⟨a, (st.map (·.1)).drop k ++ [node], rfl, ?_, ?_, hI.ring hP hk⟩⟩
          · have e4 := f3 _ _ e
            rw [St.set_ne _ (St.ne_of e4 ha2.2), St.set_ne _ (St.ne_of e4 hc'.2), St.set_ne _ (St.ne_of e4 hb)]; exact e4
          · cases q : σ a with
            | none => rfl
            | some o => have := f3 _ _ q; rw [ha2.2] at this; cases this
          · rw [St.set_self]; simp
        · refine itF (by rw [kvAt_ns_none hmem]; simp) ?_
          repeat walk_at "sl"
          repeat (first | refine hK4 _ _ _ ?_ | refine hK3 _ _ _ ?_ | refine hK2 _ _ _ ?_ | refine hK1 _ _ _ ?_ | walk_at "sl")
          exact .mk st mi seen n fin node hMu hl hI ⟨hI.settle hP hsn hmem, hro'⟩ hdone
      · refine itF hsn ?_
        repeat walk_at "sl"
        obtain ⟨g, hg, rfl⟩ : ∃ g ∈ D, g.k = node := by
          rw [← hG, List.map_map] at hkn
          obtain ⟨g, hg, e⟩ := List.mem_map.mp hkn
          exact ⟨g, hg, e⟩
        have hno : g.k ∉ st.map (·.1) := fun q => hsn ((hI.sn _).mpr (.inl q))
        have hkv := kvAt_dKv_some hB.keys hg
        have hst : st.length ≤ N := by have := hl.dep; have := hl.cnt; lia
        have hmi : mi.length ≤ N := by rw [hl.len]; exact hst
        have hn : n ≤ N := by have := hl.cnt; lia
        have okg := ok0 g hg
        have bsk := hl.hsk
        have bik := hl.hik
        have bse := hl.hse
        have bns := hl.hns
        have bd := hl.base _ _ pin0
        have b1 := hl.base _ _ okg.1
        have b2 := hl.base _ _ okg.2.1
        have b3 := hl.base _ _ okg.2.2
        have d0 := hl.ne
        have d1 : sk ≠ ns := ne_ob bsk bns (fun e => nomatch e)
        have d2 : sk ≠ se := ne_ob bsk bse (fun e => nomatch e)
        have d3 : ik ≠ ns := ne_ob bik bns (fun e => nomatch e)
        have d4 : ik ≠ se := ne_ob bik bse (fun e => nomatch e)
        have d5 : ns ≠ se := ne_ob bns bse (fun e => nomatch e)
        have d6 : d ≠ se := ne_ob bd bse (fun e => nomatch e)
        have d7 : g.n ≠ se := ne_ob b1 bse (fun e => nomatch e)
        have d8 : g.dn ≠ se := ne_ob b2 bse (fun e => nomatch e)
        have d9 : g.s ≠ se := ne_ob b3 bse (fun e => nomatch e)
        refine WM.setAdd hl.hse ?_
        repeat walk_at "sl"
        refine WC.setAdd hl.hse (by have : scanBound = 4096 := rfl; lia) ?_
        rw [if_neg hsn]
        repeat walk_at "sl"
        refine WI.dict (.pin (by walk_at "look") ho) hkv ?_ (fun _ _ => rfl) (fun _ _ => rfl)
        refine WG.slot SN (sl_succ C) (by rw [St.set_ne _ d7]; exact b1) (by rw [St.set_ne _ d8]; exact b2) rfl rfl ?_
        repeat walk_at "sl"
        refine WC.iterL (xs := g.succ.map KV.pv) (by walk_at "look") fun it hit hitL => ?_
        refine WG.nextLI (St.set_self ..) fun m hm hmL => ?_
        rw [St.set_set]
        have hit' := St.set_none.mp hit
        have hm' := St.set_none.mp hm
        have hm2 := St.set_none.mp hm'.2
        have e1 := St.ne_of bik hm2.2
        have e2 := St.ne_of bik hit'.2
        have e3 := St.ne_of bns hm2.2
        have e4 := St.ne_of bns hit'.2
        have e5 := St.ne_of bsk hm2.2
        have e6 := St.ne_of bsk hit'.2
        repeat walk_at "sl"
        refine WC.append (xs := mi.map fun q => .ref q.1) (by walk_at "look") (by simp [sizeLine_eq]; lia) ?_
        repeat (first | walk_at "sl" | (focus (with_reducible refine WS.assignSub ?_ ?_); rotate_left; rfl))
        refine WC.lenList (xs := (st.map (·.1)).map KV.pv) (by walk_at "look") (by simp; lia) ?_
        repeat walk_at "sl"
        refine WU3.setD (kvs := nsKv (st.map (·.1))) (by walk_at "look") (by simp [nsKv, sizeLine_eq]; lia) ?_
        have ek : kvPut (nsKv (st.map (·.1))) g.k (.int (((st.map (·.1)).map KV.pv).length : Nat)) = nsKv (st.map (·.1) ++ [g.k]) := by
          rw [List.length_map]; exact kvPut_ns hno
        rw [ek]
        repeat walk_at "sl"
        refine WC.append (xs := (st.map (·.1)).map KV.pv) (by walk_at "look") (by simp [sizeLine_eq]; lia) ?_
        refine WB.nil ?_
        obtain ⟨hI2, hS2⟩ := hI.push hP hsn hkn
        repeat (first | refine hK4 _ _ _ ?_ | refine hK3 _ _ _ ?_ | refine hK2 _ _ _ ?_ | refine hK1 _ _ _ ?_ | walk_at "sl")
        refine .mk (st ++ [(g.k, 0)]) (mi ++ [(m, it)]) _ (n + 1) fin g.k (Nat.le_trans (mu_push hkn hsn) hMu) (hl.push hg hsn hno hit'.2 hm2.2 hm'.1) hI2 ⟨hS2, ?_⟩ hdone
        rcases hro with e | e
        · simp [e]
        · simp [e]
    · rintro f fr σ3 hq
      cases f with
      | brk => exact hq.elim
      | cont => exact hq.elim
      | ret v =>
        repeat (first | refine hK4 _ _ _ ?_ | refine hK3 _ _ _ ?_ | refine hK2 _ _ _ ?_ | refine hK1 _ _ _ ?_ | walk_at "sl")
        rw [hG]; exact hq
      | next =>
        clear hl hI hP hkn hro hdone hMu
        refine WB.cons (WS.mid (Q' := fun f fr σ' => match f with
          | .next => ∃ m, m < M0 ∧ FcS (fcF x d sk ik se ns) τ0 D sk ik se ns G i (fcA G root.k) m fr σ'
          | .brk => FcS (fcF x d sk ik se ns) τ0 D sk ik se ns G i (fcE root.k) M0 fr σ'
          | _ => False) ?_ ?_)
        · refine WS.whileG (hh _) (fun M fr σ' => M ≤ M0 ∧ FcS (fcF x d sk ik se ns) τ0 D sk ik se ns G i (fcB G root.k) M fr σ') ?_ M0 ⟨Nat.le_refl _, hq⟩
          clear hq hK3 hK4 K3 K4
          intro M3 fr σ4 hq K3 K4 hK3 hK4
          obtain ⟨hM3, st, mi, seen, n, fin, node, hMu, hl, hI, ⟨hS, hr⟩, hdone⟩ := hq
          have hst : st.length ≤ N := by have := hl.dep; have := hl.cnt; lia
          repeat walk_at "sl"
          refine W1B.list hl.hsk (by simp; lia) ?_
          rcases List.eq_nil_or_concat st with rfl | ⟨st', ⟨u, p⟩, rfl⟩
          · refine itF (by simp) ?_
            have : mi = [] := List.length_eq_zero_iff.mp hl.len
            subst this
            repeat (first | walk_at "sl" | with_reducible refine WS.brk ?_)
            repeat (first | refine hK4 _ _ _ ?_ | refine hK3 _ _ _ ?_ | refine hK2 _ _ _ ?_ | refine hK1 _ _ _ ?_ | walk_at "sl")
            exact .mk [] [] seen n fin node (Nat.le_trans hMu hM3) hl hI ⟨rfl, hr⟩ hdone
          refine itT (by simp) ?_
          simp only [List.concat_eq_append] at hl hI hS hMu hst ⊢
          rcases List.eq_nil_or_concat mi with rfl | ⟨mi', ⟨m, it⟩, rfl⟩
          · have := hl.len; simp at this
          simp only [List.concat_eq_append] at hl ⊢
          have hlen : mi'.length = st'.length := by have := hl.len; simp at this; exact this
          obtain ⟨hm, g, hg, rfl, hit⟩ := hl.its mi'.length m it u p (last_get _ _) (by rw [hlen]; exact last_get _ _)
          have okg := ok0 g hg
          have bs := hl.base _ _ okg.2.2
          have hsu := hsG g hg
          have hio : ((mi' ++ [(m, it)]).map fun q => PV.ref q.1) = (mi'.map fun q => PV.ref q.1) ++ [.ref m] := by simp
          have hso : (((st' ++ [(g.k, p)]).map (·.1)).map KV.pv) = (st'.map (·.1)).map KV.pv ++ [g.k.pv] := by simp
          have hex : exmOne X.K (.type "StopIteration") (.type "StopIteration") = some true := by rw [C.K]; kernel_rfl
          by_cases hp : p < g.succ.length
          · refine WB.cons (WS.tryExc (P := fun _ _ => False) (deeper_frames hA _) rfl (fun v => Ev1.builtin rfl (by rfl) rfl rfl (n_stop C) (by decide) b_stop (by decide)) hex (fun τ hD => ?_) (fun _ _ _ h => h.elim))
            repeat (first | walk_at "sl" | with_reducible refine WE.unaryOpK ?_ | with_reducible refine W1.neg ?_)
            have f1 := St.un_of (σf := τ) hl.hik
            rw [hio] at f1
            refine WI.listNeg (k := -1) f1 (by decide) (by simp; lia) (by decide) (x := .ref m) (lastNeg _ _) ?_ (fun _ => rfl)
            repeat walk_at "sl"
            repeat (first | refine hK4 _ _ _ ?_ | refine hK3 _ _ _ ?_ | refine hK2 _ _ _ ?_ | refine hK1 _ _ _ ?_ | walk_at "sl")
            refine ⟨Keeps.mw (St.un_of hm), ?_⟩
            obtain ⟨w, hw⟩ : ∃ w, g.succ[p]? = some w := ⟨g.succ[p], by simp [hp]⟩
            refine WC.mwItem (i := p) (xs := g.succ.map KV.pv) (St.un_of hm) (St.un_of hit) (St.un_of bs) (x := w.pv) (by rw [List.getElem?_map, hw]; rfl) ?_
            repeat (first | walk_at "sl" | with_reducible refine WS.brk ?_)
            have hw' : (suAt G g.k)[p]? = some w := by rw [hsu]; exact hw
            obtain ⟨hI3, hP3⟩ := hI.step hS hw'
            refine ⟨σ4.set it (liO g.s (p + 1)), hD.set (hD _ _ hit), by rw [St.set_un]; exact St.le_refl _, ?_⟩
            repeat (first | refine hK4 _ _ _ ?_ | refine hK3 _ _ _ ?_ | refine hK2 _ _ _ ?_ | refine hK1 _ _ _ ?_ | walk_at "sl")
            refine ⟨_, Nat.lt_of_lt_of_le (mu_step (by rw [hsu]; exact hp)) (Nat.le_trans hMu hM3), .mk (st' ++ [(g.k, p + 1)]) (mi' ++ [(m, it)]) seen n fin w (Nat.le_refl _) (hl.step hg rfl) hI3 ⟨hP3, ?_, .inr hr⟩ hdone⟩
            obtain ⟨a, ha, hak⟩ : ∃ a ∈ G, a.k = g.k := List.mem_map.mp (hkG g hg)
            exact hclw g hg w (List.mem_of_getElem? hw)
          · refine WB.cons (WS.tryExc (P := fun fr' σ1 => fr' = Fm.put "node" (KV.pv node) (fcF x d sk ik se ns) ∧ σ1 = σ4.del it) (deeper_frames hA _) rfl (fun v => Ev1.builtin rfl (by rfl) rfl rfl (n_stop C) (by decide) b_stop (by decide)) hex (fun τ hD => ?_) ?_)
            · repeat (first | walk_at "sl" | with_reducible refine WE.unaryOpK ?_ | with_reducible refine W1.neg ?_)
              have f1 := St.un_of (σf := τ) hl.hik
              rw [hio] at f1
              refine WI.listNeg (k := -1) f1 (by decide) (by simp; lia) (by decide) (x := .ref m) (lastNeg _ _) ?_ (fun _ => rfl)
              repeat walk_at "sl"
              repeat (first | refine hK4 _ _ _ ?_ | refine hK3 _ _ _ ?_ | refine hK2 _ _ _ ?_ | refine hK1 _ _ _ ?_ | walk_at "sl")
              refine ⟨Keeps.mw (St.un_of hm), ?_⟩
              refine WC.mwStop (i := p) (xs := g.succ.map KV.pv) (hh _) (St.un_of hm) (St.un_of hit) (St.un_of bs) (by rw [List.length_map]; lia) ?_
              intro σf s' e R hex2
              have e1 := St.del_un (σ := σ4) (hD _ _ hit)
              have dd : Disj (σ4.del it) τ := hD.less fun a o q => by unfold St.del at q; split at q; cases q; exact q
              rw [e1] at R hex2
              refine ⟨e, _, σ4.del it, rfl, dd, R.dropF, hex2.less fun a o q => ?_, rfl, rfl⟩
              unfold St.set at q ⊢
              split
              · rename_i z; rw [if_pos z] at q; exact q
              · rename_i z; rw [if_neg z] at q; exact St.un_of q
            · rintro fr' σ1 e ⟨rfl, rfl⟩
              obtain ⟨hI3, hS3⟩ := hI.pop hS (by rw [hsu]; lia)
              have hnd := hI.nd
              rw [List.map_append, List.nodup_append] at hnd
              have hno : g.k ∉ st'.map (·.1) := fun q => hnd.2.2 _ q g.k (by simp) rfl
              have d1 : sk ≠ it := ne_ob hl.hsk hit (fun e => nomatch e)
              have d2 : ik ≠ it := ne_ob hl.hik hit (fun e => nomatch e)
              have d3 : ns ≠ it := ne_ob hl.hns hit (fun e => nomatch e)
              have d4 : sk ≠ ns := ne_ob hl.hsk hl.hns (fun e => nomatch e)
              have d5 : ik ≠ ns := ne_ob hl.hik hl.hns (fun e => nomatch e)
              have d6 := Ne.symm hl.ne
              have g1 : (σ4.del it) sk = some (.list ((st'.map (·.1)).map KV.pv ++ [g.k.pv])) := by rw [St.del_ne d1, ← hso]; exact hl.hsk
              have g2 : (σ4.del it) ik = some (.list ((mi'.map fun q => PV.ref q.1) ++ [.ref m])) := by rw [St.del_ne d2, ← hio]; exact hl.hik
              have g3 : (σ4.del it) ns = some (.dict (nsKv (st'.map (·.1) ++ [g.k]))) := by rw [St.del_ne d3]; have := hl.hns; simpa using this
              have hpop := hl.pop
              repeat (first | walk_at "sl" | with_reducible refine WS.delSub ?_ | (focus (with_reducible refine WM.pop (xs := ?_) ?_ ?_); rotate_left; walk_at "look"))
              refine WC.popLast g1 (by simp [sizeLine_eq] at hst ⊢; lia) ?_
              refine WU2.delD (kvs := nsKv (st'.map (·.1) ++ [g.k])) (by rw [St.set_ne _ (Ne.symm d4)]; exact g3) (by simp [nsKv, sizeLine_eq] at hst ⊢; lia) ?_ ?_
              · rw [kvAt_ns (i := (st'.map (·.1)).length) (by rw [List.nodup_append]; exact ⟨hnd.1, by simp, fun a ha b hb => by simp at hb; subst hb; exact fun e => hno (e ▸ ha)⟩) (last_get _ _)]; rfl
              rw [kvDel_ns hno]
              repeat (first | walk_at "sl" | (focus (with_reducible refine WM.pop (xs := ?_) ?_ ?_); rotate_left; walk_at "look"))
              refine WC.popLast (xs := mi'.map fun q => PV.ref q.1) (by rw [St.set_ne _ d5, St.set_ne _ d6]; exact g2) (by simp [sizeLine_eq] at hst ⊢; lia) ?_
              refine WB.nil (WB.nil (hK3 _ _ _ ⟨_, Nat.lt_of_lt_of_le mu_pop hMu, .of ⟨Nat.le_trans (Nat.le_of_lt mu_pop) (Nat.le_trans hMu hM3), .mk st' mi' seen n (fin ++ [g.k]) node (Nat.le_refl _) hpop hI3 ⟨hS3, hr⟩ fun j a h1 h2 => List.mem_append_left _ (hdone j a h1 h2)⟩⟩))
        · rintro f fr σ5 hq
          cases f with
          | cont => exact hq.elim
          | ret v => exact hq.elim
          | next =>
            exact hq.elim fun m h => WB.nil (hK3 _ _ _ ⟨m, h.1, .of h.2⟩)
          | brk =>
            obtain ⟨_, mi, seen, n, fin, node, _, a1, a2, ⟨rfl, a3⟩, a4⟩ := hq
            obtain rfl : mi = [] := List.length_eq_zero_iff.mp a1.len
            repeat (first | refine hK4 _ _ _ ?_ | refine hK3 _ _ _ ?_ | refine hK2 _ _ _ ?_ | refine hK1 _ _ _ ?_ | walk_at "sl")
            refine ⟨fcF x d sk ik se ns, σ5, ?_, St.le_refl _, .mk seen n fin a1 a2 (hdone2 a4 (((a2.sn _).mp a3).resolve_left (by simp)))⟩
            repeat' (first | exact Fm.nil_le _ | (refine Fm.le_cons ?_ ?_; rfl))
  · refine hid2 fun Kz hKz => ?_
    rintro fr σ1 ⟨seen, n, fin, hl, hI, hdone⟩
    refine hKz _ _ ?_
    refine WB.nil ?_
    refine WB.unpin (hl.base _ _ pin0) ho ?_
    repeat walk_at "sl"
    repeat (first | refine hK4 _ _ _ ?_ | refine hK3 _ _ _ ?_ | refine hK2 _ _ _ ?_ | refine hK1 _ _ _ ?_ | walk_at "sl")
    rw [hG]
    refine ⟨_, St.le_refl _, back hl.base, .inl ⟨rfl, fin, ?_, ?_⟩⟩
    · exact hI.topo
    · intro k hk
      rw [← hG, List.map_map] at hk
      obtain ⟨g, hg, rfl⟩ := List.mem_map.mp hk
      obtain ⟨j, hj⟩ := List.mem_iff_getElem?.mp hg
      refine hdone j g ?_ hj
      have := (List.getElem?_eq_some_iff.mp hj).1
      simpa [dKv] using this

end
section

noncomputable def gReady (G : List Nd) : List KV := (G.filter fun g => g.np = 0).map (·.k)
noncomputable def prepG (D : List NdA) (v : PV) : Option PV := match v with
  | .ref n => (D.find? fun g => g.n = n).bind fun g => if g.np = 0 then some g.k.pv else none
  | _ => none
theorem prepG_of {σ : St} {D : List NdA} (ok : ∀ g ∈ D, NdOk σ g) {g : NdA} (hg : g ∈ D) : prepG D (.ref g.n) = if g.np = 0 then some g.k.pv else none := by
  unfold prepG
  cases q : D.find? fun h => h.n = g.n with
  | none => exact absurd (List.find?_eq_none.mp q g hg) (by simp)
  | some h =>
    have hm := List.mem_of_find?_eq_some q
    have he : h.n = g.n := by simpa using List.find?_some q
    have h1 := (ok h hm).1
    rw [he, (ok g hg).1] at h1
    simp only [nO, Option.some.injEq, AO.inst.injEq, List.cons.injEq, PV.int.injEq] at h1
    show ((D.find? fun h => h.n = g.n).bind fun g => if g.np = 0 then some g.k.pv else none) = _
    rw [q]
    show (if h.np = 0 then some h.k.pv else none) = _
    rw [h1.2.2.1, h1.2.2.2.1]
theorem prepG_all {σ : St} {D : List NdA} (ok : ∀ g ∈ D, NdOk σ g) : ((dKv D).map (·.2)).filterMap (prepG D) = (gReady (D.map NdA.nd)).map KV.pv := by
  unfold dKv gReady
  rw [List.map_map, List.filterMap_map]
  have : ∀ E : List NdA, (∀ g ∈ E, g ∈ D) → E.filterMap (prepG D ∘ ((·.2) ∘ fun g => (g.k, PV.ref g.n))) = (((E.map NdA.nd).filter fun g => g.np = 0).map (·.k)).map KV.pv := by
    intro E
    induction E with
    | nil => intro _; rfl
    | cons g E ih =>
      intro h
      have ih := ih fun a ha => h a (List.mem_cons_of_mem _ ha)
      rw [List.filterMap_cons, List.map_cons, List.filter_cons]
      simp only [Function.comp, NdA.nd] at ih ⊢
      rw [prepG_of ok (h g (List.mem_cons_self ..))]
      by_cases q : g.np = 0
      · simp only [q, if_true, decide_true, List.map_cons]; rw [← ih]
      · simp only [q, if_false, decide_false, Bool.false_eq_true]; rw [← ih]
  exact this D fun _ h => h
theorem SortB.prep {σ0 σ : St} {x dx d : Addr} {D : List NdA} {rdy : PV} {po fi : Int} (h : SortB σ0 σ x dx d D rdy po fi) {r : Addr} {R : List KV} (hr : σ r = none) : SortR σ0 ((σ.set dx (.flds (sFlds d (.ref r) po fi))).set r (.list (R.map KV.pv))) x dx d D r R po fi := by
  have ne : ∀ a o, σ a = some o → o ≠ .flds (sFlds d rdy po fi) → ((σ.set dx (.flds (sFlds d (.ref r) po fi))).set r (.list (R.map KV.pv))) a = some o := fun a o e hn => by
    rw [St.set_ne _ (St.ne_of e hr), St.set_ne _ (ne_ob e h.hdx hn)]; exact e
  refine ⟨{ h with hx := ne _ _ h.hx (fun e => nomatch e), hdx := by rw [St.set_ne _ (St.ne_of h.hdx hr), St.set_self], hd := ne _ _ h.hd (fun e => nomatch e),
                   ok := fun g hg => ⟨ne _ _ (h.ok g hg).1 (fun e => nomatch e), ne _ _ (h.ok g hg).2.1 ?_, ne _ _ (h.ok g hg).2.2 (fun e => nomatch e)⟩,
                   base := fun a o e => ?_ }, St.set_self .., ?_, fun g hg e => ?_⟩
  · exact fun e => by injection e with e; cases e
  · rw [St.set_ne _ (St.ne_of (h.base _ _ e) hr), St.set_ne _ (fun q => by subst q; rw [h.fdx] at e; cases e)]; exact h.base _ _ e
  · cases q : σ0 r with
    | none => rfl
    | some o => have := h.base _ _ q; rw [hr] at this; cases this
  · rw [← e, (h.ok g hg).2.2] at hr; cases hr
theorem nodup_len {α : Type} [DecidableEq α] : ∀ {l m : List α}, l.Nodup → (∀ x ∈ l, x ∈ m) → l.length ≤ m.length
  | [], _, _, _ => Nat.zero_le _
  | a :: l, m, hn, h => by
    rw [List.nodup_cons] at hn
    have ha := h a (List.mem_cons_self ..)
    have := nodup_len (m := m.erase a) hn.2 fun x hx => (List.mem_erase_of_ne (by rintro rfl; exact hn.1 hx)).mpr (h x (List.mem_cons_of_mem _ hx))
    rw [List.length_erase_of_mem ha] at this
    have := List.length_pos_of_mem ha
    rw [List.length_cons]; lia
noncomputable def Prep (G : List Nd) (σ σ' : St) (dx d : Addr) (po fi : Int) : Prop := ∃ r, σ r = none ∧ ((σ.set dx (.flds (sFlds d (.ref r) po fi))).set r (.list ((gReady G).map KV.pv))).le σ'
theorem f_prepOk {X : Cx} (C : C1 X) {A : Around} {σ0 σ : St} {E : Value → Shared → Prop} {x dx d : Addr} {D : List NdA} {po fi : Int} (hB : SortB σ0 σ x dx d D .none po fi) {N : Nat} (hN : gBound (D.map NdA.nd) N) (hNz : N ≤ 1000) (hcl : gClosed (D.map NdA.nd)) (hA : OkA A 7) (hno : ∀ ring, ¬ IsRing (D.map NdA.nd) ring) :
    CW X A (.ref 92) [.ref x] σ (fun v σ' => v = .none ∧ Prep (D.map NdA.nd) σ σ' dx d po fi) E := by
  refine call_plainW (k := 6) hA (C.def rfl (by kernel_rfl)) rfl rfl rfl rfl (by decide) (binds1 (fun a => rfl) rfl) fun L hL => ?_
  intro ev Ad
  have hA1 := okA_deeper hA
  have hh : ∀ env, (A.deeper env).handled = none := fun _ => hA.handled
  have DS := dcls_sort C
  have SN := scls_node C
  repeat walk_at "sl"
  refine WS.ifK ?_
  repeat walk_at "sl"
  refine WG.own DS (by rw [C.K]; kernel_rfl) hB.hx hB.hdx rfl rfl ?_
  repeat walk_at "sl"
  refine itF (by simp) ?_
  repeat walk_at "sl"
  refine WG.own DS (by rw [C.K]; kernel_rfl) hB.hx hB.hdx rfl rfl ?_
  refine WM.dictValues (.own hB.hd) ?_
  repeat walk_at "sl"
  refine WC.dictValues (.own hB.hd) fun v hv hvL => ?_
  have dv := St.ne_of hB.hd hv
  have hd0 := hB.hd
  repeat walk_at "sl"
  refine WIter.pin (d := d) (kvs := dKv D) (by walk_at "look") fun ob ho => ?_
  obtain ⟨ep, S⟩ := srcOf_vals (A := A.deeper (defEnv _ L 92 _)) (v := v) (hh _) ho
  have hB1 : SortB σ0 (σ.set v (.raw (valsO d))) x dx d D .none po fi := hB.mono (St.le_set hv)
  refine WBlock.fm0K (hh _) S (prepG D) ?_ ?_ ?_ ?_ ?_ ?_
  · exact fun _ => LetOk.name
  · exact ⟨St.set_self .., by rw [St.set_ne _ (Ne.symm dv), St.set_self]⟩
  · have := hN.1; simp [dKv] at this ⊢; rw [sizeLine_eq]; lia
  · exact fun _ => rfl
  · intro L' y hy hL'
    unfold dKv at hy
    rw [List.map_map] at hy
    obtain ⟨g, hg, rfl⟩ := List.mem_map.mp hy
    show WAsg X _ _ _ (.ref g.n) _ _ _ _
    have q := hB1.ok g hg
    have nd : ∀ a o, (σ.set v (.raw (valsO d))) a = some o → a ≠ d → ((σ.set v (.raw (valsO d))).set d (.raw ob)) a = some o := fun a o e h => by rw [St.set_ne _ h]; exact e
    have q1 := nd _ _ q.1 (ne_ob q.1 hB1.hd (fun e => nomatch e))
    have q2 := nd _ _ q.2.1 (ne_ob q.2.1 hB1.hd (fun e => nomatch e))
    have hp := prepG_of hB.ok hg
    repeat walk_at "sl"
    refine WG.slot SN (sl_np C) q1 q2 rfl rfl ?_
    repeat walk_at "sl"
    by_cases z : g.np = 0
    · refine itT (by simpa using z) ?_
      repeat walk_at "sl"
      refine WG.slot SN (sl_node C) q1 q2 rfl (by cases g.k <;> rfl) ?_
      exact ⟨hp.trans (if_pos z), St.le_refl _⟩
    · refine itF (by simpa using z) ?_
      exact ⟨hp.trans (if_neg z), St.le_refl _⟩
  · intro r hr hrL
    have hr1 := St.set_none.mp hr
    have hr2 := St.set_none.mp hr1.2
    rw [prepG_all hB.ok]
    have hB2 : SortB σ0 ((σ.set v (.raw (valsO d)))) x dx d D .none po fi := hB1
    have xd : x ≠ d := ne_ob hB1.hx hB1.hd (fun e => nomatch e)
    have dxd : dx ≠ d := ne_ob hB1.hdx hB1.hd (fun e => nomatch e)
    have q1 := hB1.hx
    have q2 := hB1.hdx
    have q3 := hB1.hd
    have n1 := St.ne_of q1 hr1.2
    have n2 := St.ne_of q2 hr1.2
    refine ⟨[], ((σ.set v (.raw (valsO d))).set d (.raw ob)).set r (.list ((gReady (D.map NdA.nd)).map KV.pv)), Fm.nil_le _, St.le_refl _, ?_⟩
    repeat walk_at "sl"
    refine WU2.setOwn (x := x) (dx := dx) DS (by rw [C.K]; kernel_rfl) (by walk_at "look") (by walk_at "look") (of_decide_eq_true rfl) ?_
    refine WB.unpin (d := d) (ob := ob) (kvs := dKv D) ?_ ho ?_
    · rw [St.set_ne _ (Ne.symm dxd), St.set_ne _ (Ne.symm hr1.1), St.set_self]
    have e1 : (((((σ.set v (.raw (valsO d))).set d (.raw ob)).set r (.list ((gReady (D.map NdA.nd)).map KV.pv))).set dx (.flds (Fm.put "_ready_nodes" (.ref r) (sFlds d .none po fi)))).set d (.dict (dKv D)))
        = (((σ.set v (.raw (valsO d))).set dx (.flds (sFlds d (.ref r) po fi))).set r (.list ((gReady (D.map NdA.nd)).map KV.pv))) := by
      rw [show Fm.put "_ready_nodes" (.ref r) (sFlds d .none po fi) = sFlds d (.ref r) po fi from rfl]
      funext a
      simp only [St.set_apply]
      grind
    rw [e1]
    have hR := hB1.prep (r := r) (R := gReady (D.map NdA.nd)) hr1.2
    have hk : Prep (D.map NdA.nd) σ ((((σ.set v (.raw (valsO d))).set dx (.flds (sFlds d (.ref r) po fi))).set r (.list ((gReady (D.map NdA.nd)).map KV.pv)))) dx d po fi := by
      refine ⟨r, hr2.2, fun a o e => ?_⟩
      simp only [St.set_apply] at e ⊢
      grind
    generalize (((σ.set v (.raw (valsO d))).set dx (.flds (sFlds d (.ref r) po fi))).set r (.list ((gReady (D.map NdA.nd)).map KV.pv))) = σ2 at hR hk ⊢
    repeat walk_at "sl"
    refine WM.inst DS (m := 127) (by rw [C.K]; kernel_rfl) (by rw [C.K]; kernel_rfl) hR.b.hx hR.b.hdx rfl ?_
    repeat walk_at "sl"
    refine WC.ofM (f_findCycle C hR.b hN hNz hcl ((hA1 _).le (by decide))) (hid2 fun Kz hKz => ?_)
    rintro w σ3 ⟨hle, hc⟩
    refine hKz _ _ ?_
    have hk3 : Prep (D.map NdA.nd) σ σ3 dx d po fi := by
      obtain ⟨r, a1, a2⟩ := hk
      exact ⟨r, a1, St.le_trans a2 hle⟩
    clear hk
    repeat walk_at "sl"
    refine WS.ifK ?_
    repeat walk_at "sl"
    rcases hc with ⟨rfl, fin, hfin⟩ | ⟨c, ring, rfl, hc1, hc2, hc3⟩
    · refine W1B.cNone ?_
      refine itF (by simp) ?_
      repeat walk_at "sl"
      repeat (first | refine hK4 _ _ _ ?_ | refine hK3 _ _ _ ?_ | refine hK2 _ _ _ ?_ | refine hK1 _ _ _ ?_ | walk_at "sl")
      exact ⟨rfl, hk3⟩
    · exact (hno ring hc3).elim

end
section
theorem CW.monoE {X : Cx} {A : Around} {f : PV} {args : List PV} {σ : St} {Q : PV → St → Prop} {E E' : Value → Shared → Prop} (h : CW X A f args σ Q E) (he : ∀ x s, E x s → E' x s) : CW X A f args σ Q E' :=
  fun σf s fv vs hf hv D R => wpAny_mono (h σf s fv vs hf hv D R) (fun v s' x => x) fun x s => he x s

set_option tactic.hygienic true in
theorem gGet_keys {G : List Nd} {k : KV} : (∀ a ∈ G.map (·.k), a ∈ (gGet G k).map (·.k)) ∧ k ∈ (gGet G k).map (·.k) := by
  unfold gGet
  split
  · rename_i h
    obtain ⟨g, hg, e⟩ := List.any_eq_true.mp h
    exact ⟨fun a h => h, List.mem_map.mpr ⟨g, hg, by simpa using e⟩⟩
  · exact ⟨fun a h => by rw [List.map_append]; exact List.mem_append_left _ h, by simp⟩
theorem gSu_keys (G : List Nd) (k v : KV) : (gSu G k v).map (·.k) = G.map (·.k) := by
  unfold gSu; rw [List.map_map]; exact List.map_congr_left fun a _ => by simp only [Function.comp]; split <;> rfl
theorem gClosed.get {G : List Nd} {k : KV} (h : gClosed G) : gClosed (gGet G k) := by
  intro g hg s hs
  have hk := (gGet_keys (G := G) (k := k)).1
  unfold gGet at hg
  split at hg
  · exact hk _ (h g hg s hs)
  · rcases List.mem_append.mp hg with hg | hg
    · exact hk _ (h g hg s hs)
    · simp at hg; subst hg; simp at hs
theorem gClosed.np {G : List Nd} {k : KV} {f : Int → Int} (h : gClosed G) : gClosed (gNp G k f) := by
  intro g hg s hs
  rw [gNp_keys]
  unfold gNp at hg
  obtain ⟨a, ha, rfl⟩ := List.mem_map.mp hg
  refine h a ha s ?_
  split at hs <;> exact hs
theorem gClosed.su {G : List Nd} {k v : KV} (h : gClosed G) (hv : v ∈ G.map (·.k)) : gClosed (gSu G k v) := by
  intro g hg s hs
  rw [gSu_keys]
  unfold gSu at hg
  obtain ⟨a, ha, rfl⟩ := List.mem_map.mp hg
  split at hs
  · rcases List.mem_append.mp hs with hs | hs
    · exact h a ha s hs
    · simp at hs; subst hs; exact hv
  · exact h a ha s hs
theorem gAdds.closed {k : KV} : ∀ (ps : List KV) {G : List Nd}, gClosed G → k ∈ G.map (·.k) → gClosed (ps.foldl (fun G p => gAdd1 G k p) G)
  | [], _, h, _ => h
  | p :: ps, G, h, hk => by
    rw [List.foldl_cons]
    refine gAdds.closed ps ?_ ?_
    · exact h.get.su (gGet_keys.1 _ hk)
    · unfold gAdd1; rw [gSu_keys]; exact gGet_keys.1 _ hk
theorem gClosed.add {G : List Nd} (h : gClosed G) (k : KV) (ps : List KV) : gClosed (gAdd G k ps) := by
  unfold gAdd
  exact gAdds.closed ps h.get.np (by rw [gNp_keys]; exact gGet_keys.2)

end
section
noncomputable def ks (G : List Nd) : List KV := G.map (·.k)
theorem any_keys {G : List Nd} {k : KV} : G.any (fun g => g.k = k) = true ↔ k ∈ ks G := by
  unfold ks
  simp [List.any_eq_true, List.mem_map]
theorem find_none {G : List Nd} {k : KV} : G.find? (fun g => g.k = k) = none ↔ k ∉ ks G := by
  unfold ks
  simp [List.find?_eq_none]
theorem npAt_no {G : List Nd} {k : KV} (h : k ∉ ks G) : npAt G k = 0 := by unfold npAt; rw [find_none.mpr h]; rfl
theorem suAt_no {G : List Nd} {k : KV} (h : k ∉ ks G) : suAt G k = [] := by unfold suAt; rw [find_none.mpr h]; rfl
theorem find_get (G : List Nd) (k x : KV) : (gGet G k).find? (fun g => g.k = x) = (G.find? (fun g => g.k = x)).or (if k ∉ ks G ∧ x = k then some ⟨k, 0, []⟩ else none) := by
  unfold gGet
  by_cases q : k ∈ ks G
  · rw [if_pos (any_keys.mpr q), if_neg (fun h => h.1 q), Option.or_none]
  · rw [if_neg (fun h => q (any_keys.mp h)), List.find?_append]
    congr 1
    by_cases e : k = x
    · subst e; rw [if_pos ⟨q, rfl⟩]; simp
    · rw [if_neg (fun h => e h.2.symm)]; simp [e]
theorem npAt_get (G : List Nd) (k x : KV) : npAt (gGet G k) x = npAt G x := by
  unfold npAt
  rw [find_get]
  cases e : G.find? (fun g => g.k = x) with
  | some g => rfl
  | none => rw [Option.none_or]; split <;> rfl
theorem suAt_get (G : List Nd) (k x : KV) : suAt (gGet G k) x = suAt G x := by
  unfold suAt
  rw [find_get]
  cases e : G.find? (fun g => g.k = x) with
  | some g => rfl
  | none => rw [Option.none_or]; split <;> rfl
theorem ks_get (G : List Nd) (k : KV) : ks (gGet G k) = if k ∈ ks G then ks G else ks G ++ [k] := by
  unfold gGet
  by_cases q : k ∈ ks G
  · rw [if_pos (any_keys.mpr q), if_pos q]
  · rw [if_neg (fun h => q (any_keys.mp h)), if_neg q]; simp [ks]
set_option tactic.hygienic true in
theorem ks_get_mem {G : List Nd} {k x : KV} : x ∈ ks (gGet G k) ↔ x ∈ ks G ∨ x = k := by
  rw [ks_get]
  split
  · rename_i h
    exact ⟨.inl, fun q => q.elim id fun e => e ▸ h⟩
  · simp
set_option tactic.hygienic true in
theorem ks_get_nodup {G : List Nd} {k : KV} (h : (ks G).Nodup) : (ks (gGet G k)).Nodup := by
  rw [ks_get]
  split
  · exact h
  · rename_i q
    rw [List.nodup_append]
    exact ⟨h, by simp, fun a ha b hb => by simp at hb; subst hb; exact fun e => q (e ▸ ha)⟩
theorem find_map {G : List Nd} {x : KV} {F : Nd → Nd} (hF : ∀ g, (F g).k = g.k) : (G.map F).find? (fun g => g.k = x) = (G.find? (fun g => g.k = x)).map F := by
  rw [List.find?_map]
  congr 1
  congr 1
  funext g
  simp [hF]
theorem npAt_np (G : List Nd) (k x : KV) (f : Int → Int) : npAt (gNp G k f) x = if x = k ∧ k ∈ ks G then f (npAt G k) else npAt G x := by
  unfold npAt gNp
  rw [find_map (fun g => by split <;> rfl)]
  cases e : G.find? (fun g => g.k = x) with
  | none =>
    have := find_none.mp e
    rw [if_neg (fun (h : x = k ∧ k ∈ ks G) => this (h.1 ▸ h.2))]; rfl
  | some g =>
    have hk := List.find?_some e
    have hm := List.mem_of_find?_eq_some e
    simp only [decide_eq_true_eq] at hk
    by_cases q : x = k
    · subst q
      rw [if_pos ⟨rfl, List.mem_map.mpr ⟨g, hm, hk⟩⟩, e]
      simp [hk]
    · rw [if_neg (fun h => q h.1)]
      simp [hk, q]
theorem suAt_np (G : List Nd) (k x : KV) (f : Int → Int) : suAt (gNp G k f) x = suAt G x := by
  unfold suAt gNp
  rw [find_map (fun g => by split <;> rfl)]
  cases e : G.find? (fun g => g.k = x) with
  | none => rfl
  | some g => simp only [Option.map_some]; split <;> rfl
theorem ks_np (G : List Nd) (k : KV) (f : Int → Int) : ks (gNp G k f) = ks G := gNp_keys G k f
theorem npAt_su (G : List Nd) (k v x : KV) : npAt (gSu G k v) x = npAt G x := by
  unfold npAt gSu
  rw [find_map (fun g => by split <;> rfl)]
  cases e : G.find? (fun g => g.k = x) with
  | none => rfl
  | some g => simp only [Option.map_some]; split <;> rfl
theorem suAt_su (G : List Nd) (k v x : KV) : suAt (gSu G k v) x = if x = k ∧ k ∈ ks G then suAt G k ++ [v] else suAt G x := by
  unfold suAt gSu
  rw [find_map (fun g => by split <;> rfl)]
  cases e : G.find? (fun g => g.k = x) with
  | none =>
    have := find_none.mp e
    rw [if_neg (fun (h : x = k ∧ k ∈ ks G) => this (h.1 ▸ h.2))]; rfl
  | some g =>
    have hk := List.find?_some e
    have hm := List.mem_of_find?_eq_some e
    simp only [decide_eq_true_eq] at hk
    by_cases q : x = k
    · subst q
      rw [if_pos ⟨rfl, List.mem_map.mpr ⟨g, hm, hk⟩⟩, e]
      simp [hk]
    · rw [if_neg (fun h => q h.1)]
      simp [hk, q]
theorem ks_su (G : List Nd) (k v : KV) : ks (gSu G k v) = ks G := gSu_keys G k v
theorem ring_rank {G : List Nd} {ring : List KV} (f : KV → Nat) (hf : ∀ v w, v ∈ ks G → w ∈ suAt G v → f w < f v) (h : IsRing G ring) : False := by
  obtain ⟨l, v, rfl, h1, h2, h3, h4⟩ := h
  have key : ∀ k a, (l ++ [v])[k]? = some a → a ∈ ks G ∧ f a + k ≤ f v := by
    intro k
    induction k with
    | zero =>
      intro a ha
      have : l ≠ [] := fun e => by subst e; cases h1
      obtain ⟨x, r, rfl⟩ := List.exists_cons_of_ne_nil this
      simp at ha h1; subst ha; subst h1
      exact ⟨h3 _ (.head _), by lia⟩
    | succ k ih =>
      intro b hb
      have hk : k < (l ++ [v]).length := by have := (List.getElem?_eq_some_iff.mp hb).1; lia
      obtain ⟨i1, i2⟩ := ih _ (List.getElem?_eq_getElem hk)
      have e := h4 k _ b (List.getElem?_eq_getElem hk) hb
      have := hf _ b i1 e
      refine ⟨?_, by lia⟩
      have hm := List.mem_of_getElem? hb
      rcases List.mem_append.mp hm with hm | hm
      · exact h3 b hm
      · simp at hm; subst hm
        cases l with
        | nil => cases h1
        | cons x r => simp at h1; subst h1; exact h3 _ (.head _)
  have := (key l.length v (by simp)).2
  cases l with
  | nil => cases h1
  | cons x r => rw [List.length_cons] at this; lia

end
section
noncomputable def wrt (D : Nat → Dd) : Nat → Nat → List Nat
  | 0, _ => []
  | a + 1, f => if f = (D a).t then [a] else wrt D a f
noncomputable def rdr (D : Nat → Dd) : Nat → Nat → List Nat
  | 0, _ => []
  | a + 1, f => if f = (D a).t then [] else if f = (D a).o then rdr D a f ++ [a] else rdr D a f
noncomputable def prd (D : Nat → Dd) (a : Nat) : List Nat := wrt D a (D a).o ++ wrt D a (D a).t ++ rdr D a (D a).t
theorem wrt_len (D : Nat → Dd) (f : Nat) : ∀ a, (wrt D a f).length ≤ 1
  | 0 => by simp [wrt]
  | a + 1 => by
    rw [wrt]; split
    · simp
    · exact wrt_len D f a
theorem rdr_len (D : Nat → Dd) (f : Nat) : ∀ a, (rdr D a f).length ≤ a
  | 0 => by simp [rdr]
  | a + 1 => by
    have := rdr_len D f a
    rw [rdr]; split
    · simp
    · split
      · simp; lia
      · lia
theorem prd_len (D : Nat → Dd) (a : Nat) : (prd D a).length ≤ a + 2 := by
  have h1 := wrt_len D (D a).o a
  have h2 := wrt_len D (D a).t a
  have h3 := rdr_len D (D a).t a
  unfold prd; rw [List.length_append, List.length_append]; lia
set_option tactic.hygienic true in
theorem wrt_mem {D : Nat → Dd} {f j : Nat} : ∀ {a}, j ∈ wrt D a f → j < a ∧ (D j).t = f
  | 0, h => by cases h
  | a + 1, h => by
    rw [wrt] at h; split at h
    · rename_i q
      simp at h; subst h; exact ⟨Nat.lt_succ_self _, q.symm⟩
    · obtain ⟨h1, h2⟩ := wrt_mem h
      exact ⟨by lia, h2⟩
theorem wrt_ex {D : Nat → Dd} {f i : Nat} (e : (D i).t = f) : ∀ {a}, i < a → ∃ j ∈ wrt D a f, i ≤ j
  | 0, h => absurd h (Nat.not_lt_zero _)
  | a + 1, h => by
    rw [wrt]
    by_cases q : f = (D a).t
    · rw [if_pos q]; exact ⟨a, by simp, by lia⟩
    · rw [if_neg q]
      exact wrt_ex e (show i < a from by
        apply Classical.byContradiction
        intro w
        have : i = a := by lia
        subst this; exact q e.symm)
set_option tactic.hygienic true in
theorem rdr_mem {D : Nat → Dd} {f j : Nat} : ∀ {a}, j ∈ rdr D a f → j < a ∧ (D j).o = f
  | 0, h => by cases h
  | a + 1, h => by
    rw [rdr] at h; split at h
    · cases h
    · split at h
      · rename_i q
        rcases List.mem_append.mp h with h | h
        · obtain ⟨h1, h2⟩ := rdr_mem h
          exact ⟨by lia, h2⟩
        · simp at h; subst h; exact ⟨Nat.lt_succ_self _, q.symm⟩
      · obtain ⟨h1, h2⟩ := rdr_mem h
        exact ⟨by lia, h2⟩
theorem rdr_ex {D : Nat → Dd} {f i : Nat} (e : (D i).o = f) : ∀ {a}, i < a → i ∈ rdr D a f ∨ ∃ j ∈ wrt D a f, i ≤ j
  | 0, h => absurd h (Nat.not_lt_zero _)
  | a + 1, h => by
    rw [rdr, wrt]
    by_cases q : f = (D a).t
    · rw [if_pos q, if_pos q]; exact .inr ⟨a, by simp, by lia⟩
    · rw [if_neg q, if_neg q]
      by_cases w : i = a
      · subst w
        rw [if_pos e.symm]; exact .inl (by simp)
      · rcases rdr_ex e (show i < a from by lia) with g | g
        · left; split
          · exact List.mem_append_left _ g
          · exact g
        · exact .inr g
theorem prd_ahead (D : Nat → Dd) (n : Nat) : Ahead D n (prd D) := by
  refine ⟨fun a _ j hj => ?_, fun i a hi _ c => ?_⟩
  · unfold prd at hj
    rcases List.mem_append.mp hj with hj | hj
    · rcases List.mem_append.mp hj with hj | hj
      · exact ⟨(wrt_mem hj).1, conf_iff.mpr (.inr (.inl (wrt_mem hj).2))⟩
      · exact ⟨(wrt_mem hj).1, conf_iff.mpr (.inl (wrt_mem hj).2)⟩
    · exact ⟨(rdr_mem hj).1, conf_iff.mpr (.inr (.inr (rdr_mem hj).2))⟩
  · have fin : ∀ j, (j ∈ wrt D a (D a).o ∨ j ∈ wrt D a (D a).t) → i ≤ j → conf (D i) (D j) = true → i ∈ prd D a ∨ ∃ j ∈ prd D a, i < j ∧ conf (D i) (D j) = true := by
      intro j hj hij c
      have hm : j ∈ prd D a := by
        unfold prd
        rcases hj with hj | hj
        · exact List.mem_append_left _ (List.mem_append_left _ hj)
        · exact List.mem_append_left _ (List.mem_append_right _ hj)
      by_cases q : i = j
      · subst q; exact .inl hm
      · exact .inr ⟨j, hm, by lia, c⟩
    rcases conf_iff.mp c with e | e | e
    · obtain ⟨j, hj, hij⟩ := wrt_ex e hi
      exact fin j (.inr hj) hij (conf_iff.mpr (.inl (e.trans (wrt_mem hj).2.symm)))
    · obtain ⟨j, hj, hij⟩ := wrt_ex e hi
      exact fin j (.inl hj) hij (conf_iff.mpr (.inl (e.trans (wrt_mem hj).2.symm)))
    · rcases rdr_ex e hi with g | ⟨j, hj, hij⟩
      · left; unfold prd; exact List.mem_append_right _ g
      · exact fin j (.inr hj) hij (conf_iff.mpr (.inr (.inr (e.trans (wrt_mem hj).2.symm))))
noncomputable def gTo (key : Nat → KV) (P : Nat → List Nat) : Nat → List Nd
  | 0 => []
  | a + 1 => gAdd (gTo key P a) (key a) ((P a).map key)
theorem adds_multi (k : KV) : ∀ (ps : List KV) (G : List Nd),
    (∀ x, x ∈ ks (ps.foldl (fun G p => gAdd1 G k p) G) ↔ x ∈ ks G ∨ x ∈ ps) ∧ ((ks G).Nodup → (ks (ps.foldl (fun G p => gAdd1 G k p) G)).Nodup) ∧
    (∀ x, suAt (ps.foldl (fun G p => gAdd1 G k p) G) x = suAt G x ++ List.replicate (ps.count x) k) ∧ ∀ x, npAt (ps.foldl (fun G p => gAdd1 G k p) G) x = npAt G x
  | [], G => ⟨fun x => by simp, id, fun x => by simp, fun x => rfl⟩
  | p :: ps, G => by
    have e1 : ∀ x, x ∈ ks (gAdd1 G k p) ↔ x ∈ ks G ∨ x = p := fun x => by unfold gAdd1; rw [ks_su, ks_get_mem]
    have e2 : (ks G).Nodup → (ks (gAdd1 G k p)).Nodup := fun h => by unfold gAdd1; rw [ks_su]; exact ks_get_nodup h
    have e3 : ∀ x, suAt (gAdd1 G k p) x = if x = p then suAt G x ++ [k] else suAt G x := fun x => by
      unfold gAdd1
      have hp : p ∈ ks (gGet G p) := ks_get_mem.mpr (.inr rfl)
      rw [suAt_su, suAt_get, suAt_get]
      by_cases q : x = p
      · rw [if_pos ⟨q, hp⟩, if_pos q, q]
      · rw [if_neg (fun h => q h.1), if_neg q]
    have e4 : ∀ x, npAt (gAdd1 G k p) x = npAt G x := fun x => by unfold gAdd1; rw [npAt_su, npAt_get]
    obtain ⟨i1, i2, i3, i4⟩ := adds_multi k ps (gAdd1 G k p)
    rw [List.foldl_cons]
    refine ⟨fun x => ?_, fun h => i2 (e2 h), fun x => ?_, fun x => (i4 x).trans (e4 x)⟩
    · rw [i1, e1, List.mem_cons, or_assoc]
    · rw [i3, e3, List.count_cons]
      by_cases q : x = p
      · subst q
        rw [if_pos rfl, if_pos (by simp), List.append_assoc]; rfl
      · rw [if_neg q, if_neg (by simpa using Ne.symm q), Nat.add_zero]
theorem add_multi (G : List Nd) (k : KV) (ps : List KV) :
    (∀ x, x ∈ ks (gAdd G k ps) ↔ x ∈ ks G ∨ x = k ∨ x ∈ ps) ∧ ((ks G).Nodup → (ks (gAdd G k ps)).Nodup) ∧
    (∀ x, suAt (gAdd G k ps) x = suAt G x ++ List.replicate (ps.count x) k) ∧ ∀ x, npAt (gAdd G k ps) x = if x = k then npAt G k + ps.length else npAt G x := by
  have hk : k ∈ ks (gGet G k) := ks_get_mem.mpr (.inr rfl)
  obtain ⟨i1, i2, i3, i4⟩ := adds_multi k ps (gNp (gGet G k) k (· + (ps.length : Int)))
  unfold gAdd
  refine ⟨fun x => ?_, fun h => i2 (by rw [ks_np]; exact ks_get_nodup h), fun x => ?_, fun x => ?_⟩
  · rw [i1, ks_np, ks_get_mem, or_assoc]
  · rw [i3, suAt_np, suAt_get]
  · rw [i4, npAt_np, npAt_get, npAt_get]
    by_cases q : x = k
    · rw [if_pos ⟨q, hk⟩, if_pos q]
    · rw [if_neg (fun h => q h.1), if_neg q]
structure GM (key : Nat → KV) (P : Nat → List Nat) (n : Nat) (G : List Nd) : Prop where
  nd : (ks G).Nodup
  keys : ∀ x, x ∈ ks G ↔ ∃ a, a < n ∧ x = key a
  su : ∀ b, b < n → ∃ ws : List Nat, suAt G (key b) = ws.map key ∧ (∀ a ∈ ws, a < n) ∧ ∀ a, a < n → ws.count a = (P a).count b
  np : ∀ a, a < n → npAt G (key a) = ((P a).length : Int)
noncomputable def Inj (key : Nat → KV) (n : Nat) : Prop := ∀ a b, a < n → b < n → key a = key b → a = b
theorem count_key {key : Nat → KV} {n : Nat} (hk : Inj key n) {b : Nat} (hb : b < n) : ∀ {l : List Nat}, (∀ j ∈ l, j < n) → (l.map key).count (key b) = l.count b
  | [], _ => rfl
  | j :: l, h => by
    rw [List.map_cons, List.count_cons, List.count_cons, count_key hk hb fun x hx => h x (.tail _ hx)]
    congr 1
    by_cases q : j = b
    · subst q; simp
    · have : key j ≠ key b := fun e => q (hk j b (h j (.head _)) hb e)
      simp [q, this]
theorem gTo_ok {key : Nat → KV} {P : Nat → List Nat} {m : Nat} (hk : Inj key m) (hP : ∀ a, a < m → ∀ j ∈ P a, j < a) : ∀ n, n ≤ m → GM key P n (gTo key P n)
  | 0, _ => ⟨by simp [gTo, ks], fun x => ⟨fun h => by simp [gTo, ks] at h, fun ⟨a, h, _⟩ => absurd h (Nat.not_lt_zero _)⟩, fun b h => absurd h (Nat.not_lt_zero _), fun b h => absurd h (Nat.not_lt_zero _)⟩
  | n + 1, hn => by
    have h := gTo_ok hk hP n (by lia)
    have hPn := hP n (by lia)
    obtain ⟨i1, i2, i3, i4⟩ := add_multi (gTo key P n) (key n) ((P n).map key)
    have new : key n ∉ ks (gTo key P n) := fun q => by
      obtain ⟨a, ha, e⟩ := (h.keys _).mp q
      have := hk n a (by lia) (by lia) e; lia
    show GM key P (n + 1) (gAdd (gTo key P n) (key n) ((P n).map key))
    refine ⟨i2 h.nd, fun x => ?_, fun b hb => ?_, fun a ha => ?_⟩
    · rw [i1, h.keys]
      constructor
      · rintro (⟨a, ha, e⟩ | e | e)
        · exact ⟨a, by lia, e⟩
        · exact ⟨n, by lia, e⟩
        · obtain ⟨j, hj, rfl⟩ := List.mem_map.mp e
          exact ⟨j, by have := hPn j hj; lia, rfl⟩
      · rintro ⟨a, ha, e⟩
        by_cases q : a = n
        · subst q; exact .inr (.inl e)
        · exact .inl ⟨a, by lia, e⟩
    · have hc : ((P n).map key).count (key b) = (P n).count b := count_key hk (n := m) (by lia) fun j hj => by have := hPn j hj; lia
      by_cases q : b = n
      · subst q
        have h0 : (P b).count b = 0 := List.count_eq_zero.mpr fun q => by have := hPn b q; lia
        refine ⟨[], ?_, fun a ha => (by cases ha), fun a ha => ?_⟩
        · rw [i3, suAt_no new, hc, h0]; rfl
        · refine (List.count_eq_zero.mpr fun q => ?_).symm
          have := hP a (by lia) b q; lia
      · obtain ⟨ws, w1, w2, w3⟩ := h.su b (by lia)
        refine ⟨ws ++ List.replicate ((P n).count b) n, ?_, fun a ha => ?_, fun a ha => ?_⟩
        · rw [i3, w1, hc, List.map_append, List.map_replicate]
        · rcases List.mem_append.mp ha with ha | ha
          · have := w2 a ha; lia
          · have := (List.mem_replicate.mp ha).2; lia
        · rw [List.count_append, List.count_replicate]
          by_cases w : a = n
          · subst w
            rw [List.count_eq_zero.mpr fun q => by have := w2 a q; lia]; simp
          · rw [w3 a (by lia), if_neg (by simpa using Ne.symm w), Nat.add_zero]
    · rw [i4]
      by_cases q : a = n
      · subst q
        rw [if_pos rfl, npAt_no new, List.length_map]; simp
      · rw [if_neg fun e => q (hk a n (by lia) (by lia) e), h.np a (by lia)]

end
section
theorem out_ks (r : List KV) (G : List Nd) : ks (gOut G r) = ks G := gOut_keys r G
theorem out_su (x : KV) : ∀ (r : List KV) (G : List Nd), suAt (gOut G r) x = suAt G x
  | [], G => rfl
  | b :: r, G => by
    show suAt (gOut (gNp G b fun _ => -1) r) x = _
    rw [out_su x r, suAt_np]
theorem out_npK (x : KV) : ∀ (r : List KV) (G : List Nd), npAt (gOut G r) x = if x ∈ r ∧ x ∈ ks G then -1 else npAt G x
  | [], G => by simp [gOut]
  | b :: r, G => by
    show npAt (gOut (gNp G b fun _ => -1) r) x = _
    rw [out_npK x r, ks_np, npAt_np]
    by_cases q : x = b
    · subst q
      by_cases w : x ∈ ks G <;> simp [w]
    · simp [q]
theorem mem_key {key : Nat → KV} {n : Nat} (hk : Inj key n) {a : Nat} (ha : a < n) {l : List Nat} (hl : ∀ j ∈ l, j < n) : key a ∈ l.map key ↔ a ∈ l := by
  rw [List.mem_map]
  exact ⟨fun ⟨b, h, e⟩ => hk b a (hl b h) ha e ▸ h, fun h => ⟨a, h, rfl⟩⟩
set_option tactic.hygienic true in
theorem gDec_multi {key : Nat → KV} {n : Nat} (hk : Inj key n) : ∀ (ws : List Nat) (G : List Nd) (R : List KV), (∀ w ∈ ws, w < n ∧ key w ∈ ks G) → (∀ w ∈ ws, (ws.count w : Int) ≤ npAt G (key w)) →
    ks ((ws.map key).foldl gDec (G, R)).1 = ks G ∧ (∀ x, suAt ((ws.map key).foldl gDec (G, R)).1 x = suAt G x) ∧
    (∀ b, b < n → npAt ((ws.map key).foldl gDec (G, R)).1 (key b) = npAt G (key b) - ws.count b) ∧
    ∃ es : List Nat, ((ws.map key).foldl gDec (G, R)).2 = R ++ es.map key ∧ es.Nodup ∧ ∀ b, b ∈ es ↔ b ∈ ws ∧ npAt G (key b) = ws.count b
  | [], G, R, _, _ => ⟨rfl, fun x => rfl, fun b _ => by simp, [], by simp, .nil, by simp⟩
  | w :: ws, G, R, hw, hc => by
    obtain ⟨wn, wk⟩ := hw w (.head _)
    have e : gDec (G, R) (key w) = (gNp G (key w) (fun x => x - 1), if npAt G (key w) - 1 = 0 then R ++ [key w] else R) := rfl
    have np : ∀ b, b < n → npAt (gNp G (key w) (fun x => x - 1)) (key b) = if b = w then npAt G (key b) - 1 else npAt G (key b) := fun b hb => by
      rw [npAt_np]
      by_cases q : b = w
      · subst q; rw [if_pos ⟨rfl, wk⟩, if_pos rfl]
      · rw [if_neg (fun h => q (hk b w hb wn h.1)), if_neg q]
    have cc : ∀ b, (w :: ws).count b = ws.count b + if b = w then 1 else 0 := fun b => by
      rw [List.count_cons]
      by_cases q : b = w
      · subst q; simp
      · rw [if_neg q, if_neg (by simpa using Ne.symm q)]
    rw [List.map_cons, List.foldl_cons, e]
    obtain ⟨a1, a2, a3, es, a4, a5, a6⟩ := gDec_multi hk ws (gNp G (key w) (fun x => x - 1)) (if npAt G (key w) - 1 = 0 then R ++ [key w] else R) (fun x hx => by rw [ks_np]; exact hw x (.tail _ hx)) (fun x hx => by
      have h1 := hc x (.tail _ hx)
      rw [cc] at h1
      rw [np x (hw x (.tail _ hx)).1]
      split <;> rename_i q
      · rw [if_pos q] at h1; push_cast at h1; lia
      · rw [if_neg q] at h1; simpa using h1)
    have hw0 := hc w (.head _)
    rw [cc, if_pos rfl] at hw0
    refine ⟨a1.trans (ks_np ..), fun x => by rw [a2, suAt_np], fun b hb => ?_, ?_⟩
    · rw [a3 b hb, np b hb, cc]
      split <;> rename_i q <;> push_cast <;> lia
    · by_cases q : npAt G (key w) - 1 = 0
      · have hz : ws.count w = 0 := by push_cast at hw0; lia
        have hn : w ∉ ws := List.count_eq_zero.mp hz
        refine ⟨w :: es, by rw [a4, if_pos q, List.map_cons, List.append_assoc]; rfl, List.nodup_cons.mpr ⟨fun g => hn ((a6 w).mp g).1, a5⟩, fun b => ?_⟩
        by_cases g : b = w
        · subst g
          rw [cc, if_pos rfl, hz]
          exact ⟨fun _ => ⟨.head _, by lia⟩, fun _ => .head _⟩
        · rw [List.mem_cons, List.mem_cons, cc, if_neg g, a6]
          constructor
          · rintro (h | ⟨h1, h2⟩)
            · exact absurd h g
            · rw [np b (hw b (.tail _ h1)).1, if_neg g] at h2
              exact ⟨.inr h1, h2⟩
          · rintro ⟨h1 | h1, h2⟩
            · exact absurd h1 g
            · refine .inr ⟨h1, ?_⟩
              rw [np b (hw b (.tail _ h1)).1, if_neg g]; exact h2
      · refine ⟨es, by rw [a4, if_neg q], a5, fun b => ?_⟩
        rw [a6, List.mem_cons, cc]
        by_cases g : b = w
        · subst g
          rw [if_pos rfl, np b wn, if_pos rfl]
          constructor
          · rintro ⟨h1, h2⟩
            exact ⟨.inl rfl, by push_cast; lia⟩
          · rintro ⟨_, h2⟩
            push_cast at h2
            refine ⟨?_, by lia⟩
            apply Classical.byContradiction
            intro hz
            have := List.count_eq_zero.mpr hz
            lia
        · rw [if_neg g]
          constructor
          · rintro ⟨h1, h2⟩
            rw [np b (hw b (.tail _ h1)).1, if_neg g] at h2
            exact ⟨.inr h1, h2⟩
          · rintro ⟨h1 | h1, h2⟩
            · exact absurd h1 g
            · refine ⟨h1, ?_⟩
              rw [np b (hw b (.tail _ h1)).1, if_neg g]; exact h2
structure Cs (key : Nat → KV) (P : Nat → List Nat) (n : Nat) (G : List Nd) (out don : List Nat) (st : List Nd × List KV) : Prop where
  keys : ks st.1 = ks G
  su : ∀ x, suAt st.1 x = suAt G x
  np : ∀ a, a < n → a ∉ out → npAt st.1 (key a) = (((P a).filter fun j => !decide (j ∈ don)).length : Int)
  npr : ∀ a ∈ out, a ∉ don → npAt st.1 (key a) = -1
  lt : ∀ a ∈ out, a < n
  sub : ∀ a ∈ don, a ∈ out
  outp : ∀ a ∈ out, ∀ j ∈ P a, j ∈ don
  rd : ∃ r : List Nat, st.2 = r.map key ∧ r.Nodup ∧ ∀ a, a ∈ r ↔ a < n ∧ a ∉ out ∧ ∀ j ∈ P a, j ∈ don
theorem Cs.out {key : Nat → KV} {P : Nat → List Nat} {n : Nat} {G : List Nd} (hG : GM key P n G) (hk : Inj key n) {out don : List Nat} {st : List Nd × List KV} (h : Cs key P n G out don st) {r : List Nat} (e : st.2 = r.map key) (hr : ∀ a, a ∈ r ↔ a < n ∧ a ∉ out ∧ ∀ j ∈ P a, j ∈ don) : Cs key P n G (out ++ r) don (gOut st.1 st.2, []) := by
  rw [e]
  have hl : ∀ j ∈ r, j < n := fun j hj => ((hr j).mp hj).1
  have lt2 : ∀ a ∈ out ++ r, a < n := fun a ha => (List.mem_append.mp ha).elim (h.lt a) (hl a)
  refine ⟨(out_ks ..).trans h.keys, fun x => (out_su ..).trans (h.su x), fun a ha ho => ?_, fun a ha hd => ?_, lt2, fun a ha => List.mem_append_left _ (h.sub a ha), fun a ha => ?_, [], rfl, .nil, fun a => ?_⟩
  · show npAt (gOut st.1 (r.map key)) _ = _
    rw [out_npK, if_neg (fun q => ho (List.mem_append_right _ ((mem_key hk ha hl).mp q.1)))]
    exact h.np a ha fun q => ho (List.mem_append_left _ q)
  · show npAt (gOut st.1 (r.map key)) _ = _
    rw [out_npK]
    by_cases q : a ∈ r
    · rw [if_pos ⟨List.mem_map.mpr ⟨a, q, rfl⟩, by rw [h.keys]; exact (hG.keys _).mpr ⟨a, hl a q, rfl⟩⟩]
    · rw [if_neg (fun w => q ((mem_key hk (lt2 a ha) hl).mp w.1))]
      exact h.npr a ((List.mem_append.mp ha).resolve_right q) hd
  · rcases List.mem_append.mp ha with ha | ha
    · exact h.outp a ha
    · exact ((hr a).mp ha).2.2
  · refine ⟨fun q => (by cases q), fun ⟨q1, q2, q3⟩ => ?_⟩
    exact absurd (List.mem_append_right out ((hr a).mpr ⟨q1, fun w => q2 (List.mem_append_left _ w), q3⟩)) q2
theorem Cs.done {key : Nat → KV} {P : Nat → List Nat} {n : Nat} {G : List Nd} (hG : GM key P n G) (hk : Inj key n) {out don : List Nat} {st : List Nd × List KV} (h : Cs key P n G out don st) {v : Nat} (hv : v ∈ out) (hd : v ∉ don) :
    (key v ∈ st.1.map (·.k) ∧ npAt st.1 (key v) = -1) ∧ Cs key P n G out (don ++ [v]) (gDone1 st (key v)) := by
  have vn := h.lt v hv
  refine ⟨⟨by show _ ∈ ks st.1; rw [h.keys]; exact (hG.keys _).mpr ⟨v, vn, rfl⟩, h.npr v hv hd⟩, ?_⟩
  obtain ⟨ws, w1, w2, w3⟩ := hG.su v vn
  have hs : suAt st.1 (key v) = ws.map key := (h.su _).trans w1
  have e : gDone1 st (key v) = (ws.map key).foldl gDec (gNp st.1 (key v) (fun _ => -2), st.2) := by unfold gDone1; rw [hs]
  have hm : ∀ a, a < n → (a ∈ ws ↔ v ∈ P a) := fun a ha => by
    rw [← List.count_pos_iff, w3 a ha, List.count_pos_iff]
  have hno : ∀ a ∈ ws, a ∉ out := fun a ha q => hd (h.outp a q v ((hm a (w2 a ha)).mp ha))
  have hnv : ∀ a, a ∉ out → a ≠ v := fun a ha q => ha (q ▸ hv)
  have np0 : ∀ a, a < n → a ≠ v → npAt (gNp st.1 (key v) (fun _ => -2)) (key a) = npAt st.1 (key a) := fun a ha hne => by rw [npAt_np, if_neg (fun q => hne (hk a v ha vn q.1))]
  have cnt : ∀ l : List Nat, (l.filter fun j => !decide (j ∈ don)).length = (l.filter fun j => !decide (j ∈ don ++ [v])).length + l.count v := by
    intro l
    induction l with
    | nil => rfl
    | cons x l ih =>
      rw [List.filter_cons, List.filter_cons, List.count_cons]
      by_cases q : x = v
      · subst q
        rw [if_pos (by simp [hd]), if_neg (by simp), if_pos (by simp), List.length_cons, ih]; lia
      · have hq : ¬ (x == v) = true := by simpa using q
        by_cases w : x ∈ don
        · rw [if_neg (by simp [w]), if_neg (by simp [w]), if_neg hq]; exact ih
        · rw [if_pos (by simp [w]), if_pos (by simp [w, q]), if_neg hq, List.length_cons, List.length_cons, ih]; lia
  obtain ⟨a1, a2, a3, es, a4, a5, a6⟩ := gDec_multi hk ws (gNp st.1 (key v) (fun _ => -2)) st.2 (fun w hw => ⟨w2 w hw, by rw [ks_np, h.keys]; exact (hG.keys _).mpr ⟨w, w2 w hw, rfl⟩⟩) (fun w hw => by
    rw [np0 w (w2 w hw) (hnv w (hno w hw)), h.np w (w2 w hw) (hno w hw), w3 w (w2 w hw), cnt]
    push_cast; lia)
  rw [e]
  have hmem : ∀ a, a ∈ es ↔ a < n ∧ v ∈ P a ∧ ∀ j ∈ P a, j ∈ don ++ [v] := fun a => by
    rw [a6]
    constructor
    · rintro ⟨h1, h2⟩
      have an := w2 a h1
      rw [np0 a an (hnv a (hno a h1)), h.np a an (hno a h1), w3 a an, cnt] at h2
      have h3 := List.filter_eq_nil_iff.mp (List.length_eq_zero_iff.mp (show ((P a).filter fun j => !decide (j ∈ don ++ [v])).length = 0 by push_cast at h2; lia))
      exact ⟨an, (hm a an).mp h1, fun j hj => by have := h3 j hj; rwa [Bool.not_eq_true, Bool.not_eq_false', decide_eq_true_eq] at this⟩
    · rintro ⟨an, h1, h2⟩
      have hw := (hm a an).mpr h1
      refine ⟨hw, ?_⟩
      rw [np0 a an (hnv a (hno a hw)), h.np a an (hno a hw), w3 a an, cnt, List.filter_eq_nil_iff.mpr fun j hj => by rw [decide_eq_true (h2 j hj)]; decide]
      simp
  refine ⟨a1.trans ((ks_np ..).trans h.keys), fun x => (a2 x).trans ((suAt_np ..).trans (h.su x)), fun a ha ho => ?_, fun a ha hnd => ?_, h.lt, fun a ha => ?_, fun a ha j hj => List.mem_append_left _ (h.outp a ha j hj), ?_⟩
  · rw [a3 a ha, np0 a ha (hnv a ho), h.np a ha ho, w3 a ha, cnt]; push_cast; lia
  · have an := h.lt a ha
    have hne : a ≠ v := fun q => hnd (by simp [q])
    have hz : ws.count a = 0 := List.count_eq_zero.mpr fun q => hno a q ha
    rw [a3 a an, np0 a an hne, h.npr a ha fun q => hnd (List.mem_append_left _ q), hz]; rfl
  · rcases List.mem_append.mp ha with ha | ha
    · exact h.sub a ha
    · simp at ha; subst ha; exact hv
  · obtain ⟨r, r1, r2, r3⟩ := h.rd
    refine ⟨r ++ es, by rw [a4, r1, List.map_append], ?_, fun a => ?_⟩
    · rw [List.nodup_append]
      refine ⟨r2, a5, fun a ha b hb => ?_⟩
      rintro rfl
      exact hd (((r3 a).mp ha).2.2 v ((hmem a).mp hb).2.1)
    · rw [List.mem_append, r3, hmem]
      constructor
      · rintro (⟨b1, b2, b3⟩ | ⟨b1, b2, b3⟩)
        · exact ⟨b1, b2, fun j hj => List.mem_append_left _ (b3 j hj)⟩
        · exact ⟨b1, hno a ((hm a b1).mpr b2), b3⟩
      · rintro ⟨b1, b2, b3⟩
        by_cases s : v ∈ P a
        · exact .inr ⟨b1, s, b3⟩
        · refine .inl ⟨b1, b2, fun j hj => ?_⟩
          rcases List.mem_append.mp (b3 j hj) with w | w
          · exact w
          · simp at w; subst w; exact absurd hj s
theorem Cs.dones {key : Nat → KV} {P : Nat → List Nat} {n : Nat} {G : List Nd} (hG : GM key P n G) (hk : Inj key n) {out : List Nat} : ∀ (vs don : List Nat) (st : List Nd × List KV), Cs key P n G out don st → (∀ v ∈ vs, v ∈ out ∧ v ∉ don) → vs.Nodup → doneOk st (vs.map key) ∧ Cs key P n G out (don ++ vs) (gDones st (vs.map key))
  | [], don, st, h, _, _ => ⟨trivial, by rw [List.append_nil]; exact h⟩
  | v :: vs, don, st, h, hv, hn => by
    rw [List.nodup_cons] at hn
    obtain ⟨h1, h2⟩ := hv v (.head _)
    obtain ⟨g1, g2⟩ := h.done hG hk h1 h2
    obtain ⟨i1, i2⟩ := Cs.dones hG hk vs (don ++ [v]) (gDone1 st (key v)) g2 (fun w hw => ⟨(hv w (.tail _ hw)).1, fun q => by
      rcases List.mem_append.mp q with q | q
      · exact (hv w (.tail _ hw)).2 q
      · simp at q; subst q; exact hn.1 hw⟩) hn.2
    exact ⟨⟨g1, i1⟩, by rw [List.append_assoc] at i2; exact i2⟩
theorem gReady_eq {G : List Nd} (hn : (ks G).Nodup) : gReady G = (ks G).filter fun k => decide (npAt G k = 0) := by
  unfold gReady ks
  rw [List.filter_map]
  congr 1
  refine List.filter_congr fun g hg => ?_
  have hf : G.find? (fun a => a.k = g.k) = some g := by
    unfold ks at hn
    induction G with
    | nil => cases hg
    | cons x r ih =>
      rw [List.map_cons, List.nodup_cons] at hn
      rw [List.find?_cons]
      rcases List.mem_cons.mp hg with rfl | hg
      · simp
      · have : ¬ x.k = g.k := fun e => hn.1 (e ▸ List.mem_map.mpr ⟨g, hg, rfl⟩)
        simp only [this, decide_false]
        exact ih hn.2 hg
  simp [npAt, hf]
theorem of_keys {key : Nat → KV} {n : Nat} : ∀ l : List KV, (∀ x ∈ l, ∃ a, a < n ∧ x = key a) → ∃ r : List Nat, l = r.map key ∧ ∀ a ∈ r, a < n
  | [], _ => ⟨[], rfl, fun a h => (by cases h)⟩
  | x :: l, h => by
    obtain ⟨r, e, hr⟩ := of_keys l fun y hy => h y (.tail _ hy)
    obtain ⟨a, ha, e2⟩ := h x (.head _)
    exact ⟨a :: r, by rw [e, e2]; rfl, fun b hb => by
      rcases List.mem_cons.mp hb with rfl | hb
      · exact ha
      · exact hr b hb⟩
theorem Cs.start {key : Nat → KV} {P : Nat → List Nat} {n : Nat} {G : List Nd} (hG : GM key P n G) (hk : Inj key n) : Cs key P n G [] [] (G, gReady G) := by
  refine ⟨rfl, fun _ => rfl, fun a ha _ => ?_, fun a ha => (by cases ha), fun a ha => (by cases ha), fun a ha => (by cases ha), fun a ha => (by cases ha), ?_⟩
  · show npAt G _ = _
    rw [hG.np a ha]
    congr 2
    exact (List.filter_eq_self.mpr fun j _ => by simp).symm
  have hm : ∀ x, x ∈ gReady G ↔ ∃ a, x = key a ∧ a < n ∧ P a = [] := fun x => by
    rw [gReady_eq hG.nd, List.mem_filter, hG.keys, decide_eq_true_eq]
    constructor
    · rintro ⟨⟨a, ha, rfl⟩, e⟩
      rw [hG.np a ha] at e
      exact ⟨a, rfl, ha, List.length_eq_zero_iff.mp (by lia)⟩
    · rintro ⟨a, rfl, ha, e⟩
      exact ⟨⟨a, ha, rfl⟩, by rw [hG.np a ha, e]; rfl⟩
  obtain ⟨r, e, hr⟩ := of_keys (key := key) (n := n) (gReady G) fun x hx => by
    obtain ⟨a, h, ha, _⟩ := (hm x).mp hx
    exact ⟨a, ha, h⟩
  have hnd : (gReady G).Nodup := by rw [gReady_eq hG.nd]; exact hG.nd.filter _
  rw [e] at hnd
  refine ⟨r, e, List.Pairwise.of_map key (fun x y h e => h (e ▸ rfl)) hnd, fun a => ?_⟩
  constructor
  · intro ha
    have an := hr a ha
    obtain ⟨b, e1, hb, e2⟩ := (hm (key a)).mp (by rw [e]; exact List.mem_map.mpr ⟨a, ha, rfl⟩)
    obtain rfl := hk a b an hb e1
    exact ⟨an, by simp, fun j hj => by rw [e2] at hj; cases hj⟩
  · rintro ⟨an, _, hp⟩
    have e2 : P a = [] := List.eq_nil_iff_forall_not_mem.mpr fun j hj => (by cases hp j hj)
    have := (hm (key a)).mpr ⟨a, rfl, an, e2⟩
    rw [e] at this
    exact (mem_key hk an hr).mp this

end
section

noncomputable def DeedAt (σ : St) (y : PV) (d : Dd) : Prop := ∃ a, y = .ref a ∧ σ a = some (.tuple [.int d.t, .str (sgS d.g), .int d.o])
theorem DeedAt.mono {σ τ : St} {y : PV} {d : Dd} (h : σ.le τ) : DeedAt σ y d → DeedAt τ y d := fun ⟨a, e, q⟩ => ⟨a, e, h _ _ q⟩
theorem modesV_len (H : Nat → Int) (V : Vals) : (modesV H V).length = 3 := rfl
inductive AtI (σ : St) (w d v c : Addr) (ys : List PV) (H : Nat → Int) (V : Vals) (D : List Dd) (i : Nat) : Fm → St → Prop
  | mk (r : Addr) {τ : St} (hle : σ.le τ) (h1 : τ c = some (.cell (some (.ref r)))) (hr : τ r = some (.list (iL (modesV H ((D.take i).foldl (onceS V) V))))) (hd : τ d = some (.list ys)) (hv : τ v = some (.list (iL (D.map (valD V))))) (ha : All2 (DeedAt τ) ys D) : AtI σ w d v c ys H V D i [("words", .ref w), ("deeds", .ref d), ("values", .ref v)] τ
theorem f_atonce {X : Cx} (C : C1 X) {A : Around} {σ : St} {E : Value → Shared → Prop} (m w : Addr) (H : Nat → Int) (V : Vals) (D : List Dd) {P : St → Prop} {o : Nat → Addr → AO} (S : ∀ A, A.handled = none → SrcOf X A (.ref w) (sL (D.map Dd.word)) P o) (hP : P σ) (hm : σ m = some (.list (iL (modesV H V))))
    (hD : ∀ d ∈ D, d.ok) (hz : D.length ≤ 1000) (hV : VOk V) (hH : ∀ i, 0 ≤ H i) (hA : OkA A 5) :
    CW X A (.ref 317) [.ref m, .ref w] σ (fun u σ' => ∃ r, u = .ref r ∧ σ.le σ' ∧ σ' r = some (.list (iL (modesV H (onceV V D))))) E := by
  refine .weak (call_cellsW (k := 4) hA (C.def rfl (by kernel_rfl)) rfl rfl rfl rfl rfl (fun n => of_decide_eq_true rfl) (bindsCL (fun a b => rfl) rfl rfl (fun _ => rfl)) fun L hL => ?_)
  intro ev Ad
  show WB X _ _ _ _ (σ.set (L + 1) (.cell (some (.ref m)))) _ _
  have hle := St.le_set (o := .cell (some (.ref m))) (fresh_of hL 1)
  have c1 : (σ.set (L + 1) (.cell (some (.ref m)))) (L + 1) = some (.cell (some (.ref m))) := St.set_self ..
  have f1 := fresh_of hL 1
  generalize σ.set (L + 1) (.cell (some (.ref m))) = σ1 at c1 hle ⊢
  have hA1 := okA_deeper hA
  have hh : ∀ env, (A.deeper env).handled = none := fun _ => hA.handled
  (first | refine WB.gK ?_ | refine WT.gK ?_ | refine WS.gK ?_); intro K1 hK1
  repeat walk_at "sl"
  refine WBlock.objs (hh _) (S _ (hh _)) D DeedAt (fun h => DeedAt.mono h) (by simp [sL]) (fun _ => LetOk.name) ((S _ (hh ev)).mono _ _ hle hP) (fun _ => rfl) (by rw [sizeLine_eq]; lia) ?_ ?_
  · intro L' i x d τ hx hd q1
    obtain ⟨t9, g3, o9⟩ := hD d (List.mem_of_getElem? hd)
    rw [sL, List.getElem?_map, List.getElem?_map, hd] at hx
    obtain rfl := (Option.some.inj hx).symm
    clear hx hd
    obtain ⟨k, t, g, o⟩ := d
    show WAsg X Ad _ _ (.str (wordOf k t g o)) _ _ _ _
    repeat walk_at "sl"
    refine WC.ofM (f_deed C k t g o t9 g3 o9 ((hA1 _).le (by decide))) ?_
    rintro _ τ1 ⟨a, rfl, q2, ha⟩
    exact ⟨⟨a, rfl, ha⟩, q2⟩
  intro d ys σ2 q1 hd hys
  have c1 := q1 _ _ c1
  have hle := St.le_trans hle q1
  clear q1
  repeat walk_at "sl"
  refine WBlock.objs (hh _) (srcOf_list (l := d) (xs := ys) (hh _)) D (fun _ y d => y = .int (valD V d)) (fun _ h => h) hys.1 (fun _ => LetOk.it (by decide) fun i => ⟨_, rfl⟩) hd (fun _ => rfl) (by rw [sizeLine_eq]; lia) ?_ ?_
  · intro L' i x dd τ hx hdd q1
    obtain ⟨t9, g3, o9⟩ := hD dd (List.mem_of_getElem? hdd)
    obtain ⟨a, rfl, ha⟩ := hys.2 i x dd hx hdd
    have ha := q1 _ _ ha
    have c1 := q1 _ _ c1
    have hm := q1 _ _ (hle _ _ hm)
    obtain ⟨k, t, g, o⟩ := dd
    clear hx hdd q1
    refine WAsg.tup (hh _) (.own ha) rfl rfl ?_
    refine WEach.cons rfl (WAsg.name ?_)
    repeat walk_at "sl"
    refine WEach.cons rfl (WAsg.name ?_)
    repeat walk_at "sl"
    refine WEach.cons rfl (WAsg.name ?_)
    repeat walk_at "sl"
    refine WEach.nil ?_
    repeat walk_at "sl"
    refine WC.ofM (f_figure C m (modesV H V) t hm (modesV_len H V) (by lia) (by dsimp only at t9; lia) ((hA1 _).le (by decide))) ?_
    rintro _ τ1 ⟨rfl, q1⟩
    rw [fig_V hH hV t9]
    have c1 := q1 _ _ c1
    have hm := q1 _ _ hm
    repeat walk_at "sl"
    refine WC.ofM (f_figure C m (modesV H V) o hm (modesV_len H V) (by lia) (by dsimp only at o9; lia) ((hA1 _).le (by decide))) ?_
    rintro _ τ2 ⟨rfl, q2⟩
    rw [fig_V hH hV o9]
    repeat walk_at "sl"
    refine WC.ofE (f_made C _ _ g g3 ((hA1 _).le (by decide))) ?_
    exact ⟨rfl, St.le_trans q1 q2⟩
  intro v vs σ3 q1 hv hvs
  obtain rfl := All2.eq hvs
  have hle := St.le_trans hle q1
  have c1 := q1 _ _ c1
  have hd := q1 _ _ hd
  have hys := hys.mono fun _ _ => DeedAt.mono q1
  have hv : σ3 v = some (.list (iL (D.map (valD V)))) := by rw [hv, iL, List.map_map]; rfl
  clear q1 hvs
  repeat walk_at "sl"
  refine WC.lenList hd (by rw [hys.1]; lia) ?_
  repeat walk_at "sl"
  rw [hys.1]
  refine WC.range1V fun q τ q1 hq => ?_
  refine WIter.forG (x := .ref q) (hh _) (srcOf_upto (m := 0) (n := D.length) (hh _) (by decide) (by lia)) (fun i fr τ' => τ' q = some (.range 0 D.length 1) ∧ AtI σ w d v (L + 1) ys H V D i fr τ') ?_ ?_ ?_ ?_ ?_
  · exact fun _ => LetOk.name
  · exact fun i fr τ h => h.1
  · exact ⟨hq, .mk m (St.le_trans hle q1) (q1 _ _ c1) (q1 _ _ (hle _ _ hm)) (q1 _ _ hd) (q1 _ _ hv) (hys.mono fun _ _ => DeedAt.mono q1)⟩
  · clear hle c1 hd hv hys hq q1
    rintro i K2 hK2 x fr τ1 hx ⟨hq, r, hle, h1, hr, hd, hv, ha⟩
    obtain ⟨hi, rfl⟩ := up0_get hx
    have hdd := List.getElem?_eq_getElem hi
    generalize D[i] = dd at hdd
    obtain ⟨t9, g3, o9⟩ := hD dd (List.mem_of_getElem? hdd)
    obtain ⟨y, hy, a, rfl, hta⟩ := ha.at hdd
    have hW := VOk.once hV (D.take i) hV
    have hst : (D.take (i + 1)).foldl (onceS V) V = putV ((D.take i).foldl (onceS V) V) dd.t (valD V dd) := by rw [take_succ_get hdd, List.foldl_append, List.foldl_cons, List.foldl_nil]; rfl
    generalize (D.take i).foldl (onceS V) V = W at hr hst hW
    have hval := valD_ok hV dd
    repeat walk_at "sl"
    refine WI.atN hd i rfl (by lia) hy ?_ (fun _ => rfl)
    repeat walk_at "sl"
    refine WI.tup (.own hta) 0 rfl (by decide) rfl ?_ (fun _ => rfl)
    repeat walk_at "sl"
    refine WI.nL (ms := D.map (valD V)) hv i rfl (by rw [List.length_map]; exact hi) (by rw [List.length_map]; lia) ?_ (fun _ => rfl)
    rw [show (D.map (valD V)).getD i 0 = valD V dd from by rw [List.getD_eq_getElem?_getD, List.getElem?_map, hdd]; rfl]
    repeat walk_at "sl"
    refine WC.ofM (f_given C r (modesV H W) dd.t (valD V dd) hr (modesV_len H W) (by lia) (by lia) hval.1 hval.2 ((hA1 _).le (by decide))) (hid2 fun Kz hKz => ?_)
    rintro _ τ2 ⟨r2, rfl, q1, hr2⟩
    refine hKz _ _ ?_
    rw [giv_V hH hW t9 hval.1 hval.2, ← hst] at hr2
    have h1 := q1 _ _ h1
    repeat walk_at "sl"
    repeat (first | refine hK4 _ _ _ ?_ | refine hK3 _ _ _ ?_ | refine hK2 _ _ _ ?_ | refine hK1 _ _ _ ?_ | walk_at "sl")
    refine ⟨_, _, by repeat' (first | exact Fm.nil_le _ | (refine Fm.le_cons ?_ ?_; rfl)), St.le_refl _, St.set_keep (q1 _ _ hq) (ne_ob (q1 _ _ hq) h1 fun e => nomatch e), .mk r2 (St.le_over (St.le_trans hle q1) f1) (St.set_self ..) (St.set_keep hr2 (ne_ob hr2 h1 fun e => nomatch e)) (St.set_keep (q1 _ _ hd) (ne_ob (q1 _ _ hd) h1 fun e => nomatch e)) (St.set_keep (q1 _ _ hv) (ne_ob (q1 _ _ hv) h1 fun e => nomatch e)) (ha.mono ?_)⟩
    exact fun y z ⟨a, e, q⟩ => ⟨a, e, St.set_keep (q1 _ _ q) (ne_ob (q1 _ _ q) h1 fun e => nomatch e)⟩
  · refine hid2 fun Kz hKz => ?_
    rintro fr τ1 ⟨hq, r, hle, h1, hr, hd, hv, ha⟩
    refine hKz _ _ ?_
    rw [up0_len, List.take_length] at hr
    repeat walk_at "sl"
    repeat (first | refine hK4 _ _ _ ?_ | refine hK3 _ _ _ ?_ | refine hK2 _ _ _ ?_ | refine hK1 _ _ _ ?_ | walk_at "sl")
    exact ⟨_, St.le_refl _, r, rfl, hle, hr⟩

end
section
noncomputable def keyD (D : Nat → Dd) (a : Nat) : KV := .s (D a).word
noncomputable def rL (p : Nat → Addr) : List PV := (List.range 9).map fun f => PV.ref (p f)
theorem rL_get (p : Nat → Addr) {f : Nat} (h : f < 9) : (rL p)[f]? = some (.ref (p f)) := by
  unfold rL; rw [List.getElem?_map, List.getElem?_range h]; rfl
noncomputable def updN {α : Type} (F : Nat → α) (t : Nat) (v : α) : Nat → α := fun g => if g = t then v else F g
theorem rL_set (p : Nat → Addr) {t : Nat} (h : t < 9) (a : Addr) : (rL p).set t (.ref a) = rL (updN p t a) := by
  refine List.ext_getElem? fun f => ?_
  rw [List.getElem?_set]
  by_cases hf : f < 9
  · rw [rL_get _ hf]
    by_cases q : t = f
    · subst q; simp [updN, rL, hf]
    · rw [if_neg q, rL_get _ hf]; simp [updN, Ne.symm q]
  · have l9 : ∀ p, (rL p).length = 9 := fun p => by simp [rL]
    rw [if_neg (by lia), List.getElem?_eq_none (by rw [l9]; lia), List.getElem?_eq_none (by rw [l9]; lia)]
structure WR (σ0 σb : St) (W R : Addr) (p q : Nat → Addr) (ws : Nat → Str) (fw fr : Nat → List Nat) : Prop where
  le : σ0.le σb
  hW : σb W = some (.list (rL p))
  hR : σb R = some (.list (rL q))
  hw : ∀ f, f < 9 → σb (p f) = some (.list (sL ((fw f).map ws)))
  hr : ∀ f, f < 9 → σb (q f) = some (.list (sL ((fr f).map ws)))
  inj : ∀ f g, f < 9 → g < 9 → q f = q g → f = g
  pq : ∀ f g, f < 9 → g < 9 → p f ≠ q g
  nW : ∀ f, f < 9 → p f ≠ W ∧ p f ≠ R ∧ q f ≠ W ∧ q f ≠ R
  wR : W ≠ R
  n0 : σ0 W = none ∧ σ0 R = none ∧ ∀ f, f < 9 → σ0 (q f) = none
theorem WR.app {σ0 σb : St} {W R : Addr} {p q : Nat → Addr} {ws : Nat → Str} {fw fr : Nat → List Nat} (h : WR σ0 σb W R p q ws fw fr) {o : Nat} (ho : o < 9) (i : Nat) :
    WR σ0 (σb.set (q o) (.list (sL ((fr o).map ws) ++ [.str (ws i)]))) W R p q ws fw (updN fr o (fr o ++ [i])) := by
  obtain ⟨n1, n2, n3⟩ := h.n0
  refine ⟨fun a o' e => ?_, ?_, ?_, fun f hf => ?_, fun f hf => ?_, h.inj, h.pq, h.nW, h.wR, h.n0⟩
  · exact St.set_keep (h.le _ _ e) (St.ne_of e (n3 o ho))
  · exact St.set_keep h.hW (Ne.symm (h.nW o ho).2.2.1)
  · exact St.set_keep h.hR (Ne.symm (h.nW o ho).2.2.2)
  · exact St.set_keep (h.hw f hf) (h.pq f o hf ho)
  · by_cases e : f = o
    · subst e; rw [St.set_self]; simp [updN, sL]
    · rw [St.set_ne _ fun g => e (h.inj f o hf ho g), h.hr f hf]; simp [updN, e]
theorem WR.put {σ0 σb : St} {W R : Addr} {p q : Nat → Addr} {ws : Nat → Str} {fw fr : Nat → List Nat} (h : WR σ0 σb W R p q ws fw fr) {t : Nat} (ht : t < 9) {l1 l2 : Addr} (h1 : σb l1 = none) (h2 : (σb.set l1 (.list [.str (ws i)])) l2 = none) :
    WR σ0 ((((σb.set l1 (.list [.str (ws i)])).set l2 (.list [])).set W (.list (rL (updN p t l1)))).set R (.list (rL (updN q t l2)))) W R (updN p t l1) (updN q t l2) ws (updN fw t [i]) (updN fr t []) := by
  obtain ⟨n1, n2, n3⟩ := h.n0
  obtain ⟨h21, h2⟩ := St.set_none.mp h2
  have keep : ∀ {a o}, σb a = some o → a ≠ W → a ≠ R → ((((σb.set l1 (.list [.str (ws i)])).set l2 (.list [])).set W (.list (rL (updN p t l1)))).set R (.list (rL (updN q t l2)))) a = some o := fun {a o} e g1 g2 =>
    St.set_keep (St.set_keep (St.set_keep (St.set_keep e (St.ne_of e h1)) (St.ne_of e h2)) g1) g2
  have l1W : l1 ≠ W := Ne.symm (St.ne_of h.hW h1)
  have l1R : l1 ≠ R := Ne.symm (St.ne_of h.hR h1)
  have l2W : l2 ≠ W := Ne.symm (St.ne_of h.hW h2)
  have l2R : l2 ≠ R := Ne.symm (St.ne_of h.hR h2)
  refine ⟨fun a o e => keep (h.le _ _ e) (St.ne_of e n1) (St.ne_of e n2), ?_, St.set_self .., fun f hf => ?_, fun f hf => ?_, fun f g hf hg e => ?_, fun f g hf hg e => ?_, fun f hf => ?_, h.wR, n1, n2, fun f hf => ?_⟩
  · rw [St.set_ne _ h.wR, St.set_self]
  · unfold updN
    by_cases e : f = t
    · rw [if_pos e, if_pos e, St.set_ne _ l1R, St.set_ne _ l1W, St.set_ne _ (Ne.symm h21), St.set_self]; rfl
    · rw [if_neg e, if_neg e]
      exact keep (h.hw f hf) (h.nW f hf).1 (h.nW f hf).2.1
  · unfold updN
    by_cases e : f = t
    · rw [if_pos e, if_pos e, St.set_ne _ l2R, St.set_ne _ l2W, St.set_self]; rfl
    · rw [if_neg e, if_neg e]
      exact keep (h.hr f hf) (h.nW f hf).2.2.1 (h.nW f hf).2.2.2
  · unfold updN at e
    split at e <;> split at e
    · lia
    · exact absurd e.symm (St.ne_of (h.hr g hg) h2)
    · exact absurd e (St.ne_of (h.hr f hf) h2)
    · exact h.inj f g hf hg e
  · unfold updN at e
    split at e <;> split at e
    · exact h21 e.symm
    · exact absurd e.symm (St.ne_of (h.hr g hg) h1)
    · exact absurd e (St.ne_of (h.hw f hf) h2)
    · exact h.pq f g hf hg e
  · unfold updN
    split
    · exact ⟨l1W, l1R, l2W, l2R⟩
    · exact h.nW f hf
  · unfold updN
    split
    · exact St.none_le h.le h2
    · exact n3 f hf
theorem WR.start {σ0 σb : St} {W R : Addr} {ys zs : List PV} {ws : Nat → Str} (hle : σ0.le σb) (hW : σb W = some (.list ys)) (hR : σb R = some (.list zs)) (ly : ys.length = 9) (lz : zs.length = 9) (nz : zs.Nodup) (wR : W ≠ R) (n1 : σ0 W = none) (n2 : σ0 R = none)
    (h1 : ∀ y ∈ ys, ∃ a, y = PV.ref a ∧ σb a = some (.list []) ∧ y ∉ zs ∧ a ≠ W ∧ a ≠ R) (h2 : ∀ y ∈ zs, ∃ a, y = PV.ref a ∧ σb a = some (.list []) ∧ σ0 a = none ∧ a ≠ W ∧ a ≠ R) : ∃ p q, WR σ0 σb W R p q ws (fun _ => []) (fun _ => []) := by
  have mk : ∀ l : List PV, l.length = 9 → (∀ y ∈ l, ∃ a, y = PV.ref a) → ∃ p, l = rL p := fun l hl h => by
    refine ⟨fun f => match l[f]? with | some (.ref a) => a | _ => 0, List.ext_getElem? fun f => ?_⟩
    by_cases hf : f < 9
    · rw [rL_get _ hf]
      have hf2 : f < l.length := by lia
      rw [List.getElem?_eq_getElem hf2]
      obtain ⟨a, e⟩ := h _ (List.getElem_mem hf2)
      rw [e]
    · rw [List.getElem?_eq_none (by lia), List.getElem?_eq_none (by simp [rL]; lia)]
  obtain ⟨p, rfl⟩ := mk ys ly fun y hy => (h1 y hy).imp fun _ h => h.1
  obtain ⟨q, rfl⟩ := mk zs lz fun y hy => (h2 y hy).imp fun _ h => h.1
  have m : ∀ (p : Nat → Addr) {f : Nat}, f < 9 → PV.ref (p f) ∈ rL p := fun p {f} hf => List.mem_of_getElem? (rL_get p hf)
  have g1 : ∀ f, f < 9 → σb (p f) = some (.list []) ∧ PV.ref (p f) ∉ rL q ∧ p f ≠ W ∧ p f ≠ R := fun f hf => by
    obtain ⟨a, e, g⟩ := h1 _ (m p hf); cases e; exact g
  have g2 : ∀ f, f < 9 → σb (q f) = some (.list []) ∧ σ0 (q f) = none ∧ q f ≠ W ∧ q f ≠ R := fun f hf => by
    obtain ⟨a, e, g⟩ := h2 _ (m q hf); cases e; exact g
  refine ⟨p, q, hle, hW, hR, fun f hf => (g1 f hf).1, fun f hf => (g2 f hf).1, fun f g hf hg e => ?_, fun f g hf hg e => (g1 f hf).2.1 (e ▸ m q hg), fun f hf => ⟨(g1 f hf).2.2.1, (g1 f hf).2.2.2, (g2 f hf).2.2.1, (g2 f hf).2.2.2⟩, wR, n1, n2, fun f hf => (g2 f hf).2.1⟩
  have e1 := rL_get q hf
  have e2 := rL_get q hg
  rw [e, ← e2] at e1
  exact (List.getElem?_inj (by rw [lz]; exact hf) nz).mp e1
set_option tactic.hygienic true in
theorem WR.next {σ0 σb : St} {W R : Addr} {p q : Nat → Addr} {ws : Nat → Str} {D : Nat → Dd} {a : Nat} (h : WR σ0 σb W R p q ws (updN (wrt D a) (D a).t [a]) (updN (updN (rdr D a) (D a).o (rdr D a (D a).o ++ [a])) (D a).t [])) : WR σ0 σb W R p q ws (wrt D (a + 1)) (rdr D (a + 1)) := by
  have e1 : updN (wrt D a) (D a).t [a] = wrt D (a + 1) := by funext f; rfl
  have e2 : updN (updN (rdr D a) (D a).o (rdr D a (D a).o ++ [a])) (D a).t [] = rdr D (a + 1) := by
    funext f; rw [rdr]; unfold updN
    split
    · rfl
    · split
      · rename_i e; rw [e]
      · rfl
  rw [← e1, ← e2]; exact h
theorem SortB.weakBase {σ0 σb τ : St} {x dx d : Addr} {D : List NdA} {rdy : PV} {po fi : Int} (h : SortB σb τ x dx d D rdy po fi) (hle : σ0.le σb) : SortB σ0 τ x dx d D rdy po fi :=
  { h with base := St.le_trans hle h.base, fx := St.none_le hle h.fx, fdx := St.none_le hle h.fdx, fd := St.none_le hle h.fd, fg := fun g hg => ⟨St.none_le hle (h.fg g hg).1, St.none_le hle (h.fg g hg).2.1, St.none_le hle (h.fg g hg).2.2⟩ }
theorem SortB.rebase {σ0 τ : St} {x dx d : Addr} {po fi : Int} (h : SortB σ0 τ x dx d [] .none po fi) : ∃ σb, SortB σb τ x dx d [] .none po fi ∧ σ0.le σb ∧ ∀ a o, τ a = some o → a ≠ x → a ≠ dx → a ≠ d → σb a = some o := by
  refine ⟨fun a => if a = x ∨ a = dx ∨ a = d then none else τ a, { h with base := fun a o e => ?_, fx := ?_, fdx := ?_, fd := ?_, fg := fun g hg => (by cases hg) }, fun a o e => ?_, fun a o e g1 g2 g3 => ?_⟩
  · dsimp only at e; split at e
    · cases e
    · exact e
  · exact if_pos (.inl rfl)
  · exact if_pos (.inr (.inl rfl))
  · exact if_pos (.inr (.inr rfl))
  · have n1 := St.ne_of e h.fx
    have n2 := St.ne_of e h.fdx
    have n3 := St.ne_of e h.fd
    dsimp only; rw [if_neg (by simp [n1, n2, n3])]; exact h.base _ _ e
  · dsimp only; rw [if_neg (by simp [g1, g2, g3])]; exact e
theorem SortB.setBase {σ0 σ : St} {x dx d : Addr} {D : List NdA} {rdy : PV} {po fi : Int} (h : SortB σ0 σ x dx d D rdy po fi) {S : Addr} {o : AO} (hS : σ0 S = some o) (o' : AO) : SortB (σ0.set S o') (σ.set S o') x dx d D rdy po fi := by
  have n : ∀ {a}, σ0 a = none → a ≠ S := fun {a} e q => by subst q; rw [hS] at e; cases e
  have f : ∀ {a}, σ0 a = none → (σ0.set S o') a = none := fun {a} e => by rw [St.set_ne _ (n e)]; exact e
  exact { h with hx := by rw [St.set_ne _ (n h.fx)]; exact h.hx, hdx := by rw [St.set_ne _ (n h.fdx)]; exact h.hdx, hd := by rw [St.set_ne _ (n h.fd)]; exact h.hd,
                 ok := fun g hg => ⟨by rw [St.set_ne _ (n (h.fg g hg).1)]; exact (h.ok g hg).1, by rw [St.set_ne _ (n (h.fg g hg).2.1)]; exact (h.ok g hg).2.1, by rw [St.set_ne _ (n (h.fg g hg).2.2)]; exact (h.ok g hg).2.2⟩,
                 base := St.le_sets h.base, fx := f h.fx, fdx := f h.fdx, fd := f h.fd, fg := fun g hg => ⟨f (h.fg g hg).1, f (h.fg g hg).2.1, f (h.fg g hg).2.2⟩ }
theorem gTo_bound {key : Nat → KV} {P : Nat → List Nat} : ∀ n, (∀ a, a < n → (P a).length ≤ 10) → gBound (gTo key P n) (21 * n)
  | 0, _ => ⟨by simp [gTo], by simp [gTo]⟩
  | n + 1, h => by
    have := h n (Nat.lt_succ_self n)
    exact ((gTo_bound n fun a ha => h a (Nat.lt_succ_of_lt ha)).add (key n) ((P n).map key)).le (by rw [List.length_map]; lia)
theorem gTo_closed {key : Nat → KV} {P : Nat → List Nat} : ∀ n, gClosed (gTo key P n)
  | 0 => fun g hg => by simp [gTo] at hg
  | n + 1 => (gTo_closed n).add _ _
theorem kv_words (D : Nat → Dd) (l : List Nat) : (l.map (keyD D)).map KV.pv = sL (l.map fun i => (D i).word) := by unfold sL; rw [List.map_map, List.map_map]; rfl

theorem any_bound {X : Cx} {nm : Str} {m : Addr} (ha : findIn X.K (.ref 137) nm = some (some (.ref m))) (hg : specialIn X.K (.ref m) (Str.ofString "__get__") = some (some (.builtin "function.__get__"))) (ht : takesIn X.K (.ref m) = some false) (hn : copiedNames.contains nm = false) (hs : DCls X 137) :
    ∀ es n, lookIn nm (dictOf es n) = some none → findObj X.K 137 (some (dictOf es n)) nm = some (.bind (.builtin "function.__get__") (.ref m)) := by
  intro es n h
  obtain ⟨cd, hc, hd⟩ := any_some hs.has
  unfold findObj
  have ho : PySem.W.ownOf cd (some (dictOf es n)) nm = some none := by unfold PySem.W.ownOf; rw [if_pos hd]; exact h
  rw [hc, Option.bind_some, ha, Option.bind_some]
  simp only [hg, ht, Option.bind_some, ho, hn, Bool.false_and, Bool.false_eq_true, if_false]
theorem add_bound {X : Cx} (C : C1 X) : ∀ es n, lookIn "add" (dictOf es n) = some none → findObj X.K 137 (some (dictOf es n)) "add" = some (.bind (.builtin "function.__get__") (.ref 87)) :=
  any_bound (by rw [C.K]; kernel_rfl) (by rw [C.K]; kernel_rfl) (by rw [C.K]; kernel_rfl) (by decide +kernel) (dcls_sort C)
theorem SortB.new {σ1 : St} {x dx d : Addr} (hx : σ1 x = none) (hdx : σ1 dx = none) (hne : x ≠ dx) (hd : ((σ1.set dx (.flds [])).set x (.inst 137 dx [])) d = none) :
    SortB σ1 ((((σ1.set dx (.flds [])).set x (.inst 137 dx [])).set dx (.flds (sFlds d .none 0 0))).set d (.dict [])) x dx d [] .none 0 0 := by
  have q1 := St.set_none.mp hd
  have q2 := St.set_none.mp q1.2
  have e : (((σ1.set dx (.flds [])).set x (.inst 137 dx [])).set dx (.flds (sFlds d .none 0 0))) = ((σ1.set x (.inst 137 dx [])).set dx (.flds (sFlds d .none 0 0))) := by
    funext a; simp only [St.set_apply]; grind
  rw [e]
  exact ⟨(St.set_ne _ (Ne.symm q1.1)).trans ((St.set_ne _ hne).trans (St.set_self ..)), (St.set_ne _ (Ne.symm q2.1)).trans (St.set_self ..), St.set_self .., by simp, by simp, by simp, fun a o e =>
    (St.set_ne _ (St.ne_of e q2.2)).trans ((St.set_ne _ (St.ne_of e hdx)).trans ((St.set_ne _ (St.ne_of e hx)).trans e)), hx, hdx, q2.2, by simp⟩
theorem f_addD {X : Cx} (C : C1 X) {A : Around} {σ0 σ : St} {E : Value → Shared → Prop} {x dx d : Addr} {G : List NdA} {po fi : Int} (D : Nat → Dd) (a : Nat) (l : List Nat) (hB : SortB σ0 σ x dx d G .none po fi) {N : Nat} (hN : gBound (G.map NdA.nd) N) (hNz : N + 2 * l.length + 2 ≤ 2 ^ 20) (hA : OkA A 7) :
    CC X A (.ref 87) (.ref x :: .str (D a).word :: sL (l.map fun i => (D i).word)) σ (fun v σ' => v = .none ∧ ∃ G', SortB σ0 σ' x dx d G' .none po fi ∧ G'.map NdA.nd = gAdd (G.map NdA.nd) (keyD D a) (l.map (keyD D))) E := by
  have h := f_add (A := A) (E := E) C (keyD D a) (l.map (keyD D)) hB hN (by rw [List.length_map]; exact hNz) hA
  rw [kv_words] at h
  exact h
inductive SoI (σ0 : St) (w x dx d W R : Addr) (D : Nat → Dd) (i : Nat) : Fm → St → Prop
  | mk (σb : St) (p q : Nat → Addr) (G : List NdA) {τ : St} (hW : WR σ0 σb W R p q (fun i => (D i).word) (wrt D i) (rdr D i)) (hB : SortB σb τ x dx d G .none 0 0) (hN : G.map NdA.nd = gTo (keyD D) (prd D) i) : SoI σ0 w x dx d W R D i [("words", .ref w), ("sorter", .ref x), ("writer", .ref W), ("readers", .ref R)] τ
theorem f_sorter {X : Cx} (C : C1 X) {A : Around} {σ : St} {E : Value → Shared → Prop} {w : Addr} (n : Nat) (D : Nat → Dd) (hw : σ w = some (.list (sL ((List.range n).map fun i => (D i).word)))) (hn : n ≤ 8) (hD : ∀ i, i < n → (D i).ok) (hA : OkA A 9) :
    CW X A (.ref 322) [.ref w] σ (fun v σ' => ∃ x dx d G, v = .ref x ∧ SortB σ σ' x dx d G .none 0 0 ∧ G.map NdA.nd = gTo (keyD D) (prd D) n) E := by
  refine .weak (call_plainW (k := 8) hA (C.def rfl (by kernel_rfl)) rfl rfl rfl rfl (by decide) (binds1 (fun a => rfl) rfl) fun L hL => ?_)
  intro ev Ad
  have hA1 := okA_deeper hA
  have hh : ∀ env, (A.deeper env).handled = none := fun _ => hA.handled
  have DS := dcls_sort C
  (first | refine WB.gK ?_ | refine WT.gK ?_ | refine WS.gK ?_); intro K1 hK1
  repeat walk_at "sl"
  refine WC.of (.mono (CC.make (k := 6) (hA1 _ |>.le (by decide)) (by rw [C.K]; kernel_rfl) (fI := 73) (by rw [C.K]; kernel_rfl) (by rw [C.K]; kernel_rfl)
      (Q := fun v σ' => ∃ x dx d, v = .ref x ∧ SortB σ σ' x dx d [] .none 0 0) fun A' hA' x dx hx hdx hne => ?init).cw ?_)
  case init =>
    refine (f_sortInit C x dx (St.set_self ..) (by rw [St.set_ne _ hne, St.set_self]) (hA'.le (by decide))).mono ?_
    rintro v σ' ⟨rfl, d, hd, rfl⟩
    refine ⟨rfl, x, dx, d, rfl, ?_⟩
    exact SortB.new hx hdx (Ne.symm hne) hd
  rintro v σ1 ⟨x, dx, d, rfl, hB1⟩
  repeat walk_at "sl"
  refine WC.range1V fun r1 τ1 q1 hr1 => ?_
  refine WBlock.empties (hh _) (srcOf_upto (m := 0) (n := 9) (hh _) (by decide) (by lia)) (fun _ => LetOk.name) hr1 (fun _ => rfl) (by rw [up0_len, sizeLine_eq]; lia) ?_ ?_
  · intro L' i y τ hy hle
    repeat walk_at "sl"
    repeat (first | refine hK4 _ _ _ ?_ | refine hK3 _ _ _ ?_ | refine hK2 _ _ _ ?_ | refine hK1 _ _ _ ?_ | walk_at "sl")
    exact ⟨Nat.zero_le _, fun a h0 _ => ⟨a, rfl, h0, rfl⟩⟩
  intro W ys τ2 q2 W1 hW ly ny hys
  rw [up0_len] at ly
  have q12 := St.le_trans q1 q2
  have nW1 := St.none_le q1 W1
  repeat walk_at "sl"
  refine WC.range1V fun r2 τ3 q3 hr2 => ?_
  refine WBlock.empties (hh _) (srcOf_upto (m := 0) (n := 9) (hh _) (by decide) (by lia)) (fun _ => LetOk.name) hr2 (fun _ => rfl) (by rw [up0_len, sizeLine_eq]; lia) ?_ ?_
  · intro L' i y τ hy hle
    repeat walk_at "sl"
    repeat (first | refine hK4 _ _ _ ?_ | refine hK3 _ _ _ ?_ | refine hK2 _ _ _ ?_ | refine hK1 _ _ _ ?_ | walk_at "sl")
    exact ⟨Nat.zero_le _, fun a h0 _ => ⟨a, rfl, h0, rfl⟩⟩
  intro R zs τ4 q4 R3 hR lz nz hzs
  rw [up0_len] at lz
  have q34 := St.le_trans q3 q4
  have q := St.le_trans q12 q34
  obtain ⟨σb, hB, hle, keep⟩ := (hB1.mono q).rebase
  have new : ∀ a o, σ1 a = none → τ4 a = some o → σb a = some o := fun a o e h => keep a o h (Ne.symm (St.ne_of hB1.hx e)) (Ne.symm (St.ne_of hB1.hdx e)) (Ne.symm (St.ne_of hB1.hd e))
  have old : ∀ a, σ1 a = none → σ a = none := fun a e => St.none_le hB1.base e
  have R2 := St.none_le q3 R3
  have R1 := St.none_le q12 R2
  have WR0 : ∃ p q, WR σ σb W R p q (fun i => (D i).word) (fun _ => []) (fun _ => []) := by
    refine WR.start hle (new _ _ nW1 (q34 _ _ hW)) (new _ _ R1 hR) ly lz nz (St.ne_of hW R2) (old _ nW1) (old _ R1) ?_ ?_
    · intro y hy
      obtain ⟨a, rfl, h1, h2, h3⟩ := hys y hy
      have h4 := St.none_le q1 h2
      refine ⟨a, rfl, new _ _ h4 (q34 _ _ h3), fun hz => ?_, h1, St.ne_of h3 R2⟩
      obtain ⟨b, e, _, g, _⟩ := hzs _ hz
      cases e
      exact St.ne_of (q3 _ _ h3) g rfl
    · intro y hy
      obtain ⟨a, rfl, h1, h2, h3⟩ := hzs y hy
      have h4 := St.none_le (St.le_trans q12 q3) h2
      exact ⟨a, rfl, new _ _ h4 h3, old _ h4, Ne.symm (St.ne_of (q3 _ _ hW) h2), h1⟩
  obtain ⟨p, q, hWR⟩ := WR0
  clear keep new old R3 R2 R1 nW1 W1 hys hzs q12 q34 q1 q2 q3 q4 hr1 hr2 hW hR hB1 ly lz ny nz
  repeat walk_at "sl"
  refine WIter.forG (x := .ref w) (hh _) (srcOf_list (l := w) (xs := sL ((List.range n).map fun i => (D i).word)) (hh _)) (SoI σ w x dx d W R D) ?_ ?_ ?_ ?_ ?_
  · exact fun _ => LetOk.name
  · rintro i fr τ ⟨σb, p, q, G, hW, hB, hN⟩; exact hB.base _ _ (hW.le _ _ hw)
  · exact .mk σb p q [] hWR hB rfl
  · clear hWR hB hle
    rintro i K2 hK2 y fr τ hx ⟨σb, p, q, G, hW, hB, hN⟩
    have hi : i < n := by have := (List.getElem?_eq_some_iff.mp hx).1; simpa [sL] using this
    rw [sL, List.getElem?_map, List.getElem?_map, List.getElem?_range hi] at hx
    obtain rfl := (Option.some.inj hx).symm
    obtain ⟨t9, g3, o9⟩ := hD i hi
    have hbd : gBound (G.map NdA.nd) 168 := by rw [hN]; exact (gTo_bound i fun a ha => by have := prd_len D a; lia).le (by lia)
    have hpl := prd_len D i
    have hnext : gTo (keyD D) (prd D) (i + 1) = gAdd (G.map NdA.nd) (keyD D i) ((prd D i).map (keyD D)) := by rw [hN]; rfl
    have hw1 := wrt_len D (D i).o i
    have hw2 := wrt_len D (D i).t i
    have hr1 := rdr_len D (D i).t i
    have hr2 := rdr_len D (D i).o i
    clear hx hN
    show WAsg X Ad _ _ (.str (wordOf (D i).k (D i).t (D i).g (D i).o)) _ _ _ _
    repeat walk_at "sl"
    refine WS.assignTup rfl rfl ?_
    repeat walk_at "sl"
    refine WC.ofM (f_deed C (D i).k (D i).t (D i).g (D i).o t9 g3 o9 ((hA1 _).le (by decide))) (hid2 fun Kz hKz => ?_)
    rintro _ τ1 ⟨a, rfl, q1, ha⟩
    refine hKz _ _ ?_
    have hB := hB.mono q1
    refine WAsg.tup (hh _) (.own ha) rfl rfl ?_
    clear q1 ha
    refine WEach.cons rfl (WAsg.name ?_)
    repeat walk_at "sl"
    refine WEach.cons rfl (WAsg.name ?_)
    repeat walk_at "sl"
    refine WEach.cons rfl (WAsg.name ?_)
    repeat walk_at "sl"
    refine WEach.nil ?_
    repeat walk_at "sl"
    refine WE.methStar1 ?_ ?_ ?_ ?_
    · rfl
    · rfl
    · first | exact .inl rfl | exact .inr rfl
    repeat walk_at "sl"
    refine WG.bound DS (m := 87) ?_ (by rw [C.K]; kernel_rfl) hB.hx hB.hdx rfl fun bm hb0 hbL => ?_
    · exact add_bound C
    have hB := hB.mono (St.le_set (o := .raw (methodObj (.ref 87) (.ref x))) hb0)
    have hbm : (τ1.set bm (.raw (methodObj (.ref 87) (.ref x)))) bm = some (.raw (methodObj (.ref 87) (.ref x))) := St.set_self ..
    generalize τ1.set bm (.raw (methodObj (.ref 87) (.ref x))) = τ2 at hB hbm ⊢
    repeat walk_at "sl"
    refine WI.atN (hB.base _ _ hW.hW) (D i).o rfl (by lia) (rL_get p o9) ?_ (fun _ => rfl)
    repeat walk_at "sl"
    refine WI.atN (hB.base _ _ hW.hW) (D i).t rfl (by lia) (rL_get p t9) ?_ (fun _ => rfl)
    refine W2.addL (hB.base _ _ (hW.hw _ o9)) (hB.base _ _ (hW.hw _ t9)) (by rw [sizeLine_eq]; simp [sL]; lia) fun l1 h1 _ => ?_
    have hB := hB.mono (St.le_set (o := .list (sL ((wrt D i (D i).o).map fun i => (D i).word) ++ sL ((wrt D i (D i).t).map fun i => (D i).word))) h1)
    have hl1 : (τ2.set l1 (.list (sL ((wrt D i (D i).o).map fun i => (D i).word) ++ sL ((wrt D i (D i).t).map fun i => (D i).word)))) l1 = some (.list (sL ((wrt D i (D i).o).map fun i => (D i).word) ++ sL ((wrt D i (D i).t).map fun i => (D i).word))) := St.set_self ..
    have hbm := St.le_set (o := .list (sL ((wrt D i (D i).o).map fun i => (D i).word) ++ sL ((wrt D i (D i).t).map fun i => (D i).word))) h1 _ _ hbm
    clear h1
    generalize τ2.set l1 (.list (sL ((wrt D i (D i).o).map fun i => (D i).word) ++ sL ((wrt D i (D i).t).map fun i => (D i).word))) = τ3 at hB hl1 hbm ⊢
    repeat walk_at "sl"
    refine WI.atN (hB.base _ _ hW.hR) (D i).t rfl (by lia) (rL_get q t9) ?_ (fun _ => rfl)
    refine W2.addL hl1 (hB.base _ _ (hW.hr _ t9)) (by rw [sizeLine_eq]; simp [sL]; lia) fun l2 h2 _ => ?_
    rw [show sL ((wrt D i (D i).o).map fun i => (D i).word) ++ sL ((wrt D i (D i).t).map fun i => (D i).word) ++ sL ((rdr D i (D i).t).map fun i => (D i).word) = sL ((prd D i).map fun i => (D i).word) from by unfold prd sL; rw [List.map_append, List.map_append, List.map_append, List.map_append]]
    have hB := hB.mono (St.le_set (o := .list (sL ((prd D i).map fun i => (D i).word))) h2)
    have hl2 : (τ3.set l2 (.list (sL ((prd D i).map fun i => (D i).word)))) l2 = some (.list (sL ((prd D i).map fun i => (D i).word))) := St.set_self ..
    have hbm := St.le_set (o := .list (sL ((prd D i).map fun i => (D i).word))) h2 _ _ hbm
    clear h2 hl1
    generalize τ3.set l2 (.list (sL ((prd D i).map fun i => (D i).word))) = τ4 at hB hl2 hbm ⊢
    refine ⟨l2, _, rfl, hl2, by rw [sizeLine_eq]; simp [sL]; lia, .meth hbm (by rw [C.K]; kernel_rfl), ?_⟩
    refine WC.of (.mono (CC.meth hbm (f_addD C D i (prd D i) hB hbd (by lia) ((hA1 _).le (by decide)))).cw ?_)
    clear hB hbm hl2
    rintro v τ5 ⟨rfl, G2, hB, hN⟩
    rw [← hnext] at hN
    repeat walk_at "sl"
    refine WI.atN (hB.base _ _ hW.hR) (D i).o rfl (by lia) (rL_get q o9) ?_ (fun _ => rfl)
    have hqo := hW.hr _ o9
    have hqo2 := hB.base _ _ hqo
    refine WM.append hqo2 ?_
    repeat walk_at "sl"
    refine WC.append hqo2 (by rw [sizeLine_eq]; simp [sL]; lia) ?_
    have hB := hB.setBase hqo (.list (sL ((rdr D i (D i).o).map fun i => (D i).word) ++ [.str (D i).word]))
    have hW := hW.app o9 i
    clear hqo hqo2
    generalize σb.set (q (D i).o) (.list (sL ((rdr D i (D i).o).map fun i => (D i).word) ++ [.str (D i).word])) = σc at hW hB
    show WB X _ _ _ _ (τ5.set (q (D i).o) (.list (sL ((rdr D i (D i).o).map fun i => (D i).word) ++ [.str (D i).word]))) _ _
    generalize τ5.set (q (D i).o) (.list (sL ((rdr D i (D i).o).map fun i => (D i).word) ++ [.str (D i).word])) = τ6 at hB ⊢
    repeat walk_at "sl"
    refine WS.assignTup rfl rfl ?_
    repeat walk_at "sl"
    refine ⟨by rw [sizeLine_eq]; simp, fun l1 h1 _ => ?_⟩
    repeat walk_at "sl"
    refine ⟨Nat.zero_le _, fun l2 h2 _ => ?_⟩
    have f1 := hB.fresh0 h1
    have f2 := (hB.addBase (.list [.str (D i).word]) h1).fresh0 h2
    have hB := (hB.addBase (.list [.str (D i).word]) h1).addBase (.list []) h2
    have cW := St.le_set (o := .list []) f2 _ _ (St.le_set (o := .list [.str (D i).word]) f1 _ _ hW.hW)
    have cR := St.le_set (o := .list []) f2 _ _ (St.le_set (o := .list [.str (D i).word]) f1 _ _ hW.hR)
    have wR := hW.wR
    have hW := (hW.put t9 f1 f2).next
    clear f1 f2 h1 h2
    generalize (σc.set l1 (.list [.str (D i).word])).set l2 (.list []) = σd at hW hB cW cR
    have hB : SortB σd ((τ6.set l1 (.list [.str (wordOf (D i).k (D i).t (D i).g (D i).o)])).set l2 (.list [])) x dx d G2 .none 0 0 := hB
    generalize (τ6.set l1 (.list [.str (wordOf (D i).k (D i).t (D i).g (D i).o)])).set l2 (.list []) = τ7 at hB ⊢
    repeat walk_at "sl"
    refine ⟨by rw [sizeLine_eq]; simp, fun tp h3 _ => ?_⟩
    have hB := hB.mono (St.le_set (o := .tuple [.ref l1, .ref l2]) h3)
    have htp : (τ7.set tp (.tuple [.ref l1, .ref l2])) tp = some (.tuple [.ref l1, .ref l2]) := St.set_self ..
    clear h3
    show WAsg X Ad _ _ _ _ (τ7.set tp (.tuple [.ref l1, .ref l2])) _ _
    generalize τ7.set tp (.tuple [.ref l1, .ref l2]) = τ8 at hB htp ⊢
    refine WAsg.tup (hh _) (.own htp) rfl rfl ?_
    clear htp
    refine WEach.cons rfl (WAsg.sub ?_)
    repeat walk_at "sl"
    refine WU3.setList (hB.base _ _ cW) (by lia) (by lia) (by simp [rL]; lia) ?_
    rw [show (((D i).t : Nat) : Int).toNat = (D i).t from rfl, rL_set p t9 l1]
    have hB := hB.setBase cW (.list (rL (updN p (D i).t l1)))
    have cR := St.set_keep (o := .list (rL (updN p (D i).t l1))) cR (Ne.symm wR)
    generalize σd.set W (.list (rL (updN p (D i).t l1))) = σe at hW hB cR
    generalize τ8.set W (.list (rL (updN p (D i).t l1))) = τ9 at hB ⊢
    refine WEach.cons rfl (WAsg.sub ?_)
    repeat walk_at "sl"
    refine WU3.setList (hB.base _ _ cR) (by lia) (by lia) (by simp [rL]; lia) ?_
    rw [show (((D i).t : Nat) : Int).toNat = (D i).t from rfl, rL_set q t9 l2]
    have hB := hB.setBase cR (.list (rL (updN q (D i).t l2)))
    refine WEach.nil ?_
    repeat (first | refine hK4 _ _ _ ?_ | refine hK3 _ _ _ ?_ | refine hK2 _ _ _ ?_ | refine hK1 _ _ _ ?_ | walk_at "sl")
    exact ⟨_, _, by repeat' (first | exact Fm.nil_le _ | (refine Fm.le_cons ?_ ?_; rfl)), St.le_refl _, .mk _ _ _ G2 hW hB hN⟩
  · refine hid2 fun Kz hKz => ?_
    rintro fr τ ⟨σb, p, q, G, hW, hB, hN⟩
    refine hKz _ _ ?_
    repeat walk_at "sl"
    rw [sL, List.length_map, List.length_map, List.length_range] at hN
    repeat (first | refine hK4 _ _ _ ?_ | refine hK3 _ _ _ ?_ | refine hK2 _ _ _ ?_ | refine hK1 _ _ _ ?_ | walk_at "sl")
    exact ⟨_, St.le_refl _, x, dx, d, G, rfl, hB.weakBase hW.le, hN⟩

end
section
theorem WC.maxI {X : Cx} {A : Around} {E : Value → Shared → Prop} {L : Addr} {fr : Fm} {σ : St} {l : Addr} {ns : List Int} {Q : PV → Fm → St → Prop} (hh : A.handled = none) (h : σ l = some (.list (iL ns))) (hne : 0 < ns.length) (hq : ∀ M, M ∈ ns → (∀ a, a ∈ ns → a ≤ M) → Q (.int M) fr σ) : WC X A L (.builtin "max") [.ref l] fr σ Q E := by
  intro fv vs hf hv; obtain rfl := abs_builtin hf
  obtain ⟨v1, rfl, hv1⟩ := args1 hv
  obtain rfl := abs_ref hv1
  intro σf s R
  obtain ⟨us, n, ho, hu, hs⟩ := R.list h
  obtain ⟨xs, rfl⟩ := (allInts_of hu).items
  have e : xs.toList.map (·.1) = ns := by
    have : (xs.toList.map (·.1)).map PV.int = ns.map PV.int := by
      rw [← show iL ns = ns.map PV.int from rfl, ← hu]; simp [intItems, Function.comp_def, abs]
    exact (List.map_inj_right (fun a b e => by cases e; rfl)).mp this
  have hsz : 0 < xs.size := by
    rw [← e, List.length_map, Array.length_toList] at hne; exact hne
  refine max_intList hh (isList_of ho) hsz fun v h' tk hv hk => ?_
  obtain ⟨t, rfl⟩ := intItems_at hv
  obtain ⟨h1, h2⟩ := argBest_gt (numAt xs) (xs.size - 1)
  refine ⟨_, _, (R.grow hk).toks _, hq _ ?_ fun a ha => ?_⟩
  · rw [← e, numAt_eq]; exact getD_mem (by rw [List.length_map, Array.length_toList]; lia)
  · rw [← e] at ha
    obtain ⟨j, hj, rfl⟩ := mem_getD ha
    rw [List.length_map, Array.length_toList] at hj
    rw [← numAt_eq]; exact h2 j (by lia)
theorem WBlock.rowsS {X : Cx} {A : Around} {env : Env} {E : Value → Shared → Prop} {fr : Fm} {σ : St} {elt target iter : Expr} {scope : Scope} {pos : Pos} {cl : List (Str × Addr)} {x : PV} {m : Nat} {P : St → Prop} {o : Nat → Addr → AO} {Q : PV → Fm → St → Prop} {nm : Str}
    (hh : A.handled = none) (S : SrcOf X A x (upL 0 m) P o) (F : Nat → List PV) (hlet : ∀ it, LetOk X A target it (fun i => o i it)) (hP : ∀ τ, σ.le τ → P τ) (hcs : ∀ n, cellsFrom n scope.names [] = [(nm, n)]) (hlen : m ≤ sizeLine)
    (hasg : ∀ L' τ v y (Q : Fm → St → Prop), τ (L' + 1) = some (.cell v) → Q [] (τ.set (L' + 1) (.cell (some y))) → WAsg X A (cEnv scope env L' cl) target y [] τ Q NoE)
    (turn : ∀ L' (z : Nat) τ, z < m → σ.le τ → τ (L' + 1) = some (.cell (some (.int z))) → WE X A (cEnv scope env L' cl) elt [] τ (fun y _ τ' => ∃ a, y = .ref a ∧ τ.le τ' ∧ τ' a = some (.list (F z))) NoE)
    (done : ∀ acc ys τ, σ.le τ → τ acc = some (.list ys) → All2 (fun y d => ∃ a, y = PV.ref a ∧ τ a = some (.list (F d))) ys (List.range m) → Q (.ref acc) fr τ) :
    WIter X A env.locals x fr σ (kCmp2 X A env (.ListComp elt [⟨target, iter, [], 0⟩] scope pos) scope cl Q) E := by
  have key : ∀ {L' : Addr} {τ : St}, (∀ a o, a ≠ L' + 1 → σ a = some o → τ a = some o) → σ (L' + 1) = none → σ.le τ := fun h h0 a o e => h a o (St.ne_of e h0) e
  refine WBlock.one hh S (fun L' i ys σ' => (∃ v, σ' (L' + 1) = some (.cell v)) ∧ (∀ a o, a ≠ L' + 1 → σ a = some o → σ' a = some o) ∧ σ (L' + 1) = none ∧ All2 (fun y z => ∃ a, y = PV.ref a ∧ a ≠ L' + 1 ∧ σ' a = some (.list (F z))) ys ((List.range m).take i)) hlet ?_ (hP _ (St.le_refl _)) ?_ ?_ ?_
  · rintro L' i ys σ' ⟨_, h, h0, _⟩; exact hP _ (key h h0)
  · intro L' hlt hL'
    have f1 : σ (L' + 1) = none := by
      cases q : σ (L' + 1) with
      | none => rfl
      | some o => exact absurd (hlt _ _ q) (Nat.not_lt.mpr (Nat.le_succ L'))
    rw [hcs]
    exact ⟨⟨none, St.set_self ..⟩, fun a o h e => (St.set_ne _ h).trans e, f1, .nil⟩
  · rintro L' i y ys σ' hy ⟨⟨v, hv⟩, hk, hf, hall⟩
    obtain ⟨hi, rfl⟩ := up0_get hy
    have hz : (List.range m)[i]? = some i := List.getElem?_range hi
    refine hasg L' σ' v _ _ hv ?_
    have hk2 : ∀ a o, a ≠ L' + 1 → σ' a = some o → (σ'.set (L' + 1) (.cell (some (.int (i : Int))))) a = some o := fun a o h e => by rw [St.set_ne _ h]; exact e
    refine WIfs.nil ?_
    rw [if_pos rfl]
    refine W.mono (turn L' i _ hi (key (fun a o h e => hk2 _ _ h (hk _ _ h e)) hf) (St.set_self ..)) fun u fr₂ τ' h => ?_
    obtain ⟨a, e, q1, ha⟩ := h
    rw [e]
    have hc4 := q1 _ _ (St.set_self ..)
    refine ⟨?_, [], _, Fm.nil_le _, St.le_refl _, ⟨_, hc4⟩, fun a o h e => q1 _ _ (hk2 _ _ h (hk _ _ h e)), hf, ?_⟩
    · rw [hall.1, List.length_take, List.length_range]; lia
    · rw [take_succ_get hz]
      exact All2.snoc (hall.mono fun y x ⟨a, e, h, q⟩ => ⟨a, e, h, q1 _ _ (hk2 _ _ h q)⟩) ⟨a, rfl, ne_ob ha hc4 (fun e => nomatch e), ha⟩
  · intro L' ys σ' ⟨_, hk, hf, hall⟩ acc hacc hL
    rw [up0_len, show (List.range m).take m = List.range m from List.take_of_length_le (by simp)] at hall
    refine ⟨[], _, Fm.nil_le _, St.le_refl _, done acc ys _ (St.le_trans (key hk hf) (St.le_set hacc)) (St.set_self ..) (hall.mono fun y x ⟨a, e, _, q⟩ => ⟨a, e, St.le_set hacc _ _ q⟩)⟩
noncomputable def stageD (D : Nat → Dd) (n : Nat) (d : Nat) : List Nat := (List.range n).filter fun k => decide (dep D k = (d : Int))
theorem maxI_eq {l : List Int} {M : Int} (h1 : M ∈ l ++ [-1]) (h2 : ∀ a, a ∈ l ++ [-1] → a ≤ M) : M = maxI l := by
  obtain ⟨g1, g2, g3⟩ := fmax_spec l (-1)
  unfold maxI
  have a1 := h2 (-1) (by simp)
  rcases List.mem_append.mp h1 with h1 | h1
  · have := g2 M h1
    rcases g3 with g3 | g3
    · lia
    · have := h2 _ (List.mem_append_left _ g3); lia
  · simp at h1
    rcases g3 with g3 | g3
    · lia
    · have := h2 _ (List.mem_append_left _ g3); lia
theorem up0_eq (n : Nat) : upL 0 n = (List.range n).map fun k : Nat => PV.int (k : Int) := by
  refine List.ext_getElem? fun i => ?_
  by_cases hi : i < n
  · rw [List.getElem?_map, List.getElem?_range hi, List.getElem?_eq_getElem (by rw [up0_len]; exact hi)]
    have := (up0_get (List.getElem?_eq_getElem (l := upL 0 n) (by rw [up0_len]; exact hi))).2
    rw [this]; rfl
  · rw [List.getElem?_eq_none (by rw [up0_len]; lia), List.getElem?_eq_none (by simp; lia)]
theorem up0_pick {α : Type} (n : Nat) (p : Nat → Bool) (f : Nat → α) (g : α → PV) : (upL 0 n).filterMap (fun v => match v with | .int k => if p k.toNat = true then some (g (f k.toNat)) else none | v => none) = (((List.range n).filter p).map f).map g := by
  rw [up0_eq, List.filterMap_map, List.map_map, ← List.filterMap_eq_filter, List.map_filterMap]
  congr 1
  funext k
  simp only [Function.comp, Option.guard, Int.toNat_natCast]
  split <;> simp_all

inductive StI (σb : St) (dp c4 c5 : Addr) (D : Nat → Dd) (k : Nat) : Fm → St → Prop
  | mk (v4 v5 : Option PV) {τ : St} (hle : σb.le τ) (h4 : τ c4 = some (.cell v4)) (h5 : τ c5 = some (.cell v5)) (hp : τ dp = some (.list (iL (depL D k)))) : StI σb dp c4 c5 D k [] τ
theorem St.without (σ : St) (p : Addr → Prop) [DecidablePred p] : ∃ σb : St, σb.le σ ∧ (∀ a o, σ a = some o → ¬ p a → σb a = some o) ∧ ∀ a, p a → σb a = none :=
  ⟨fun a => if p a then none else σ a, fun a o e => by dsimp only at e; split at e; exact nomatch e; exact e, fun a o e h => by dsimp only; rw [if_neg h]; exact e, fun a h => if_pos h⟩
theorem conf_in {x y : Dd} : [(y.t : Int), (y.o : Int)].contains (x.t : Int) = true ↔ x.t = y.t ∨ x.t = y.o := by
  rw [List.contains_iff_mem]; simp only [List.mem_cons, List.not_mem_nil, or_false]; lia
theorem dep_le (D : Nat → Dd) (a : Nat) : dep D a ≤ a := by
  induction a using Nat.strongRecOn with
  | ind a ih =>
    rcases dep_by D a with e | ⟨i, hi, _, e⟩
    · lia
    · have := ih i hi; lia
theorem depL_mem {D : Nat → Dd} {n : Nat} {M : Int} : M ∈ depL D n ↔ ∃ a, a < n ∧ dep D a = M := by
  rw [List.mem_iff_getElem?]
  have key : ∀ a, a < n → (depL D n)[a]? = some (dep D a) := fun a ha => by
    have := depL_at D (k := n) ha
    rw [List.getD_eq_getElem?_getD] at this
    rw [← this, List.getElem?_eq_getElem (by rw [depL_len]; exact ha)]; rfl
  constructor
  · rintro ⟨a, e⟩
    have ha : a < n := by have := (List.getElem?_eq_some_iff.mp e).1; rwa [depL_len] at this
    rw [key a ha] at e
    exact ⟨a, ha, Option.some.inj e⟩
  · rintro ⟨a, ha, rfl⟩
    exact ⟨a, key a ha⟩
theorem f_stages {X : Cx} (C : C1 X) {A : Around} {σ : St} {E : Value → Shared → Prop} {w : Addr} (n : Nat) (D : Nat → Dd) (hw : σ w = some (.list (sL ((List.range n).map fun i => (D i).word)))) (h0 : 0 < n) (hn : n ≤ 8) (hD : ∀ i, i < n → (D i).ok) (hA : OkA A 5) :
    CW X A (.ref 327) [.ref w] σ (fun v σ' => ∃ r ys m, v = .ref r ∧ σ.le σ' ∧ σ' r = some (.list ys) ∧ All2 (fun y d => ∃ a, y = PV.ref a ∧ σ' a = some (.list (sL ((stageD D n d).map fun i => (D i).word)))) ys (List.range m) ∧ m ≤ 8 ∧
      (∀ a, a < n → dep D a < m) ∧ ∃ a, a < n ∧ dep D a + 1 = m) E := by
  refine .weak (call_cellsW (k := 4) hA (C.def rfl (by kernel_rfl)) rfl rfl rfl rfl rfl (fun n => of_decide_eq_true rfl) (bindsC (fun a => rfl) rfl (fun _ => rfl)) fun L hL => ?_)
  intro ev Ad
  show WB X _ _ _ _ (((((σ.set (L + 1) (.cell (some (.ref w)))).set (L + 2) (.cell none)).set (L + 3) (.cell none)).set (L + 4) (.cell none)).set (L + 5) (.cell none)) _ _
  have fL : ∀ n, σ (L + n) = none := fresh_of hL
  have nn : ∀ i j : Nat, i < j → (L + i : Addr) ≠ L + j := fun i j h => Nat.ne_of_lt (Nat.add_lt_add_left h L)
  have n12 := nn 1 2 (by decide)
  have n13 := nn 1 3 (by decide)
  have n14 := nn 1 4 (by decide)
  have n15 := nn 1 5 (by decide)
  have n23 := nn 2 3 (by decide)
  have n24 := nn 2 4 (by decide)
  have n25 := nn 2 5 (by decide)
  have n34 := nn 3 4 (by decide)
  have n35 := nn 3 5 (by decide)
  have n45 := nn 4 5 (by decide)
  clear nn
  have hle := St.le_over (o := .cell none) (St.le_over (o := .cell none) (St.le_over (o := .cell none) (St.le_over (o := .cell none) (St.le_set (o := .cell (some (.ref w))) (fL 1)) (fL 2)) (fL 3)) (fL 4)) (fL 5)
  have c1 := St.set_keep (o := .cell none) (St.set_keep (o := .cell none) (St.set_keep (o := .cell none) (St.set_keep (o := .cell none) (St.set_self σ (L + 1) (.cell (some (.ref w)))) n12) n13) n14) n15
  have c2 := St.set_keep (o := .cell none) (St.set_keep (o := .cell none) (St.set_keep (o := .cell none) (St.set_self (σ.set (L + 1) (.cell (some (.ref w)))) (L + 2) (.cell none)) n23) n24) n25
  have c3 := St.set_keep (o := .cell none) (St.set_keep (o := .cell none) (St.set_self ((σ.set (L + 1) (.cell (some (.ref w)))).set (L + 2) (.cell none)) (L + 3) (.cell none)) n34) n35
  have c4 := St.set_keep (o := .cell none) (St.set_self (((σ.set (L + 1) (.cell (some (.ref w)))).set (L + 2) (.cell none)).set (L + 3) (.cell none)) (L + 4) (.cell none)) n45
  have c5 := St.set_self ((((σ.set (L + 1) (.cell (some (.ref w)))).set (L + 2) (.cell none)).set (L + 3) (.cell none)).set (L + 4) (.cell none)) (L + 5) (.cell none)
  have f2 := fL 2
  have f3 := fL 3
  have f4 := fL 4
  have f5 := fL 5
  clear fL
  generalize ((((σ.set (L + 1) (.cell (some (.ref w)))).set (L + 2) (.cell none)).set (L + 3) (.cell none)).set (L + 4) (.cell none)).set (L + 5) (.cell none) = σ1 at c1 c2 c3 c4 c5 hle ⊢
  have hA1 := okA_deeper hA
  have hh : ∀ env, (A.deeper env).handled = none := fun _ => hA.handled
  (first | refine WB.gK ?_ | refine WT.gK ?_ | refine WS.gK ?_); intro K1 hK1
  repeat walk_at "sl"
  refine WBlock.objs (hh _) (srcOf_list (l := w) (xs := sL ((List.range n).map fun i => (D i).word)) (hh _)) ((List.range n).map D) DeedAt (fun h => DeedAt.mono h) (by simp [sL]) (fun _ => LetOk.name) (hle _ _ hw) (fun _ => rfl) (by rw [sizeLine_eq]; simp; lia) ?_ ?_
  · intro L' i x d τ hx hd q1
    have hi : i < n := by have := (List.getElem?_eq_some_iff.mp hd).1; simpa using this
    rw [List.getElem?_map, List.getElem?_range hi] at hd
    obtain rfl := (Option.some.inj hd).symm
    rw [sL, List.getElem?_map, List.getElem?_map, List.getElem?_range hi] at hx
    obtain rfl := (Option.some.inj hx).symm
    obtain ⟨t9, g3, o9⟩ := hD i hi
    show WAsg X Ad _ _ (.str (wordOf (D i).k (D i).t (D i).g (D i).o)) _ _ _ _
    repeat walk_at "sl"
    refine WC.ofM (f_deed C _ _ _ _ t9 g3 o9 ((hA1 _).le (by decide))) ?_
    rintro _ τ1 ⟨a, rfl, q2, ha⟩
    exact ⟨⟨a, rfl, ha⟩, q2⟩
  intro d ys σ2 q1 hd hys
  have hle := St.le_trans hle q1
  have c1 := q1 _ _ c1
  have c2 := q1 _ _ c2
  have c3 := q1 _ _ c3
  have c4 := q1 _ _ c4
  have c5 := q1 _ _ c5
  clear q1
  refine WN.cell (c := L + 2) (v₀ := none) ?_ rfl (by rfl) (by rfl) c2
  have hle := St.le_over (o := .cell (some (.ref d))) hle f2
  have hd := St.set_keep (o := .cell (some (.ref d))) hd (ne_ob hd c2 (fun e => nomatch e))
  have hys : All2 (DeedAt (σ2.set (L + 2) (.cell (some (.ref d))))) ys ((List.range n).map D) := hys.mono fun y z ⟨a, e, h⟩ => ⟨a, e, St.set_keep h (ne_ob h c2 (fun e => nomatch e))⟩
  have c1 := St.set_keep (o := .cell (some (.ref d))) c1 n12
  have c3 := St.set_keep (o := .cell (some (.ref d))) c3 (Ne.symm n23)
  have c4 := St.set_keep (o := .cell (some (.ref d))) c4 (Ne.symm n24)
  have c5 := St.set_keep (o := .cell (some (.ref d))) c5 (Ne.symm n25)
  have c2 := St.set_self σ2 (L + 2) (.cell (some (.ref d)))
  generalize σ2.set (L + 2) (.cell (some (.ref d))) = σ3 at c1 c2 c3 c4 c5 hd hys hle ⊢
  repeat walk_at "sl"
  refine ⟨Nat.zero_le _, fun dp hdp0 _ => ?_⟩
  have fdp := St.none_le hle hdp0
  have q1 := St.le_set (o := .list []) hdp0
  have hle := St.le_trans hle q1
  have ndp := Ne.symm (St.ne_of hd hdp0)
  have hd := q1 _ _ hd
  have hys := hys.mono fun _ _ => DeedAt.mono q1
  have c1 := q1 _ _ c1
  have c2 := q1 _ _ c2
  have c3 := q1 _ _ c3
  have c4 := q1 _ _ c4
  have c5 := q1 _ _ c5
  have hp := St.set_self σ3 dp (.list [])
  clear q1 hdp0
  generalize σ3.set dp (.list []) = σ4 at c1 c2 c3 c4 c5 hd hys hle hp ⊢
  refine WN.cell (c := L + 3) (v₀ := none) ?_ rfl (by rfl) (by rfl) c3
  have hle := St.le_over (o := .cell (some (.ref dp))) hle f3
  have hd := St.set_keep (o := .cell (some (.ref dp))) hd (ne_ob hd c3 (fun e => nomatch e))
  have hp := St.set_keep (o := .cell (some (.ref dp))) hp (ne_ob hp c3 (fun e => nomatch e))
  have hys : All2 (DeedAt (σ4.set (L + 3) (.cell (some (.ref dp))))) ys ((List.range n).map D) := hys.mono fun y z ⟨a, e, h⟩ => ⟨a, e, St.set_keep h (ne_ob h c3 (fun e => nomatch e))⟩
  have c1 := St.set_keep (o := .cell (some (.ref dp))) c1 n13
  have c2 := St.set_keep (o := .cell (some (.ref dp))) c2 n23
  have c4 := St.set_keep (o := .cell (some (.ref dp))) c4 (Ne.symm n34)
  have c5 := St.set_keep (o := .cell (some (.ref dp))) c5 (Ne.symm n35)
  have c3 := St.set_self σ4 (L + 3) (.cell (some (.ref dp)))
  generalize σ4.set (L + 3) (.cell (some (.ref dp))) = σ5 at c1 c2 c3 c4 c5 hd hys hle hp ⊢
  repeat walk_at "sl"
  refine WC.lenList (hle _ _ hw) (by simp [sL]; lia) ?_
  repeat walk_at "sl"
  rw [show ((sL ((List.range n).map fun i => (D i).word)).length : Int) = (n : Int) from by simp [sL]]
  refine WC.range1V fun r σ6 q1 hr => ?_
  obtain ⟨σb, k1, k2, k3⟩ := σ6.without fun a => a = dp ∨ a = L + 4 ∨ a = L + 5
  have kl : ∀ {a o}, σ6 a = some o → a ≠ dp → a ≠ L + 4 → a ≠ L + 5 → σb a = some o := fun e g1 g2 g3 => k2 _ _ e (fun h => h.elim g1 fun h => h.elim g2 g3)
  have c4 := q1 _ _ c4
  have c5 := q1 _ _ c5
  have hp := q1 _ _ hp
  have b4 := k3 (L + 4) (.inr (.inl rfl))
  have b5 := k3 (L + 5) (.inr (.inr rfl))
  have bdp := k3 dp (.inl rfl)
  have b1 := kl (q1 _ _ c1) (ne_ob (q1 _ _ c1) hp (fun e => nomatch e)) n14 n15
  have b2 := kl (q1 _ _ c2) (ne_ob (q1 _ _ c2) hp (fun e => nomatch e)) n24 n25
  have b3 := kl (q1 _ _ c3) (ne_ob (q1 _ _ c3) hp (fun e => nomatch e)) n34 n35
  have bd := kl (q1 _ _ hd) (Ne.symm ndp) (ne_ob (q1 _ _ hd) c4 (fun e => nomatch e)) (ne_ob (q1 _ _ hd) c5 (fun e => nomatch e))
  have br := kl hr (ne_ob hr hp (fun e => nomatch e)) (ne_ob hr c4 (fun e => nomatch e)) (ne_ob hr c5 (fun e => nomatch e))
  have bys : All2 (DeedAt σb) ys ((List.range n).map D) := hys.mono fun y z ⟨a, e, h⟩ => ⟨a, e, kl (q1 _ _ h) (ne_ob (q1 _ _ h) hp (fun e => nomatch e)) (ne_ob (q1 _ _ h) c4 (fun e => nomatch e)) (ne_ob (q1 _ _ h) c5 (fun e => nomatch e))⟩
  have hleb : σ.le σb := fun a o e => kl (q1 _ _ (hle _ _ e)) (St.ne_of e fdp) (St.ne_of e f4) (St.ne_of e f5)
  clear k2 k3 kl q1 c1 c2 c3 hd hys hle hr f2 f3 fdp ndp n12 n13 n14 n15 n23 n24 n25 n34 n35
  refine WIter.forG (x := .ref r) (hh _) (srcOf_upto (m := 0) (n := n) (hh _) (by decide) (by lia)) (StI σb dp (L + 4) (L + 5) D) ?_ ?_ ?_ ?_ ?_
  · exact fun _ => LetOk.name
  · rintro i fr τ ⟨_, _, hle, _⟩; exact hle _ _ br
  · exact .mk none none k1 c4 c5 hp
  · clear k1 c4 c5 hp
    rintro k K2 hK2 x fr τ hx ⟨v4, v5, hle, h4, h5, hp⟩
    obtain ⟨hk, rfl⟩ := up0_get hx
    have hdd : ∀ i, i < n → ((List.range n).map D)[i]? = some (D i) := fun i hi => by rw [List.getElem?_map, List.getElem?_range hi]; rfl
    obtain ⟨y, hy, a, rfl, ha⟩ := bys.at (hdd k hk)
    have c1 := hle _ _ b1
    have c2 := hle _ _ b2
    have hd := hle _ _ bd
    repeat walk_at "sl"
    refine WS.assignTup rfl rfl ?_
    repeat walk_at "sl"
    refine WI.atN hd k rfl (by lia) hy ?_ (fun _ => rfl)
    refine WAsg.tup (hh _) (.own (hle _ _ ha)) rfl rfl ?_
    clear c1 c2 hd hy ha
    refine WEach.cons rfl (WAsg.name ?_)
    refine WN.cell (c := L + 4) (v₀ := v4) ?_ rfl (by rfl) (by rfl) h4
    refine WEach.cons rfl (WAsg.name ?_)
    repeat walk_at "sl"
    refine WEach.cons rfl (WAsg.name ?_)
    have h5' := St.set_keep (o := .cell (some (.int (D k).t))) h5 (Ne.symm n45)
    refine WN.cell (c := L + 5) (v₀ := v5) ?_ rfl (by rfl) (by rfl) h5'
    refine WEach.nil ?_
    have hle := St.le_over (o := .cell (some (.int (D k).o))) (St.le_over (o := .cell (some (.int (D k).t))) hle b4) b5
    have hp := St.set_keep (o := .cell (some (.int (D k).o))) (St.set_keep (o := .cell (some (.int (D k).t))) hp (ne_ob hp h4 (fun e => nomatch e))) (ne_ob hp h5 (fun e => nomatch e))
    have h4 := St.set_keep (o := .cell (some (.int (D k).o))) (St.set_self τ (L + 4) (.cell (some (.int (D k).t)))) n45
    have h5 := St.set_self (τ.set (L + 4) (.cell (some (.int (D k).t)))) (L + 5) (.cell (some (.int (D k).o)))
    clear h5'
    generalize (τ.set (L + 4) (.cell (some (.int (D k).t)))).set (L + 5) (.cell (some (.int (D k).o))) = τ1 at hle h4 h5 hp ⊢
    repeat walk_at "sl"
    refine WC.range1V fun r2 τ2 q1 hr2 => ?_
    have hle := St.le_trans hle q1
    have h4 := q1 _ _ h4
    have h5 := q1 _ _ h5
    have hp := q1 _ _ hp
    clear q1
    refine WBlock.fm0V (ys := iL (aheadI D (depL D k) k)) (hh _) (srcOf_upto (m := 0) (n := k) (hh _) (by decide) (by lia)) (fun v => match v with | .int i => if conf (D i.toNat) (D k) = true then some (.int ((depL D k).getD i.toNat 0)) else none | v => none) (up0_pick k (fun i => conf (D i) (D k)) (fun i => (depL D k).getD i 0) PV.int) ?_ ?_ ?_ ?_ ?_ ?_
    · exact fun _ => LetOk.name
    · exact hr2
    · rw [up0_len, sizeLine_eq]; lia
    · exact fun _ => rfl
    · intro L' x hx hL'
      obtain ⟨i, hx⟩ := List.mem_iff_getElem?.mp hx
      obtain ⟨hi, rfl⟩ := up0_get hx
      clear hx
      obtain ⟨y, hy, a, rfl, ha⟩ := bys.at (hdd i (by lia))
      have ha := hle _ _ ha
      have c2 := hle _ _ b2
      have c3 := hle _ _ b3
      have hd := hle _ _ bd
      repeat walk_at "sl"
      refine WAll.or ?_
      repeat walk_at "sl"
      refine WI.atN hd i rfl (by lia) hy ?_ (fun _ => rfl)
      repeat walk_at "sl"
      refine WI.tup (.own ha) 0 rfl (by decide) rfl ?_ (fun _ => rfl)
      repeat walk_at "sl"
      refine kTup.v (by rw [sizeLine_eq]; simp) fun tp τ3 q3 htp => ?_
      have c2 := q3 _ _ c2
      have c3 := q3 _ _ c3
      have hd := q3 _ _ hd
      have ha := q3 _ _ ha
      have h4 := q3 _ _ h4
      have h5 := q3 _ _ h5
      have hp := q3 _ _ hp
      refine W2.inTup (ns := [((D k).t : Int), ((D k).o : Int)]) (.own htp) ?_
      repeat walk_at "sl"
      by_cases g1 : [((D k).t : Int), ((D k).o : Int)].contains ((D i).t : Int) = true
      · refine itT g1 ?_
        refine itT rfl ?_
        repeat walk_at "sl"
        refine WI.nL (ms := depL D k) hp i rfl (by rw [depL_len]; exact hi) (by rw [depL_len]; lia) ?_ (fun _ => rfl)
        refine ⟨if_pos (conf_iff.mpr ?_), q3⟩
        exact (conf_in.mp g1).elim .inl fun h => .inr (.inl h)
      · refine itF g1 ?_
        refine WAll.or ?_
        repeat walk_at "sl"
        refine WI.atN hd i rfl (by lia) hy ?_ (fun _ => rfl)
        repeat walk_at "sl"
        refine WI.tup (.own ha) 2 rfl (by decide) rfl ?_ (fun _ => rfl)
        repeat walk_at "sl"
        by_cases g2 : (D i).o = (D k).t
        · refine itT (by rw [g2]; simp) ?_
          refine itT rfl ?_
          repeat walk_at "sl"
          refine WI.nL (ms := depL D k) hp i rfl (by rw [depL_len]; exact hi) (by rw [depL_len]; lia) ?_ (fun _ => rfl)
          exact ⟨if_pos (conf_iff.mpr (.inr (.inr g2))), q3⟩
        · refine itF (by rw [beq_iff_eq]; lia) ?_
          refine WAll.orNil ?_
          refine itF (by decide) ?_
          refine ⟨if_neg fun h => ?_, q3⟩
          rcases conf_iff.mp h with h | h | h
          · exact g1 (conf_in.mpr (.inl h))
          · exact g1 (conf_in.mpr (.inr h))
          · exact g2 h
    intro al τ3 q1 hal
    have hle := St.le_trans hle q1
    have h4 := q1 _ _ h4
    have h5 := q1 _ _ h5
    have hp := q1 _ _ hp
    have c3 := hle _ _ b3
    clear q1 hr2
    repeat (first | walk_at "sl" | with_reducible refine WE.unaryOpK ?_ | with_reducible refine W1.neg ?_)
    refine kLst.v (by rw [sizeLine_eq]; simp) fun m1 τ4 q1 hm1 => ?_
    have ahl : (aheadI D (depL D k) k).length ≤ 8 := by unfold aheadI; rw [List.length_map]; refine Nat.le_trans (List.length_filter_le _ _) ?_; rw [List.length_range]; lia
    refine W2.addL (q1 _ _ hal) hm1 (by rw [sizeLine_eq]; simp [iL]; lia) fun s hs0 hsL => ?_
    have q1 := St.le_trans q1 (St.le_set (o := .list (iL (aheadI D (depL D k) k) ++ [.int (-1)])) hs0)
    have hs := St.set_self τ4 s (.list (iL (aheadI D (depL D k) k) ++ [.int (-1)]))
    have hle := St.le_trans hle q1
    have h4 := q1 _ _ h4
    have h5 := q1 _ _ h5
    have hp := q1 _ _ hp
    clear q1 hal hm1 hs0 hsL c3
    generalize τ4.set s (.list (iL (aheadI D (depL D k) k) ++ [.int (-1)])) = τ5 at hle h4 h5 hp hs ⊢
    repeat walk_at "sl"
    refine WC.maxI (ns := aheadI D (depL D k) k ++ [-1]) (hh _) (by rw [hs]; simp [iL]) (by simp) fun M g1 g2 => ?_
    obtain rfl := maxI_eq g1 g2
    repeat walk_at "sl"
    refine WC.append hp (by rw [sizeLine_eq, List.length_map, depL_len]; lia) ?_
    repeat walk_at "sl"
    repeat (first | refine hK4 _ _ _ ?_ | refine hK3 _ _ _ ?_ | refine hK2 _ _ _ ?_ | refine hK1 _ _ _ ?_ | walk_at "sl")
    refine ⟨_, _, by repeat' (first | exact Fm.nil_le _ | (refine Fm.le_cons ?_ ?_; rfl)), St.le_refl _, .mk (some (.int (D k).t)) (some (.int (D k).o)) (St.le_over hle bdp) (St.set_keep h4 (ne_ob h4 hp (fun e => nomatch e))) (St.set_keep h5 (ne_ob h5 hp (fun e => nomatch e))) ?_⟩
    rw [St.set_self, depL]; simp [iL]
  · refine hid2 fun Kz hKz => ?_
    rintro fr τ ⟨v4, v5, hle, h4, h5, hp⟩
    refine hKz _ _ ?_
    rw [up0_len] at hp
    have c3 := hle _ _ b3
    repeat walk_at "sl"
    refine WC.maxI (ns := depL D n) (hh _) hp (by rw [depL_len]; exact h0) fun M g1 g2 => ?_
    obtain ⟨a0, ha0, rfl⟩ := depL_mem.mp g1
    have g2 : ∀ a, a < n → dep D a ≤ dep D a0 := fun a ha => g2 _ (depL_mem.mpr ⟨a, ha, rfl⟩)
    have e0 := dep_0 D a0
    have e1 := dep_le D a0
    obtain ⟨m, hm⟩ : ∃ m : Nat, dep D a0 + 1 = m := ⟨(dep D a0 + 1).toNat, by lia⟩
    clear g1
    repeat walk_at "sl"
    rw [hm]
    refine WC.range1V fun r3 τ1 q1 hr => ?_
    have hle := St.le_trans hle q1
    have hp := q1 _ _ hp
    refine WBlock.rowsS (nm := "d") (hh _) (srcOf_upto (m := 0) (n := m) (hh _) (by decide) (by lia)) (fun d => sL ((stageD D n d).map fun i => (D i).word)) (fun _ => LetOk.name) (fun τ h => h _ _ hr) (fun _ => rfl) (by rw [sizeLine_eq]; lia) ?_ ?_ ?_
    · intro L' τ v y Q hv hq
      exact WAsg.name (WN.cell (c := L' + 1) (v₀ := v) hq rfl (by rfl) (by rfl) hv)
    · intro L' z τ2 hz q2 h6
      have hle := St.le_trans hle q2
      have hp := q2 _ _ hp
      have c1 := hle _ _ b1
      have c3 := hle _ _ b3
      have hw := hle _ _ (hleb _ _ hw)
      repeat walk_at "sl"
      refine WC.lenList hw (by simp [sL]; lia) ?_
      repeat walk_at "sl"
      rw [show ((sL ((List.range n).map fun i => (D i).word)).length : Int) = (n : Int) from by simp [sL]]
      refine WC.range1V fun r4 τ3 q3 hr4 => ?_
      refine WBlock.fm0V (ys := sL ((stageD D n z).map fun i => (D i).word)) (hh _) (srcOf_upto (m := 0) (n := n) (hh _) (by decide) (by lia)) (fun v => match v with | .int i => if decide (dep D i.toNat = (z : Int)) = true then some (.str (D i.toNat).word) else none | v => none) (up0_pick n (fun i => decide (dep D i = (z : Int))) (fun i => (D i).word) PV.str) ?_ ?_ ?_ ?_ ?_ ?_
      · exact fun _ => LetOk.name
      · exact hr4
      · rw [up0_len, sizeLine_eq]; lia
      · exact fun _ => rfl
      · intro L2 x hx hL2
        obtain ⟨i, hx⟩ := List.mem_iff_getElem?.mp hx
        obtain ⟨hi, rfl⟩ := up0_get hx
        clear hx
        have hp := q3 _ _ hp
        have c1 := q3 _ _ c1
        have c3 := q3 _ _ c3
        have hw := q3 _ _ hw
        have h6 := q3 _ _ h6
        repeat walk_at "sl"
        refine WI.nL (ms := depL D n) hp i rfl (by rw [depL_len]; exact hi) (by rw [depL_len]; lia) ?_ (fun _ => rfl)
        rw [depL_at D hi]
        repeat walk_at "sl"
        by_cases g : dep D i = (z : Int)
        · refine itT (by rw [g]; simp) ?_
          repeat walk_at "sl"
          refine WI.atN hw i rfl (by lia) (by rw [sL, List.getElem?_map, List.getElem?_map, List.getElem?_range hi]; rfl) ?_ (fun _ => rfl)
          exact ⟨if_pos (decide_eq_true g), St.le_refl _⟩
        · refine itF (by rw [beq_iff_eq]; exact g) ?_
          exact ⟨if_neg (by rw [decide_eq_true_eq]; exact g), St.le_refl _⟩
      intro y τ4 q4 hy
      exact ⟨y, rfl, St.le_trans q3 q4, hy⟩
    intro s zs τ2 q2 hs hZ
    repeat (first | refine hK4 _ _ _ ?_ | refine hK3 _ _ _ ?_ | refine hK2 _ _ _ ?_ | refine hK1 _ _ _ ?_ | walk_at "sl")
    exact ⟨_, St.le_refl _, s, zs, m, rfl, St.le_trans hleb (St.le_trans hle q2), hs, hZ, by lia, fun a ha => by have := g2 a ha; lia, a0, ha0, hm⟩

end
section
theorem WS.raiseVE {X : Cx} {A : Around} {env : Env} {fr : Fm} {σ : St} {x : Str} {np cpos pos : Pos} {args : List Expr} {P : St → Prop} {Q : PF → Fm → St → Prop} (hh : A.handled = none) (hplain : (backTo cpos (starEach args env)).any (·.1) = false) (hl : noLone args = true)
    (h : WL X A env x fr σ (fun v fr₁ σ₁ => v = .type "ValueError" ∧ WA X A env cpos args fr₁ σ₁ (fun vs fr₂ σ₂ => vs.length ≤ sizeLine ∧ P σ₂) (RaisedF X A env.locals (.type "ValueError") P)) (RaisedF X A env.locals (.type "ValueError") P)) (hd : (x == ("__debug__" : Str)) = false) :
    WS X A env (.Raise (some (.Call (.Name x np) args [] cpos)) none pos) fr σ Q (RaisedF X A env.locals (.type "ValueError") P) := by
  intro σf s R
  refine wpAny_Raise_call PySem.F.excCall_ValueError PySem.F.excRaise_ValueError hh hplain (W.go (WE.name h hd) R (fun f s₁ fr₁ σ₁ R₁ ⟨hv, h₁⟩ => ⟨abs_type hv, ?_⟩))
  refine evalArgs_spliced (starEach_lone hl) (W.go h₁ R₁ (fun vs s₂ fr₂ σ₂ R₂ ⟨hz, hP⟩ => ?_))
  refine ⟨rfl, by simpa using hz, fun h' e hm => ?_⟩
  obtain ⟨t, he, ht, hts⟩ := hm.there
  have hb : X.hb.get? e = none := Option.eq_none_iff_forall_ne_some.mpr fun o q => by
    have := R₂.rel.keep _ _ q; rw [hm.new] at this; cases this
  refine ⟨e, fr₂, σ₂, rfl, (R₂.grow hm.keeps).dropG, ⟨hb, ?_, _, _, _, he, rfl, rfl, rfl, .inl rfl⟩, hP⟩
  refine Option.eq_none_iff_forall_ne_some.mpr fun o q => ?_
  obtain ⟨_, ob, q2, _⟩ := R₂.dropG.rel.own e o (by rw [St.un_emp]; exact q)
  rw [hm.new] at q2; cases q2
theorem St.le_un (σ τ : St) : σ.le (σ.un τ) := fun a o e => St.un_of e

theorem ex_val {X : Cx} (C : C1 X) : exmOne X.K (.type "ValueError") (.type "ValueError") = some true := by rw [C.K]; kernel_rfl
theorem n_val {X : Cx} (C : C1 X) : X.mg (Str.ofString "ValueError") = none := C.noGlob (by kernel_rfl)
theorem b_val : bootBuiltins (Str.ofString "ValueError") = some (.type "ValueError") := by kernel_rfl
theorem f_readyEarly {X : Cx} (C : C1 X) {A : Around} {σ0 σ : St} {x dx d : Addr} {D : List NdA} {po fi : Int} (hB : SortB σ0 σ x dx d D .none po fi) (hA : OkA A 4) :
    CC X A (.ref 99) [.ref x] σ (fun _ _ => False) (Raised X A (.type "ValueError") fun σ' => σ.le σ') := by
  refine call_plainX (k := 3) hA (C.def rfl (by kernel_rfl)) rfl rfl rfl rfl (by decide) (binds1 (fun a => rfl) rfl) fun L hL => ?_
  intro ev Ad
  have hA1 := okA_deeper hA
  have hh : ∀ env, (A.deeper env).handled = none := fun _ => hA.handled
  have DS := dcls_sort C
  repeat walk_at "sl"
  refine WS.ifK ?_
  repeat walk_at "sl"
  refine WG.own DS (by rw [C.K]; kernel_rfl) hB.hx hB.hdx rfl rfl ?_
  repeat walk_at "sl"
  refine itT (by simp) ?_
  repeat walk_at "sl"
  refine WS.raiseVE (hh _) rfl rfl ?_ (by decide)
  repeat walk_at "sl"
  refine ⟨rfl, ?_⟩
  repeat walk_at "sl"
  exact ⟨by rw [sizeLine_eq]; decide, St.le_refl _⟩
theorem f_early {X : Cx} (C : C1 X) {A : Around} {σ0 σ : St} {E : Value → Shared → Prop} {x dx d : Addr} {D : List NdA} {po fi : Int} (hB : SortB σ0 σ x dx d D .none po fi) (hA : OkA A 9) :
    CW X A (.ref 334) [.ref x] σ (fun v σ' => v = .bool true ∧ σ.le σ') E := by
  refine .weak (call_plainW (k := 8) hA (C.def rfl (by kernel_rfl)) rfl rfl rfl rfl (by decide) (binds1 (fun a => rfl) rfl) fun L hL => ?_)
  intro ev Ad
  have hA1 := okA_deeper hA
  have hh : ∀ env, (A.deeper env).handled = none := fun _ => hA.handled
  have DS := dcls_sort C
  (first | refine WB.gK ?_ | refine WT.gK ?_ | refine WS.gK ?_); intro K1 hK1
  repeat walk_at "sl"
  refine WS.tryExc (P := fun fr' σ1 => fr' = ([("sorter", .ref x)] : Fm) ∧ σ1 = σ) (deeper_frames hA _) rfl (fun v => Ev1.builtin rfl (by rfl) rfl rfl (n_val C) (by decide) b_val (by decide)) (ex_val C) (fun τ hD => ?_) ?_
  · have hB1 := hB.mono (St.le_un σ τ)
    repeat walk_at "sl"
    refine WM.inst DS (m := 99) (by rw [C.K]; kernel_rfl) (by rw [C.K]; kernel_rfl) hB1.hx hB1.hdx rfl ?_
    repeat walk_at "sl"
    refine WC.ofX fun hLn => ?_
    have hB2 := hB1.mono (St.le_set (o := .ns [("sorter", .ref x)]) hLn)
    refine (CW.monoE (CW.mono (f_readyEarly C hB2 ((hA1 _).le (by decide))).cw ?_) ?_)
    · rintro v σ2 h
      exact h.elim
    · rintro v s2 ⟨e, σ2, rfl, R, hex, hle⟩
      refine ⟨e, [("sorter", .ref x)], σ, rfl, hD, ⟨Disj.emp _, ?_, ?_⟩, hex.less hle, rfl, rfl⟩
      · rw [St.un_emp]; exact hLn
      · rw [St.un_emp]; exact R.less hle
  · rintro fr' σ1 e ⟨rfl, rfl⟩
    repeat (first | walk_at "sl" | with_reducible refine WE.cBool ?_)
    repeat (first | refine hK4 _ _ _ ?_ | refine hK3 _ _ _ ?_ | refine hK2 _ _ _ ?_ | refine hK1 _ _ _ ?_ | walk_at "sl")
    exact ⟨_, St.le_refl _, rfl, St.le_refl _⟩

end
section
structure PbAt (σ : St) (lx dx pb f : Addr) (n : Int) (ws : Str) (xs : List Str) : Prop where
  hlx : σ lx = some (.inst 179 dx [])
  hdx : σ dx = some (.flds (lexFlds n f ws pb))
  hpb : σ pb = some (.list (sL xs))
theorem PbAt.mono {σ τ : St} {lx dx pb f : Addr} {n : Int} {ws : Str} {xs : List Str} (h : PbAt σ lx dx pb f n ws xs) (hl : σ.le τ) : PbAt τ lx dx pb f n ws xs := ⟨hl _ _ h.hlx, hl _ _ h.hdx, hl _ _ h.hpb⟩
theorem PbAt.put {σ : St} {lx dx pb f : Addr} {n : Int} {ws : Str} {xs : List Str} (h : PbAt σ lx dx pb f n ws xs) (ys : List Str) : PbAt (σ.set pb (.list (sL ys))) lx dx pb f n ws ys :=
  ⟨St.set_keep h.hlx (ne_ob h.hlx h.hpb (fun e => nomatch e)), St.set_keep h.hdx (ne_ob h.hdx h.hpb (fun e => nomatch e)), St.set_self ..⟩

theorem f_push {X : Cx} (C : C1 X) {A : Around} {σ : St} {E : Value → Shared → Prop} {lx dx pb f : Addr} {n : Int} {ws : Str} {xs : List Str} (w : Str) (h : PbAt σ lx dx pb f n ws xs) (hz : xs.length ≤ 1000) (hA : OkA A 3) :
    CW X A (.ref 176) [.ref lx, .str w] σ (fun v σ' => v = .none ∧ σ' = σ.set pb (.list (sL (xs ++ [w])))) E := by
  refine .weak (call_plainW (k := 2) hA (C.def rfl (by kernel_rfl)) rfl rfl rfl rfl (by decide) (binds2 (fun a b => rfl) rfl rfl) fun L hL => ?_)
  intro ev Ad
  have D := dcls_lex C
  have hA1 := okA_deeper hA
  (first | refine WB.gK ?_ | refine WT.gK ?_ | refine WS.gK ?_); intro K1 hK1
  repeat walk_at "sl"
  refine WG.own D (lf_pushback C) h.hlx h.hdx rfl rfl ?_
  refine WM.append h.hpb ?_
  repeat walk_at "sl"
  refine WC.append h.hpb (by rw [sizeLine_eq]; simp [sL]; lia) ?_
  repeat walk_at "sl"
  repeat (first | refine hK4 _ _ _ ?_ | refine hK3 _ _ _ ?_ | refine hK2 _ _ _ ?_ | refine hK1 _ _ _ ?_ | walk_at "sl")
  exact ⟨_, St.le_refl _, rfl, by simp [sL]⟩
theorem f_popTok {X : Cx} (C : C1 X) {A : Around} {σ : St} {E : Value → Shared → Prop} {lx dx pb f : Addr} {n : Int} {ws : Str} {x : Str} {xs : List Str} (h : PbAt σ lx dx pb f n ws (x :: xs)) (hz : xs.length ≤ 1000) (hA : OkA A 3) :
    CW X A (.ref 169) [.ref lx] σ (fun v σ' => v = .str x ∧ σ' = σ.set pb (.list (sL xs))) E := by
  refine .weak (call_plainW (k := 2) hA (C.def rfl (by kernel_rfl)) rfl rfl rfl rfl (by decide) (binds1 (fun a => rfl) rfl) fun L hL => ?_)
  intro ev Ad
  have D := dcls_lex C
  have hA1 := okA_deeper hA
  (first | refine WB.gK ?_ | refine WT.gK ?_ | refine WS.gK ?_); intro K1 hK1
  repeat walk_at "sl"
  refine WS.ifK ?_
  repeat walk_at "sl"
  refine WG.own D (lf_pushback C) h.hlx h.hdx rfl rfl ?_
  refine W1B.list h.hpb (by simp [sL]; lia) ?_
  refine itT (by simp [sL]) ?_
  repeat walk_at "sl"
  refine WG.own D (lf_pushback C) h.hlx h.hdx rfl rfl ?_
  refine WM.pop h.hpb ?_
  repeat walk_at "sl"
  refine WC.pop0 h.hpb (by rw [sizeLine_eq]; simp; lia) ?_
  repeat walk_at "sl"
  repeat (first | refine hK4 _ _ _ ?_ | refine hK3 _ _ _ ?_ | refine hK2 _ _ _ ?_ | refine hK1 _ _ _ ?_ | walk_at "sl")
  exact ⟨_, St.le_refl _, rfl, rfl⟩

end
section
structure Ln (key : Nat → KV) (P : Nat → List Nat) (n : Nat) (G : List Nd) (out don q : List Nat) (st : List Nd × List KV) : Prop where
  cs : Cs key P n G out don st
  dn : don.Nodup
  qn : q.Nodup
  mq : ∀ a, a ∈ q ↔ a ∈ out ∧ a ∉ don
theorem Ln.start {key : Nat → KV} {P : Nat → List Nat} {n : Nat} {G : List Nd} (hG : GM key P n G) (hk : Inj key n) : Ln key P n G [] [] [] (G, gReady G) := ⟨Cs.start hG hk, .nil, .nil, by simp⟩
theorem Ln.out {key : Nat → KV} {P : Nat → List Nat} {n : Nat} {G : List Nd} (hG : GM key P n G) (hk : Inj key n) (hP : ∀ a, a < n → ∀ j ∈ P a, j < a) {out don q : List Nat} {st : List Nd × List KV} (h : Ln key P n G out don q st) :
    ∃ r : List Nat, st.2 = r.map key ∧ (∀ a ∈ r, a < n) ∧ r.Nodup ∧ Ln key P n G (out ++ r) don (q ++ r) (gOut st.1 st.2, []) ∧ (don.length < n → ∃ v q', q ++ r = v :: q') := by
  obtain ⟨r, e, rn, hr⟩ := h.cs.rd
  refine ⟨r, e, fun a ha => ((hr a).mp ha).1, rn, ⟨h.cs.out hG hk e hr, h.dn, ?_, fun a => ?_⟩, fun hl => ?_⟩
  · rw [List.nodup_append]
    refine ⟨h.qn, rn, fun a ha b hb e => ?_⟩
    subst e
    exact ((hr a).mp hb).2.1 ((h.mq a).mp ha).1
  · rw [List.mem_append, List.mem_append, h.mq]
    constructor
    · rintro (⟨h1, h2⟩ | h1)
      · exact ⟨.inl h1, h2⟩
      · exact ⟨.inr h1, fun hd => ((hr a).mp h1).2.1 (h.cs.sub a hd)⟩
    · rintro ⟨h1 | h1, h2⟩
      · exact .inl ⟨h1, h2⟩
      · exact .inr h1
  · have ex : ∃ a, a < n ∧ a ∉ don := by
      apply Classical.byContradiction
      intro hne
      have hall : ∀ a ∈ List.range n, a ∈ don := fun a ha => by
        apply Classical.byContradiction
        intro q
        exact hne ⟨a, List.mem_range.mp ha, q⟩
      have := nodup_len List.nodup_range hall
      rw [List.length_range] at this
      lia
    have low : ∀ a, a < n → a ∉ don → ∃ b, b < n ∧ b ∉ don ∧ ∀ j ∈ P b, j ∈ don := by
      intro a
      induction a using Nat.strongRecOn with
      | ind a ih =>
        intro ha hd
        by_cases c : ∀ j ∈ P a, j ∈ don
        · exact ⟨a, ha, hd, c⟩
        · simp only [Classical.not_forall] at c
          obtain ⟨j, hj, hjd⟩ := c
          have := hP a ha j hj
          exact ih j this (by lia) hjd
    obtain ⟨a, ha, hd⟩ := ex
    obtain ⟨b, hb, hbd, hbP⟩ := low a ha hd
    have hm : b ∈ q ++ r := by
      rw [List.mem_append]
      by_cases c : b ∈ out
      · exact .inl ((h.mq b).mpr ⟨c, hbd⟩)
      · exact .inr ((hr b).mpr ⟨hb, c, hbP⟩)
    cases hqr : q ++ r with
    | nil => rw [hqr] at hm; cases hm
    | cons v q' => exact ⟨v, q', rfl⟩
theorem Ln.turn {key : Nat → KV} {P : Nat → List Nat} {n : Nat} {G : List Nd} (hG : GM key P n G) (hk : Inj key n) {out don q : List Nat} {v : Nat} {st : List Nd × List KV} (h : Ln key P n G out don (v :: q) st) : v < n ∧ doneOk st [key v] ∧ Ln key P n G out (don ++ [v]) q (gDones st [key v]) := by
  obtain ⟨h1, h2⟩ := (h.mq v).mp (.head _)
  obtain ⟨g1, g2⟩ := h.cs.done hG hk h1 h2
  have qn := List.nodup_cons.mp h.qn
  refine ⟨h.cs.lt v h1, ⟨g1, trivial⟩, g2, ?_, qn.2, fun a => ?_⟩
  · rw [List.nodup_append]
    exact ⟨h.dn, by simp, fun a ha b hb e => by simp at hb; subst hb; subst e; exact h2 ha⟩
  · have := h.mq a
    rw [List.mem_cons] at this
    rw [List.mem_append, List.mem_singleton]
    constructor
    · intro ha
      obtain ⟨g3, g4⟩ := this.mp (.inr ha)
      exact ⟨g3, fun e => e.elim g4 fun e => qn.1 (e ▸ ha)⟩
    · rintro ⟨g3, g4⟩
      exact (this.mpr ⟨g3, fun e => g4 (.inl e)⟩).resolve_left fun e => g4 (.inr e)
theorem Ln.val {key : Nat → KV} {P : Nat → List Nat} {n : Nat} {G : List Nd} {D : Nat → Dd} (hA : Ahead D n P) {V W : Vals} {out don q : List Nat} {v : Nat} {st : List Nd × List KV} (h : Ln key P n G out don (v :: q) st) (hc : Cur V D don W) : Cur V D (don ++ [v]) (onceV W [D v]) := by
  obtain ⟨h1, h2⟩ := (h.mq v).mp (.head _)
  have hl : ∀ a ∈ don, a < n := fun a ha => h.cs.lt a (h.cs.sub a ha)
  have hcl : Clo D n don := hA.clo hl fun a ha => h.cs.outp a (h.cs.sub a ha)
  exact hc.once hcl (r := [v]) fun a ha => by
    rw [List.mem_singleton] at ha
    subst ha
    exact ⟨h2, hA.next hcl (h.cs.lt a h1) (h.cs.outp a h1)⟩
theorem all_in {n : Nat} {l : List Nat} (hn : l.Nodup) (hl : ∀ a ∈ l, a < n) (hz : l.length = n) : ∀ a, a ∈ l ↔ a < n := fun a => ⟨hl a, fun ha => by
  apply Classical.byContradiction
  intro q
  have := nodup_len (l := a :: l) (m := List.range n) (List.nodup_cons.mpr ⟨q, hn⟩) fun x hx => by
    rcases List.mem_cons.mp hx with rfl | hx
    · exact List.mem_range.mpr ha
    · exact List.mem_range.mpr (hl x hx)
  rw [List.length_cons, List.length_range, hz] at this
  lia⟩
theorem Ln.all {key : Nat → KV} {P : Nat → List Nat} {n : Nat} {G : List Nd} {out don q : List Nat} {st : List Nd × List KV} (h : Ln key P n G out don q st) (hz : don.length = n) : (∀ a, a ∈ don ↔ a < n) ∧ q = [] := by
  have hl : ∀ a ∈ don, a < n := fun a ha => h.cs.lt a (h.cs.sub a ha)
  have hd := all_in h.dn hl hz
  refine ⟨hd, List.eq_nil_iff_forall_not_mem.mpr fun a ha => ?_⟩
  obtain ⟨h1, h2⟩ := (h.mq a).mp ha
  exact h2 ((hd a).mpr (h.cs.lt a h1))
theorem GM.noring {key : Nat → KV} {P : Nat → List Nat} {n : Nat} {G : List Nd} (hG : GM key P n G) (hk : Inj key n) (hP : ∀ a, a < n → ∀ j ∈ P a, j < a) (ring : List KV) : ¬ IsRing G ring := by
  refine ring_rank (fun k => ((List.range n).find? fun a => decide (key a = k)).elim 0 fun a => n - a) fun v w hv hw => ?_
  have hf : ∀ a, a < n → ((List.range n).find? fun b => decide (key b = key a)) = some a := fun a ha => by
    rw [List.find?_range_eq_some]
    exact ⟨by simp, by simpa using ha, fun j hj => by simp; exact fun e => absurd (hk j a (by lia) ha e) (by lia)⟩
  obtain ⟨b, hb, rfl⟩ := (hG.keys v).mp hv
  obtain ⟨ws, e, hws, hc⟩ := hG.su b hb
  rw [e] at hw
  obtain ⟨a, ha, rfl⟩ := List.mem_map.mp hw
  have an := hws a ha
  have hbP : b ∈ P a := by
    rw [← List.count_pos_iff, ← hc a an, List.count_pos_iff]; exact ha
  have := hP a an b hbP
  rw [hf a an, hf b hb]
  show n - a < n - b
  lia


end
section
noncomputable def St.rest (σ τ : St) : St := fun a => match σ a with | some _ => none | none => τ a
theorem St.rest_at {σ τ : St} {a : Addr} (h : σ a = none) : (σ.rest τ) a = τ a := by unfold St.rest; rw [h]
theorem St.rest_un {σ τ : St} (h : σ.le τ) : σ.un (σ.rest τ) = τ := by
  funext a
  unfold St.un St.rest
  cases e : σ a with
  | some o => exact (h a o e).symm
  | none => rfl
theorem Disj.rest (σ τ : St) : Disj σ (σ.rest τ) := fun a o e => by unfold St.rest; rw [e]
theorem CW.beside {X : Cx} {A : Around} {f : PV} {args : List PV} {σ ρ : St} {Q : PV → St → Prop} {E : Value → Shared → Prop} (h : CW X A f args σ Q E) (hD : Disj σ ρ) : CW X A f args (σ.un ρ) (fun v σ' => ∃ σ1, Disj σ1 ρ ∧ σ' = σ1.un ρ ∧ Q v σ1) E := by
  have assoc : ∀ α β γ : St, (α.un β).un γ = α.un (β.un γ) := fun α β γ => by
    funext a; unfold St.un; cases α a <;> rfl
  intro σf s fv vs hf hv D R
  have D2 : Disj σ (ρ.un σf) := fun a o e => by
    have h1 := hD a o e
    rw [St.un_none h1]
    exact D a o (St.un_of e)
  rw [assoc] at R
  refine wpAny_mono (h (ρ.un σf) s fv vs hf hv D2 R) (fun v s' ⟨σ1, D1, R1, hq⟩ => ?_) fun x s hx => hx
  rw [← assoc] at R1
  refine ⟨σ1.un ρ, fun a o e => ?_, R1, σ1, fun a o e => (St.un_eq_none (D1 a o e)).1, rfl, hq⟩
  rcases St.un_cases e with e | e
  · exact (St.un_eq_none (D1 a o e)).2
  · cases q : σ a with
    | some o' => have := hD a o' q; rw [e] at this; cases this
    | none => exact D a o (by rw [St.un_none q]; exact e)
theorem SortB.over {σ σ1 τ : St} {x dx d : Addr} {D : List NdA} {rdy : PV} {po fi : Int} (h : SortB σ τ x dx d D rdy po fi) (hD : Disj σ1 (σ.rest τ)) : SortB σ1 (σ1.un (σ.rest τ)) x dx d D rdy po fi := by
  have f : ∀ {a o}, σ a = none → τ a = some o → σ1 a = none ∧ (σ1.un (σ.rest τ)) a = some o := fun {a o} e g => by
    have e2 := (St.rest_at (τ := τ) e).trans g
    have : σ1 a = none := by
      cases q : σ1 a with
      | none => rfl
      | some o' => have := hD a o' q; rw [e2] at this; cases this
    exact ⟨this, by rw [St.un_none this]; exact e2⟩
  exact { h with hx := (f h.fx h.hx).2, hdx := (f h.fdx h.hdx).2, hd := (f h.fd h.hd).2, base := fun a o e => St.un_of e, fx := (f h.fx h.hx).1, fdx := (f h.fdx h.hdx).1, fd := (f h.fd h.hd).1,
                 ok := fun g hg => ⟨(f (h.fg g hg).1 (h.ok g hg).1).2, (f (h.fg g hg).2.1 (h.ok g hg).2.1).2, (f (h.fg g hg).2.2 (h.ok g hg).2.2).2⟩,
                 fg := fun g hg => ⟨(f (h.fg g hg).1 (h.ok g hg).1).1, (f (h.fg g hg).2.1 (h.ok g hg).2.1).1, (f (h.fg g hg).2.2 (h.ok g hg).2.2).1⟩ }
theorem SortR.over {σ σ1 τ : St} {x dx d r : Addr} {D : List NdA} {R : List KV} {po fi : Int} (h : SortR σ τ x dx d D r R po fi) (hD : Disj σ1 (σ.rest τ)) : SortR σ1 (σ1.un (σ.rest τ)) x dx d D r R po fi := by
  have e2 := (St.rest_at (τ := τ) h.fr).trans h.hr
  have : σ1 r = none := by
    cases q : σ1 r with
    | none => rfl
    | some o' => have := hD r o' q; rw [e2] at this; cases this
  exact ⟨h.b.over hD, by rw [St.un_none this]; exact e2, this, h.nr⟩
theorem WC.base {X : Cx} {A : Around} {L : Addr} {f : PV} {args : List PV} {fr : Fm} {σ τ : St} {P : PV → St → Prop} {Q : PV → Fm → St → Prop} {E : Value → Shared → Prop} {x dx d r : Addr} {D : List NdA} {R : List KV} {po fi : Int} (hR : SortR σ τ x dx d D r R po fi)
    (h : CW X A f args σ P E) (hq : ∀ v σ1, P v σ1 → ∀ τ1, SortR σ1 τ1 x dx d D r R po fi → Q v fr τ1) : WC X A L f args fr τ Q E := by
  have hf := h.beside (Disj.rest σ τ)
  rw [St.rest_un hR.b.base] at hf
  refine WC.ofM hf ?_
  rintro v σ' ⟨σ1, hD, rfl, hP⟩
  exact hq v σ1 hP _ (hR.over hD)


end
section
theorem binds4 {X : Cx} {fs : List Env} {σ : St} {fd : FuncData} {n m k j : Str} {x y z w : PV} (hb : ∀ a b c d, bindArgs fd ⟨[a, b, c, d], []⟩ = Pure.pure [(n, a), (m, b), (k, c), (j, d)]) (h1 : fd.scope.names.lookup n = some .local) (h2 : fd.scope.names.lookup m = some .local) (h3 : fd.scope.names.lookup k = some .local) (h4 : fd.scope.names.lookup j = some .local) :
    ∀ s vs, vs.map abs = [x, y, z, w] → Rel X fs σ s → ∃ binds : List (Str × Value), BindsTo s fd ⟨vs, []⟩ binds ∧ (binds.reverse.map fun p => (p.1, abs p.2)) = [(j, w), (k, z), (m, y), (n, x)] ∧ ∀ x ∈ binds, fd.scope.names.lookup x.1 = some .local := by
  intro s vs hv R
  obtain ⟨a, l, rfl, rfl, hv2⟩ := List.map_eq_cons_iff.mp hv
  obtain ⟨b, c, d, rfl, rfl, rfl, rfl⟩ := args3 hv2
  refine ⟨_, .of_eq (hb a b c d), rfl, ?_⟩
  intro p hp
  simp only [List.mem_cons, List.not_mem_nil, or_false] at hp
  rcases hp with rfl | rfl | rfl | rfl <;> assumption
theorem Cs.shape {key : Nat → KV} {P : Nat → List Nat} {n N : Nat} {G : List Nd} (hG : GM key P n G) (hb : gBound G N) {out don : List Nat} {Di : List NdA} {R : List KV} (h : Cs key P n G out don (Di.map NdA.nd, R)) (hn : (Di.map (·.k)).Nodup) : (∀ g ∈ Di, g.succ.length ≤ N) ∧ gClosed (Di.map NdA.nd) := by
  have e : ∀ g ∈ Di, g.succ = suAt G g.k := fun g hg => (suAt_nd hn hg).symm.trans (h.su g.k)
  refine ⟨fun g hg => ?_, fun a ha s hs => ?_⟩
  · rw [e g hg]
    unfold suAt
    cases q : G.find? fun a => a.k = g.k with
    | none => simp
    | some a => exact hb.2 a (List.mem_of_find?_eq_some q)
  · obtain ⟨g, hg, rfl⟩ := List.mem_map.mp ha
    have hs : s ∈ g.succ := hs
    rw [e g hg] at hs
    have hk : g.k ∈ ks (Di.map NdA.nd) := List.mem_map.mpr ⟨g.nd, List.mem_map.mpr ⟨g, hg, rfl⟩, rfl⟩
    rw [h.keys] at hk
    obtain ⟨b, hb, eb⟩ := (hG.keys _).mp hk
    obtain ⟨ws, e1, e2, _⟩ := hG.su b hb
    rw [eb, e1] at hs
    obtain ⟨c, hc, rfl⟩ := List.mem_map.mp hs
    show _ ∈ ks (Di.map NdA.nd)
    rw [h.keys]
    exact (hG.keys _).mpr ⟨c, e2 c hc, rfl⟩

noncomputable abbrev wd (D : Nat → Dd) (l : List Nat) : List Str := l.map fun i => (D i).word
inductive IlI (σ0 : St) (n : Nat) (D : Nat → Dd) (H : Nat → Int) (V : Vals) (G : List Nd) (lx dxl pb f w x dx d r : Addr) (nl : Int) (ws : Str) (i : Nat) : Fm → St → Prop
  | mk (σi : St) (Di : List NdA) (R : List KV) (out don q : List Nat) (W : Vals) (mi : Addr) (po fi : Int) {τ : St} (hk : ∀ a o, a ≠ pb → σ0 a = some o → σi a = some o) (hp : PbAt σi lx dxl pb f nl ws (wd D q)) (hm : σi mi = some (.list (iL (modesV H W)))) (hR : SortR σi τ x dx d Di r R po fi)
    (hL : Ln (keyD D) (prd D) n G out don q (Di.map NdA.nd, R)) (hc : Cur V D don W) (hW : VOk W) (hi : don.length = i) : IlI σ0 n D H V G lx dxl pb f w x dx d r nl ws i [("words", .ref w), ("modes", .ref mi), ("sorter", .ref x), ("lex", .ref lx)] τ
inductive PuI (σi : St) (D : Nat → Dd) (F : Fm) (Di : List NdA) (R : List KV) (po fi : Int) (q rr : List Nat) (lx dxl pb f x dx d r : Addr) (nl : Int) (ws : Str) (j : Nat) : Fm → St → Prop
  | mk (σj : St) {τ : St} (hk : ∀ a o, a ≠ pb → σi a = some o → σj a = some o) (hp : PbAt σj lx dxl pb f nl ws (wd D (q ++ rr.take j))) (hR : SortR σj τ x dx d Di r R po fi) : PuI σi D F Di R po fi q rr lx dxl pb f x dx d r nl ws j F τ
theorem f_inline {X : Cx} (C : C1 X) {A : Around} {σ0 σ : St} {E : Value → Shared → Prop} {lx dxl pb f w m x dx d : Addr} {nl : Int} {ws : Str} {G : List NdA} {po fi : Int} (n : Nat) (D : Nat → Dd) (H : Nat → Int) (V : Vals) (hB : SortB σ0 σ x dx d G .none po fi) (hN : G.map NdA.nd = gTo (keyD D) (prd D) n)
    (hl : PbAt σ0 lx dxl pb f nl ws []) (hw : σ0 w = some (.list (sL (wd D (List.range n))))) (hm : σ0 m = some (.list (iL (modesV H V)))) (h0 : 0 < n) (hn : n ≤ 8) (hD : ∀ i, i < n → (D i).ok) (hk : Inj (keyD D) n) (hV : VOk V) (hH : ∀ i, 0 ≤ H i) (hA : OkA A 9) :
    CW X A (.ref 341) [.ref lx, .ref x, .ref m, .ref w] σ (fun v σ' => ∃ r, v = .ref r ∧ σ' r = some (.list (iL (modesV H (seqV V D n)))) ∧ σ' pb = some (.list []) ∧ ∀ a o, a ≠ pb → σ0 a = some o → σ' a = some o) E := by
  refine .weak (call_plainW (k := 8) hA (C.def rfl (by kernel_rfl)) rfl rfl rfl rfl (by decide) (binds4 (fun a b c d => rfl) rfl rfl rfl rfl) fun L hL => ?_)
  intro ev Ad
  have hA1 := okA_deeper hA
  have hh : ∀ env, (A.deeper env).handled = none := fun _ => hA.handled
  have DS := dcls_sort C
  have DL := dcls_lex C
  have hP : ∀ a, a < n → ∀ j ∈ prd D a, j < a := fun a ha j hj => ((prd_ahead D n).sub a ha j hj).1
  have hG : GM (keyD D) (prd D) n (G.map NdA.nd) := by rw [hN]; exact gTo_ok hk hP n (Nat.le_refl n)
  have hbd : gBound (G.map NdA.nd) 168 := by rw [hN]; exact (gTo_bound n fun a ha => by have := prd_len D a; lia).le (by lia)
  have hcl : gClosed (G.map NdA.nd) := by rw [hN]; exact gTo_closed n
  have npw : w ≠ pb := ne_ob hw hl.hpb fun e => by
    have := congrArg List.length (AO.list.inj e)
    simp [sL] at this; lia
  have npm : m ≠ pb := ne_ob hm hl.hpb fun e => by
    have := congrArg List.length (AO.list.inj e)
    simp [iL, modesV] at this
  (first | refine WB.gK ?_ | refine WT.gK ?_ | refine WS.gK ?_); intro K1 hK1
  repeat walk_at "sl"
  refine WS.ifK ?_
  repeat walk_at "sl"
  refine WM.inst DS (m := 92) (by rw [C.K]; kernel_rfl) (by rw [C.K]; kernel_rfl) hB.hx hB.hdx rfl ?_
  repeat walk_at "sl"
  refine WC.ofM (f_prepOk C hB hbd (by decide) hcl ((hA1 _).le (by decide)) (hG.noring hk hP)) (hid2 fun Kz hKz => ?_)
  rintro _ τ1 ⟨rfl, r, hr, hle⟩
  refine hKz _ _ ?_
  have hR := (hB.prep hr).mono hle
  clear hr hle hB
  repeat walk_at "sl"
  refine itF (by decide) ?_
  repeat walk_at "sl"
  refine WIter.forG (x := .ref w) (hh _) (srcOf_list (l := w) (xs := sL (wd D (List.range n))) (hh _)) (IlI σ0 n D H V (G.map NdA.nd) lx dxl pb f w x dx d r nl ws) ?_ ?_ ?_ ?_ ?_
  · exact fun _ => LetOk.name
  · rintro i fr τ ⟨σi, Di, R, out, don, q, W, mi, po, fi, hk, hp, hm, hR, hL, hc, hW, hi⟩
    exact hR.b.base _ _ (hk _ _ npw hw)
  · exact .mk σ0 G (gReady (G.map NdA.nd)) [] [] [] V m po fi (fun a o _ e => e) hl hm hR (Ln.start hG hk) (Cur.nil V D) hV rfl
  · clear hR hm hl npm hV
    rintro i K2 hK2 y fr τ hx ⟨σi, Di, R, out, don, q, W, mi, po, fi, hks, hp, hm, hR, hL, hc, hW, hi⟩
    have hin : i < n := by have := (List.getElem?_eq_some_iff.mp hx).1; simpa [sL] using this
    clear hx
    repeat walk_at "sl"
    refine WM.inst DS (m := 99) (by rw [C.K]; kernel_rfl) (by rw [C.K]; kernel_rfl) hR.b.hx hR.b.hdx rfl ?_
    repeat walk_at "sl"
    obtain ⟨rr, eR, hrl, hrn, hL2, hne⟩ := hL.out hG hk hP
    have hkeys := hL.cs.keys
    dsimp only at eR hkeys
    subst eR
    have hrz : rr.length ≤ 8 := by
      have := nodup_len hrn (m := List.range n) fun a ha => List.mem_range.mpr (hrl a ha)
      rw [List.length_range] at this; lia
    refine WC.ofM (f_getReady C hR (by rw [List.length_map]; lia) (fun k hk' => ?_) ((hA1 _).le (by decide))) (hid2 fun Kz hKz => ?_)
    · obtain ⟨a, ha, rfl⟩ := List.mem_map.mp hk'
      show _ ∈ ks _
      rw [hkeys]
      exact (hG.keys _).mpr ⟨a, hrl a ha, rfl⟩
    rintro _ τ2 ⟨t, D2, rfl, ht, hR2, hN2⟩
    refine hKz _ _ ?_
    have ht0 := hR.b.fresh0 ht
    rw [kv_words] at hR2
    rw [← hN2] at hL2
    have q1 := St.le_set (o := .tuple (sL (wd D rr))) ht0
    have hks : ∀ a o, a ≠ pb → σ0 a = some o → (σi.set t (.tuple (sL (wd D rr)))) a = some o := fun a o h e => q1 _ _ (hks a o h e)
    have hp := hp.mono q1
    have hm := q1 _ _ hm
    have htp : (σi.set t (.tuple (sL (wd D rr)))) t = some (.tuple (sL (wd D rr))) := St.set_self ..
    clear hR hL hN2 ht ht0 hkeys q1
    have hR2 : SortR (σi.set t (.tuple (sL (wd D rr)))) τ2 x dx d D2 r [] (po + ((rr.map (keyD D)).length : Nat)) fi := hR2
    generalize σi.set t (.tuple (sL (wd D rr))) = σj at hks hp hm htp hR2
    have nptup : t ≠ pb := ne_ob htp hp.hpb (fun e => nomatch e)
    have npm : mi ≠ pb := ne_ob hm hp.hpb fun e => by
      have e := AO.list.inj e
      cases q <;> simp [iL, modesV, sL, wd] at e
    refine WIter.forG (x := .ref t) (hh _) (srcOf_tup (xs := sL (wd D rr)) (hh _)) (PuI σj D [("words", .ref w), ("modes", .ref mi), ("sorter", .ref x), ("lex", .ref lx), ("turn", y)] D2 [] (po + ((rr.map (keyD D)).length : Nat)) fi q rr lx dxl pb f x dx d r nl ws) ?_ ?_ ?_ ?_ ?_
    · exact fun _ => LetOk.name
    · rintro j fr τ ⟨σk, hk, hp, hR⟩
      exact .own (hR.b.base _ _ (hk _ _ nptup htp))
    · refine .mk σj (fun a o _ e => e) ?_ hR2
      rw [List.take_zero, List.append_nil]; exact hp
    · clear hp hR2
      rintro j K3 hK3 y fr τ hx ⟨σk, hk, hp, hR⟩
      rw [sL, List.getElem?_map] at hx
      obtain ⟨z, hz, rfl⟩ := Option.map_eq_some_iff.mp hx
      rw [wd, List.getElem?_map] at hz
      obtain ⟨v, hv, rfl⟩ := Option.map_eq_some_iff.mp hz
      clear hx hz
      have hql : q.length ≤ 8 := by
        have := nodup_len hL2.qn (m := List.range n) fun a ha => List.mem_range.mpr (hL2.cs.lt a ((hL2.mq a).mp ha).1)
        rw [List.length_range, List.length_append] at this; lia
      repeat walk_at "sl"
      refine WM.inst DL (m := 176) (by rw [C.K]; kernel_rfl) (by rw [C.K]; kernel_rfl) (hR.b.base _ _ hp.hlx) (hR.b.base _ _ hp.hdx) rfl ?_
      repeat walk_at "sl"
      refine WC.base hR (f_push C (D v).word hp (by rw [List.length_map, List.length_append, List.length_take]; lia) ((hA1 _).le (by decide))) ?_
      rintro _ σl ⟨rfl, rfl⟩ τ3 hR
      repeat walk_at "sl"
      repeat (first | refine hK4 _ _ _ ?_ | refine hK3 _ _ _ ?_ | refine hK2 _ _ _ ?_ | refine hK1 _ _ _ ?_ | walk_at "sl")
      refine ⟨_, _, by repeat' (first | exact Fm.nil_le _ | (refine Fm.le_cons ?_ ?_; rfl)), St.le_refl _, .mk _ (fun a o h e => St.set_keep (hk a o h e) h) ?_ hR⟩
      rw [show wd D (q ++ rr.take (j + 1)) = wd D (q ++ rr.take j) ++ [(D v).word] from by rw [take_succ_get hv, ← List.append_assoc]; exact List.map_append ..]
      exact hp.put _
    clear hp hR2
    refine hid2 fun Ky hKy => ?_
    rintro fr τ ⟨σk, hk, hp, hR⟩
    refine hKy _ _ ?_
    rw [show (sL (wd D rr)).length = rr.length from by simp [sL], List.take_length] at hp
    have hks : ∀ a o, a ≠ pb → σ0 a = some o → σk a = some o := fun a o h e => hk _ _ h (hks a o h e)
    have hm := hk _ _ npm hm
    have npm2 := npm
    clear hk htp nptup npm
    obtain ⟨v, q', e⟩ := hne (by lia)
    rw [e] at hp hL2
    obtain ⟨hv, hdone, hL3⟩ := hL2.turn hG hk
    have hc3 := hL2.val (prd_ahead D n) hc
    obtain ⟨hsu, hcl2⟩ := hL2.cs.shape hG hbd hR.b.keys
    have hql : q'.length ≤ 8 := by
      have := nodup_len hL2.qn (m := List.range n) fun a ha => List.mem_range.mpr (hL2.cs.lt a ((hL2.mq a).mp ha).1)
      rw [List.length_range, List.length_cons] at this; lia
    clear hL2 hc e hne
    repeat walk_at "sl"
    refine WM.inst DL (m := 169) (by rw [C.K]; kernel_rfl) (by rw [C.K]; kernel_rfl) (hR.b.base _ _ hp.hlx) (hR.b.base _ _ hp.hdx) rfl ?_
    repeat walk_at "sl"
    refine WC.base hR (f_popTok C (xs := wd D q') hp (by rw [List.length_map]; lia) ((hA1 _).le (by decide))) ?_
    rintro _ σl ⟨rfl, rfl⟩ τ3 hR
    have hks : ∀ a o, a ≠ pb → σ0 a = some o → (σk.set pb (.list (sL (wd D q')))) a = some o := fun a o h e => St.set_keep (hks a o h e) h
    have hm := St.set_keep (o := .list (sL (wd D q'))) hm npm2
    have hp := hp.put (wd D q')
    generalize σk.set pb (.list (sL (wd D q'))) = σ4 at hks hm hp hR
    have hw4 := hks _ _ npw hw
    repeat walk_at "sl"
    refine WS.ifK ?_
    repeat walk_at "sl"
    refine W2.notInLS (hR.b.base _ _ hw4) (List.mem_map.mpr ⟨v, List.mem_range.mpr hv, rfl⟩) ?_
    repeat walk_at "sl"
    refine itF (by decide) ?_
    repeat walk_at "sl"
    refine ⟨by rw [sizeLine_eq]; simp, fun a ha _ => ?_⟩
    have q1 := St.le_set (o := .list [.str (D v).word]) (hR.b.fresh0 ha)
    have hR := hR.addBase (.list [.str (D v).word]) ha
    have hks : ∀ a' o, a' ≠ pb → σ0 a' = some o → (σ4.set a (.list [.str (D v).word])) a' = some o := fun a' o h e => q1 _ _ (hks a' o h e)
    have hm := q1 _ _ hm
    have hp := hp.mono q1
    have hal : (σ4.set a (.list [.str (D v).word])) a = some (.list (sL ([D v].map Dd.word))) := St.set_self ..
    clear q1 hw4 ha
    generalize σ4.set a (.list [.str (D v).word]) = σ5 at hks hm hp hR hal
    generalize τ3.set a (.list [.str (D v).word]) = τ4 at hR ⊢
    repeat walk_at "sl"
    refine WC.base hR (f_atonce C mi a H W [D v] (fun A hh => srcOf_list hh) hal hm (fun d hd => by rw [List.mem_singleton] at hd; subst hd; exact hD v hv) (by simp) hW hH ((hA1 _).le (by decide))) ?_
    rintro _ σ6 ⟨r2, rfl, q1, hr2⟩ τ5 hR
    have hks : ∀ a' o, a' ≠ pb → σ0 a' = some o → σ6 a' = some o := fun a' o h e => q1 _ _ (hks a' o h e)
    have hp := hp.mono q1
    clear q1 hm hal
    repeat walk_at "sl"
    refine WM.inst DS (m := 120) (by rw [C.K]; kernel_rfl) (by rw [C.K]; kernel_rfl) hR.b.hx hR.b.hdx rfl ?_
    repeat walk_at "sl"
    refine WC.of (.mono (f_done C [keyD D v] hR hsu (by simp) hcl2 hdone ((hA1 _).le (by decide))).cw ?_)
    rintro _ τ6 ⟨rfl, D5, hR, hN5⟩
    repeat walk_at "sl"
    repeat (first | refine hK4 _ _ _ ?_ | refine hK3 _ _ _ ?_ | refine hK2 _ _ _ ?_ | refine hK1 _ _ _ ?_ | walk_at "sl")
    refine ⟨_, _, by repeat' (first | exact Fm.nil_le _ | (refine Fm.le_cons ?_ ?_; rfl)), St.le_refl _, .mk σ6 D5 _ (out ++ rr) (don ++ [v]) q' (onceV W [D v]) r2 _ _ hks hp hr2 hR ?_ hc3 (VOk.once hW [D v] hW) (by simp; lia)⟩
    rw [hN5]; exact hL3
  · refine hid2 fun Kz hKz => ?_
    rintro fr τ ⟨σi, Di, R, out, don, q, W, mi, po, fi, hks, hp, hm, hR, hL, hc, hW, hi⟩
    refine hKz _ _ ?_
    have hz : (sL (wd D (List.range n))).length = n := by simp [sL]
    rw [hz] at hi
    obtain ⟨h1, rfl⟩ := hL.all hi
    rw [hc.all h1] at hm
    repeat walk_at "sl"
    repeat (first | refine hK4 _ _ _ ?_ | refine hK3 _ _ _ ?_ | refine hK2 _ _ _ ?_ | refine hK1 _ _ _ ?_ | walk_at "sl")
    exact ⟨_, St.le_refl _, mi, rfl, hR.b.base _ _ hm, hR.b.base _ _ hp.hpb, fun a o h e => hR.b.base _ _ (hks a o h e)⟩

end
section
noncomputable def cl (s : Str) : List Nat := s.cps.toList
theorem cl_app (a b : Str) : cl (a ++ b) = cl a ++ cl b := by
  unfold cl
  show (Str.append a b).cps.toList = _
  unfold Str.append; simp
theorem cl_empty : cl (Str.ofString "") = [] := by kernel_rfl
theorem cl_join : ∀ ws : List Str, cl (Txt.join "" ws) = ws.flatMap cl := by
  intro ws
  show cl (Builtin.Str.glued "" ws) = _
  rw [StrLaws.glued_eq_join]
  induction ws with
  | nil => rfl
  | cons a r ih =>
    cases r with
    | nil => simp [Str.join]
    | cons b r =>
      show cl (a ++ Str.ofString "" ++ Str.join (Str.ofString "") (b :: r)) = _
      rw [cl_app, cl_app, ih, cl_empty]; simp
theorem cl_len (s : Str) : (cl s).length = s.length := Array.length_toList
theorem cl_inj {a b : Str} (h : cl a = cl b) : a = b := by
  obtain ⟨a⟩ := a; obtain ⟨b⟩ := b
  exact congrArg Str.mk (Array.toList_inj.mp h)
noncomputable def ws0 : Str := "\n\t\r "
theorem inS_ws (c : Nat) : inS ws0 ⟨#[c]⟩ = decide (c = 10 ∨ c = 9 ∨ c = 13 ∨ c = 32) := by
  have e0 : cl ws0 = [10, 9, 13, 32] := by kernel_rfl
  have hl : ws0.length = 4 := by rw [← cl_len, e0]; rfl
  have hs : ∀ i, Builtin.Str.subAt ws0 ⟨#[c]⟩ i = ((([10, 9, 13, 32] : List Nat).drop i).take 1 == [c]) := fun i => by
    rw [StrLaws.subAt_eq]
    show (((cl ws0).drop i).take 1 == [c]) = _
    rw [e0]
  unfold inS
  rw [Bool.eq_iff_iff, StrLaws.found_iff, decide_eq_true_eq, hl]
  simp only [hs, beq_iff_eq]
  constructor
  · rintro ⟨i, hi, e⟩
    have hi : i + 1 ≤ 4 := hi
    have : i = 0 ∨ i = 1 ∨ i = 2 ∨ i = 3 := by lia
    rcases this with rfl | rfl | rfl | rfl <;> simp at e <;> simp [← e]
  · rintro (rfl | rfl | rfl | rfl)
    · exact ⟨0, by decide, rfl⟩
    · exact ⟨1, by decide, rfl⟩
    · exact ⟨2, by decide, rfl⟩
    · exact ⟨3, by decide, rfl⟩
noncomputable def Clean (c : Nat) : Prop := c ≠ 10 ∧ c ≠ 9 ∧ c ≠ 13 ∧ c ≠ 32 ∧ c ≠ 34 ∧ c ≠ 92 ∧ c < 0x110000
theorem bs_mk : (Str.ofString "\\") = (⟨#[92]⟩ : Str) := by kernel_rfl
theorem dq_mk : (Str.ofString "\"") = (⟨#[34]⟩ : Str) := by kernel_rfl
theorem one_inj {a b : Nat} : (⟨#[a]⟩ : Str) = ⟨#[b]⟩ ↔ a = b := by simp
theorem Clean.no {c : Nat} (h : Clean c) : ¬ inS ws0 ⟨#[c]⟩ = true ∧ ¬ (⟨#[c]⟩ : Str) = "\\" ∧ ¬ (⟨#[c]⟩ : Str) = "\"" := by
  obtain ⟨h1, h2, h3, h4, h5, h6, _⟩ := h
  refine ⟨?_, ?_, ?_⟩
  · rw [inS_ws, decide_eq_true_eq]; exact fun h => h.elim h1 fun h => h.elim h2 fun h => h.elim h3 h4
  · rw [bs_mk, one_inj]; exact h6
  · rw [dq_mk, one_inj]; exact h5
theorem chAt_cons {text : Str} {p c : Nat} {r : List Nat} (h : (cl text).drop p = c :: r) : p < text.length ∧ chAt text p = ⟨#[c]⟩ ∧ (cl text).drop (p + 1) = r ∧ ¬ chAt text p = "" := by
  have hl : p < (cl text).length := by
    rcases Nat.lt_or_ge p (cl text).length with q | q
    · exact q
    · rw [List.drop_eq_nil_of_le q] at h; cases h
  have hp : p < text.length := by rw [← cl_len]; exact hl
  rw [List.drop_eq_getElem_cons hl] at h
  obtain ⟨h1, h2⟩ := List.cons.inj h
  refine ⟨hp, ?_, h2, fun x => absurd (chAt_empty.mp x) (by lia)⟩
  rw [chAt_lt hp]
  have : text.cps.getD p 0 = c := by
    rw [← h1]
    have : p < text.cps.size := hp
    simp [Array.getD, this, cl]
  rw [this]
theorem app_mk (x : Str) (l m : List Nat) : x ++ (⟨l.toArray⟩ : Str) ++ (⟨m.toArray⟩ : Str) = x ++ (⟨(l ++ m).toArray⟩ : Str) := cl_inj (by rw [cl_app, cl_app, cl_app, List.append_assoc]; rfl)
theorem app_nil (x : Str) : x ++ (⟨([] : List Nat).toArray⟩ : Str) = x := cl_inj (by rw [cl_app]; exact List.append_nil _)
theorem bs_no : ¬ inS ws0 ⟨#[92]⟩ = true ∧ ¬ (⟨#[92]⟩ : Str) = "\"" := by
  refine ⟨by rw [inS_ws]; decide, by rw [dq_mk, one_inj]; decide⟩
structure Rdr (text : Str) (spec : Nat → Nat → Str → Str × Nat × Bool) (b : Nat) : Prop where
  on : ∀ {k p tok c r}, (cl text).drop p = c :: r → Clean c → spec (k + 1) p tok = spec k (p + 1) (tok ++ ⟨[c].toArray⟩)
  bs : ∀ {k p tok c r}, (cl text).drop p = 92 :: c :: r → spec (k + 1) p tok = spec k (p + 1 + 1) (tok ++ ⟨[c].toArray⟩)
  fin : ∀ {k p tok r}, (cl text).drop p = b :: r → spec (k + 1) p tok = (tok, p + 1, false)
theorem plain_rdr (text : Str) {b : Nat} (hb : b = 10 ∨ b = 9 ∨ b = 13 ∨ b = 32) : Rdr text (tokPlain text ws0) b := by
  refine ⟨fun {k p tok c r} h hc => ?_, fun {k p tok c r} h => ?_, fun {k p tok r} h => ?_⟩ <;> obtain ⟨_, h2, h3, h4⟩ := chAt_cons h
  · obtain ⟨n1, n2, _⟩ := hc.no
    rw [tokPlain.eq_2, if_neg h4, h2, if_neg n1, if_neg n2]
  · obtain ⟨_, k2, _, _⟩ := chAt_cons h3
    rw [tokPlain.eq_2, if_neg h4, h2, if_neg bs_no.1, if_pos bs_mk.symm, k2]; rfl
  · rw [tokPlain.eq_2, if_neg h4, h2, if_pos (by rw [inS_ws, decide_eq_true hb])]
theorem quoted_rdr (text : Str) : Rdr text (tokQuoted text) 34 := by
  refine ⟨fun {k p tok c r} h hc => ?_, fun {k p tok c r} h => ?_, fun {k p tok r} h => ?_⟩ <;> obtain ⟨_, h2, h3, h4⟩ := chAt_cons h
  · obtain ⟨_, n1, n2⟩ := hc.no
    rw [tokQuoted.eq_2, if_neg h4, h2, if_neg n2, if_neg n1]
  · obtain ⟨_, k2, _, _⟩ := chAt_cons h3
    rw [tokQuoted.eq_2, if_neg h4, h2, if_neg bs_no.2, if_pos bs_mk.symm, k2]; rfl
  · rw [tokQuoted.eq_2, if_neg h4, h2, if_pos dq_mk.symm]
theorem Rdr.clean {text : Str} {spec : Nat → Nat → Str → Str × Nat × Bool} {b : Nat} (R : Rdr text spec b) (j : Nat) : ∀ (l : List Nat) (p : Nat) (tok : Str) (r : List Nat), (∀ c ∈ l, Clean c) → (cl text).drop p = l ++ r → spec (l.length + j) p tok = spec j (p + l.length) (tok ++ ⟨l.toArray⟩) ∧ (cl text).drop (p + l.length) = r
  | [], p, tok, r, _, h => by
    rw [app_nil, List.length_nil, Nat.zero_add, Nat.add_zero]; exact ⟨rfl, h⟩
  | c :: l, p, tok, r, hc, h => by
    obtain ⟨g1, g2⟩ := R.clean j l (p + 1) (tok ++ ⟨[c].toArray⟩) r (fun x hx => hc x (.tail _ hx)) (chAt_cons h).2.2.1
    have e : p + (c :: l).length = p + 1 + l.length := by rw [List.length_cons]; lia
    rw [e, List.length_cons, show l.length + 1 + j = (l.length + j) + 1 from by lia, R.on h (hc c (.head _)), g1, app_mk]
    exact ⟨rfl, g2⟩
theorem Rdr.fins {text : Str} {spec : Nat → Nat → Str → Str × Nat × Bool} {b : Nat} (R : Rdr text spec b) {l r : List Nat} {p : Nat} (j : Nat) (tok : Str) (hc : ∀ c ∈ l, Clean c) (h : (cl text).drop p = l ++ b :: r) : spec (l.length + (j + 1)) p tok = (tok ++ ⟨l.toArray⟩, p + l.length + 1, false) := by
  obtain ⟨g1, g2⟩ := R.clean (j + 1) l p tok _ hc h
  rw [g1, R.fin g2]
theorem Rdr.over {text : Str} {spec : Nat → Nat → Str → Str × Nat × Bool} {b : Nat} (R : Rdr text spec b) {l1 l2 r : List Nat} {c p : Nat} (j : Nat) (tok : Str) (hc : ∀ x ∈ l1 ++ c :: l2, Clean x) (h : (cl text).drop p = l1 ++ 92 :: c :: (l2 ++ b :: r)) :
    spec (l1.length + (l2.length + (j + 1) + 1)) p tok = (tok ++ ⟨(l1 ++ c :: l2).toArray⟩, p + (l1.length + l2.length + 3), false) := by
  obtain ⟨g1, g2⟩ := R.clean (l2.length + (j + 1) + 1) l1 p tok _ (fun x hx => hc x (List.mem_append_left _ hx)) h
  rw [g1, R.bs g2, R.fins j _ (fun x hx => hc x (List.mem_append_right _ (.tail _ hx))) (chAt_cons (chAt_cons g2).2.2.1).2.2.1, app_mk, app_mk]
  exact Prod.ext rfl (Prod.ext (by show p + l1.length + 1 + 1 + l2.length + 1 = _; lia) rfl)
theorem drop_len {text : Str} {p : Nat} {l : List Nat} (h : (cl text).drop p = l) (hl : 0 < l.length) : text.length - p = l.length := by
  rw [← h, List.length_drop, cl_len]
theorem empty_app (l : List Nat) : (Str.ofString "") ++ (⟨l.toArray⟩ : Str) = ⟨l.toArray⟩ := cl_inj (by rw [cl_app, cl_empty]; rfl)
theorem tok_quoted {text : Str} {l1 l2 r : List Nat} {c p : Nat} (hc : ∀ x ∈ l1 ++ c :: l2, Clean x) (h : (cl text).drop p = 34 :: (l1 ++ 92 :: c :: (l2 ++ 34 :: r))) :
    tokAt text ws0 (text.length - p + 1) p = (⟨(l1 ++ c :: l2).toArray⟩, p + (l1.length + l2.length + 4)) := by
  obtain ⟨h1, h2, h3, _⟩ := chAt_cons h
  have hf := drop_len h (Nat.zero_lt_succ _)
  rw [tokAt_q h1 (by rw [h2, inS_ws]; decide) (by rw [h2, dq_mk]), hf,
    show (34 :: (l1 ++ 92 :: c :: (l2 ++ 34 :: r))).length = l1.length + (l2.length + (r.length + 2 + 1) + 1) from by simp; lia, (quoted_rdr text).over (r.length + 2) "" hc h3, empty_app]
  refine Prod.ext rfl ?_
  show p + 1 + (l1.length + l2.length + 3) = _; lia
theorem tok_plain {text : Str} {l1 l2 r : List Nat} {c b p : Nat} (hc : ∀ x ∈ l1 ++ c :: l2, Clean x) (hb : b = 10 ∨ b = 9 ∨ b = 13 ∨ b = 32) (h : (cl text).drop p = l1 ++ 92 :: c :: (l2 ++ b :: r)) :
    tokAt text ws0 (text.length - p + 1) p = (⟨(l1 ++ c :: l2).toArray⟩, p + (l1.length + l2.length + 3)) := by
  cases l1 with
  | nil =>
    obtain ⟨h1, h2, h3, _⟩ := chAt_cons h
    obtain ⟨_, k2, k3, _⟩ := chAt_cons h3
    have hf := drop_len h (Nat.zero_lt_succ _)
    rw [tokAt_b h1 (by rw [h2]; exact bs_no.1) (by rw [h2]; exact bs_no.2) (by rw [h2, bs_mk]), k2, hf,
      show (([] : List Nat) ++ 92 :: c :: (l2 ++ b :: r)).length = l2.length + (r.length + 2 + 1) from by simp; lia, show p + 1 + (⟨#[c]⟩ : Str).length = p + 1 + 1 from rfl, (plain_rdr text hb).fins (r.length + 2) ⟨#[c]⟩ (fun x hx => hc x (.tail _ hx)) k3]
    refine Prod.ext ?_ ?_
    · show (⟨[c].toArray⟩ : Str) ++ (⟨l2.toArray⟩ : Str) = _
      exact cl_inj (by rw [cl_app]; rfl)
    · show p + 1 + 1 + l2.length + 1 = p + (0 + l2.length + 3); lia
  | cons a l1 =>
    obtain ⟨h1, h2, h3, _⟩ := chAt_cons h
    have hf := drop_len h (Nat.zero_lt_succ _)
    obtain ⟨n1, n2, n3⟩ := (hc a (.head _)).no
    rw [tokAt_p h1 (by rw [h2]; exact n1) (by rw [h2]; exact n3) (by rw [h2]; exact n2), h2, hf,
      show (a :: l1 ++ 92 :: c :: (l2 ++ b :: r)).length = l1.length + (l2.length + (r.length + 2 + 1) + 1) from by simp; lia, (plain_rdr text hb).over (r.length + 2) ⟨#[a]⟩ (fun x hx => hc x (.tail _ hx)) h3]
    refine Prod.ext ?_ ?_
    · show (⟨[a].toArray⟩ : Str) ++ (⟨(l1 ++ c :: l2).toArray⟩ : Str) = _
      exact cl_inj (by rw [cl_app]; rfl)
    · show p + 1 + (l1.length + l2.length + 3) = p + (l1.length + 1 + l2.length + 3); lia
theorem tok_none {text : Str} : tokAt text ws0 (text.length - text.length + 1) text.length = (Str.ofString "", text.length) := by
  rw [tokAt.eq_2, if_pos (chAt_empty.mpr (Nat.le_refl _))]
theorem piece_cl (a b c d e f : Nat) {p : Nat} (hp : p < 6) : cl (pieceOf ⟨#[a, b, c, d, e, f]⟩ p) = [a, b, c, d, e, f].take p ++ 92 :: [a, b, c, d, e, f].drop p := by
  have : p = 0 ∨ p = 1 ∨ p = 2 ∨ p = 3 ∨ p = 4 ∨ p = 5 := by lia
  rcases this with rfl | rfl | rfl | rfl | rfl | rfl <;> kernel_rfl
theorem blank_ok {m : Nat} (h : m < 3) : blankC m = 10 ∨ blankC m = 9 ∨ blankC m = 13 ∨ blankC m = 32 := by
  have : m = 0 ∨ m = 1 ∨ m = 2 := by lia
  rcases this with rfl | rfl | rfl <;> decide
theorem word_clean {k t g o : Nat} (hk : k < 8) (ht : t < 9) (hg : g < 3) (ho : o < 9) : ∀ x ∈ cl (wordOf k t g o), Clean x := by
  have d : ∀ n : Fin 9, Clean (48 + n.val) := by unfold Clean; decide
  have u : ∀ n : Fin 3, Clean (ugoC n.val) := by unfold Clean; decide
  have s : ∀ n : Fin 3, Clean (sgC n.val) := by unfold Clean; decide
  have lt3 : ∀ {n : Nat}, n < 9 → n / 3 < 9 := fun h => Nat.lt_of_le_of_lt (Nat.div_le_self _ _) h
  intro x hx
  have hx : x ∈ [48 + k, 48 + t / 3, ugoC (t % 3), sgC g, 48 + o / 3, ugoC (o % 3)] := hx
  simp only [List.mem_cons, List.not_mem_nil, or_false] at hx
  rcases hx with rfl | rfl | rfl | rfl | rfl | rfl
  · exact d ⟨k, Nat.lt_succ_of_lt hk⟩
  · exact d ⟨t / 3, lt3 ht⟩
  · exact u ⟨t % 3, Nat.mod_lt _ (by decide)⟩
  · exact s ⟨g, hg⟩
  · exact d ⟨o / 3, lt3 ho⟩
  · exact u ⟨o % 3, Nat.mod_lt _ (by decide)⟩
theorem written_tok {text : Str} {k t g o pl m p : Nat} (hk : k < 8) (ht : t < 9) (hg : g < 3) (ho : o < 9) (hp : pl < 6) (hm : m < 4) {r : List Nat} (h : (cl text).drop p = cl (writtenOf (wordOf k t g o) pl m) ++ r) :
    tokAt text ws0 (text.length - p + 1) p = (wordOf k t g o, p + (writtenOf (wordOf k t g o) pl m).length) := by
  have hc := word_clean hk ht hg ho
  have hw : wordOf k t g o = ⟨(cl (wordOf k t g o)).toArray⟩ := cl_inj rfl
  have hpc : cl (pieceOf (wordOf k t g o) pl) = (cl (wordOf k t g o)).take pl ++ 92 :: (cl (wordOf k t g o)).drop pl := piece_cl _ _ _ _ _ _ hp
  have hl : (cl (wordOf k t g o)).length = 6 := rfl
  have hlen := cl_len (writtenOf (wordOf k t g o) pl m)
  generalize wordOf k t g o = w at *
  have hd : (cl w).drop pl = (cl w)[pl]'(by lia) :: (cl w).drop (pl + 1) := List.drop_eq_getElem_cons (by lia)
  generalize (cl w)[pl]'(by lia) = c at hd
  have hsp : cl w = (cl w).take pl ++ c :: (cl w).drop (pl + 1) := by rw [← hd, List.take_append_drop]
  have l1 : ((cl w).take pl).length = pl := by rw [List.length_take]; lia
  have l2 : ((cl w).drop (pl + 1)).length = 5 - pl := by rw [List.length_drop]; lia
  rw [hd] at hpc
  rw [hsp] at hw
  unfold writtenOf at h hlen ⊢
  generalize (cl w).take pl = la at *
  generalize (cl w).drop (pl + 1) = lb at *
  rw [hsp] at hc
  by_cases q : m = 3
  · rw [if_pos q] at h hlen ⊢
    rw [dq_mk] at h hlen ⊢
    rw [cl_app, cl_app, hpc] at h hlen
    rw [← hlen, tok_quoted (l1 := la) (l2 := lb) (c := c) (r := r) hc (by rw [h]; show [34] ++ _ ++ [34] ++ r = _; simp), ← hw]
    refine Prod.ext rfl ?_
    show _ = p + ([34] ++ (la ++ 92 :: c :: lb) ++ [34]).length
    simp; lia
  · rw [if_neg q] at h hlen ⊢
    rw [cl_app, hpc] at h hlen
    rw [← hlen, tok_plain (l1 := la) (l2 := lb) (c := c) (b := blankC m) (r := r) hc (blank_ok (by lia)) (by rw [h]; show _ ++ [blankC m] ++ r = _; simp), ← hw]
    refine Prod.ext rfl ?_
    show _ = p + ((la ++ 92 :: c :: lb) ++ [blankC m]).length
    simp; lia


end
section

theorem and_high {H x : Int} (hH : 0 ≤ H) (h0 : 0 ≤ x) (h1 : x < 4096) : Builtin.bitAnd (4096 * H + x) 61440 = Builtin.bitAnd (4096 * H) 61440 := by
  rw [bitAnd_pp (by lia) (by decide), bitAnd_pp (by lia) (by decide), show (61440 : Int).toNat = 61440 from rfl]
  congr 1
  have e1 : (4096 * H + x).toNat = 2 ^ 12 * H.toNat + x.toNat := by lia
  have e2 : (4096 * H).toNat = 2 ^ 12 * H.toNat + 0 := by lia
  rw [e1, e2]
  apply Nat.eq_of_testBit_eq
  intro j
  rw [Nat.testBit_and, Nat.testBit_and, Nat.testBit_two_pow_mul_add _ (by lia), Nat.testBit_two_pow_mul_add _ (by decide)]
  by_cases q : j < 12
  · have : ∀ j : Fin 12, (61440 : Nat).testBit j.val = false := by decide +kernel
    rw [this ⟨j, q⟩, Bool.and_false, Bool.and_false]
  · rw [if_neg q, if_neg q]
noncomputable def tbN : List (List (Nat × Nat)) := [[(256, 114)], [(128, 119)], [(2112, 115), (2048, 83), (64, 120)], [(32, 114)], [(16, 119)], [(1032, 115), (1024, 83), (8, 120)], [(4, 114)], [(2, 119)], [(513, 116), (512, 84), (1, 120)]]
noncomputable def fcN (x : Nat) : List (Nat × Nat) → Nat
  | [] => 45
  | e :: r => if x &&& e.1 = e.1 then e.2 else fcN x r
theorem fm_hit {H x : Int} (hH : 0 ≤ H) (h0 : 0 ≤ x) (h1 : x < 4096) {i k : Nat} (hi : i ≠ 0) (hk : 4095 &&& k = k) : fmHit (4096 * H + x) i (k : Int) = decide (x.toNat &&& k = k) := by
  unfold fmHit
  rw [if_neg hi, and_mask hH h0 h1 k hk, Bool.eq_iff_iff, beq_iff_eq, decide_eq_true_eq]
  exact Int.ofNat_inj
theorem fc_eq {H x : Int} (hH : 0 ≤ H) (h0 : 0 ≤ x) (h1 : x < 4096) {i : Nat} (hi : i ≠ 0) : ∀ (es : List (Addr × Int × Str)) (fs : List (Nat × Nat)), es.map (fun e => (e.2.1, cl e.2.2)) = fs.map (fun e => ((e.1 : Int), [e.2])) → fs.all (fun e => 4095 &&& e.1 == e.1) = true → cl (fmChar (4096 * H + x) i es) = [fcN x.toNat fs]
  | [], [], _, _ => by unfold fmChar; rw [List.find?_nil, if_neg hi]; kernel_rfl
  | [], _ :: _, h, _ => nomatch h
  | _ :: _, [], h, _ => nomatch h
  | e :: es, f :: fs, h, hk => by
    rw [List.map_cons, List.map_cons, List.cons.injEq, Prod.mk.injEq] at h
    rw [List.all_cons, Bool.and_eq_true, beq_iff_eq] at hk
    have ih := fc_eq hH h0 h1 hi es fs h.2 hk.2
    unfold fmChar at ih ⊢
    rw [List.find?_cons, h.1.1, fm_hit hH h0 h1 hi hk.1, fcN]
    by_cases q : x.toNat &&& f.1 = f.1
    · rw [decide_eq_true q, if_pos q]; exact h.1.2
    · rw [decide_eq_false q, if_neg q]; exact ih
theorem tb_ok : ∀ i : Fin 9, (tblD.getD (i.val + 1) default).2.map (fun e => (e.2.1, cl e.2.2)) = (tbN.getD i.val []).map (fun e => ((e.1 : Int), [e.2])) ∧ (tbN.getD i.val []).all (fun e => 4095 &&& e.1 == e.1) = true := by decide +kernel
noncomputable def lowN (a b c : Nat) : Nat := 64 * (a % 8) + 8 * (b % 8) + c % 8 + 2048 * (a / 8) + 1024 * (b / 8) + 512 * (c / 8)
noncomputable def trip (s S v : Nat) : List Nat := [if v / 4 % 2 = 1 then 114 else 45, if v / 2 % 2 = 1 then 119 else 45, [45, 120, S, s].getD (v % 2 + v / 8 * 2) 0]
theorem low_trip : ∀ a b c : Fin 16, (List.range 9).map (fun i => fcN (lowN a.val b.val c.val) (tbN.getD i [])) = trip 115 83 a.val ++ trip 115 83 b.val ++ trip 116 84 c.val := by decide +kernel
theorem trip_0 : ∀ v : Fin 16, [rc v.val, wc v.val, lc 0 v.val] = trip 115 83 v.val := by decide +kernel
theorem trip_1 : ∀ v : Fin 16, [rc v.val, wc v.val, lc 1 v.val] = trip 115 83 v.val := by decide +kernel
theorem trip_2 : ∀ v : Fin 16, [rc v.val, wc v.val, lc 2 v.val] = trip 116 84 v.val := by decide +kernel
theorem low_cast (a b c : Nat) : lowI a b c = ((lowN a b c : Nat) : Int) := by unfold lowI lowN; push_cast; rfl
noncomputable def es0 : List (Addr × Int × Str) := [(198, 40960, "l"), (199, 49152, "s"), (200, 32768, "-"), (201, 24576, "b"), (202, 16384, "d"), (203, 8192, "c"), (204, 4096, "p")]
noncomputable def tyC (H : Int) : Nat := (cl (fmChar (4096 * H) 0 es0)).getD 0 0
theorem fm_type {H x : Int} (hH : 0 ≤ H) (h0 : 0 ≤ x) (h1 : x < 4096) : cl (fmChar (4096 * H + x) 0 es0) = [tyC H] := by
  have e : fmChar (4096 * H + x) 0 es0 = fmChar (4096 * H) 0 es0 := by
    have h : ∀ k, fmHit (4096 * H + x) 0 k = fmHit (4096 * H) 0 k := fun k => by unfold fmHit; rw [if_pos rfl, if_pos rfl, and_high hH h0 h1]
    unfold fmChar; simp only [h]
  rw [e]
  have hl := fmChar_len (4096 * H) 0 (205, es0) (.head _)
  unfold tyC
  rw [← cl_len] at hl
  match hc : cl (fmChar (4096 * H) 0 es0), hl with
  | [c], _ => rfl
theorem flat_one (f : Nat → Str) (g : Nat → Nat) : ∀ l : List Nat, (∀ i ∈ l, cl (f i) = [g i]) → (l.map f).flatMap cl = l.map g
  | [], _ => rfl
  | a :: l, h => by rw [List.map_cons, List.flatMap_cons, h a (.head _), flat_one f g l fun i hi => h i (.tail _ hi)]; rfl
theorem fm_row {H a b c : Int} (hH : 0 ≤ H) (a0 : 0 ≤ a) (a1 : a < 16) (b0 : 0 ≤ b) (b1 : b < 16) (c0 : 0 ≤ c) (c1 : c < 16) : filemodeOf (encI H a b c) = rowOf (tyC H) a b c := by
  have l := lowI_lt a0 a1 b0 b1 c0 c1
  obtain ⟨a, rfl⟩ := nat_of a0 a1
  obtain ⟨b, rfl⟩ := nat_of b0 b1
  obtain ⟨c, rfl⟩ := nat_of c0 c1
  unfold encI
  rw [low_cast] at l ⊢
  refine cl_inj ?_
  unfold filemodeOf
  rw [cl_join, show fmChars (4096 * H + ((lowN a.val b.val c.val : Nat) : Int)) = fmChar (4096 * H + ((lowN a.val b.val c.val : Nat) : Int)) 0 es0 :: (List.range 9).map fun i => fmChar (4096 * H + ((lowN a.val b.val c.val : Nat) : Int)) (i + 1) (tblD.getD (i + 1) default).2 from rfl, List.flatMap_cons, fm_type hH l.1 l.2,
    flat_one _ (fun i => fcN (lowN a.val b.val c.val) (tbN.getD i [])) _ fun i hi => by
      have h := tb_ok ⟨i, List.mem_range.mp hi⟩
      exact fc_eq hH l.1 l.2 (Nat.succ_ne_zero i) _ _ h.1 h.2,
    low_trip, ← trip_0, ← trip_1, ← trip_2]
  rfl
theorem fm_V {H : Nat → Int} {V : Vals} (hH : ∀ i, 0 ≤ H i) (hV : VOk V) (i : Nat) : filemodeOf (modeV H V i) = rowV (fun i => tyC (H i)) V i := fm_row (hH i) (hV _).1 (hV _).2 (hV _).1 (hV _).2 (hV _).1 (hV _).2
theorem fm_modes {H : Nat → Int} {V : Vals} (hH : ∀ i, 0 ≤ H i) (hV : VOk V) : (modesV H V).map filemodeOf = rowsV (fun i => tyC (H i)) V := by
  unfold modesV rowsV
  rw [List.map_cons, List.map_cons, List.map_cons, List.map_nil, fm_V hH hV, fm_V hH hV, fm_V hH hV]
noncomputable def fieldN (y k : Nat) : Nat := if k = 0 then y / 64 % 8 + 8 * (y / 2048 % 2) else if k = 1 then y / 8 % 8 + 8 * (y / 1024 % 2) else y % 8 + 8 * (y / 512 % 2)
noncomputable def fieldI (m : Int) (k : Nat) : Int := (fieldN (m % 4096).toNat k : Nat)
theorem fieldN_lt (y k : Nat) : fieldN y k < 16 := by
  have key : ∀ p q : Nat, p % 8 + 8 * (q % 2) < 16 := fun p q => by lia
  unfold fieldN
  split
  · exact key _ _
  · split <;> exact key _ _
theorem field_ok (m : Int) (k : Nat) : 0 ≤ fieldI m k ∧ fieldI m k < 16 := ⟨Int.natCast_nonneg _, Int.ofNat_lt.mpr (fieldN_lt _ _)⟩
theorem enc_all : ∀ y : Fin 4096, lowN (fieldN y.val 0) (fieldN y.val 1) (fieldN y.val 2) = y.val := by decide +kernel
theorem enc_field {m : Int} : encI (m / 4096) (fieldI m 0) (fieldI m 1) (fieldI m 2) = m := by
  obtain ⟨y, hy⟩ := nat_of (x := m % 4096) (n := 4096) (Int.emod_nonneg _ (by decide)) (Int.emod_lt_of_pos _ (by decide))
  unfold encI fieldI
  rw [low_cast, hy, Int.toNat_natCast, enc_all, ← hy]
  exact Int.mul_ediv_add_emod m 4096
noncomputable def V0 (M : List Int) : Vals := fun f => fieldI (M.getD (f / 3) 0) (f % 3)
noncomputable def H0 (M : List Int) (i : Nat) : Int := M.getD i 0 / 4096
theorem V0_ok (M : List Int) : VOk (V0 M) := fun _ => field_ok _ _
theorem modes_0 (a b c : Int) : modesV (H0 [a, b, c]) (V0 [a, b, c]) = [a, b, c] := by
  show [encI (a / 4096) (fieldI a 0) (fieldI a 1) (fieldI a 2), encI (b / 4096) (fieldI b 0) (fieldI b 1) (fieldI b 2), encI (c / 4096) (fieldI c 0) (fieldI c 1) (fieldI c 2)] = _
  rw [enc_field, enc_field, enc_field]
theorem H0_ok {M : List Int} (h : ∀ m ∈ M, 0 ≤ m) (i : Nat) : 0 ≤ H0 M i := by
  unfold H0
  have : 0 ≤ M.getD i 0 := by
    rw [List.getD_eq_getElem?_getD]
    cases q : M[i]? with
    | none => exact Int.le_refl _
    | some m => exact h m (List.mem_of_getElem? q)
  lia

end
section

noncomputable def pieceK (N : List Int) (k : Nat) : Str := writtenOf (wordK N k) (placeOf (N.getD (3 + k) 0)) (mannerOf (N.getD (3 + k) 0))
noncomputable def textN (N : List Int) : Str := Txt.join "" ((List.range 8).map (pieceK N))
noncomputable def posK (N : List Int) (k : Nat) : Nat := ((List.range k).map fun i => (pieceK N i).length).sum
theorem posK_succ (N : List Int) (k : Nat) : posK N (k + 1) = posK N k + (pieceK N k).length := by unfold posK; rw [List.range_succ, List.map_append, List.sum_append]; simp
theorem flat_drop {F : Nat → List Nat} : ∀ (k n : Nat), k ≤ n → ((List.range n).flatMap F).drop ((List.range k).map fun i => (F i).length).sum = ((List.range' k (n - k)).flatMap F) := by
  intro k n h
  obtain ⟨m, rfl⟩ := Nat.le.dest h
  have e : List.range (k + m) = List.range k ++ List.range' k m := by
    rw [List.range_eq_range', List.range_eq_range', ← List.range'_append_1, Nat.zero_add]
  have hl : ((List.range k).flatMap F).length = ((List.range k).map fun i => (F i).length).sum := List.length_flatMap ..
  rw [e, List.flatMap_append, ← hl, List.drop_left, Nat.add_sub_cancel_left]
theorem text_cl (N : List Int) : cl (textN N) = (List.range 8).flatMap fun k => cl (pieceK N k) := by
  unfold textN; rw [cl_join, List.flatMap_map]
theorem posK_cl (N : List Int) (k : Nat) : posK N k = ((List.range k).map fun i => (cl (pieceK N i)).length).sum := by
  exact congrArg List.sum (List.map_congr_left fun i _ => (cl_len _).symm)
theorem text_len (N : List Int) : (textN N).length = posK N 8 := by
  rw [← cl_len, text_cl, posK_cl, List.length_flatMap]
theorem tokN (N : List Int) {k : Nat} (hk : k < 8) : tokAt (textN N) ws0 ((textN N).length - posK N k + 1) (posK N k) = (wordK N k, posK N (k + 1)) := by
  obtain ⟨t9, g3, o9⟩ := tgo_lt N k
  have hd : (cl (textN N)).drop (posK N k) = cl (pieceK N k) ++ (List.range' (k + 1) (7 - k)).flatMap fun k => cl (pieceK N k) := by
    rw [text_cl, posK_cl, flat_drop k 8 (by lia), show 8 - k = (7 - k) + 1 from by lia, List.range'_succ, List.flatMap_cons]
  rw [written_tok hk t9 g3 o9 (place_lt _).1 (place_lt _).2 hd, posK_succ]; rfl
theorem tokEnd (N : List Int) : tokAt (textN N) ws0 ((textN N).length - posK N 8 + 1) (posK N 8) = (Str.ofString "", posK N 8) := by
  rw [← text_len]; exact tok_none
theorem piece_small (N : List Int) (k : Nat) : (pieceK N k).length ≤ 15 := by
  have h := piece_len (wordK N k) (placeOf (N.getD (3 + k) 0))
  have e : (wordK N k).length = 6 := rfl
  rw [e] at h
  unfold pieceK writtenOf
  have q : (Str.ofString "\"").length = 1 := rfl
  split
  · rw [Str.append_length', Str.append_length', q]; lia
  · rw [Str.append_length']
    show _ + 1 ≤ _
    lia
theorem text_small (N : List Int) : (textN N).length ≤ 120 := by
  rw [text_len]
  have : ∀ k, posK N k ≤ 15 * k := fun k => by
    induction k with
    | zero => exact Nat.le_refl _
    | succ k ih => have := piece_small N k; rw [posK_succ]; lia
  exact this 8
theorem text_join (N : List Int) : JoinOk "" ((List.range 8).map (pieceK N)) = true := joinOk_small 15 (fun y hy => by
  obtain ⟨k, _, rfl⟩ := List.mem_map.mp hy
  exact piece_small N k) (by rw [show (Str.ofString "").length = 0 from rfl]; simp)
theorem occ_count {x : Str} {c : Nat} : ∀ (m i : Nat) (st : Array Nat × Nat), i + m = x.length + 1 → st.2 ≤ i → st.1.size + m ≤ x.length + 1 →
    (forIn (List.range' i m) st (StrLaws.occBody x ⟨#[c]⟩ x.length (x.length + 1))).run.fst.size = st.1.size + ((cl x).drop i).count c
  | 0, i, st, h1, _, _ => by
    rw [List.drop_eq_nil_of_le (by rw [cl_len]; lia)]; rfl
  | m + 1, i, st, h1, h2, h3 => by
    have hs : Builtin.Str.subAt x ⟨#[c]⟩ i = (((cl x).drop i).take 1 == [c]) := by rw [StrLaws.subAt_eq]; rfl
    rw [List.range'_succ, List.forIn_cons]
    have h1L : (⟨#[c]⟩ : Str).length = 1 := rfl
    by_cases q : i < x.length
    · have hd := List.drop_eq_getElem_cons (l := cl x) (i := i) (by rw [cl_len]; exact q)
      rw [hd] at hs ⊢
      generalize (cl x)[i]'(by rw [cl_len]; exact q) = a at hs
      by_cases e : a = c
      · subst e
        have hb : StrLaws.occBody x ⟨#[a]⟩ x.length (x.length + 1) i st = pure (ForInStep.yield (st.1.push i, i + 1)) := by
          unfold StrLaws.occBody
          rw [if_pos ⟨⟨⟨by lia, h2⟩, by rw [h1L]; lia⟩, by rw [hs]; simp⟩]; rfl
        rw [hb]
        have := occ_count (x := x) (c := a) m (i + 1) (st.1.push i, i + 1) (by lia) (Nat.le_refl _) (by rw [Array.size_push]; lia)
        rw [List.count_cons_self]
        refine Eq.trans this ?_
        rw [Array.size_push]; lia
      · have hb : StrLaws.occBody x ⟨#[c]⟩ x.length (x.length + 1) i st = pure (ForInStep.yield (st.1, st.2)) := by
          unfold StrLaws.occBody
          rw [if_neg (fun h => by rw [hs] at h; simp at h; exact e h.2)]
        rw [hb, List.count_cons_of_ne e]
        exact occ_count m (i + 1) (st.1, st.2) (by lia) (by show st.2 ≤ _; lia) (by show st.1.size + m ≤ _; lia)
    · have hb : StrLaws.occBody x ⟨#[c]⟩ x.length (x.length + 1) i st = pure (ForInStep.yield (st.1, st.2)) := by
        unfold StrLaws.occBody
        rw [if_neg (fun h => by have := h.1.2; rw [h1L] at this; lia)]
      rw [hb, List.drop_eq_nil_of_le (as := cl x) (i := i) (by rw [cl_len]; lia)]
      have := occ_count (x := x) (c := c) m (i + 1) (st.1, st.2) (by lia) (by show st.2 ≤ _; lia) (by show st.1.size + m ≤ _; lia)
      rw [List.drop_eq_nil_of_le (as := cl x) (i := i + 1) (by rw [cl_len]; lia)] at this
      exact this
theorem lns_end (text : Str) : (1 : Int) + ((Builtin.Str.occurrences text "\n" 0 text.length (text.length + 1)).length : Nat) = lns text text.length := by
  rw [show (Str.ofString "\n") = (⟨#[10]⟩ : Str) from by kernel_rfl, StrLaws.occ_eq, Array.length_toList]
  have := occ_count (x := text) (c := 10) (text.length + 1) 0 (#[], 0) (by lia) (Nat.le_refl _) (by simp)
  rw [Nat.sub_zero]
  unfold lns
  rw [show text.cps.toList.take text.length = cl text from List.take_of_length_le (Nat.le_of_eq (cl_len text))]
  congr 2
  exact this.trans (by simp)
noncomputable def DN (N : List Int) (k : Nat) : Dd := ⟨k, tO N k, gO N k, oO N k⟩
theorem DN_ok (N : List Int) (k : Nat) : (DN N k).ok := tgo_lt N k
theorem head_word (N : List Int) (k : Nat) : (cl (DN N k).word).getD 0 0 = 48 + k := rfl
theorem word_inj {N : List Int} {a b : Nat} (h : (DN N a).word = (DN N b).word) : a = b := by
  have e := head_word N a
  rw [h, head_word] at e; lia
theorem key_inj (N : List Int) (n : Nat) : Inj (keyD (DN N)) n := fun a b _ _ h => word_inj (KV.s.inj h)
theorem word_lt {N : List Int} {a b : Nat} (h : PySem.Spec.ltCps (cl (DN N b).word) (cl (DN N a).word) = false) : a ≤ b := by
  have e : ∀ k, cl (DN N k).word = (48 + k) :: (cl (DN N k).word).tail := fun k => rfl
  rw [e a, e b] at h
  unfold PySem.Spec.ltCps at h
  simp only [Bool.or_eq_false_iff, decide_eq_false_iff_not] at h
  lia
theorem rising_words {N : List Int} : ∀ (l : List Nat) (a : Nat), risingS (DN N a).word (l.map fun i => (DN N i).word) = true → (a :: l).Pairwise (· ≤ ·)
  | [], a, _ => by simp
  | b :: l, a, h => by
    rw [List.map_cons, risingS, Bool.and_eq_true, Bool.not_eq_true'] at h
    have h1 : a ≤ b := word_lt h.1
    have h2 := rising_words l b h.2
    rw [List.pairwise_cons]
    refine ⟨fun c hc => ?_, h2⟩
    rcases List.mem_cons.mp hc with rfl | hc
    · exact h1
    · exact Nat.le_trans h1 ((List.pairwise_cons.mp h2).1 c hc)
theorem sorted_words {N : List Int} {l : List Nat} (h : sortedS (l.map fun i => (DN N i).word) = true) : l.Pairwise (· ≤ ·) := by
  cases l with
  | nil => exact .nil
  | cons a l => exact rising_words l a h
theorem words_sorted {N : List Int} {l m : List Nat} {ns : List Str} (h1 : ns.Perm (l.map fun i => (DN N i).word)) (h2 : sortedS ns = true) (h3 : l.Perm m) (h4 : m.Pairwise (· < ·)) : ns = m.map fun i => (DN N i).word := by
  have hg : ∀ i, (fun s => (cl s).getD 0 0 - 48) (DN N i).word = i := fun i => by dsimp only; rw [head_word]; lia
  have e : ns = (ns.map fun s => (cl s).getD 0 0 - 48).map fun i => (DN N i).word := by
    rw [List.map_map]
    refine (List.map_id' ns).symm.trans (List.map_congr_left fun s hs => ?_)
    obtain ⟨i, _, rfl⟩ := List.mem_map.mp (h1.subset hs)
    show (DN N i).word = (DN N ((fun s => (cl s).getD 0 0 - 48) (DN N i).word)).word
    rw [hg]
  have hp : (ns.map fun s => (cl s).getD 0 0 - 48).Perm m := by
    refine (h1.map _).trans ?_
    rw [List.map_map]
    refine Eq.mpr ?_ h3
    congr 1
    exact (List.map_congr_left fun i _ => hg i).trans (List.map_id' l)
  rw [e] at h2 ⊢
  rw [hp.eq_of_pairwise (fun a b _ _ => Nat.le_antisymm) (sorted_words h2) (h4.imp Nat.le_of_lt)]
theorem stage_sorted (D : Nat → Dd) (n d : Nat) : (stageD D n d).Pairwise (· < ·) := List.Pairwise.filter _ List.pairwise_lt_range
theorem stage_mem {D : Nat → Dd} {n d a : Nat} : a ∈ stageD D n d ↔ a < n ∧ dep D a = (d : Int) := by unfold stageD; rw [List.mem_filter, List.mem_range, decide_eq_true_eq]

end
section

theorem LexAt.le {X : Cx} {σ τ : St} {lx dx pb f d g c2 t1 t2 at_ : Addr} {fdL fdG : FuncData} {text ws : Str} {n : Int} {pos : Nat} (h : LexAt X σ lx dx pb f d g c2 t1 t2 at_ fdL fdG text ws n pos) (hl : σ.le τ) : LexAt X τ lx dx pb f d g c2 t1 t2 at_ fdL fdG text ws n pos :=
  h.mono (fun _ => True) (fun a o _ e => hl a o e) (fun _ _ _ _ _ => trivial)
theorem strOk_iff {x : Str} : PyData.strOk x = true ↔ ∀ c ∈ cl x, c < 0x110000 := by
  unfold PyData.strOk cl; rw [Array.all_eq_true']; simp
theorem sh_layS : ∀ ns : List Str, (∀ x ∈ ns, PyData.strOk x = true) → PyData.canLayAll0 (ns.map PyData.str) = true
  | [], _ => rfl
  | a :: r, h => by
    rw [List.map_cons, PyData.canLayAll0, sh_layS r fun x hx => h x (.tail _ hx), Bool.and_true, PyData.canLay0]; exact h a (.head _)
theorem shaped_strs {ns : List Str} (h : ∀ x ∈ ns, PyData.strOk x = true) : PySem.SeqAt.shaped (.list (ns.map PyData.str)) = true := by
  simp [PySem.SeqAt.shaped, PyData.canLay0, PyData.depth, sh_layS ns h, sh_depth PyData.str (fun _ => by simp [PyData.depth])]
theorem shaped_tstrs {ns : List Str} (h : ∀ x ∈ ns, PyData.strOk x = true) : PySem.SeqAt.shaped (.tuple (ns.map PyData.str)) = true := by
  simp [PySem.SeqAt.shaped, PyData.canLay0, PyData.depth, sh_layS ns h, sh_depth PyData.str (fun _ => by simp [PyData.depth])]
theorem word_ok {N : List Int} {k : Nat} (hk : k < 8) : PyData.strOk (DN N k).word = true := by
  obtain ⟨t9, g3, o9⟩ := tgo_lt N k
  exact strOk_iff.mpr fun x hx => (word_clean hk t9 g3 o9 x hx).2.2.2.2.2.2
theorem words_ok {N : List Int} {l : List Nat} (h : ∀ a ∈ l, a < 8) : ∀ x ∈ wd (DN N) l, PyData.strOk x = true := by
  intro x hx
  obtain ⟨k, hk, rfl⟩ := List.mem_map.mp hx
  exact word_ok (h k hk)
theorem tbl_ok : (tblD.all fun r => r.2.all fun e => PyData.strOk e.2.2) = true := by decide +kernel
set_option tactic.hygienic true in
theorem fm_ok (m : Int) : PyData.strOk (filemodeOf m) = true := by
  rw [strOk_iff]
  unfold filemodeOf
  rw [cl_join]
  intro c hc
  obtain ⟨s, hs, hc⟩ := List.mem_flatMap.mp hc
  refine strOk_iff.mp ?_ c hc
  unfold fmChars at hs
  obtain ⟨i, hi, rfl⟩ := List.mem_mapIdx.mp hs
  have h := List.all_eq_true.mp tbl_ok _ (List.getElem_mem hi)
  unfold fmChar
  split
  · rename_i e he
    exact List.all_eq_true.mp h e (List.mem_of_find?_eq_some he)
  · split <;> kernel_rfl
theorem fms_ok {M : List Int} : ∀ x ∈ M.map filemodeOf, PyData.strOk x = true := by
  intro x hx
  obtain ⟨m, _, rfl⟩ := List.mem_map.mp hx
  exact fm_ok m
theorem all8 : ∀ a ∈ List.range 8, a < 8 := fun a ha => List.mem_range.mp ha
theorem eqvAll_strs : ∀ ns ms : List Str, PyData.eqvAll (ns.map PyData.str) (ms.map PyData.str) = decide (ns = ms)
  | [], [] => by simp [PyData.eqvAll]
  | [], _ :: _ => by simp [PyData.eqvAll]
  | _ :: _, [] => by simp [PyData.eqvAll]
  | a :: r, b :: t => by
    simp only [List.map_cons, PyData.eqvAll, PyData.eqv, eqvAll_strs r t]
    by_cases h : a = b <;> by_cases h' : r = t <;> simp [h, h']
theorem eqv_strs (ns ms : List Str) : PyData.eqv (.list (ns.map PyData.str)) (.list (ms.map PyData.str)) = decide (ns = ms) := by rw [← eqvAll_strs]; simp [PyData.eqv]
theorem eqv_tstrs (ns ms : List Str) : PyData.eqv (.tuple (ns.map PyData.str)) (.tuple (ms.map PyData.str)) = decide (ns = ms) := by rw [← eqvAll_strs]; simp [PyData.eqv]
theorem VOk.seq {V : Vals} (hV : VOk V) (D : Nat → Dd) : ∀ n, VOk (seqV V D n)
  | 0 => hV
  | n + 1 => by
    have h := VOk.seq hV D n
    rw [seqV_succ]; exact h.put _ (valD_ok h _).1 (valD_ok h _).2
theorem le3 (a b c : PV) : [a, b, c].length ≤ sizeLine := by show 3 ≤ _; rw [sizeLine_eq]; decide
theorem shaped3 (p q : Int) : PySem.SeqAt.shaped (.tuple [.str (Str.ofString ""), .int p, .int q]) = true := by
  have h : PyData.strOk (Str.ofString "") = true := by kernel_rfl
  simp [PySem.SeqAt.shaped, PyData.canLay0, PyData.canLayAll0, PyData.depth, PyData.depthAll, h]
theorem eqv3 (p q : Int) : PyData.eqv (.tuple [.str (Str.ofString ""), .int p, .int q]) (.tuple [.str (Str.ofString ""), .int p, .int q]) = true := by simp [PyData.eqv, PyData.eqvAll]
theorem nums_ok (ns : List Int) : ∃ a b c : Int, (numsOf ns).take 3 = [a, b, c] ∧ ∀ m ∈ [a, b, c], 0 ≤ m := by
  have hl : (addUp ns ns.length).length = 11 := addUp_len ns _
  have e : (numsOf ns).take 3 = ((addUp ns ns.length).take 3).map fun m => m.fmod 262144 := by
    unfold numsOf
    rw [List.take_append_of_le_length (by rw [List.length_map, List.length_take]; lia), List.take_of_length_le (by rw [List.length_map, List.length_take]; lia)]
  rw [e]
  match addUp ns ns.length, hl with
  | a :: b :: c :: r, _ =>
    refine ⟨a.fmod 262144, b.fmod 262144, c.fmod 262144, rfl, fun m hm => ?_⟩
    simp only [List.mem_cons, List.not_mem_nil, or_false] at hm
    rcases hm with rfl | rfl | rfl <;> exact Int.fmod_nonneg_of_pos _ (by decide)
theorem done_bound {X : Cx} (C : C1 X) : ∀ es n, lookIn "done" (dictOf es n) = some none → findObj X.K 137 (some (dictOf es n)) "done" = some (.bind (.builtin "function.__get__") (.ref 120)) :=
  any_bound (by rw [C.K]; kernel_rfl) (by rw [C.K]; kernel_rfl) (by rw [C.K]; kernel_rfl) (by decide +kernel) (dcls_sort C)
theorem f_doneD {X : Cx} (C : C1 X) {A : Around} {σ0 σ : St} {E : Value → Shared → Prop} {x dx d r : Addr} {G : List NdA} {po fi : Int} (D : Nat → Dd) (q : List Nat) (hR : SortR σ0 σ x dx d G r [] po fi) {N : Nat} (hN : ∀ g ∈ G, g.succ.length ≤ N) (hz : N * q.length + q.length + N ≤ 2 ^ 20) (hcl : gClosed (G.map NdA.nd))
    (hok : doneOk (G.map NdA.nd, []) (q.map (keyD D))) (hA : OkA A 5) : CC X A (.ref 120) (.ref x :: sL (wd D q)) σ (fun v σ' => v = .none ∧ ∃ D', SortR σ0 σ' x dx d D' r (gDones (G.map NdA.nd, []) (q.map (keyD D))).2 po (fi + (q.length : Nat)) ∧ D'.map NdA.nd = (gDones (G.map NdA.nd, []) (q.map (keyD D))).1) E := by
  have h := f_done (A := A) (E := E) C (q.map (keyD D)) hR hN (by rw [List.length_map, List.length_nil]; lia) hcl hok hA
  rw [kv_words, List.length_map] at h
  exact h
inductive LpI (σ0 : St) (D : Nat → Dd) (H : Nat → Int) (V : Vals) (G : List Nd) (x dx d r : Addr) (F : PV → Fm) (i : Nat) : Fm → St → Prop
  | mk (σi : St) (Di : List NdA) (R : List KV) (S : List Nat) (W : Vals) (mi : Addr) {τ : St} (hk : σ0.le σi) (hm : σi mi = some (.list (iL (modesV H W)))) (hR : SortR σi τ x dx d Di r R (S.length : Nat) (S.length : Nat))
    (hC : Cs (keyD D) (prd D) 8 G S S (Di.map NdA.nd, R)) (hS : ∀ a, a ∈ S ↔ a < 8 ∧ dep D a < (i : Int)) (hc : Cur V D S W) (hW : VOk W) : LpI σ0 D H V G x dx d r F i (F (.ref mi)) τ
structure LwT (σ : St) (L na wa lx tl : Addr) (N : List Int) (ps : Array Value) : Prop where
  c1 : σ (L + 1) = some (.cell (some (.ref na)))
  c2 : σ (L + 2) = some (.cell (some (.ref wa)))
  c3 : σ (L + 3) = some (.cell (some (.ref lx)))
  h8 : σ 258 = some (.tab ps)
  hn : σ na = some (.list (iL N))
  hw : σ wa = some (.list (sL (wd (DN N) (List.range 8))))
  ht : σ tl = some (.list (sL (wd (DN N) (List.range 8))))
theorem LwT.keep {σ τ : St} {L na wa lx tl : Addr} {N : List Int} {ps : Array Value} (h : LwT σ L na wa lx tl N ps) (hN : N.length = 11) (hk : ∀ a o, σ a = some o → (∀ f, o ≠ .flds f) → (∀ xs, o = .list xs → 8 ≤ xs.length) → τ a = some o) : LwT τ L na wa lx tl N ps := by
  have w : ∀ xs, AO.list (sL (wd (DN N) (List.range 8))) = .list xs → 8 ≤ xs.length := fun xs e => by rw [← AO.list.inj e]; simp [sL]
  exact ⟨hk _ _ h.c1 (fun _ e => nomatch e) (fun _ e => nomatch e), hk _ _ h.c2 (fun _ e => nomatch e) (fun _ e => nomatch e), hk _ _ h.c3 (fun _ e => nomatch e) (fun _ e => nomatch e), hk _ _ h.h8 (fun _ e => nomatch e) (fun _ e => nomatch e),
    hk _ _ h.hn (fun _ e => nomatch e) (fun xs e => by rw [← AO.list.inj e, List.length_map, hN]; decide), hk _ _ h.hw (fun _ e => nomatch e) w, hk _ _ h.ht (fun _ e => nomatch e) w⟩
theorem LwT.mono {σ τ : St} {L na wa lx tl : Addr} {N : List Int} {ps : Array Value} (h : LwT σ L na wa lx tl N ps) (hl : σ.le τ) : LwT τ L na wa lx tl N ps := ⟨hl _ _ h.c1, hl _ _ h.c2, hl _ _ h.c3, hl _ _ h.h8, hl _ _ h.hn, hl _ _ h.hw, hl _ _ h.ht⟩
theorem f_law {X : Cx} (C : C2 X) {A : Around} {σ : St} {E : Value → Shared → Prop} {l : Addr} {ns : List Int} (hl : BaseList X l (iL ns)) (hlen : ns.length ≤ 63) (hP : σ 258 = some (.tab #[])) (hA : OkA A 14) :
    CC X A (.ref 346) [.ref l] σ (fun v σ' => v = .bool true ∧ ∃ ps, σ' 258 = some (.tab ps)) E := by
  have C1' : C1 X := C.toC1
  refine .weak (call_cellsC (k := 13) hA (C1'.def rfl (by kernel_rfl)) rfl rfl rfl rfl rfl (fun n => of_decide_eq_true rfl) (bindsL (fun a => rfl) rfl) fun L hL => ?_)
  intro ev Ad
  have hA1 := okA_deeper hA
  have hh : ∀ env, (A.deeper env).handled = none := fun _ => hA.handled
  have DS := dcls_sort C1'
  have DL := dcls_lex C1'
  show WB X _ _ _ _ (((σ.set (L + 1) (.cell none)).set (L + 2) (.cell none)).set (L + 3) (.cell none)) _ _
  have fL : ∀ n, σ (L + n) = none := fresh_of hL
  have n12 : (L + 1 : Addr) ≠ L + 2 := Nat.ne_of_lt (Nat.add_lt_add_left (by decide) L)
  have n13 : (L + 1 : Addr) ≠ L + 3 := Nat.ne_of_lt (Nat.add_lt_add_left (by decide) L)
  have n23 : (L + 2 : Addr) ≠ L + 3 := Nat.ne_of_lt (Nat.add_lt_add_left (by decide) L)
  have c1 := St.set_keep (o := .cell none) (St.set_keep (o := .cell none) (St.set_self σ (L + 1) (.cell none)) n12) n13
  have c2 := St.set_keep (o := .cell none) (St.set_self (σ.set (L + 1) (.cell none)) (L + 2) (.cell none)) n23
  have c3 := St.set_self ((σ.set (L + 1) (.cell none)).set (L + 2) (.cell none)) (L + 3) (.cell none)
  have h8 := St.set_keep (o := .cell none) (St.set_keep (o := .cell none) (St.set_keep (o := .cell none) hP (St.ne_of hP (fL 1))) (St.ne_of hP (fL 2))) (St.ne_of hP (fL 3))
  clear fL hL hP
  generalize ((σ.set (L + 1) (.cell none)).set (L + 2) (.cell none)).set (L + 3) (.cell none) = σ1 at c1 c2 c3 h8 ⊢
  (first | refine WB.gK ?_ | refine WT.gK ?_ | refine WS.gK ?_); intro K1 hK1
  repeat walk_at "sl"
  refine WC.ofM (f_numbers C1' l ns hl hlen ((hA1 _).le (by decide))) (hid2 fun Kz hKz => ?_)
  rintro _ σ2 ⟨na, rfl, q1, hn⟩
  refine hKz _ _ ?_
  have hN := numsOf_len ns
  obtain ⟨ma, mb, mc, hM, hM0⟩ := nums_ok ns
  generalize numsOf ns = N at hn hN hM
  have c1 := q1 _ _ c1
  have c2 := q1 _ _ c2
  have c3 := q1 _ _ c3
  have h8 := q1 _ _ h8
  clear q1 hlen hl
  refine WN.cell (c := L + 1) (v₀ := none) ?_ rfl (by rfl) (by rfl) c1
  have hn := St.set_keep (o := .cell (some (.ref na))) hn (ne_ob hn c1 (fun e => nomatch e))
  have h8 := St.set_keep (o := .cell (some (.ref na))) h8 (ne_ob h8 c1 (fun e => nomatch e))
  have c2 := St.set_keep (o := .cell (some (.ref na))) c2 (Ne.symm n12)
  have c3 := St.set_keep (o := .cell (some (.ref na))) c3 (Ne.symm n13)
  have c1 := St.set_self σ2 (L + 1) (.cell (some (.ref na)))
  generalize σ2.set (L + 1) (.cell (some (.ref na))) = σ3 at c1 c2 c3 h8 hn ⊢
  refine WB.from (fr' := []) (Fm.nil_le _) (St.le_refl _) ?_
  repeat walk_at "sl"
  refine WC.ofM (f_words C1' na N hn hN ((hA1 _).le (by decide))) (hid2 fun Kz hKz => ?_)
  rintro _ σ4 ⟨wa, rfl, q1, hw⟩
  refine hKz _ _ ?_
  have c1 := q1 _ _ c1
  have c2 := q1 _ _ c2
  have c3 := q1 _ _ c3
  have h8 := q1 _ _ h8
  have hn := q1 _ _ hn
  clear q1
  refine WN.cell (c := L + 2) (v₀ := none) ?_ rfl (by rfl) (by rfl) c2
  have hn := St.set_keep (o := .cell (some (.ref wa))) hn (ne_ob hn c2 (fun e => nomatch e))
  have hw := St.set_keep (o := .cell (some (.ref wa))) hw (ne_ob hw c2 (fun e => nomatch e))
  have h8 := St.set_keep (o := .cell (some (.ref wa))) h8 (ne_ob h8 c2 (fun e => nomatch e))
  have c1 := St.set_keep (o := .cell (some (.ref wa))) c1 n12
  have c3 := St.set_keep (o := .cell (some (.ref wa))) c3 (Ne.symm n23)
  have c2 := St.set_self σ4 (L + 2) (.cell (some (.ref wa)))
  generalize σ4.set (L + 2) (.cell (some (.ref wa))) = σ5 at c1 c2 c3 h8 hn hw ⊢
  have hw : σ5 wa = some (.list (sL (wd (DN N) (List.range 8)))) := hw
  repeat (first | walk_at "sl" | with_reducible refine WM.join ?_)
  refine WC.range1V fun r σ6 q1 hr => ?_
  refine WBlock.fm0V (ys := sL ((List.range 8).map (pieceK N))) (hh _) (srcOf_upto (m := 0) (n := 8) (hh _) (by decide) (by lia)) (fun v => match v with | .int k => some (.str (pieceK N k.toNat)) | v => none) ?_ ?_ ?_ ?_ ?_ ?_ ?_
  · rw [up0_eq, List.filterMap_map, sL, List.map_map, ← List.filterMap_eq_map]
    rfl
  · exact fun _ => LetOk.name
  · exact hr
  · rw [up0_len, sizeLine_eq]; lia
  · exact fun _ => rfl
  · intro L' x hx hL'
    obtain ⟨k, hx⟩ := List.mem_iff_getElem?.mp hx
    obtain ⟨hk, rfl⟩ := up0_get hx
    clear hx
    have c1 := q1 _ _ c1
    have c2 := q1 _ _ c2
    have hn := q1 _ _ hn
    have hw := q1 _ _ hw
    repeat walk_at "sl"
    refine itT rfl ?_
    repeat walk_at "sl"
    refine WI.atN hw k rfl (by lia) (by rw [sL, wd, List.getElem?_map, List.getElem?_map, List.getElem?_range hk]; rfl) ?_ (fun _ => rfl)
    repeat walk_at "sl"
    refine WI.nL (ms := N) hn (3 + k) (by lia) (by lia) (by lia) ?_ (fun _ => rfl)
    repeat walk_at "sl"
    refine WC.ofM (f_written C1' (DN N k).word (N.getD (3 + k) 0) (by show 6 ≤ 6; decide) ((hA1 _).le (by decide))) ?_
    rintro _ τ ⟨rfl, q2⟩
    exact ⟨rfl, q2⟩
  intro ta σ7 q2 hta
  have q1 := St.le_trans q1 q2
  have c1 := q1 _ _ c1
  have c2 := q1 _ _ c2
  have c3 := q1 _ _ c3
  have h8 := q1 _ _ h8
  have hn := q1 _ _ hn
  have hw := q1 _ _ hw
  clear q1 q2 hr
  repeat walk_at "sl"
  refine WC.join hta (text_join N) ?_
  show WN X Ad _ _ (.str (textN N)) _ _ _ _
  clear hta
  repeat walk_at "sl"
  refine ⟨by rw [sizeLine_eq]; simp, fun at_ hat0 _ => ?_⟩
  have na1 := St.ne_of hn hat0
  have wa1 := St.ne_of hw hat0
  have q1 := St.le_set (o := .list [.int 0]) hat0
  have c1 := q1 _ _ c1
  have c2 := q1 _ _ c2
  have c3 := q1 _ _ c3
  have h8 := q1 _ _ h8
  have hn := q1 _ _ hn
  have hw := q1 _ _ hw
  have hat : (σ7.set at_ (.list [.int 0])) at_ = some (.list (iL [0])) := St.set_self ..
  clear q1 hat0
  generalize σ7.set at_ (.list [.int 0]) = σ8 at c1 c2 c3 h8 hn hw hat ⊢
  repeat walk_at "sl"
  refine WC.ofM (f_lexer C (textN N) at_ ((hA1 _).le (by decide)) h8 hat) (hid2 fun Kz hKz => ?_)
  rintro _ σ9 ⟨lx, dx, pb, f, d, g, cc, t1, t2, fdL, fdG, rfl, hG, hX, hk, ⟨ps, h8'⟩, fdx⟩
  refine hKz _ _ ?_
  have c1 := hk _ _ (ne_ob c1 h8 (fun e => nomatch e)) c1
  have c2 := hk _ _ (ne_ob c2 h8 (fun e => nomatch e)) c2
  have c3 := hk _ _ (ne_ob c3 h8 (fun e => nomatch e)) c3
  have hn := hk _ _ (ne_ob hn h8 (fun e => nomatch e)) hn
  have hw := hk _ _ (ne_ob hw h8 (fun e => nomatch e)) hw
  have nxt1 : L + 3 ≠ t1 := fun e => by
    have := hX.h1; rw [← e, c3] at this; cases this
  have nxt2 : L + 3 ≠ t2 := fun e => by
    have := hX.h2; rw [← e, c3] at this; cases this
  clear hat h8 fdx hk
  refine WN.cell (c := L + 3) (v₀ := none) ?_ rfl (by rfl) (by rfl) c3
  have hX := hX.mono (τ := σ9.set (L + 3) (.cell (some (.ref lx)))) (fun a => a ≠ L + 3) (fun a o h e => St.set_keep e h) (fun a o e _ hc ha => by
    subst ha
    rw [c3] at e
    cases e
    exact (hc _ rfl).elim nxt1 nxt2)
  have hn := St.set_keep (o := .cell (some (.ref lx))) hn (ne_ob hn c3 (fun e => nomatch e))
  have hw := St.set_keep (o := .cell (some (.ref lx))) hw (ne_ob hw c3 (fun e => nomatch e))
  have h8 := St.set_keep (o := .cell (some (.ref lx))) h8' (ne_ob h8' c3 (fun e => nomatch e))
  have c1 := St.set_keep (o := .cell (some (.ref lx))) c1 n13
  have c2 := St.set_keep (o := .cell (some (.ref lx))) c2 n23
  have c3 := St.set_self σ9 (L + 3) (.cell (some (.ref lx)))
  clear h8' nxt1 nxt2
  generalize σ9.set (L + 3) (.cell (some (.ref lx))) = σ10 at c1 c2 c3 h8 hn hw hX ⊢
  have hX : LexAt X σ10 lx dx pb f d g cc t1 t2 at_ fdL fdG (textN N) ws0 (lns (textN N) (posK N 0)) (posK N 0) := hX
  have hts := text_small N
  have m3a := ne_ob c3 hX.hat (fun e => nomatch e)
  have m3d := ne_ob c3 hX.hdx (fun e => nomatch e)
  repeat walk_at "sl"
  refine WBlock.one (hh _) (srcOf_list (l := wa) (xs := sL (wd (DN N) (List.range 8))) (hh _)) (fun L' i ys σ' => LexAt X σ' lx dx pb f d g cc t1 t2 at_ fdL fdG (textN N) ws0 (lns (textN N) (posK N i)) (posK N i) ∧ ys = (sL (wd (DN N) (List.range 8))).take i ∧ ∀ a o, a ≠ at_ → a ≠ dx → σ10 a = some o → σ' a = some o) ?_ ?_ ?_ ?_ ?_ ?_
  · exact fun _ => LetOk.name
  · rintro L' i ys σ' ⟨_, _, h⟩; exact h _ _ wa1 (ne_ob hw hX.hdx (fun e => nomatch e)) hw
  · exact hw
  · intro L' _ _
    exact ⟨hX, rfl, fun a o _ _ e => e⟩
  · rintro L' i y ys σ' hy ⟨hX, hys, hk⟩
    have hi : i < 8 := by have := (List.getElem?_eq_some_iff.mp hy).1; simpa [sL] using this
    have hyi : y = .str (DN N i).word := by
      rw [sL, wd, List.getElem?_map, List.getElem?_map, List.getElem?_range hi] at hy
      exact (Option.some.inj hy).symm
    have c3 := hk _ _ m3a m3d c3
    repeat walk_at "sl"
    refine itT rfl ?_
    repeat walk_at "sl"
    refine WM.inst DL (lf_token C1') (fn_token C1') hX.hlx hX.hdx rfl ?_
    repeat walk_at "sl"
    refine WC.ofM (f_token C1' hG hX (by lia) ((hA1 _).le (by decide))) ?_
    rintro _ τ ⟨rfl, hX2, hk2⟩
    rw [tokN N hi] at hX2 ⊢
    refine ⟨?_, [], _, Fm.nil_le _, St.le_refl _, hX2, ?_, fun a o h1 h2 e => hk2 _ _ h1 h2 (hk _ _ h1 h2 e)⟩
    · rw [hys, List.length_take, sizeLine_eq]; lia
    · rw [take_succ_get hy, hys, hyi]; rfl
  intro L' ys σ11 ⟨hX2, hys, hk⟩ tl htl _
  have hys : ys = sL (wd (DN N) (List.range 8)) := by rw [hys]; exact List.take_of_length_le (by simp [sL])
  subst hys
  refine ⟨[], _, Fm.nil_le _, St.le_refl _, ?_⟩
  have q1 := St.le_set (o := .list (sL (wd (DN N) (List.range 8)))) htl
  have c1 := q1 _ _ (hk _ _ (ne_ob c1 hX.hat (fun e => nomatch e)) (ne_ob c1 hX.hdx (fun e => nomatch e)) c1)
  have c2 := q1 _ _ (hk _ _ (ne_ob c2 hX.hat (fun e => nomatch e)) (ne_ob c2 hX.hdx (fun e => nomatch e)) c2)
  have c3 := q1 _ _ (hk _ _ m3a m3d c3)
  have h8 := q1 _ _ (hk _ _ (ne_ob h8 hX.hat (fun e => nomatch e)) (ne_ob h8 hX.hdx (fun e => nomatch e)) h8)
  have hn := q1 _ _ (hk _ _ na1 (ne_ob hn hX.hdx (fun e => nomatch e)) hn)
  have hw := q1 _ _ (hk _ _ wa1 (ne_ob hw hX.hdx (fun e => nomatch e)) hw)
  have hX : LexAt X (σ11.set tl (.list (sL (wd (DN N) (List.range 8))))) lx dx pb f d g cc t1 t2 at_ fdL fdG (textN N) ws0 (lns (textN N) (posK N 8)) (posK N 8) := hX2.le q1
  have ht : (σ11.set tl (.list (sL (wd (DN N) (List.range 8))))) tl = some (.list (sL (wd (DN N) (List.range 8)))) := St.set_self ..
  clear q1 hk htl hX2 m3a m3d na1 wa1
  generalize σ11.set tl (.list (sL (wd (DN N) (List.range 8)))) = σ12 at c1 c2 c3 h8 hn hw hX ht ⊢
  have T : LwT σ12 L na wa lx tl N ps := ⟨c1, c2, c3, h8, hn, hw, ht⟩
  clear c1 h8 hn
  repeat walk_at "sl"
  refine WS.ifK ?_
  repeat walk_at "sl"
  refine WAll.or ?_
  repeat walk_at "sl"
  refine W2.neD (hA1 _) (.list ht (PVRs.strs _)) (.list hw (PVRs.strs _)) (shaped_strs (words_ok all8)) (shaped_strs (words_ok all8)) ?_
  rw [eqv_strs, decide_eq_true rfl]
  repeat walk_at "sl"
  refine itF (by decide) ?_
  refine WAll.or ?_
  repeat walk_at "sl"
  refine WM.inst DL (lf_token C1') (fn_token C1') hX.hlx hX.hdx rfl ?_
  repeat walk_at "sl"
  refine WC.ofM (f_token C1' hG hX (by lia) ((hA1 _).le (by decide))) (hid2 fun Kz hKz => ?_)
  rintro _ σ13 ⟨rfl, hX2, hk⟩
  refine hKz _ _ ?_
  rw [tokEnd] at hX2 ⊢
  have T := T.keep hN fun a o e h1 h2 => hk a o (fun q => by subst q; rw [hX.hat] at e; cases e; exact absurd (h2 _ rfl) (by simp [iL])) (fun q => by subst q; rw [hX.hdx] at e; cases e; exact h1 _ rfl) e
  have hX := hX2
  clear hX2 hk c2 ht hw c3
  have c3 := T.c3
  repeat walk_at "sl"
  refine WI.nL (ms := [(posK N 8 : Int)]) hX.hat 0 rfl (by simp) (by simp) ?_ (fun _ => rfl)
  repeat walk_at "sl"
  refine WG.own DL (lf_lineno C1') hX.hlx hX.hdx rfl rfl ?_
  repeat walk_at "sl"
  refine kTup.v (le3 _ _ _) fun p1 σ14 q1 hp1 => ?_
  repeat walk_at "sl"
  refine WC.lenStr (by lia) ?_
  repeat walk_at "sl"
  refine WM.countS ?_
  repeat walk_at "sl"
  refine WC.countS ?_
  repeat walk_at "sl"
  rw [lns_end]
  refine kTup.v (le3 _ _ _) fun p2 σ15 q2 hp2 => ?_
  rw [← text_len] at hX hp1
  refine W2.neD (hA1 _) (.tuple (q2 _ _ hp1) (.cons (.str _) (.cons (.int _) (.cons (.int _) .nil)))) (.tuple hp2 (.cons (.str _) (.cons (.int _) (.cons (.int _) .nil)))) (shaped3 _ _) (shaped3 _ _) ?_
  rw [show ([(((textN N).length : Nat) : Int)].getD 0 0) = (((textN N).length : Nat) : Int) from rfl, eqv3]
  have q1 := St.le_trans q1 q2
  have T := T.mono q1
  have hp : PbAt σ15 lx dx pb f (lns (textN N) (textN N).length) ws0 [] := ⟨q1 _ _ hX.hlx, q1 _ _ hX.hdx, q1 _ _ hX.hpb⟩
  generalize lns (textN N) (textN N).length = nl at hp
  clear q1 q2 hp1 hp2 hX hG hts c3
  have c1 := T.c1
  have hn := T.hn
  repeat walk_at "sl"
  refine itF (by decide) ?_
  refine WAll.orNil ?_
  refine itF (by decide) ?_
  refine WB.from (fr' := [("told", .ref tl)]) (by repeat' (first | exact Fm.nil_le _ | (refine Fm.le_cons ?_ ?_; rfl))) (St.le_refl _) ?_
  repeat walk_at "sl"
  have hM3 : (iL N).take 3 = iL [ma, mb, mc] := by rw [← hM]; unfold iL; rw [List.map_take]
  refine ⟨3, rfl, .inr ⟨na, iL N, rfl, hn, by rw [sizeLine_eq, List.length_map]; lia, by rw [List.length_map]; lia, fun b hb0 _ => ?_⟩⟩
  rw [hM3]
  have q1 := St.le_set (o := .list (iL [ma, mb, mc])) hb0
  refine WBlock.fm0V (ys := sL ([ma, mb, mc].map filemodeOf)) (hh _) (srcOf_list (l := b) (xs := iL [ma, mb, mc]) (hh _)) (fun v => match v with | .int m => some (.str (filemodeOf m)) | v => none) rfl ?_ ?_ ?_ ?_ ?_ ?_
  · exact fun _ => LetOk.name
  · exact St.set_self ..
  · rw [sizeLine_eq]; simp
  · exact fun _ => rfl
  · intro L' x hx hL'
    obtain ⟨m, hm, rfl⟩ := List.mem_map.mp hx
    repeat walk_at "sl"
    refine itT rfl ?_
    repeat walk_at "sl"
    refine WC.ofE (f_filemode C1' m ((hA1 _).le (by decide))) ?_
    exact ⟨rfl, St.le_refl _⟩
  intro du σ16 q2 hdu
  have q1 := St.le_trans q1 q2
  have T := T.mono q1
  have hp := hp.mono q1
  clear q1 q2 hb0 c1 hn
  have ht := T.ht
  have hH := H0_ok hM0
  have hV := V0_ok [ma, mb, mc]
  have hm0 := modes_0 ma mb mc
  generalize H0 [ma, mb, mc] = H at hH hm0
  generalize V0 [ma, mb, mc] = V at hV hm0
  rw [← hm0] at hM3 hdu
  rw [fm_modes hH hV] at hdu
  have h3 : (sL (rowsV (fun i => tyC (H i)) V)).length = 3 := rfl
  have hne : ∀ {a xs}, σ16 a = some (.list xs) → xs.length ≠ 3 → a ≠ du := fun e h => ne_ob e hdu fun e2 => h (by rw [AO.list.inj e2]; rfl)
  repeat walk_at "sl"
  refine WC.ofM (f_onebyone C1' du tl (fun i => tyC (H i)) V ((List.range 8).map (DN N)) hdu (by rw [List.map_map]; exact ht) (hne ht (by simp [sL])) (fun d hd => by obtain ⟨k, _, rfl⟩ := List.mem_map.mp hd; exact DN_ok N k) (by simp) hV ((hA1 _).le (by decide))) (hid2 fun Kz hKz => ?_)
  rintro _ σ17 ⟨rfl, hdu2, hk⟩
  refine hKz _ _ ?_
  have T := T.keep hN fun a o e h1 h2 => hk a o (fun q => by subst q; rw [hdu] at e; cases e; exact absurd (h2 _ rfl) (by rw [h3]; decide)) e
  have hp : PbAt σ17 lx dx pb f nl ws0 [] := ⟨hk _ _ (ne_ob hp.hlx hdu (fun e => nomatch e)) hp.hlx, hk _ _ (ne_ob hp.hdx hdu (fun e => nomatch e)) hp.hdx, hk _ _ (hne hp.hpb (by simp [sL])) hp.hpb⟩
  have hdu : σ17 du = some (.list (sL (rowsV (fun i => tyC (H i)) (seqV V (DN N) 8)))) := hdu2
  clear hk hne h3 hdu2 ht
  have c1 := T.c1
  have hn := T.hn
  repeat walk_at "sl"
  refine ⟨3, rfl, .inr ⟨na, iL N, rfl, hn, by rw [sizeLine_eq, List.length_map]; lia, by rw [List.length_map]; lia, fun m1 hm1 _ => ?_⟩⟩
  rw [hM3]
  have q1 := St.le_set (o := .list (iL (modesV H V))) hm1
  have T := T.mono q1
  have hp := hp.mono q1
  have hdu := q1 _ _ hdu
  have hm := St.set_self σ17 m1 (.list (iL (modesV H V)))
  clear q1 hm1 c1 hn
  generalize σ17.set m1 (.list (iL (modesV H V))) = σ18 at T hp hdu hm ⊢
  have ht := T.ht
  have hk := key_inj N 8
  have hP : ∀ a, a < 8 → ∀ j ∈ prd (DN N) a, j < a := fun a ha j hj => ((prd_ahead (DN N) 8).sub a ha j hj).1
  have hGM := gTo_ok hk hP 8 (Nat.le_refl 8)
  have hbd : gBound (gTo (keyD (DN N)) (prd (DN N)) 8) 168 := gTo_bound 8 fun a ha => by have := prd_len (DN N) a; lia
  have hcl : gClosed (gTo (keyD (DN N)) (prd (DN N)) 8) := gTo_closed 8
  have hDk : ∀ i, i < 8 → (DN N i).ok := fun i _ => DN_ok N i
  repeat walk_at "sl"
  refine WC.ofM (f_sorter C1' 8 (DN N) ht (Nat.le_refl 8) hDk ((hA1 _).le (by decide))) (hid2 fun Kz hKz => ?_)
  rintro _ σ19 ⟨x, dx2, d2, G, rfl, hB, hNG⟩
  refine hKz _ _ ?_
  repeat walk_at "sl"
  refine WS.ifK ?_
  repeat walk_at "sl"
  refine WAll.or ?_
  repeat (first | walk_at "sl" | with_reducible refine WT.notK ?_)
  refine WC.ofM (f_early C1' hB ((hA1 _).le (by decide))) (hid2 fun Kz hKz => ?_)
  rintro _ σ20 ⟨rfl, q1⟩
  refine hKz _ _ ?_
  have hB := hB.mono q1
  clear q1
  repeat walk_at "sl"
  refine itF (by decide) ?_
  refine WAll.or ?_
  repeat walk_at "sl"
  refine WM.inst DS (m := 92) (by rw [C1'.K]; kernel_rfl) (by rw [C1'.K]; kernel_rfl) hB.hx hB.hdx rfl ?_
  repeat walk_at "sl"
  refine WC.ofM (f_prepOk C1' hB (by rw [hNG]; exact hbd) (by decide) (by rw [hNG]; exact hcl) ((hA1 _).le (by decide)) (by rw [hNG]; exact hGM.noring hk hP)) (hid2 fun Kz hKz => ?_)
  rintro _ σ21 ⟨rfl, rr, hrr, hle⟩
  refine hKz _ _ ?_
  have hR := (hB.prep hrr).mono hle
  clear hrr hle hB
  repeat walk_at "sl"
  refine itF (by decide) ?_
  refine WAll.orNil ?_
  refine itF (by decide) ?_
  refine WB.from (fr' := [("told", .ref tl), ("due", .ref du), ("modes", .ref m1), ("sorter", .ref x)]) (by repeat' (first | exact Fm.nil_le _ | (refine Fm.le_cons ?_ ?_; rfl))) (St.le_refl _) ?_
  have c2' := hR.b.base _ _ T.c2
  repeat walk_at "sl"
  refine WC.base hR (f_stages C1' 8 (DN N) T.hw (by decide) (Nat.le_refl 8) hDk ((hA1 _).le (by decide))) ?_
  clear c2' hR
  rintro _ σ22 ⟨sr, ys, m, rfl, q1, hsr, hys, hm8, hdm, a0, ha0, hd0⟩ τ hR
  have T := T.mono q1
  have hp := hp.mono q1
  have hdu := q1 _ _ hdu
  have hm := q1 _ _ hm
  clear q1 ht
  have hR : SortR σ22 τ x dx2 d2 G rr (gReady (G.map NdA.nd)) ((([] : List Nat).length : Nat) : Int) ((([] : List Nat).length : Nat) : Int) := hR
  refine WIter.forG (x := .ref sr) (hh _) (srcOf_list (l := sr) (xs := ys) (hh _)) (LpI σ22 (DN N) H V (gTo (keyD (DN N)) (prd (DN N)) 8) x dx2 d2 rr (fun y => [("told", .ref tl), ("due", .ref du), ("modes", y), ("sorter", .ref x)])) ?_ ?_ ?_ ?_ ?_
  · exact fun _ => LetOk.name
  · rintro i fr τ ⟨σi, Di, R, S, W, mi, hk, hm, hR, hC, hS, hc, hW⟩
    exact hR.b.base _ _ (hk _ _ hsr)
  · refine .mk σ22 G _ [] V m1 (St.le_refl _) hm hR ?_ (fun a => ⟨fun h => (by cases h), fun h => by have := dep_0 (DN N) a; lia⟩) (Cur.nil V _) hV
    rw [hNG]; exact Cs.start hGM hk
  · clear hm hV
    rintro i K2 hK2 y fr τ hx ⟨σi, Di, R, S, W, mi, hks, hm, hR, hC, hS, hc, hW⟩
    obtain ⟨hi, sa, rfl, hsa⟩ : ∃ hi : i < m, ∃ sa, y = .ref sa ∧ σ22 sa = some (.list (sL (wd (DN N) (stageD (DN N) 8 i)))) := by
      have hi : i < m := by have := (List.getElem?_eq_some_iff.mp hx).1; rw [hys.1, List.length_range] at this; exact this
      obtain ⟨a, e, h⟩ := hys.2 i y i hx (List.getElem?_range hi)
      exact ⟨hi, a, e, h⟩
    have hsa := hks _ _ hsa
    clear hx
    repeat walk_at "sl"
    refine WM.inst DS (m := 99) (by rw [C1'.K]; kernel_rfl) (by rw [C1'.K]; kernel_rfl) hR.b.hx hR.b.hdx rfl ?_
    repeat walk_at "sl"
    obtain ⟨q, eR, hqn, hq⟩ := hC.rd
    have hkeys := hC.keys
    dsimp only at eR hkeys
    subst eR
    have hqd : ∀ a, a ∈ q ↔ a < 8 ∧ dep (DN N) a = (i : Int) := fun a => by
      rw [hq]
      constructor
      · rintro ⟨h1, h2, h3⟩
        exact ⟨h1, (dep_turn (prd_ahead (DN N) 8) (Int.natCast_nonneg i) hS h1).mp ⟨h2, h3⟩⟩
      · rintro ⟨h1, h2⟩
        obtain ⟨g1, g2⟩ := (dep_turn (prd_ahead (DN N) 8) (Int.natCast_nonneg i) hS h1).mpr h2
        exact ⟨h1, g1, g2⟩
    have hql : q.length ≤ 8 := by
      have := nodup_len hqn (m := List.range 8) fun a ha => List.mem_range.mpr ((hqd a).mp ha).1
      rw [List.length_range] at this; exact this
    have hq0 : 0 < q.length := by
      obtain ⟨b, hb, e⟩ := dep_ex (DN N) (d := (i : Int)) (Int.natCast_nonneg i) a0 (by lia)
      exact List.length_pos_of_mem ((hqd b).mpr ⟨by lia, e⟩)
    have hperm : q.Perm (stageD (DN N) 8 i) := (List.perm_ext_iff_of_nodup hqn ((stage_sorted (DN N) 8 i).imp Nat.ne_of_lt)).mpr fun a => by rw [hqd, stage_mem]
    refine WC.ofM (f_getReady C1' hR (by rw [List.length_map]; lia) (fun k hk' => ?_) ((hA1 _).le (by decide))) (hid2 fun Kz hKz => ?_)
    · obtain ⟨a, ha, rfl⟩ := List.mem_map.mp hk'
      show _ ∈ ks _
      rw [hkeys]
      exact (hGM.keys _).mpr ⟨a, ((hqd a).mp ha).1, rfl⟩
    rintro _ τ2 ⟨t, D2, rfl, ht0, hR2, hN2⟩
    refine hKz _ _ ?_
    have ht0 := hR.b.fresh0 ht0
    rw [kv_words] at hR2
    have q1 := St.le_set (o := .tuple (sL (wd (DN N) q))) ht0
    have hR : SortR (σi.set t (.tuple (sL (wd (DN N) q)))) τ2 x dx2 d2 D2 rr [] ((S.length : Int) + ((q.map (keyD (DN N))).length : Nat)) (S.length : Nat) := hR2
    have hks := St.le_trans hks q1
    have hsa := q1 _ _ hsa
    have hm := q1 _ _ hm
    have htp : (σi.set t (.tuple (sL (wd (DN N) q)))) t = some (.tuple (sL (wd (DN N) q))) := St.set_self ..
    have hC2 := hC.out hGM hk rfl hq
    rw [← hN2] at hC2
    have hq8 : ∀ a ∈ q, a < 8 := fun a ha => ((hqd a).mp ha).1
    have hSq : ∀ a ∈ q, a ∉ S ∧ ∀ i, i < a → conf (DN N i) (DN N a) = true → i ∈ S := by
      have hcl : Clo (DN N) 8 S := (prd_ahead (DN N) 8).clo (fun a ha => ((hS a).mp ha).1) fun a ha j hj => hC.outp a ha j hj
      intro a ha
      obtain ⟨g1, g2, g3⟩ := (hq a).mp ha
      exact ⟨g2, (prd_ahead (DN N) 8).next hcl g1 g3⟩
    have hcl2 : Clo (DN N) 8 S := (prd_ahead (DN N) 8).clo (fun a ha => ((hS a).mp ha).1) fun a ha j hj => hC.outp a ha j hj
    have hc2 := hc.once hcl2 hSq
    clear hR2 hN2 ht0 q1 hkeys hq hC hc hcl2
    generalize σi.set t (.tuple (sL (wd (DN N) q))) = σj at hks hsa hm htp hR
    repeat walk_at "sl"
    refine WS.ifK ?_
    repeat walk_at "sl"
    refine WAll.or ?_
    repeat walk_at "sl"
    have htp2 := hR.b.base _ _ htp
    refine WC.tupleT htp2 ?_
    refine W2.neD (hA1 _) (.tuple htp2 (PVRs.strs _)) (.tuple htp2 (PVRs.strs _)) (shaped_tstrs (words_ok hq8)) (shaped_tstrs (words_ok hq8)) ?_
    rw [eqv_tstrs, decide_eq_true rfl]
    repeat walk_at "sl"
    refine itF (by decide) ?_
    refine WAll.or ?_
    repeat walk_at "sl"
    refine WC.sortedTS htp2 (by rw [List.length_map]; lia) fun so sn hso hsp hss => ?_
    have hsn := words_sorted hsp hss hperm (stage_sorted (DN N) 8 i)
    subst hsn
    clear hsp hss htp2
    have q1 := St.le_set (o := .list (sL ((stageD (DN N) 8 i).map fun i => (DN N i).word))) (hR.b.fresh0 hso)
    have hR := hR.addBase (.list (sL ((stageD (DN N) 8 i).map fun i => (DN N i).word))) hso
    have hks := St.le_trans hks q1
    have hsa := q1 _ _ hsa
    have hm := q1 _ _ hm
    have htp := q1 _ _ htp
    have hso2 : (σj.set so (.list (sL ((stageD (DN N) 8 i).map fun i => (DN N i).word)))) so = some (.list (sL ((stageD (DN N) 8 i).map fun i => (DN N i).word))) := St.set_self ..
    clear q1 hso
    generalize σj.set so (.list (sL ((stageD (DN N) 8 i).map fun i => (DN N i).word))) = σk at hks hsa hm htp hR hso2
    generalize τ2.set so (.list (sL ((stageD (DN N) 8 i).map fun i => (DN N i).word))) = τ3 at hR ⊢
    repeat walk_at "sl"
    have hs8 : ∀ a ∈ stageD (DN N) 8 i, a < 8 := fun a ha => (stage_mem.mp ha).1
    refine W2.neD (hA1 _) (.list (hR.b.base _ _ hso2) (PVRs.strs _)) (.list (hR.b.base _ _ hsa) (PVRs.strs _)) (shaped_strs (words_ok hs8)) (shaped_strs (words_ok hs8)) ?_
    rw [eqv_strs, decide_eq_true rfl]
    clear hs8 hsa hso2
    repeat walk_at "sl"
    refine itF (by decide) ?_
    refine WAll.or ?_
    repeat (first | walk_at "sl" | with_reducible refine WT.notK ?_)
    refine WM.inst DS (m := 106) (by rw [C1'.K]; kernel_rfl) (by rw [C1'.K]; kernel_rfl) hR.b.hx hR.b.hdx rfl ?_
    repeat walk_at "sl"
    refine WC.ofE (f_isActive C1' hR (by simp) ((hA1 _).le (by decide))) ?_
    rw [show decide (((S.length : Nat) : Int) < (S.length : Int) + ((q.map (keyD (DN N))).length : Nat)) = true from decide_eq_true (by rw [List.length_map]; lia), Bool.true_or]
    repeat walk_at "sl"
    refine itF (by decide) ?_
    refine WAll.orNil ?_
    refine itF (by decide) ?_
    repeat walk_at "sl"
    refine WC.base hR (f_atonce C1' mi t H W (q.map (DN N)) (fun A hh => srcOf_tup hh) (HasTup.own (by rw [List.map_map]; exact htp)) hm (fun d hd => by obtain ⟨k, _, rfl⟩ := List.mem_map.mp hd; exact DN_ok N k) (by rw [List.length_map]; lia) hW hH ((hA1 _).le (by decide))) ?_
    rintro _ σn ⟨m2, rfl, q1, hm2⟩ τ4 hR
    have hks := St.le_trans hks q1
    have htp := q1 _ _ htp
    clear q1 hm
    repeat walk_at "sl"
    refine WE.methStar ?_ ?_ ?_ ?_
    · rfl
    · rfl
    · first | exact .inl rfl | exact .inr rfl
    repeat walk_at "sl"
    refine WG.bound DS (m := 120) ?_ (by rw [C1'.K]; kernel_rfl) hR.b.hx hR.b.hdx rfl fun b hb0 _ => ?_
    · exact done_bound C1'
    have hR := hR.mono (St.le_set (o := .raw (methodObj (.ref 120) (.ref x))) hb0)
    have hbm : (τ4.set b (.raw (methodObj (.ref 120) (.ref x)))) b = some (.raw (methodObj (.ref 120) (.ref x))) := St.set_self ..
    generalize τ4.set b (.raw (methodObj (.ref 120) (.ref x))) = τ5 at hR hbm ⊢
    obtain ⟨hdn, hC3⟩ := hC2.dones hGM hk q S _ (fun v hv => ⟨List.mem_append_right _ hv, (hSq v hv).1⟩) hqn
    obtain ⟨hsu, hcl3⟩ := hC2.shape hGM hbd hR.b.keys
    repeat walk_at "sl"
    refine ⟨t, sL (wd (DN N) q), rfl, .own (hR.b.base _ _ htp), by rw [sizeLine_eq]; simp [sL]; lia, .meth hbm (by rw [C1'.K]; kernel_rfl), ?_⟩
    refine WC.of (.mono (CC.meth hbm (f_doneD C1' (DN N) q hR hsu (by lia) hcl3 hdn ((hA1 _).le (by decide)))).cw ?_)
    clear hR hbm hdn hsu hcl3 hC2 hb0
    rintro _ τ6 ⟨rfl, D5, hR, hN5⟩
    repeat walk_at "sl"
    repeat (first | refine hK4 _ _ _ ?_ | refine hK3 _ _ _ ?_ | refine hK2 _ _ _ ?_ | refine hK1 _ _ _ ?_ | walk_at "sl")
    refine ⟨_, _, by repeat' (first | exact Fm.nil_le _ | (refine Fm.le_cons ?_ ?_; rfl)), St.le_refl _, .mk σn D5 (gDones (D2.map NdA.nd, []) (q.map (keyD (DN N)))).2 (S ++ q) (onceV W (q.map (DN N))) m2 hks hm2 ?_ ?_ ?_ hc2 (VOk.once hW _ hW)⟩
    · have e1 : (((S ++ q).length : Nat) : Int) = (S.length : Int) + ((q.map (keyD (DN N))).length : Nat) := by rw [List.length_append, List.length_map]; lia
      have e2 : (((S ++ q).length : Nat) : Int) = (S.length : Int) + (q.length : Nat) := by rw [List.length_append]; lia
      rw [← e1, ← e2] at hR
      exact hR
    · rw [hN5]; exact hC3
    · intro a
      rw [List.mem_append, hS, hqd]
      constructor
      · rintro (⟨g1, g2⟩ | ⟨g1, g2⟩)
        · exact ⟨g1, by lia⟩
        · exact ⟨g1, by lia⟩
      · rintro ⟨g1, g2⟩
        by_cases g : dep (DN N) a = (i : Int)
        · exact .inr ⟨g1, g⟩
        · exact .inl ⟨g1, by lia⟩
  · refine hid2 fun Kz hKz => ?_
    rintro fr τ ⟨σi, Di, R, S, W, mi, hks, hm, hR, hC, hS, hc, hW⟩
    refine hKz _ _ ?_
    rw [hys.1, List.length_range] at hS
    have hSa : ∀ a, a ∈ S ↔ a < 8 := fun a => by
      rw [hS]; exact ⟨fun h => h.1, fun h => ⟨h, hdm a h⟩⟩
    rw [hc.all hSa] at hm
    obtain ⟨q, eR, _, hq⟩ := hC.rd
    have hq0 : q = [] := List.eq_nil_iff_forall_not_mem.mpr fun a ha => by
      obtain ⟨h1, h2, _⟩ := (hq a).mp ha
      exact h2 ((hSa a).mpr h1)
    subst hq0
    obtain rfl : R = [] := eR
    have T := T.mono hks
    have hp := hp.mono hks
    have hdu := hks _ _ hdu
    clear hks hys hdm hd0 ha0 hsr hS hSa hq hC hc hm8 W hW
    repeat walk_at "sl"
    refine WS.ifK ?_
    repeat walk_at "sl"
    refine WAll.or ?_
    repeat walk_at "sl"
    refine WM.inst DS (m := 99) (by rw [C1'.K]; kernel_rfl) (by rw [C1'.K]; kernel_rfl) hR.b.hx hR.b.hdx rfl ?_
    repeat walk_at "sl"
    refine WC.ofM (f_getReady C1' hR (by simp) (fun k hk' => (by cases hk')) ((hA1 _).le (by decide))) (hid2 fun Kz hKz => ?_)
    rintro _ τ2 ⟨t, D2, rfl, ht0, hR2, hN2⟩
    refine hKz _ _ ?_
    have ht0 := hR.b.fresh0 ht0
    have q1 := St.le_set (o := .tuple ([] : List PV)) ht0
    have hR : SortR (σi.set t (.tuple [])) τ2 x dx2 d2 D2 rr [] ((S.length : Int) + 0) (S.length : Nat) := hR2
    have htp : (σi.set t (.tuple [])) t = some (.tuple []) := St.set_self ..
    have T := T.mono q1
    have hp := hp.mono q1
    have hdu := q1 _ _ hdu
    have hm := q1 _ _ hm
    clear hR2 ht0 q1 hN2
    generalize σi.set t (.tuple []) = σj at T hp hdu hm hR htp
    repeat walk_at "sl"
    refine kTup.v (Nat.zero_le _) fun z τ3 q1 hz => ?_
    have hR := hR.mono q1
    refine W2.neD (hA1 _) (.tuple (hR.b.base _ _ htp) .nil) (.tuple hz .nil) rfl rfl ?_
    clear q1 hz htp
    repeat walk_at "sl"
    refine itF (by decide) ?_
    refine WAll.or ?_
    repeat walk_at "sl"
    refine WM.inst DS (m := 106) (by rw [C1'.K]; kernel_rfl) (by rw [C1'.K]; kernel_rfl) hR.b.hx hR.b.hdx rfl ?_
    repeat walk_at "sl"
    refine WC.ofE (f_isActive C1' hR (by simp) ((hA1 _).le (by decide))) ?_
    rw [show decide (((S.length : Nat) : Int) < (S.length : Int) + 0) = false from decide_eq_false (by lia), Bool.false_or]
    repeat walk_at "sl"
    refine itF (by decide) ?_
    refine WAll.or ?_
    have hle := hR.b.base
    have T := T.mono hle
    have hp := hp.mono hle
    have hdu := hle _ _ hdu
    have hm := hle _ _ hm
    clear hR hle
    rw [← fm_modes hH (hV.seq (DN N) 8)] at hdu
    repeat walk_at "sl"
    refine WBlock.fm0V (ys := sL ((modesV H (seqV V (DN N) 8)).map filemodeOf)) (hh _) (srcOf_list (l := mi) (xs := iL (modesV H (seqV V (DN N) 8))) (hh _)) (fun v => match v with | .int m => some (.str (filemodeOf m)) | v => none) rfl ?_ ?_ ?_ ?_ ?_ ?_
    · exact fun _ => LetOk.name
    · exact hm
    · rw [sizeLine_eq]; simp [modesV]
    · exact fun _ => rfl
    · intro L' x hx hL'
      obtain ⟨m, hm, rfl⟩ := List.mem_map.mp hx
      repeat walk_at "sl"
      refine itT rfl ?_
      repeat walk_at "sl"
      refine WC.ofE (f_filemode C1' m ((hA1 _).le (by decide))) ?_
      exact ⟨rfl, St.le_refl _⟩
    intro fa τ4 q1 hfa
    have T := T.mono q1
    have hp := hp.mono q1
    have hdu := q1 _ _ hdu
    clear q1 hm
    repeat walk_at "sl"
    refine W2.neD (hA1 _) (.list hfa (PVRs.strs _)) (.list hdu (PVRs.strs _)) (shaped_strs fms_ok) (shaped_strs fms_ok) ?_
    rw [eqv_strs, decide_eq_true rfl]
    clear hfa
    have c3 := T.c3
    repeat walk_at "sl"
    refine itF (by decide) ?_
    refine WAll.orNil ?_
    refine itF (by decide) ?_
    refine WB.from (fr' := [("told", .ref tl), ("due", .ref du)]) (by repeat' (first | exact Fm.nil_le _ | (refine Fm.le_cons ?_ ?_; rfl))) (St.le_refl _) ?_
    repeat walk_at "sl"
    refine WC.ofM (f_sorter C1' 8 (DN N) T.ht (Nat.le_refl 8) hDk ((hA1 _).le (by decide))) (hid2 fun Kz hKz => ?_)
    rintro _ τ5 ⟨x3, dx3, d3, G3, rfl, hB, hNG3⟩
    refine hKz _ _ ?_
    have hn5 := hB.base _ _ T.hn
    have c1' := hB.base _ _ T.c1
    clear c3
    repeat walk_at "sl"
    refine ⟨3, rfl, .inr ⟨na, iL N, rfl, hn5, by rw [sizeLine_eq, List.length_map]; lia, by rw [List.length_map]; lia, fun m3 hm3 _ => ?_⟩⟩
    rw [hM3]
    have q1 := St.le_set (o := .list (iL (modesV H V))) (hB.fresh0 hm3)
    have hB := hB.addBase (.list (iL (modesV H V))) hm3
    have hm := St.set_self τ4 m3 (.list (iL (modesV H V)))
    have T := T.mono q1
    have hp := hp.mono q1
    have hdu := q1 _ _ hdu
    clear q1 hm3 hn5 c1'
    generalize τ4.set m3 (.list (iL (modesV H V))) = σz at T hp hdu hm hB
    generalize τ5.set m3 (.list (iL (modesV H V))) = τ6 at hB ⊢
    repeat walk_at "sl"
    refine WC.ofM (f_inline C1' 8 (DN N) H V hB hNG3 hp T.ht hm (by decide) (Nat.le_refl 8) hDk hk hV hH ((hA1 _).le (by decide))) (hid2 fun Kz hKz => ?_)
    rintro _ τ7 ⟨m4, rfl, hm4, hpb, hkp⟩
    refine hKz _ _ ?_
    have c3 := hkp _ _ (ne_ob T.c3 hp.hpb (fun e => nomatch e)) T.c3
    have h8 := hkp _ _ (ne_ob T.h8 hp.hpb (fun e => nomatch e)) T.h8
    have hdu := hkp _ _ (ne_ob hdu hp.hpb (fun e => by have e := AO.list.inj e; simp [sL, modesV] at e)) hdu
    have hlx := hkp _ _ (ne_ob hp.hlx hp.hpb (fun e => nomatch e)) hp.hlx
    have hdx := hkp _ _ (ne_ob hp.hdx hp.hpb (fun e => nomatch e)) hp.hdx
    clear hkp hB hp T hm
    repeat walk_at "sl"
    refine WE.and2 ?_
    repeat walk_at "sl"
    refine WG.own DL (lf_pushback C1') hlx hdx rfl rfl ?_
    repeat walk_at "sl"
    refine kLst.v (Nat.zero_le _) fun em τ8 q1 hem => ?_
    refine W2.eqD (hA1 _) (.list (q1 _ _ hpb) .nil) (.list hem .nil) rfl rfl ?_
    have h8 := q1 _ _ h8
    have hdu := q1 _ _ hdu
    have hm := q1 _ _ hm4
    clear c3 q1 hem hpb hlx hdx hm4
    repeat walk_at "sl"
    refine itT (by decide) ?_
    repeat walk_at "sl"
    refine WBlock.fm0V (ys := sL ((modesV H (seqV V (DN N) 8)).map filemodeOf)) (hh _) (srcOf_list (l := m4) (xs := iL (modesV H (seqV V (DN N) 8))) (hh _)) (fun v => match v with | .int m => some (.str (filemodeOf m)) | v => none) rfl ?_ ?_ ?_ ?_ ?_ ?_
    · exact fun _ => LetOk.name
    · exact hm
    · rw [sizeLine_eq]; simp [modesV]
    · exact fun _ => rfl
    · intro L' x hx hL'
      obtain ⟨m, hm, rfl⟩ := List.mem_map.mp hx
      repeat walk_at "sl"
      refine itT rfl ?_
      repeat walk_at "sl"
      refine WC.ofE (f_filemode C1' m ((hA1 _).le (by decide))) ?_
      exact ⟨rfl, St.le_refl _⟩
    intro fb τ9 q1 hfb
    have h8 := q1 _ _ h8
    have hdu := q1 _ _ hdu
    clear q1 hm
    repeat walk_at "sl"
    refine W2.eqD (hA1 _) (.list hfb (PVRs.strs _)) (.list hdu (PVRs.strs _)) (shaped_strs fms_ok) (shaped_strs fms_ok) ?_
    rw [eqv_strs, decide_eq_true rfl]
    repeat (first | refine hK4 _ _ _ ?_ | refine hK3 _ _ _ ?_ | refine hK2 _ _ _ ?_ | refine hK1 _ _ _ ?_ | walk_at "sl")
    exact ⟨_, St.le_refl _, rfl, ps, h8⟩

end
end SL
end
section
open PySem PySem.W PyProof.Rows
set_option tactic.hygienic true in
theorem PySem.Challenge.cw_oy0343_02_holds : PySem.Challenge.rw_oy0343_02.Holds :=
  SL.hd (by
  intro w s₀ s₁ mg mb G Y fa o pm cd doc dV kV ho hd' hcd hD hmg hg args vals as hpre hlay hrd hwl hlo
  have X := km_in_of Y
  have hT8 := km_tabs_of Y
  have hT9 : TabsAt [(262, 258)] s₁.heap := List.forall_mem_cons.mpr ⟨⟨codeHd_of_K (c := 262) (P := 258) X (by kernel_rfl), hT8 258 (by simp)⟩, fun _ h => nomatch h⟩
  refine Ground.open G ?_
  intro T B D TE TW
  clear G Y hT8 D TE TW B hcd hD ho hd'
  have e346 : mg (Str.ofString "law") = some (.ref 346) := mg_of X T.g (by kernel_rfl)
  have hfa : fa = 346 := by
    have e := hmg.symm.trans e346
    injection e with e
    injection e
  subst hfa
  clear hmg e346
  wrow_args hpre hlay hrd hwl hlo
  rename_i ns _ _ _ _ _ _ _ l its _ hL _ _ _ hI _ hcond _
  refine enter_call ?_
  refine kn_post hT9 (fun _ _ => rfl) ?_
  have T' := ghost_top hT9 T
  have X' := ghost_K hT9 X (by kernel_rfl)
  have hL' := ghost_list hT9 hL
  have C' := ghost_code hT9
  let X0 : SL.Cx := { prog := PySem.Challenge.rw_oy0343_02.row.prog, w := w, K := SL.hd.heap_1 w.params, hb := ghostOf s₁.heap [(262, 258)], os := s₁.os, mg := mg, mb := mb, G := T'.g, B := T'.b, nolimit := T'.nolimit, nodigits := T'.nodigits, builtins := T'.builtins, KI := X' }
  have C1 : SL.C1 X0 := ⟨rfl⟩
  have h258 : X0.hb.get? 258 = none := hideAll_none _ (by simp)
  have hba : X0.hb.BuiltinsAt X0.mg 258 := by
    obtain ⟨bm, ob, a1, a2, a3, a4, a5, a6⟩ := T'.bmain
    refine ⟨bm, ob, a1, a2, fun q => ?_, fun q => ?_, a3, a4, a5, a6⟩
    · obtain ⟨o2, es, ep, b1, b2, _⟩ := T'.g
      rw [← q, a3] at b1; cases b1
      rw [a6] at b2; cases b2
    · rw [q] at a3
      exact absurd (h258.symm.trans a3) (fun e => nomatch e)
  have C2 : SL.C2 X0 := { toC1 := C1, cd := C'.1, ba := hba }
  have hlen : ns.length ≤ 63 := by lia
  have hbl : SL.BaseList X0 l (SL.iL ns) := ⟨its.toArray, hL', by rw [List.toList_toArray]; exact SL.abs_ints hI⟩
  have hA : SL.OkA callerA 14 := ⟨by decide, by decide, rfl, rfl⟩
  have key := SL.f_law C2 (A := callerA) (σ := SL.St.set SL.St.emp 258 (.tab #[])) (E := fun _ _ => False) hbl hlen (SL.St.set_self _ _ _) hA
  refine codeAny_mono (key SL.St.emp s₁ (.ref 346) [.ref l] rfl rfl (fun _ _ _ => rfl) ?_) fun r s' h => ?_
  · refine ⟨fun b o e => of_hideAll _ e, fun a o e => ?_, Nat.le_of_eq (hideAll_size _ _), trivial, hg, rfl, fun env he => by cases he⟩
    rw [SL.St.un_emp] at e
    by_cases q : a = 258
    · subst q
      rw [SL.St.set_self] at e; cases e
      exact ⟨⟨h258, .inr rfl⟩, _, (hT9 _ (.head _)).2, rfl⟩
    · rw [SL.St.set_ne _ q] at e; cases e
  · cases r with
    | error e => exact h.elim
    | ok fl =>
      cases fl with
      | ret v =>
        obtain ⟨σ', D, R, hv, ps, hps⟩ := h
        have hv' := SL.abs_bool hv
        subst hv'
        refine ⟨⟨.inl ⟨_, .bool true, [], rfl, fun _ => rfl, .bool true, by kernel_rfl, fun _ => ⟨List.nodup_nil, fun a ha => by cases ha⟩⟩, R.keep, R.os, R.gens⟩, ?_, trivial⟩
        rw [SL.St.un_emp] at R
        obtain ⟨ob, g1, g2⟩ := (R.own 258 _ hps).2
        exact ⟨ps, by rw [g1]; exact congrArg some g2⟩
      | next => exact h.elim
      | brk => exact h.elim
      | cont => exact h.elim)

end
