import PyProof.Rows.All
import Wide.All
import OpenK.AllK
import Wide.FinOn
import Lean
import PySem.Challenge.RW_fe5003_01
open PySem PySem.W PyProof.Rows
set_option Elab.async false
set_option autoImplicit false
set_option linter.unusedVariables false
set_option linter.unusedSimpArgs false
namespace Mine

/-- abstract values -/
inductive AV where
  | none | bool (b : Bool) | int (i : Int) | str (x : Str) | ref (a : Addr) | bad
  deriving DecidableEq

def av : Value → AV
  | .none => .none
  | .bool b => .bool b
  | .int i _ => .int i
  | .str x _ => .str x
  | .ref a => .ref a
  | _ => .bad

/-- abstract objects; keys are coded -/
inductive AO where
  | list (xs : List AV)
  | tup (xs : List AV)
  | dict (kvs : List (Nat × AV))
  | inst (C d : Addr) (kvs : List (Nat × AV))
  | cell (v : Option AV)
  | tab

abbrev AH := Addr → Option AO
def upd (H : AH) (a : Addr) (o : AO) : AH := fun b => if b = a then some o else H b
theorem upd_same (H : AH) (a : Addr) (o : AO) : upd H a o a = some o := by simp [upd]
theorem upd_ne (H : AH) {a b : Addr} (o : AO) (h : b ≠ a) : upd H a o b = H b := by simp [upd, h]

def keyTab : List Str := ["type", "raw", "children", "attrs", "url", "sign", "len", "open", "close", "orig", "index", "marker", "length", "can_open", "can_close", "orig_length", "order", "_tree", "_next"]
def ks (i : Nat) : Str := keyTab.getD i ""

structure Cx where
  prog : Program
  w : World
  K : Frag
  hB : Heap
  scr : Addr
  osb : OsState
  p : Program
  loose : List Str
  mg : Str → Option Value
  mb : Str → Option Value
  cls : Addr → Bool
  tab : Addr

/-- what the written part says of a class's names -/
def attrOk (K : Frag) (C : Addr) (x : Str) : Bool := plainGet K C x && hasDictIn K C && (match findIn K (.ref C) x with
    | some a => noGet K a
    | none => false) && findIn K (.ref C) "__setattr__" == some (some (.builtin "object.__setattr__")) && plainOver K C && takerIn K C x == some none

structure Cx.Ok (c : Cx) : Prop where
  kin : c.K.In c.hB
  top : TopRead c.p c.loose c.mg c.mb c.hB
  scrIn : ∃ o, c.hB.get? c.scr = some o
  sys : (c.hB.get? sysModules).isSome = true
  scrSys : c.scr ≠ sysModules
  attr : ∀ C, c.cls C = true → ∀ k, k < 19 → attrOk c.K C (ks k) = true
  tabScr : c.tab ≠ c.scr
  bmod : ∃ bm ob, BMod c.hB mainGlobals c.mg bm ob

inductive AttrRel : List DictEntry → List (Nat × AV) → Prop
  | nil : AttrRel [] []
  | cons {e : DictEntry} {k : Nat} {t : Tok} {v : AV} {es : List DictEntry} {kvs : List (Nat × AV)} : e.key = .str (ks k) t → k < 19 → av e.val = v → AttrRel es kvs → AttrRel (e :: es) ((k, v) :: kvs)
def attrsAre (c : Cx) (C : Addr) (od : Obj) (kvs : List (Nat × AV)) : Prop := c.cls C = true ∧ ∃ es n, od = dictOf es n ∧ AttrRel es kvs

def RepO (c : Cx) (h : Heap) (a : Addr) : AO → Prop
  | .list xs => ∃ vs : List Value, h.IsList a vs.toArray ∧ vs.map av = xs ∧ (a ≠ c.scr → ∃ n, h.get? a = some (listOf vs.toArray n))
  | .tup xs => ∃ vs : List Value, h.IsTuple a vs.toArray ∧ vs.map av = xs
  | .dict kvs => ∃ cvs : List (Str × Value), h.DictOf (strKind c.prog c.w) a cvs ∧ cvs.map (fun p => (p.1, av p.2)) = kvs.map (fun p => (ks p.1, p.2)) ∧ ∀ p ∈ kvs, p.1 < 19
  | .inst C d kvs => ∃ od, h.get? a = some (instObj C d) ∧ h.get? d = some od ∧ attrsAre c C od kvs ∧ a ≠ d
  | .cell v => ∃ cv, h.IsCell a cv ∧ cv.map av = v
  | .tab => ∃ ps : Array Value, h.get? a = some { cls := .none, data := .fields ps } ∧ TriplesOk ps.toList

theorem RepO.mkList {c : Cx} {h : Heap} {a : Addr} {vs : List Value} {n : Nat} {xs : List AV} (e : h.get? a = some (listOf vs.toArray n)) (hx : vs.map av = xs) : RepO c h a (.list xs) :=
  ⟨vs, ⟨_, e, rfl, _, rfl⟩, hx, fun _ => ⟨n, e⟩⟩
theorem RepO.live {c : Cx} {h : Heap} {a : Addr} {o : AO} (r : RepO c h a o) : ∃ O, h.get? a = some O := by
  cases o with
  | list xs => obtain ⟨vs, ⟨O, h1, _⟩, _⟩ := r; exact ⟨O, h1⟩
  | tup xs => obtain ⟨vs, ⟨O, h1, _⟩, _⟩ := r; exact ⟨O, h1⟩
  | dict kvs => obtain ⟨cvs, ⟨O, _, _, h1, _⟩, _⟩ := r; exact ⟨O, h1⟩
  | inst C d kvs => obtain ⟨od, h1, _⟩ := r; exact ⟨_, h1⟩
  | cell v => obtain ⟨cv, ⟨O, h1, _⟩, _⟩ := r; exact ⟨O, h1⟩
  | tab => obtain ⟨ps, h1, _⟩ := r; exact ⟨_, h1⟩

/-- the concrete address that bears an object's changing part -/
def seat (a : Addr) : AO → Addr
  | .inst _ d _ => d
  | _ => a

theorem RepO.keeps {c : Cx} {h h' : Heap} {a : Addr} {o : AO} (r : RepO c h a o) (k : ∀ O, h.get? a = some O → h'.get? a = some O)
    (kd : ∀ C d kvs, o = .inst C d kvs → ∀ O, h.get? d = some O → h'.get? d = some O) : RepO c h' a o := by
  cases o with
  | list xs => obtain ⟨vs, ⟨O, h1, h2⟩, h3, h4⟩ := r; exact ⟨vs, ⟨O, k _ h1, h2⟩, h3, fun q => let ⟨n, e⟩ := h4 q; ⟨n, k _ e⟩⟩
  | tup xs => obtain ⟨vs, ⟨O, h1, h2⟩, h3⟩ := r; exact ⟨vs, ⟨O, k _ h1, h2⟩, h3⟩
  | dict kvs => obtain ⟨cvs, ⟨O, es, ep, h1, h2⟩, h3⟩ := r; exact ⟨cvs, ⟨O, es, ep, k _ h1, h2⟩, h3⟩
  | inst C d kvs => obtain ⟨od, h1, h2, h3⟩ := r; exact ⟨od, k _ h1, kd _ _ _ rfl _ h2, h3⟩
  | cell v => obtain ⟨cv, ⟨O, h1, h2⟩, h3⟩ := r; exact ⟨cv, ⟨O, k _ h1, h2⟩, h3⟩
  | tab => obtain ⟨ps, h1, h2⟩ := r; exact ⟨ps, k _ h1, h2⟩

def LocsAre (names : List Str) (l : List AV) (mc : Str → Option Value) : Prop :=
  ∀ (i : Nat) (x : Str) (v : AV), names[i]? = some x → l[i]? = some v → v ≠ .bad → ∃ cv, mc x = some cv ∧ av cv = v

def Own (c : Cx) (H : AH) (b : Addr) : Prop := (b ≠ c.scr ∧ ∃ o, H b = some o) ∨ ∃ a C kvs, H a = some (.inst C b kvs)

structure Rep (c : Cx) (F : Addr → Option Obj) (L : Addr) (names : List Str) (l : List AV) (H : AH) (s : Shared) : Prop where
  ok : c.Ok
  keep : ∀ b o, F b = some o → s.heap.get? b = some o
  base : ∀ b o, c.hB.get? b = some o → F b = some o
  objs : ∀ a o, H a = some o → RepO c s.heap a o
  own : ∀ b, Own c H b → F b = none
  inst : ∀ a C d kvs, H a = some (.inst C d kvs) → H d = none
  inj : ∀ a a' C C' d kvs kvs', H a = some (.inst C d kvs) → H a' = some (.inst C' d kvs') → a = a'
  gens : AllBare s.gens
  os : s.os = c.osb
  ns : ∃ mc, s.heap.Ns L mc ∧ LocsAre names l mc
  offF : F L = none
  offO : ¬ Own c H L
  above : c.hB.objs.size ≤ L
  tab : H c.tab = some .tab

section
variable {c : Cx} {F : Addr → Option Obj} {L : Addr} {names : List Str} {l : List AV} {H : AH} {s : Shared}

theorem Rep.fr (R : Rep c F L names l H s) : ∃ mc, Fr c.hB L s.heap mc ∧ LocsAre names l mc := by
  obtain ⟨mc, h1, h2⟩ := R.ns
  exact ⟨mc, ⟨h1, fun b o e => R.keep _ _ (R.base _ _ e), R.above⟩, h2⟩
theorem Rep.kin (R : Rep c F L names l H s) : c.K.In s.heap := R.ok.kin.keeps fun b o e => R.keep _ _ (R.base _ _ e)
theorem Rep.scrNeL (R : Rep c F L names l H s) : c.scr ≠ L := by
  obtain ⟨o, h⟩ := R.ok.scrIn
  exact Nat.ne_of_lt (Nat.lt_of_lt_of_le (Heap.lt_size h) R.above)
theorem Rep.offH (R : Rep c F L names l H s) : H L = none := by
  cases h : H L with
  | none => rfl
  | some o => exact absurd (.inl ⟨R.scrNeL.symm, o, h⟩) R.offO
theorem Rep.neL (R : Rep c F L names l H s) {a : Addr} {o : AO} (h : H a = some o) : a ≠ L := by
  rintro rfl; rw [R.offH] at h; cases h
theorem Rep.live (R : Rep c F L names l H s) {a : Addr} {o : AO} (h : H a = some o) : ∃ O, s.heap.get? a = some O := (R.objs _ _ h).live
theorem Rep.lt (R : Rep c F L names l H s) {a : Addr} {o : AO} (h : H a = some o) : a < s.heap.objs.size := let ⟨_, h⟩ := R.live h; Heap.lt_size h
theorem Rep.fresh (R : Rep c F L names l H s) {a : Addr} (h : s.heap.get? a = none) : H a = none := by
  cases e : H a with
  | none => rfl
  | some o => obtain ⟨O, h'⟩ := R.live e; rw [h] at h'; cases h'
theorem Rep.freshD (R : Rep c F L names l H s) {d : Addr} (h : s.heap.get? d = none) : ¬ Own c H d := by
  rintro (⟨_, o, e⟩ | ⟨a, C, kvs, e⟩)
  · rw [R.fresh h] at e; cases e
  · obtain ⟨od, _, h2, _⟩ := R.objs _ _ e; rw [h] at h2; cases h2
theorem Rep.noSys (R : Rep c F L names l H s) {a : Addr} {o : AO} (h : H a = some o) : (a == sysModules) = false := by
  by_cases q : a = sysModules
  · subst q
    obtain ⟨ob, ho⟩ := Option.isSome_iff_exists.mp R.ok.sys
    have h1 := R.own _ (.inl ⟨fun e => R.ok.scrSys e.symm, o, h⟩)
    rw [R.base _ _ ho] at h1; cases h1
  · simp [q]

/-- nothing that was there is changed -/
structure Ext (s s' : Shared) : Prop where
  heap : ∀ b o, s.heap.get? b = some o → s'.heap.get? b = some o
  gens : s'.gens = s.gens
  os : s'.os = s.os
theorem Ext.refl (s : Shared) : Ext s s := ⟨fun _ _ e => e, rfl, rfl⟩
theorem Ext.trans {s s' s'' : Shared} (a : Ext s s') (b : Ext s' s'') : Ext s s'' := ⟨fun x o e => b.heap _ _ (a.heap _ _ e), b.gens.trans a.gens, b.os.trans a.os⟩
theorem Ext.push (s : Shared) (o : Obj) : Ext s { s with heap := s.heap.push o } := ⟨fun _ _ e => Heap.get?_push_of_some _ e, rfl, rfl⟩
theorem Ext.toks (s : Shared) (t : Nat) : Ext s { s with toks := t } := ⟨fun _ _ e => e, rfl, rfl⟩
theorem Ext.pushT (s : Shared) (o : Obj) (t : Nat) : Ext s { s with heap := s.heap.push o, toks := t } := ⟨fun _ _ e => Heap.get?_push_of_some _ e, rfl, rfl⟩

theorem Rep.ext {s' : Shared} (R : Rep c F L names l H s) (e : Ext s s') : Rep c F L names l H s' where
  ok := R.ok
  keep b o h := e.heap _ _ (R.keep _ _ h)
  base := R.base
  objs a o h := (R.objs _ _ h).keeps (e.heap _) (fun _ d _ _ => e.heap d)
  own := R.own
  inst := R.inst
  inj := R.inj
  gens := by rw [e.gens]; exact R.gens
  os := e.os.trans R.os
  ns := let ⟨mc, h1, h2⟩ := R.ns; ⟨mc, h1.keeps e.heap, h2⟩
  offF := R.offF
  offO := R.offO
  above := R.above
  tab := R.tab

/-- a new object of one seat -/
theorem Rep.alloc {s' : Shared} {a : Addr} {o : AO} (R : Rep c F L names l H s) (e : Ext s s') (hf : s.heap.get? a = none) (hr : RepO c s'.heap a o) (ho : ∀ C d kvs, o ≠ .inst C d kvs) :
    H a = none ∧ Rep c F L names l (upd H a o) s' := by
  have ha := R.fresh hf
  have hd := R.freshD hf
  have R' := R.ext e
  have low : ∀ b, Own c (upd H a o) b → b = a ∨ Own c H b := by
    rintro b (⟨h1, o', h2⟩ | ⟨a', C, kvs, h2⟩)
    · by_cases q : b = a
      · exact .inl q
      · rw [upd_ne _ _ q] at h2; exact .inr (.inl ⟨h1, o', h2⟩)
    · by_cases q : a' = a
      · subst q; rw [upd_same] at h2; exact absurd (Option.some.inj h2) (ho _ _ _)
      · rw [upd_ne _ _ q] at h2; exact .inr (.inr ⟨a', C, kvs, h2⟩)
  have old : ∀ {a' C d kvs}, upd H a o a' = some (.inst C d kvs) → H a' = some (.inst C d kvs) := by
    intro a' C d kvs h
    by_cases q : a' = a
    · subst q; rw [upd_same] at h; exact absurd (Option.some.inj h) (ho _ _ _)
    · rwa [upd_ne _ _ q] at h
  refine ⟨ha, ⟨R.ok, R'.keep, R.base, ?_, ?_, ?_, ?_, R'.gens, R'.os, R'.ns, R.offF, ?_, R.above, by rw [upd_ne _ _ (fun e => by rw [← e, R.tab] at ha; cases ha)]; exact R.tab⟩⟩
  · intro b o' h
    by_cases q : b = a
    · subst q; rw [upd_same] at h; cases h; exact hr
    · rw [upd_ne _ _ q] at h; exact R'.objs _ _ h
  · intro b h
    rcases low b h with rfl | h
    · cases q : F b with
      | none => rfl
      | some x => have := R.keep _ _ q; rw [hf] at this; cases this
    · exact R.own _ h
  · intro a' C d kvs h
    have h9 := old h
    have : d ≠ a := fun e => hd (.inr ⟨_, _, _, e ▸ h9⟩)
    rw [upd_ne _ _ this]; exact R.inst _ _ _ _ h9
  · intro a' a'' C C' d kvs kvs' h h'
    exact R.inj _ _ _ _ _ _ _ (old h) (old h')
  · intro h
    rcases low L h with q | h
    · obtain ⟨mc, hn, _⟩ := R.ns
      obtain ⟨oL, _, _, hL, _⟩ := hn
      rw [q, hf] at hL; cases hL
    · exact R.offO h

/-- a new thing with its table -/
theorem Rep.allocI {s' : Shared} {a C d : Addr} {kvs : List (Nat × AV)} (R : Rep c F L names l H s) (e : Ext s s') (hf : s.heap.get? a = none) (hf' : s.heap.get? d = none) (hr : RepO c s'.heap a (.inst C d kvs)) :
    H a = none ∧ Rep c F L names l (upd H a (.inst C d kvs)) s' := by
  have ha := R.fresh hf
  have hd := R.freshD hf
  have hd' := R.freshD hf'
  have R' := R.ext e
  obtain ⟨_, _, _, _, nad⟩ := id hr
  have low : ∀ b, Own c (upd H a (.inst C d kvs)) b → b = a ∨ b = d ∨ Own c H b := by
    rintro b (⟨h1, o', h2⟩ | ⟨a', C', kvs', h2⟩)
    · by_cases q : b = a
      · exact .inl q
      · rw [upd_ne _ _ q] at h2; exact .inr (.inr (.inl ⟨h1, o', h2⟩))
    · by_cases q : a' = a
      · subst q; rw [upd_same] at h2; cases h2; exact .inr (.inl rfl)
      · rw [upd_ne _ _ q] at h2; exact .inr (.inr (.inr ⟨a', C', kvs', h2⟩))
  have nF : ∀ b, s.heap.get? b = none → F b = none := by
    intro b hb
    cases q : F b with
    | none => rfl
    | some x => have := R.keep _ _ q; rw [hb] at this; cases this
  have nL : ∀ b, s.heap.get? b = none → L ≠ b := by
    rintro b hb rfl
    obtain ⟨mc, hn, _⟩ := R.ns
    obtain ⟨oL, _, _, hL, _⟩ := hn
    rw [hb] at hL; cases hL
  refine ⟨ha, ⟨R.ok, R'.keep, R.base, ?_, ?_, ?_, ?_, R'.gens, R'.os, R'.ns, R.offF, ?_, R.above, by rw [upd_ne _ _ (fun e => by rw [← e, R.tab] at ha; cases ha)]; exact R.tab⟩⟩
  · intro b o' h
    by_cases q : b = a
    · subst q; rw [upd_same] at h; cases h; exact hr
    · rw [upd_ne _ _ q] at h; exact R'.objs _ _ h
  · intro b h
    rcases low b h with rfl | rfl | h
    · exact nF _ hf
    · exact nF _ hf'
    · exact R.own _ h
  · intro a' C' d' kvs' h
    by_cases q : a' = a
    · subst q; rw [upd_same] at h; cases h
      rw [upd_ne _ _ (Ne.symm nad)]; exact R.fresh hf'
    · rw [upd_ne _ _ q] at h
      have : d' ≠ a := by rintro rfl; exact hd (.inr ⟨_, _, _, h⟩)
      rw [upd_ne _ _ this]; exact R.inst _ _ _ _ h
  · intro a' a'' C' C'' d' kvs' kvs'' h h'
    by_cases q : a' = a
    · subst q; rw [upd_same] at h; cases h
      by_cases q' : a'' = a'
      · exact q'.symm
      · rw [upd_ne _ _ q'] at h'; exact absurd (.inr ⟨_, _, _, h'⟩) hd'
    · rw [upd_ne _ _ q] at h
      by_cases q' : a'' = a
      · subst q'; rw [upd_same] at h'; cases h'; exact absurd (.inr ⟨_, _, _, h⟩) hd'
      · rw [upd_ne _ _ q'] at h'; exact R.inj _ _ _ _ _ _ _ h h'
  · intro h
    rcases low L h with q | q | h
    · exact nL _ hf q
    · exact nL _ hf' q
    · exact R.offO h

/-- an object's changing part is written anew -/
theorem Rep.writeL {s' : Shared} {a : Addr} {o o' : AO} (R : Rep c F L names l H s) (ha : H a = some o) (k : ∀ b, b ≠ seat a o → b ≠ L → ∀ O, s.heap.get? b = some O → s'.heap.get? b = some O) (hns : ∃ mc, s'.heap.Ns L mc ∧ LocsAre names l mc)
    (hg : s'.gens = s.gens) (hos : s'.os = s.os) (hscr : a ≠ c.scr)
    (hr : RepO c s'.heap a o') (he : ∀ C d kvs, o' = .inst C d kvs → ∃ kvs', o = .inst C d kvs') (ht : o = .tab → o' = .tab := by (intro e; cases e)) : Rep c F L names l (upd H a o') s' := by
  have oseat : Own c H (seat a o) := by
    cases o with
    | inst C d kvs => exact .inr ⟨_, _, _, ha⟩
    | list xs => exact .inl ⟨hscr, _, ha⟩
    | tup xs => exact .inl ⟨hscr, _, ha⟩
    | dict xs => exact .inl ⟨hscr, _, ha⟩
    | cell xs => exact .inl ⟨hscr, _, ha⟩
    | tab => exact .inl ⟨hscr, _, ha⟩
  have low : ∀ b, Own c (upd H a o') b → Own c H b := by
    rintro b (⟨h1, o1, h2⟩ | ⟨a', C', kvs', h2⟩)
    · by_cases q : b = a
      · subst q; exact .inl ⟨h1, _, ha⟩
      · rw [upd_ne _ _ q] at h2; exact .inl ⟨h1, o1, h2⟩
    · by_cases q : a' = a
      · subst q; rw [upd_same] at h2
        obtain ⟨kvs2, e⟩ := he _ _ _ (Option.some.inj h2)
        exact .inr ⟨_, _, _, e ▸ ha⟩
      · rw [upd_ne _ _ q] at h2; exact .inr ⟨a', C', kvs', h2⟩
  have old : ∀ {a' C d kvs}, upd H a o' a' = some (.inst C d kvs) → ∃ kvs', H a' = some (.inst C d kvs') := by
    intro a' C d kvs h
    by_cases q : a' = a
    · subst q; rw [upd_same] at h
      obtain ⟨kvs2, e⟩ := he _ _ _ (Option.some.inj h)
      exact ⟨kvs2, e ▸ ha⟩
    · rw [upd_ne _ _ q] at h; exact ⟨_, h⟩
  have nseat : ∀ {b : Addr}, F b ≠ none → b ≠ seat a o := by
    rintro b hb rfl
    exact hb (R.own _ oseat)
  have nL : ∀ {b : Addr}, F b ≠ none → b ≠ L := by rintro b hb rfl; exact hb R.offF
  refine ⟨R.ok, ?_, R.base, ?_, fun b h => R.own _ (low b h), ?_, ?_, by rw [hg]; exact R.gens, hos.trans R.os, hns, R.offF, fun h => R.offO (low _ h), R.above, ?_⟩
  · intro b x h
    exact k b (nseat (by rw [h]; simp)) (nL (by rw [h]; simp)) _ (R.keep _ _ h)
  · intro b o1 h
    by_cases q : b = a
    · subst q; rw [upd_same] at h; cases h; exact hr
    · rw [upd_ne _ _ q] at h
      refine (R.objs _ _ h).keeps (fun O hO => k b ?_ (R.neL h) _ hO) fun C d kvs e O hO => k d ?_ ?_ _ hO
      · intro e
        cases o with
        | inst C d kvs => have := R.inst _ _ _ _ ha; rw [show d = b from e.symm, h] at this; cases this
        | list xs => exact q e
        | tup xs => exact q e
        | dict xs => exact q e
        | cell xs => exact q e
        | tab => exact q e
      · subst e
        intro e
        cases o with
        | inst C' d' kvs' => exact q (R.inj _ _ _ _ _ _ _ h (show H a = some (.inst C' d kvs') from by rw [e]; exact ha))
        | list xs => have := R.inst _ _ _ _ h; rw [show d = a from e, ha] at this; cases this
        | tup xs => have := R.inst _ _ _ _ h; rw [show d = a from e, ha] at this; cases this
        | dict xs => have := R.inst _ _ _ _ h; rw [show d = a from e, ha] at this; cases this
        | cell xs => have := R.inst _ _ _ _ h; rw [show d = a from e, ha] at this; cases this
        | tab => have := R.inst _ _ _ _ h; rw [show d = a from e, ha] at this; cases this
      · subst e
        rintro rfl; exact R.offO (.inr ⟨_, _, _, h⟩)
  · intro a' C d kvs h
    obtain ⟨kvs', h⟩ := old h
    have h0 := R.inst _ _ _ _ h
    have : d ≠ a := by rintro rfl; rw [ha] at h0; cases h0
    rw [upd_ne _ _ this]; exact h0
  · intro a' a'' C C' d kvs kvs' h h'
    obtain ⟨_, h⟩ := old h
    obtain ⟨_, h'⟩ := old h'
    exact R.inj _ _ _ _ _ _ _ h h'
  · by_cases q : c.tab = a
    · have := R.tab; rw [q, ha] at this
      rw [q, upd_same, ht (Option.some.inj this)]
    · rw [upd_ne _ _ q]; exact R.tab
theorem Rep.write {s' : Shared} {a : Addr} {o o' : AO} (R : Rep c F L names l H s) (ha : H a = some o) (hs : Heap.SameBut (seat a o) s.heap s'.heap) (hg : s'.gens = s.gens) (hos : s'.os = s.os) (hscr : a ≠ c.scr)
    (hr : RepO c s'.heap a o') (he : ∀ C d kvs, o' = .inst C d kvs → ∃ kvs', o = .inst C d kvs') (ht : o = .tab → o' = .tab := by (intro e; cases e)) : Rep c F L names l (upd H a o') s' := by
  have oseat : Own c H (seat a o) := by
    cases o with
    | inst C d kvs => exact .inr ⟨_, _, _, ha⟩
    | list xs => exact .inl ⟨hscr, _, ha⟩
    | tup xs => exact .inl ⟨hscr, _, ha⟩
    | dict xs => exact .inl ⟨hscr, _, ha⟩
    | cell xs => exact .inl ⟨hscr, _, ha⟩
    | tab => exact .inl ⟨hscr, _, ha⟩
  have LneS : L ≠ seat a o := by rintro rfl; exact R.offO oseat
  obtain ⟨mc, h1, h2⟩ := R.ns
  exact R.writeL ha (fun b hb _ O hO => (hs.2 b hb).trans hO) ⟨mc, h1.sameBut hs LneS, h2⟩ hg hos hscr hr he ht

/-- a local is stored -/
theorem Rep.store {s' : Shared} {i : Nat} {x : Str} {v : Value} {h' : Heap} (R : Rep c F L names l H s) (hi : names[i]? = some x) (hnd : names.Nodup) {mc : Str → Option Value}
    (h2 : LocsAre names l mc)
    (hn : h'.Ns L (fun y => if y = x then some v else mc y)) (hs : Heap.SameBut L s.heap h') (hh : s'.heap = h') (hg : s'.gens = s.gens) (hos : s'.os = s.os) :
    Rep c F L names (l.set i (av v)) H s' := by
  subst hh
  have nL : ∀ {b : Addr}, F b ≠ none → b ≠ L := by rintro b hb rfl; exact hb R.offF
  refine ⟨R.ok, fun b o h => (hs.2 b (nL (by rw [h]; simp))).trans (R.keep _ _ h), R.base, ?_, R.own, R.inst, R.inj, by rw [hg]; exact R.gens, hos.trans R.os, ⟨_, hn, ?_⟩, R.offF, R.offO, R.above, R.tab⟩
  · intro a o h
    refine (R.objs _ _ h).keeps (fun O hO => (hs.2 a (R.neL h)).trans hO) fun C d kvs e O hO => (hs.2 d ?_).trans hO
    subst e; rintro rfl; exact R.offO (.inr ⟨_, _, _, h⟩)
  · intro j y u hj hu hb
    by_cases q : j = i
    · subst q
      rw [hi] at hj; cases hj
      dsimp only
      rw [if_pos rfl]
      rw [List.getElem?_set] at hu
      simp only [if_true] at hu
      split at hu
      · cases hu; exact ⟨v, rfl, rfl⟩
      · cases hu
    · have hy : y ≠ x := by
        rintro rfl
        obtain ⟨q1, q2⟩ := List.getElem?_eq_some_iff.mp hj
        obtain ⟨q3, q4⟩ := List.getElem?_eq_some_iff.mp hi
        exact q ((List.getElem_inj hnd).mp (q2.trans q4.symm))
      dsimp only
      rw [if_neg hy]
      rw [List.getElem?_set_ne (Ne.symm q)] at hu
      exact h2 _ _ _ hj hu hb

theorem Rep.add {a : Addr} {o : AO} (R : Rep c F L names l H s) (ha : H a = none) (hn : ¬ Own c H a) (hF : F a = none) (hL : L ≠ a) (hr : RepO c s.heap a o) (ho : ∀ C d kvs, o ≠ .inst C d kvs) :
    Rep c F L names l (upd H a o) s := by
  have low : ∀ b, Own c (upd H a o) b → b = a ∨ Own c H b := by
    rintro b (⟨h1, o', h2⟩ | ⟨a', C, kvs, h2⟩)
    · by_cases q : b = a
      · exact .inl q
      · rw [upd_ne _ _ q] at h2; exact .inr (.inl ⟨h1, o', h2⟩)
    · by_cases q : a' = a
      · subst q; rw [upd_same] at h2; exact absurd (Option.some.inj h2) (ho _ _ _)
      · rw [upd_ne _ _ q] at h2; exact .inr (.inr ⟨a', C, kvs, h2⟩)
  have old : ∀ {a' C d kvs}, upd H a o a' = some (.inst C d kvs) → H a' = some (.inst C d kvs) := by
    intro a' C d kvs h
    by_cases q : a' = a
    · subst q; rw [upd_same] at h; exact absurd (Option.some.inj h) (ho _ _ _)
    · rwa [upd_ne _ _ q] at h
  refine ⟨R.ok, R.keep, R.base, ?_, ?_, ?_, ?_, R.gens, R.os, R.ns, R.offF, ?_, R.above, by rw [upd_ne _ _ (fun e => by rw [← e, R.tab] at ha; cases ha)]; exact R.tab⟩
  · intro b o' h
    by_cases q : b = a
    · subst q; rw [upd_same] at h; cases h; exact hr
    · rw [upd_ne _ _ q] at h; exact R.objs _ _ h
  · intro b h
    rcases low b h with rfl | h
    · exact hF
    · exact R.own _ h
  · intro a' C d kvs h
    have h9 := old h
    have : d ≠ a := fun e => hn (.inr ⟨_, _, _, e ▸ h9⟩)
    rw [upd_ne _ _ this]; exact R.inst _ _ _ _ h9
  · intro a' a'' C C' d kvs kvs' h h'
    exact R.inj _ _ _ _ _ _ _ (old h) (old h')
  · intro h
    rcases low L h with q | h
    · exact hL q
    · exact R.offO h

theorem Rep.freshF (R : Rep c F L names l H s) {a : Addr} (h : s.heap.get? a = none) : F a = none := by
  cases q : F a with
  | none => rfl
  | some x => have := R.keep _ _ q; rw [h] at this; cases this
theorem Rep.freshS (R : Rep c F L names l H s) {a : Addr} (h : s.heap.get? a = none) : a ≠ c.scr := by
  rintro rfl
  obtain ⟨o, ho⟩ := R.ok.scrIn
  rw [R.keep _ _ (R.base _ _ ho)] at h; cases h
theorem Rep.freshL (R : Rep c F L names l H s) {a : Addr} (h : s.heap.get? a = none) : L ≠ a := by
  rintro rfl
  obtain ⟨mc, hn, _⟩ := R.ns
  obtain ⟨oL, _, _, hL, _⟩ := hn
  rw [h] at hL; cases hL

/-- every live object but the locals and the base -/
def liveNews (hB h : Heap) (L : Addr) : List (Addr × Obj) := (List.range h.objs.size).filterMap fun a => match h.get? a with
  | some o => if a = L ∨ (hB.get? a).isSome = true then none else some (a, o)
  | none => none
theorem mem_liveNews {hB h : Heap} {L a : Addr} {o : Obj} : (a, o) ∈ liveNews hB h L ↔ h.get? a = some o ∧ a ≠ L ∧ hB.get? a = none := by
  unfold liveNews
  rw [List.mem_filterMap]
  constructor
  · rintro ⟨b, _, hb⟩
    split at hb
    · rename_i o' ho
      split at hb
      · cases hb
      · rename_i q
        cases hb
        rw [not_or] at q
        exact ⟨ho, q.1, by simpa using q.2⟩
    · cases hb
  · rintro ⟨h1, h2, h3⟩
    refine ⟨a, List.mem_range.mpr (Heap.lt_size h1), ?_⟩
    rw [h1]; simp [h2, h3]

/-- a rule of the library over frame and ledger, taken at our state -/
theorem Rep.via (R : Rep c F L names l H s) : ∃ mc news, Fr c.hB L s.heap mc ∧ News c.hB L s.heap news ∧ ∀ (h' : Heap) (news' : List (Addr × Obj)) (s' : Shared), Fr c.hB L h' mc → News c.hB L h' news' → (∀ p ∈ news, p ∈ news') →
    s'.heap = h' → s'.gens = s.gens → s'.os = s.os → Rep c F L names l H s' := by
  obtain ⟨mc, F1, h2⟩ := R.fr
  refine ⟨mc, liveNews c.hB s.heap L, F1, ?_, ?_⟩
  · rintro ⟨a, o⟩ hp
    exact mem_liveNews.mp hp
  · rintro h' news' s' F2 N2 sub rfl hg hos
    have k : ∀ b o, b ≠ L → s.heap.get? b = some o → s'.heap.get? b = some o := by
      intro b o hb ho
      cases q : c.hB.get? b with
      | none => exact (N2 _ (sub _ (mem_liveNews.mpr ⟨ho, hb, q⟩))).1
      | some x =>
        have h1 := F1.keep _ _ q
        rw [ho] at h1; cases h1
        exact F2.keep _ _ q
    have nL : ∀ {b : Addr}, F b ≠ none → b ≠ L := by rintro b hb rfl; exact hb R.offF
    refine ⟨R.ok, fun b o h => k _ _ (nL (by rw [h]; simp)) (R.keep _ _ h), R.base, ?_, R.own, R.inst, R.inj, by rw [hg]; exact R.gens, hos.trans R.os, ⟨mc, F2.ns, h2⟩, R.offF, R.offO, R.above, R.tab⟩
    intro a o h
    refine (R.objs _ _ h).keeps (fun O hO => k _ _ (R.neL h) hO) fun C d kvs e O hO => k _ _ ?_ hO
    subst e; rintro rfl; exact R.offO (.inr ⟨_, _, _, h⟩)
/-- the same with a new object -/
theorem Rep.viaNew (R : Rep c F L names l H s) : ∃ mc news, Fr c.hB L s.heap mc ∧ News c.hB L s.heap news ∧ (∀ a o, s.heap.get? a = some o → a ≠ L → c.hB.get? a = none → (a, o) ∈ news) ∧ ∀ (h' : Heap) (a : Addr) (O : Obj) (news' : List (Addr × Obj)) (s' : Shared) (o : AO), Fr c.hB L h' mc → News c.hB L h' news' → (∀ p ∈ news, p ∈ news') → (a, O) ∈ news' → s.heap.get? a = none →
    s'.heap = h' → s'.gens = s.gens → s'.os = s.os → RepO c h' a o → (∀ C d kvs, o ≠ .inst C d kvs) → H a = none ∧ Rep c F L names l (upd H a o) s' := by
  obtain ⟨mc, F1, h2⟩ := R.fr
  refine ⟨mc, liveNews c.hB s.heap L, F1, ?_, ?_, ?_⟩
  · rintro ⟨a, o⟩ hp
    exact mem_liveNews.mp hp
  · exact fun a o h h1 h2 => mem_liveNews.mpr ⟨h, h1, h2⟩
  · rintro h' a O news' s' o F2 N2 sub ha hfr rfl hg hos hr ho
    have R' : Rep c F L names l H s' := by
      have k : ∀ b o, b ≠ L → s.heap.get? b = some o → s'.heap.get? b = some o := by
        intro b o hb ho
        cases q : c.hB.get? b with
        | none => exact (N2 _ (sub _ (mem_liveNews.mpr ⟨ho, hb, q⟩))).1
        | some x =>
          have h1 := F1.keep _ _ q
          rw [ho] at h1; cases h1
          exact F2.keep _ _ q
      have nL : ∀ {b : Addr}, F b ≠ none → b ≠ L := by rintro b hb rfl; exact hb R.offF
      refine ⟨R.ok, fun b o h => k _ _ (nL (by rw [h]; simp)) (R.keep _ _ h), R.base, ?_, R.own, R.inst, R.inj, by rw [hg]; exact R.gens, hos.trans R.os, ⟨mc, F2.ns, h2⟩, R.offF, R.offO, R.above, R.tab⟩
      intro a o h
      refine (R.objs _ _ h).keeps (fun O hO => k _ _ (R.neL h) hO) fun C d kvs e O hO => k _ _ ?_ hO
      subst e; rintro rfl; exact R.offO (.inr ⟨_, _, _, h⟩)
    exact ⟨R.fresh hfr, R'.add (R.fresh hfr) (R.freshD hfr) (R.freshF hfr) (R.freshL hfr) hr ho⟩
end


mutual
inductive E where
  | none | bool (b : Bool) | int (i : Int) | str (x : Str)
  | var (x : Nat)
  | attr (x k : Nat)
  | item (e : E) (k : Nat)
  | sub (e i : E)
  | slice (e lo hi : E)
  | bin (op : Operator) (a b : E)
  | neg (a : E) | not (a : E)
  | and (a b : E) | or (a b : E)
  | cmp (op : CmpOp) (a b : E)
  | hasKey (k : Nat) (e : E)
  | ite (t a b : E)
  | list (es : Es) | tup (es : Es) | dict (ks : List Nat) (es : Es)
  | call (f : Addr) (es : Es)
  | meth (x : Nat) (C f : Addr) (es : Es)
  | append (x : Nat) (e : E) | pop (x : Nat)
  | len (e : E) | max2 (a b : E) | boolOf (e : E) | dictOf (e : E) | listOf (e : E) | rangeList (e : E)
inductive Es where
  | nil | cons (e : E) (es : Es)
end

mutual
inductive S where
  | assign (x : Nat) (e : E)
  | unpack (xs : List Nat) (e : E)
  | setAttr (o : E) (k : Nat) (v : E)
  | setItem (o : E) (k : Nat) (v : E)
  | setSub (o i v : E)
  | setSlice (o lo hi v : E)
  | augVar (op : Operator) (x : Nat) (e : E)
  | augAttr (op : Operator) (x k : Nat) (e : E)
  | augSub (op : Operator) (o : E) (i : Nat) (e : E)
  | expr (e : E)
  | ret (e : E)
  | ite (t : E) (a b : Ss)
  | while (t : E) (b : Ss)
  | forL (x : Nat) (e : E) (b : Ss)
  | forR (x : Nat) (lo hi : E) (b : Ss)
  | compPairs (x : Nat) (src : E) (k : Int)
  | extPairs (x z key w : Nat)
inductive Ss where
  | nil | cons (s : S) (ss : Ss)
end
inductive AFl where
  | next | ret (v : AV)

def Ok {α : Type} (o : Option α) (P : α → Prop) : Prop := match o with
  | some x => P x
  | Option.none => False
theorem Ok_some {α : Type} (x : α) (P : α → Prop) : Ok (some x) P = P x := rfl
theorem Ok_none {α : Type} (P : α → Prop) : Ok (Option.none : Option α) P = False := rfl
theorem Ok.elim {α : Type} {o : Option α} {P : α → Prop} (h : Ok o P) : ∃ x, o = some x ∧ P x := by
  cases o with
  | none => exact False.elim h
  | some x => exact ⟨x, rfl, h⟩

def getA (H : AH) (v : AV) (k : Nat) : Option AV := match v with
  | .ref a => (match H a with
    | some (.inst _ _ kvs) => kvs.lookup k
    | _ => Option.none)
  | _ => Option.none
def getK (H : AH) (v : AV) (k : Nat) : Option AV := match v with
  | .ref a => (match H a with
    | some (.dict kvs) => kvs.lookup k
    | _ => Option.none)
  | _ => Option.none
def getI (H : AH) (v i : AV) : Option AV := match v, i with
  | .ref a, .int j => (match H a with
    | some (.list xs) => if 0 ≤ j ∧ j < 4611686018427387904 then xs[j.toNat]? else Option.none
    | some (.tup xs) => if 0 ≤ j ∧ j < 4611686018427387904 then xs[j.toNat]? else Option.none
    | _ => Option.none)
  | _, _ => Option.none
/-- deep equality, by depth -/
inductive DE (H : AH) : Nat → AV → AV → Prop
  | none {n : Nat} : DE H n .none .none
  | bool {n : Nat} (b : Bool) : DE H n (.bool b) (.bool b)
  | int {n : Nat} (i : Int) : DE H n (.int i) (.int i)
  | str {n : Nat} (x : Str) : DE H n (.str x) (.str x)
  | same {n : Nat} (a : Addr) : DE H n (.ref a) (.ref a)
  | list {n : Nat} {a b : Addr} {xs ys : List AV} : H a = some (.list xs) → H b = some (.list ys) → xs.length = ys.length → (∀ (i : Nat) (x y : AV), xs[i]? = some x → ys[i]? = some y → DE H n x y) → DE H (n + 1) (.ref a) (.ref b)
  | dict {n : Nat} {a b : Addr} {xs ys : List (Nat × AV)} : H a = some (.dict xs) → H b = some (.dict ys) → xs.map (·.1) = ys.map (·.1) → (∀ (i : Nat) (x y : Nat × AV), xs[i]? = some x → ys[i]? = some y → DE H n x.2 y.2) → DE H (n + 1) (.ref a) (.ref b)

def flat2 : AV → AV → Bool
  | .none, .none | .none, .int _ | .none, .str _ | .int _, .none | .int _, .int _ | .int _, .str _ | .str _, .none | .str _, .int _ | .str _, .str _ => true
  | .bool _, .bool _ => true
  | _, _ => false
def listAt (H : AH) (v : AV) : Option (Addr × List AV) := match v with
  | .ref a => (match H a with
    | some (.list xs) => some (a, xs)
    | _ => Option.none)
  | _ => Option.none
def wTr (H : AH) (v : AV) (P : Bool → Prop) : Prop := match v with
  | .none => P false
  | .bool b => P b
  | .int i => P (decide (i ≠ 0))
  | .str x => x.length ≤ 10000 ∧ P (decide (x.length ≠ 0))
  | .ref a => Ok (listAt H (.ref a)) fun p => p.2.length ≤ 10000 ∧ P (!p.2.isEmpty)
  | .bad => False

def deepEq (H : AH) (v w : AV) : Prop := Ok (listAt H v) fun p => Ok (listAt H w) fun q => p.2.length = q.2.length ∧ ∀ (i : Nat) (x y : AV), p.2[i]? = some x → q.2[i]? = some y → DE H 50 x y

def wCmp (op : CmpOp) (v w : AV) (H : AH) (Q : AV → AH → Prop) : Prop := match op with
  | .Eq => flat2 v w = true ∧ Q (.bool (decide (v = w))) H
  | .NotEq => if flat2 v w = true then Q (.bool (decide (v ≠ w))) H else deepEq H v w ∧ Q (.bool false) H
  | .Lt => ∃ a b, v = .int a ∧ w = .int b ∧ Q (.bool (decide (a < b))) H
  | .LtE => ∃ a b, v = .int a ∧ w = .int b ∧ Q (.bool (decide (a ≤ b))) H
  | .Gt => ∃ a b, v = .int a ∧ w = .int b ∧ Q (.bool (decide (b < a))) H
  | .GtE => ∃ a b, v = .int a ∧ w = .int b ∧ Q (.bool (decide (b ≤ a))) H
  | .Is => (w = .none ∨ (∃ a b, v = .bool a ∧ w = .bool b)) ∧ Q (.bool (decide (v = w))) H
  | .IsNot => (w = .none ∨ (∃ a b, v = .bool a ∧ w = .bool b) ∨ ∃ a, v = .ref a ∧ w = .ref a) ∧ Q (.bool (decide (v ≠ w))) H
  | _ => False

def wBin (c : Cx) (op : Operator) (v w : AV) (H : AH) (Q : AV → AH → Prop) : Prop := match op, v, w with
  | .Add, .int a, .int b => Q (.int (a + b)) H
  | .Sub, .int a, .int b => Q (.int (a - b)) H
  | .Mult, .int a, .int b => -(2 ^ 62) < b ∧ b < 2 ^ 62 ∧ Q (.int (a * b)) H
  | .Mod, .int a, .int b => 0 < b ∧ Q (.int (a % b)) H
  | .FloorDiv, .int a, .int b => 0 < b ∧ b < 2 ^ 62 ∧ Q (.int (a / b)) H
  | .BitAnd, .int a, .int b => Q (.int (Builtin.bitAnd a b)) H
  | .Mult, .str x, .int b => x.length ≤ 16 ∧ 0 ≤ b ∧ b ≤ 1000 ∧ Q (.str (Txt.mul x b)) H
  | .Mult, .ref a, .int b => Ok (match H a with
      | some (.list xs) => some xs
      | _ => Option.none) fun xs => 0 ≤ b ∧ b < 2 ^ 62 ∧ xs.length * b.toNat ≤ 256 ∧ ∀ d, H d = Option.none → d ≠ c.scr → Q (.ref d) (upd H d (.list (List.replicate b.toNat xs).flatten))
  | .Add, .ref a, .ref b => Ok (match H a with
      | some (.list xs) => some xs
      | _ => Option.none) fun xs => Ok (match H b with
      | some (.list ys) => some ys
      | _ => Option.none) fun ys => xs.length + ys.length ≤ 10000 ∧ ∀ d, H d = Option.none → d ≠ c.scr → Q (.ref d) (upd H d (.list (xs ++ ys)))
  | _, _, _ => False


def partV : AV → Option (Option Int)
  | .none => some Option.none
  | .int i => some (some i)
  | _ => Option.none
/-- a list's cut between places at or above nought -/
def cutL {α : Type} (xs : List α) (lo hi : Option Int) : List α := ((match hi with
  | some j => xs.take j.toNat
  | Option.none => xs).drop (lo.getD 0).toNat)
def sCut (x : Str) (lo hi : Option Int) : Str := PySem.Txt.slice x lo hi
def okPart (o : Option Int) : Prop := ∀ i, o = some i → 0 ≤ i

def wSlice (c : Cx) (v lo hi : AV) (H : AH) (Q : AV → AH → Prop) : Prop := Ok (partV lo) fun lo => Ok (partV hi) fun hi => match v with
  | .str x => x.length ≤ 1000 ∧ Q (.str (sCut x lo hi)) H
  | .ref a => Ok (match H a with
      | some (.list xs) => some xs
      | _ => Option.none) fun xs => xs.length ≤ 10000 ∧ okPart lo ∧ okPart hi ∧ ∀ d, H d = Option.none → d ≠ c.scr → Q (.ref d) (upd H d (.list (cutL xs lo hi)))
  | _ => False

def dictAt (H : AH) (v : AV) : Option (Addr × List (Nat × AV)) := match v with
  | .ref a => (match H a with
    | some (.dict xs) => some (a, xs)
    | _ => Option.none)
  | _ => Option.none
def instAt (H : AH) (v : AV) : Option (Addr × Addr × Addr × List (Nat × AV)) := match v with
  | .ref a => (match H a with
    | some (.inst C d xs) => some (a, C, d, xs)
    | _ => Option.none)
  | _ => Option.none
def tupAt (H : AH) (v : AV) : Option (List AV) := match v with
  | .ref a => (match H a with
    | some (.tup xs) => some xs
    | _ => Option.none)
  | _ => Option.none
def intOf : AV → Option Int
  | .int i => some i
  | _ => Option.none
def strOf : AV → Option Str
  | .str i => some i
  | _ => Option.none
def putA : List (Nat × AV) → Nat → AV → List (Nat × AV)
  | [], k, v => [(k, v)]
  | p :: r, k, v => if p.1 = k then (k, v) :: r else p :: putA r k v

def Room (A : Around) (n : Nat) : Prop := A.handled = Option.none ∧ A.depth + n + 50 ≤ 1000 ∧ A.units + 20 * n + 300 ≤ 9900
def NoE : Value → Shared → Prop := fun _ _ => False

def wAug (op : Operator) (v w : AV) (Q : AV → Prop) : Prop := match op, v, w with
  | .Add, .int a, .int b => Q (.int (a + b))
  | .Sub, .int a, .int b => Q (.int (a - b))
  | _, _, _ => False
/-- what a call comes to -/
def Calls (c : Cx) (n : Nat) (fa : Addr) (vs : List AV) (H : AH) (Q : AV → AH → Prop) : Prop :=
  ∀ (A : Around) (F : Addr → Option Obj) (L : Addr) (names : List Str) (l : List AV) (s : Shared) (cvs : List Value), Room A n → Rep c F L names l H s → cvs.map av = vs →
    codeAny (model c.prog c.w) A (.call (.ref fa) ⟨cvs, []⟩) (fun r s' => match r with | .ok (.ret v) => ∃ H', Rep c F L names l H' s' ∧ Q (av v) H' | _ => False) s

section
variable (c : Cx) (n : Nat)
mutual
def wE : E → List AV → AH → (AV → AH → Prop) → Prop
  | .none, l, H, Q => Q .none H
  | .bool b, l, H, Q => Q (.bool b) H
  | .int i, l, H, Q => Q (.int i) H
  | .str x, l, H, Q => Q (.str x) H
  | .var x, l, H, Q => Ok l[x]? fun v => v ≠ .bad ∧ Q v H
  | .attr x k, l, H, Q => Ok l[x]? fun v => v ≠ .bad ∧ Ok (getA H v k) fun r => r ≠ .bad ∧ Q r H
  | .item e k, l, H, Q => wE e l H fun v H => Ok (getK H v k) fun r => Q r H
  | .sub e i, l, H, Q => wE e l H fun v H => wE i l H fun j H => Ok (getI H v j) fun r => Q r H
  | .slice e lo hi, l, H, Q => wE e l H fun v H => wE lo l H fun lo H => wE hi l H fun hi H => wSlice c v lo hi H Q
  | .bin op a b, l, H, Q => wE a l H fun v H => wE b l H fun w H => wBin c op v w H Q
  | .neg a, l, H, Q => wE a l H fun v H => Ok (intOf v) fun i => Q (.int (-i)) H
  | .not a, l, H, Q => wT a l H fun b H => Q (.bool (!b)) H
  | .and a b, l, H, Q => wE a l H fun v H => wTr H v fun t => if t = true then wE b l H Q else Q v H
  | .or a b, l, H, Q => wE a l H fun v H => wTr H v fun t => if t = true then Q v H else wE b l H Q
  | .cmp op a b, l, H, Q => wE a l H fun v H => wE b l H fun w H => wCmp op v w H Q
  | .hasKey k e, l, H, Q => wE e l H fun v H => Ok (dictAt H v) fun p => Q (.bool (p.2.lookup k).isSome) H
  | .ite t a b, l, H, Q => wT t l H fun x H => if x = true then wE a l H Q else wE b l H Q
  | .list es, l, H, Q => wEs es l H fun vs H => ∀ d, H d = Option.none → d ≠ c.scr → Q (.ref d) (upd H d (.list vs))
  | .tup es, l, H, Q => wEs es l H fun vs H => ∀ d, H d = Option.none → d ≠ c.scr → Q (.ref d) (upd H d (.tup vs))
  | .dict ks es, l, H, Q => wEs es l H fun vs H => ∀ d, H d = Option.none → d ≠ c.scr → Q (.ref d) (upd H d (.dict (ks.zip vs)))
  | .call f es, l, H, Q => wEs es l H fun vs H => Calls c n f vs H Q
  | .meth x C f es, l, H, Q => Ok l[x]? fun v => v ≠ .bad ∧ Ok (instAt H v) fun p => p.2.1 = C ∧ wEs es l H fun vs H => Calls c n f (v :: vs) H Q
  | .append x e, l, H, Q => Ok l[x]? fun v => v ≠ .bad ∧ Ok (listAt H v) fun p => p.1 ≠ c.scr ∧ wE e l H fun w H => Ok (listAt H v) fun p => p.1 ≠ c.scr ∧ p.2.length ≤ 10000 ∧ Q .none (upd H p.1 (.list (p.2 ++ [w])))
  | .pop x, l, H, Q => Ok l[x]? fun v => v ≠ .bad ∧ Ok (listAt H v) fun p => p.1 ≠ c.scr ∧ p.2.length ≤ 10000 ∧ Ok p.2.getLast? fun w => Q w (upd H p.1 (.list p.2.dropLast))
  | .len e, l, H, Q => wE e l H fun v H => match v with
      | .str x => x.length ≤ 10000 ∧ Q (.int x.length) H
      | v => Ok (listAt H v) fun p => p.2.length ≤ 10000 ∧ Q (.int p.2.length) H
  | .max2 a b, l, H, Q => wE a l H fun v H => wE b l H fun w H => Ok (intOf v) fun i => Ok (intOf w) fun j => Q (.int (max i j)) H
  | .boolOf e, l, H, Q => wE e l H fun v H => Ok (strOf v) fun x => x.length ≤ 10000 ∧ Q (.bool (decide (x.length ≠ 0))) H
  | .dictOf e, l, H, Q => wE e l H fun v H => Ok (dictAt H v) fun p => p.2.length ≤ 100 ∧ ∀ d, H d = Option.none → d ≠ c.scr → Q (.ref d) (upd H d (.dict p.2))
  | .listOf e, l, H, Q => wE e l H fun v H => Ok (listAt H v) fun p => p.2.length ≤ 10000 ∧ ∀ d, H d = Option.none → d ≠ c.scr → Q (.ref d) (upd H d (.list p.2))
  | .rangeList e, l, H, Q => wE e l H fun v H => Ok (intOf v) fun i => 0 ≤ i ∧ i ≤ 10000 ∧ ∀ d, H d = Option.none → d ≠ c.scr → Q (.ref d) (upd H d (.list ((List.range i.toNat).map fun k => .int (k : Nat))))
def wEs : Es → List AV → AH → (List AV → AH → Prop) → Prop
  | .nil, l, H, Q => Q [] H
  | .cons e es, l, H, Q => wE e l H fun v H => wEs es l H fun vs H => Q (v :: vs) H
def wT : E → List AV → AH → (Bool → AH → Prop) → Prop
  | .not a, l, H, Q => wT a l H fun b H => Q (!b) H
  | .and a b, l, H, Q => wT a l H fun x H => if x = true then wT b l H Q else Q false H
  | .or a b, l, H, Q => wT a l H fun x H => if x = true then Q true H else wT b l H Q
  | .cmp op a b, l, H, Q => wE a l H fun v H => wE b l H fun w H => wCmp op v w H fun r H => wTr H r fun t => Q t H
  | .var x, l, H, Q => Ok l[x]? fun v => v ≠ .bad ∧ wTr H v fun t => Q t H
  | .attr x k, l, H, Q => Ok l[x]? fun v => v ≠ .bad ∧ Ok (getA H v k) fun r => r ≠ .bad ∧ wTr H r fun t => Q t H
  | .item e k, l, H, Q => wE e l H fun v H => Ok (getK H v k) fun r => wTr H r fun t => Q t H
  | .hasKey k e, l, H, Q => wE e l H fun v H => Ok (dictAt H v) fun p => Q (p.2.lookup k).isSome H
  | .call f es, l, H, Q => wEs es l H fun vs H => Calls c n f vs H fun r H => wTr H r fun t => Q t H
  | _, _, _, _ => False
end

/-- values named in their order -/
def setAll : List AV → List Nat → List AV → List AV
  | l, x :: xs, v :: vs => setAll (l.set x v) xs vs
  | l, _, _ => l
mutual
def wS : S → List AV → AH → (AFl → List AV → AH → Prop) → Prop
  | .assign x e, l, H, Q => wE c n e l H fun v H => Q .next (l.set x v) H
  | .unpack xs e, l, H, Q => wE c n e l H fun v H => Ok (tupAt H v) fun vs => vs.length = xs.length ∧ Q .next (setAll l xs vs) H
  | .setAttr o k e, l, H, Q => wE c n e l H fun v H => wE c n o l H fun u H => Ok (instAt H u) fun p => p.1 ≠ c.scr ∧ p.2.2.2.length ≤ 100 ∧ k < 19 ∧ Q .next l (upd H p.1 (.inst p.2.1 p.2.2.1 (putA p.2.2.2 k v)))
  | .setItem o k e, l, H, Q => wE c n e l H fun v H => wE c n o l H fun u H => Ok (dictAt H u) fun p => p.1 ≠ c.scr ∧ p.2.length ≤ 100 ∧ k < 19 ∧ Q .next l (upd H p.1 (.dict (putA p.2 k v)))
  | .setSub o i e, l, H, Q => wE c n e l H fun v H => wE c n o l H fun u H => wE c n i l H fun j H => Ok (listAt H u) fun p => Ok (intOf j) fun j => p.1 ≠ c.scr ∧ 0 ≤ j ∧ j < p.2.length ∧ p.2.length ≤ 10000 ∧ Q .next l (upd H p.1 (.list (p.2.set j.toNat v)))
  | .setSlice o lo hi e, l, H, Q => wE c n e l H fun v H => wE c n o l H fun u H => wE c n lo l H fun a H => wE c n hi l H fun b H => Ok (listAt H u) fun p => Ok (listAt H v) fun q => Ok (intOf a) fun a => Ok (intOf b) fun b =>
      p.1 ≠ c.scr ∧ p.1 ≠ q.1 ∧ 0 ≤ a ∧ a ≤ b ∧ b ≤ p.2.length ∧ p.2.length ≤ 5000 ∧ q.2.length ≤ 5000 ∧ Q .next l (upd H p.1 (.list (p.2.take a.toNat ++ q.2 ++ p.2.drop b.toNat)))
  | .augVar op x e, l, H, Q => Ok l[x]? fun u => u ≠ .bad ∧ wE c n e l H fun v H => wAug op u v fun r => Q .next (l.set x r) H
  | .augAttr op x k e, l, H, Q => Ok l[x]? fun u => u ≠ .bad ∧ Ok (getA H u k) fun r => r ≠ .bad ∧ wE c n e l H fun v H => wAug op r v fun r => Ok (instAt H u) fun p => p.1 ≠ c.scr ∧ p.2.2.2.length ≤ 100 ∧ k < 19 ∧ Q .next l (upd H p.1 (.inst p.2.1 p.2.2.1 (putA p.2.2.2 k r)))
  | .augSub op o i e, l, H, Q => wE c n o l H fun u H => Ok l[i]? fun j => j ≠ .bad ∧ Ok (getI H u j) fun r => wE c n e l H fun v H => wAug op r v fun r => Ok (listAt H u) fun p => Ok (intOf j) fun j => p.1 ≠ c.scr ∧ 0 ≤ j ∧ j < p.2.length ∧ p.2.length ≤ 10000 ∧ Q .next l (upd H p.1 (.list (p.2.set j.toNat r)))
  | .expr e, l, H, Q => wE c n e l H fun v H => v = .none ∧ Q .next l H
  | .ret e, l, H, Q => wE c n e l H fun v H => Q (.ret v) l H
  | .ite t a b, l, H, Q => wT c n t l H fun x H => if x = true then wSs a l H Q else wSs b l H Q
  | .while t b, l, H, Q => ∃ I : Nat → List AV → AH → Prop, (∃ m, I m l H) ∧ ∀ m l H, I m l H → wT c n t l H fun x H => if x = true then wSs b l H (fun fl l H => match fl with
      | .next => ∃ m', m' < m ∧ I m' l H
      | .ret v => Q (.ret v) l H) else Q .next l H
  | .forL x e b, l, H, Q => wE c n e l H fun v H => Ok (listAt H v) fun p => p.2.length ≤ 10000 ∧ ∃ I : Nat → List AV → AH → Prop, I 0 l H ∧
      (∀ i l H, I i l H → H p.1 = some (.list p.2)) ∧
      (∀ i l H w, p.2[i]? = some w → I i l H → wSs b (l.set x w) H (fun fl l H => match fl with
        | .next => I (i + 1) l H
        | .ret v => Q (.ret v) l H)) ∧ ∀ l H, I p.2.length l H → Q .next l H
  | .forR x lo hi b, l, H, Q => wE c n lo l H fun a H => wE c n hi l H fun b' H => Ok (intOf a) fun a => Ok (intOf b') fun b' => -10000 ≤ a ∧ a ≤ 10000 ∧ -10000 ≤ b' ∧ b' ≤ 10000 ∧ ∃ I : Nat → List AV → AH → Prop, I 0 l H ∧
      (∀ (i : Nat) l H, (i : Int) < b' - a → I i l H → wSs b (l.set x (.int (a + i))) H (fun fl l H => match fl with
        | .next => I (i + 1) l H
        | .ret v => Q (.ret v) l H)) ∧ ∀ l H, I (b' - a).toNat l H → Q .next l H
  | .compPairs x e k, l, H, Q => wE c n e l H fun v H => Ok (listAt H v) fun p => p.2.length ≤ 1000 ∧ ∀ (d : Addr) (ts : List Addr) (H' : AH), ts.length = p.2.length → H d = Option.none → d ≠ c.scr → (∀ a o, H a = some o → H' a = some o) → H' d = some (.list (ts.map .ref)) →
      (∀ (i : Nat) (t : Addr) (w : AV), ts[i]? = some t → p.2[i]? = some w → H' t = some (.tup [w, .int k])) → Q .next (l.set x (.ref d)) H'
  | .extPairs x z key w, l, H, Q => Ok l[x]? fun u => Ok l[z]? fun t => Ok l[w]? fun dp => u ≠ .bad ∧ t ≠ .bad ∧ dp ≠ .bad ∧ Ok (listAt H u) fun p => Ok (getK H t key) fun r => Ok (listAt H r) fun q => p.1 ≠ c.scr ∧ p.1 ≠ q.1 ∧ p.2.length ≤ 5000 ∧ q.2.length ≤ 1000 ∧
      ∀ (ts : List Addr) (H' : AH), ts.length = q.2.length → (∀ a o, a ≠ p.1 → H a = some o → H' a = some o) → H' p.1 = some (.list (p.2 ++ ts.map .ref)) →
      (∀ (i : Nat) (t : Addr) (w : AV), ts[i]? = some t → q.2[i]? = some w → H' t = some (.tup [w, dp])) → Q .next l H'
def wSs : Ss → List AV → AH → (AFl → List AV → AH → Prop) → Prop
  | .nil, l, H, Q => Q .next l H
  | .cons s ss, l, H, Q => wS s l H fun fl l H => match fl with
    | .next => wSs ss l H Q
    | .ret v => Q (.ret v) l H
end
end



structure FnC where
  qual : Str
  sc : Scope
  addr : Addr
  cd : Value
  names : List Str
  cells : Addr → List (Str × Addr) := fun _ => []
structure FnC.Ok (f : FnC) : Prop where
  kind : f.sc.kind = .function
  nodup : f.names.Nodup
  loc : ∀ x ∈ f.names, f.sc.names.lookup x = some .local
  dbg : ∀ x ∈ f.names, (x == ("__debug__" : Str)) = false
def FnC.env (f : FnC) (L : Addr) : Env := { envOf f.qual f.sc L f.addr f.cd with cells := f.cells L }

/-- what a tree yields, in abstract words -/
abbrev WP (c : Cx) (A : Around) (F : Addr → Option Obj) (L : Addr) (names : List Str) (l : List AV) (t : Sem Value) (Q : AV → AH → Prop) (s : Shared) : Prop :=
  wpAny (model c.prog c.w) A t (fun v s' => ∃ H', Rep c F L names l H' s' ∧ Q (av v) H') NoE s

structure SndE (c : Cx) (f : FnC) (ex : Expr) (e : E) : Prop where
  run : ∀ (n : Nat) (A : Around) (F : Addr → Option Obj) (L : Addr) (l : List AV) (H : AH) (s : Shared) (Q : AV → AH → Prop), Room A n → wE c n e l H Q → Rep c F L f.names l H s →
    WP c A F L f.names l (eval ex (f.env L)) Q s
structure SndT (c : Cx) (f : FnC) (ex : Expr) (e : E) : Prop where
  run : ∀ (n : Nat) (A : Around) (F : Addr → Option Obj) (L : Addr) (l : List AV) (H : AH) (s : Shared) (Q : Bool → AH → Prop), Room A n → wT c n e l H Q → Rep c F L f.names l H s →
    wpAny (model c.prog c.w) A (isTrue ex (f.env L) (eval ex (f.env L))) (fun b s' => ∃ H', Rep c F L f.names l H' s' ∧ Q b H') NoE s

section
variable {c : Cx} {A : Around} {F : Addr → Option Obj} {L : Addr} {names : List Str} {l : List AV} {H : AH} {s : Shared} {n : Nat}

theorem WP.mk {t : Sem Value} {Q : AV → AH → Prop} (h : wpAny (model c.prog c.w) A t (fun v s' => ∃ H', Rep c F L names l H' s' ∧ Q (av v) H') NoE s) : WP c A F L names l t Q s := h
theorem wpNo {α : Type} {t : Sem α} {P Q : α → Shared → Prop} (h : wpAny (model c.prog c.w) A t P NoE s) (hq : ∀ v s', P v s' → Q v s') : wpAny (model c.prog c.w) A t Q NoE s :=
  wpAny_mono h hq fun _ _ e => e

theorem av_int {v : Value} {i : Int} (h : av v = .int i) : ∃ t, v = .int i t := by cases v <;> simp_all [av]
theorem av_str {v : Value} {x : Str} (h : av v = .str x) : ∃ t, v = .str x t := by cases v <;> simp_all [av]
theorem av_bool {v : Value} {b : Bool} (h : av v = .bool b) : v = .bool b := by cases v <;> simp_all [av]
theorem av_none {v : Value} (h : av v = .none) : v = .none := by cases v <;> simp_all [av]
theorem av_ref {v : Value} {a : Addr} (h : av v = .ref a) : v = .ref a := by cases v <;> simp_all [av]

theorem Rep.tk (R : Rep c F L names l H s) (t : Nat) : Rep c F L names l H { s with toks := t } := R.ext (Ext.toks s t)

theorem Rep.newsFr (R : Rep c F L names l H s) : ∃ mc, Fr c.hB L s.heap mc ∧ LocsAre names l mc := R.fr

theorem fresh_of_lt {hB h h' : Heap} {L D : Addr} {O : Obj} {mc : Str → Option Value} {news : List (Addr × Obj)} (F1 : Fr hB L h mc) (hall : ∀ a o, h.get? a = some o → a ≠ L → hB.get? a = none → (a, o) ∈ news)
    (N2 : News hB L h' ((D, O) :: news)) (lt : ∀ p ∈ news, p.1 < D) : h.get? D = none := by
  cases q : h.get? D with
  | none => rfl
  | some o =>
    have := N2 _ (.head _)
    exact absurd (lt _ (hall _ _ q this.2.1 this.2.2)) (Nat.lt_irrefl _)
theorem size_none {h : Heap} : h.get? h.objs.size = none := by
  cases q : h.get? h.objs.size with
  | none => rfl
  | some o => exact absurd (Heap.lt_size q) (Nat.lt_irrefl _)
theorem noPylong (a : Int) {b : Int} (h0 : 0 < b) (h1 : b < 2 ^ 62) : Builtin.divisionGoesByPylong a b = false := by
  have : ¬ (b.natAbs.log2 / 30 + 1 > 300) := by
    have h2 : b.natAbs.log2 < 62 := (Nat.log2_lt (by omega)).mpr (by omega)
    omega
  have hb : (b == 0) = false := by simp; omega
  simp only [Builtin.divisionGoesByPylong, hb]
  simp [this]
theorem mulOk {x : Str} {n : Int} (h1 : x.length ≤ 16) (h2 : 0 ≤ n) (h3 : n ≤ 1000) : MulOk x n := by
  refine ⟨by simp; omega, fun h4 h5 => ?_, fun h4 h5 => ?_⟩
  · have : (1000 : Int) ≤ (2 ^ 63 - 1) / n := by
      apply Int.le_ediv_of_mul_le (by omega)
      omega
    omega
  · have : x.length * n.toNat ≤ 16 * 1000 := Nat.mul_le_mul h1 (by omega)
    simp [Builtin.Str.tooLong, sizeLine]; omega

/-! binary operations -/
theorem bin_sound {op : Operator} {v w : Value} {Q : AV → AH → Prop} (R : Rep c F L names l H s) (h : wBin c op (av v) (av w) H Q) : WP c A F L names l (binaryOp op v w) Q s := by
  unfold WP
  unfold wBin at h
  split at h
  · rename_i a b e1 e2
    obtain ⟨t, rfl⟩ := av_int e1; obtain ⟨u, rfl⟩ := av_int e2
    exact add_int ⟨H, R.tk _, h⟩
  · rename_i a b e1 e2
    obtain ⟨t, rfl⟩ := av_int e1; obtain ⟨u, rfl⟩ := av_int e2
    exact sub_int ⟨H, R.tk _, h⟩
  · rename_i a b e1 e2
    obtain ⟨t, rfl⟩ := av_int e1; obtain ⟨u, rfl⟩ := av_int e2
    exact PyProof.Rows.mul_int ⟨H, R.tk _, h.2.2⟩ (IntMulOk.of_right (intBits_le_64 (by omega) (by omega)))
  · rename_i a b e1 e2
    obtain ⟨t, rfl⟩ := av_int e1; obtain ⟨u, rfl⟩ := av_int e2
    refine mod_int (by omega) ⟨H, R.tk _, ?_⟩
    rw [Int.fmod_eq_emod_of_nonneg _ (by omega)]; exact h.2
  · rename_i a b e1 e2
    obtain ⟨t, rfl⟩ := av_int e1; obtain ⟨u, rfl⟩ := av_int e2
    refine floordiv_int (by omega) ⟨H, R.tk _, ?_⟩ (.inl (noPylong a h.1 h.2.1))
    rw [Int.fdiv_eq_ediv_of_nonneg _ (by omega)]; exact h.2.2
  · rename_i a b e1 e2
    obtain ⟨t, rfl⟩ := av_int e1; obtain ⟨u, rfl⟩ := av_int e2
    exact and_int ⟨H, R.tk _, h⟩
  · rename_i x b e1 e2
    obtain ⟨t, rfl⟩ := av_str e1; obtain ⟨u, rfl⟩ := av_int e2
    obtain ⟨h1, h2, h3, h4⟩ := h
    exact SB.mul (mulOk h1 h2 h3) fun t' k => ⟨H, R.tk _, h4⟩
  · rename_i a b e1 e2
    obtain ⟨xs, hx, h0, h1, h2, h3⟩ := h.elim
    have e1 := av_ref e1; subst e1; obtain ⟨u, rfl⟩ := av_int e2
    have hx : H a = some (.list xs) := by
      revert hx; cases H a with
      | none => intro q; cases q
      | some o => cases o <;> intro q <;> cases q; rfl
    obtain ⟨vs, hl, hvs, _⟩ := R.objs _ _ hx
    subst hvs
    obtain ⟨mc, news, F1, N1, hall, k⟩ := R.viaNew
    refine KMa.mul F1 N1 hl (by omega) (by omega) (by simpa using h2) rfl fun D h' F2 N2 lt => ?_
    have hfr := fresh_of_lt F1 hall N2 lt
    obtain ⟨hD, R'⟩ := k h' D _ _ { s with heap := h' } (.list ((List.replicate b.toNat (vs.map av)).flatten)) F2 N2 (fun p hp => .tail _ hp) (.head _) hfr rfl rfl rfl
      (.mkList (N2 _ (.head _)).1 (by rw [List.map_flatten, List.map_replicate])) (by intro C d kvs e; cases e)
    exact ⟨_, R', h3 D hD (R.freshS hfr)⟩
  · rename_i a b e1 e2
    obtain ⟨xs, hx, h⟩ := h.elim
    obtain ⟨ys, hy, h1, h2⟩ := h.elim
    have e1 := av_ref e1; subst e1; have e2 := av_ref e2; subst e2
    have hx : H a = some (.list xs) := by
      revert hx; cases H a with
      | none => intro q; cases q
      | some o => cases o <;> intro q <;> cases q; rfl
    have hy : H b = some (.list ys) := by
      revert hy; cases H b with
      | none => intro q; cases q
      | some o => cases o <;> intro q <;> cases q; rfl
    obtain ⟨vs, hl, hvs, _⟩ := R.objs _ _ hx
    obtain ⟨ws, hl', hws, _⟩ := R.objs _ _ hy
    subst hvs hws
    obtain ⟨mc, news, F1, N1, hall, k⟩ := R.viaNew
    refine add_lists F1 N1 hl hl' (fun h' F2 N2 => ?_) (by simp only [List.length_map] at h1; rw [sizeLine_eq]; omega)
    obtain ⟨hD, R'⟩ := k h' s.heap.objs.size _ _ { s with heap := h' } (.list (vs.map av ++ ws.map av)) F2 N2 (fun p hp => .tail _ hp) (.head _) size_none rfl rfl rfl
      (.mkList (N2 _ (.head _)).1 (by rw [List.map_append])) (by intro C d kvs e; cases e)
    exact ⟨_, R', h2 _ hD (R.freshS size_none)⟩
  · exact h.elim

theorem listAt_some {v : AV} {p : Addr × List AV} (h : listAt H v = some p) : v = .ref p.1 ∧ H p.1 = some (.list p.2) := by
  cases v with
  | ref a =>
    simp only [listAt] at h
    cases q : H a with
    | none => rw [q] at h; cases h
    | some o => rw [q] at h; cases o <;> cases h; exact ⟨rfl, q⟩
  | _ => cases h
theorem dictAt_some {v : AV} {p : Addr × List (Nat × AV)} (h : dictAt H v = some p) : v = .ref p.1 ∧ H p.1 = some (.dict p.2) := by
  cases v with
  | ref a =>
    simp only [dictAt] at h
    cases q : H a with
    | none => rw [q] at h; cases h
    | some o => rw [q] at h; cases o <;> cases h; exact ⟨rfl, q⟩
  | _ => cases h
theorem tupAt_some {v : AV} {p : List AV} (h : tupAt H v = some p) : ∃ a, v = .ref a ∧ H a = some (.tup p) := by
  cases v with
  | ref a =>
    simp only [tupAt] at h
    cases q : H a with
    | none => rw [q] at h; cases h
    | some o => rw [q] at h; cases o <;> cases h; exact ⟨a, rfl, q⟩
  | _ => cases h
theorem instAt_some {v : AV} {p : Addr × Addr × Addr × List (Nat × AV)} (h : instAt H v = some p) : v = .ref p.1 ∧ H p.1 = some (.inst p.2.1 p.2.2.1 p.2.2.2) := by
  cases v with
  | ref a =>
    simp only [instAt] at h
    cases q : H a with
    | none => rw [q] at h; cases h
    | some o => rw [q] at h; cases o <;> cases h; exact ⟨rfl, q⟩
  | _ => cases h

/-! truth -/
theorem tr_sound {v : Value} {Q : Bool → AH → Prop} (R : Rep c F L names l H s) (h : wTr H (av v) fun b => Q b H) :
    wpAny (model c.prog c.w) A (truthy v) (fun b s' => ∃ H', Rep c F L names l H' s' ∧ Q b H') NoE s := by
  cases v with
  | none => exact truthy_none ⟨H, R, h⟩
  | bool x => exact wpAny_truthy_bool ⟨H, R, h⟩
  | int i t =>
    refine PyProof.Rows.truthy_int ⟨H, R, ?_⟩
    have : (i != 0) = decide (i ≠ 0) := by by_cases q : i = 0 <;> simp [q]
    rw [this]; exact h
  | str x t =>
    obtain ⟨h1, h2⟩ := h
    refine PySem.P.truthy_str (by omega) ⟨H, R.tk _, ?_⟩
    have : ((x.length : Int) != 0) = decide (x.length ≠ 0) := by
      by_cases q : x.length = 0 <;> simp [q]
    rw [this]; exact h2
  | ref a =>
    obtain ⟨p, h1, h2, h3⟩ := Ok.elim h
    obtain ⟨e, q⟩ := listAt_some h1
    cases e
    obtain ⟨vs, hl, hvs, _⟩ := R.objs _ _ q
    rw [← hvs] at h2 h3
    refine wpAny_truthy_list hl (by simp at h2 ⊢; omega) ⟨H, R.tk _, ?_⟩
    have : vs.toArray.isEmpty = (vs.map av).isEmpty := by cases vs <;> rfl
    rw [this]; exact h3
  | _ => exact h.elim

/-! comparisons -/
theorem rcEq {v w : Value} (h : flat2 (av v) (av w) = true) : SeqAt.RcAt A s v w (decide (av v = av w)) := by
  cases v <;> cases w <;> first
    | (simp [av, flat2] at h; done)
    | skip
  · exact SeqAt.RcAt.none_none
  · exact SeqAt.RcAt.none_int _ _
  · exact SeqAt.RcAt.none_str _ _
  · rename_i a b
    have e : (decide (av (.bool a) = av (.bool b))) = (a == b) := by cases a <;> cases b <;> rfl
    rw [e]; exact SeqAt.RcAt.bool_bool _ _
  · exact SeqAt.RcAt.int_none _ _
  · rename_i a t b u
    have e : (decide (av (.int a t) = av (.int b u))) = (a == b) := by
      by_cases q : a = b
      · simp [av, q]
      · simp [av, q]
    rw [e]; exact SeqAt.RcAt.int_int _ _ _ _
  · exact SeqAt.RcAt.int_str _ _ _ _
  · exact SeqAt.RcAt.str_none _ _
  · exact SeqAt.RcAt.str_int _ _ _ _
  · rename_i a t b u
    have e : (decide (av (.str a t) = av (.str b u))) = (a == b) := by
      by_cases q : a = b
      · simp [av, q]
      · simp [av, q]
    rw [e]; exact SeqAt.RcAt.str_str _ _ _ _

theorem rcNe {v w : Value} (h : flat2 (av v) (av w) = true) : SeqAt.RcNeAt A s v w (decide (av v ≠ av w)) := by
  cases v <;> cases w <;> first
    | (simp [av, flat2] at h; done)
    | skip
  · exact SeqAt.RcNeAt.none_none
  · exact SeqAt.RcNeAt.none_int _ _
  · exact SeqAt.RcNeAt.none_str _ _
  · rename_i a b
    have e : (decide (av (.bool a) ≠ av (.bool b))) = (!(a == b)) := by cases a <;> cases b <;> rfl
    rw [e]; exact SeqAt.RcNeAt.bool_bool _ _
  · exact SeqAt.RcNeAt.int_none _ _
  · rename_i a t b u
    have e : (decide (av (.int a t) ≠ av (.int b u))) = (!(a == b)) := by
      by_cases q : a = b <;> simp [av, q]
    rw [e]; exact SeqAt.RcNeAt.int_int _ _ _ _
  · exact SeqAt.RcNeAt.int_str _ _ _ _
  · exact SeqAt.RcNeAt.str_none _ _
  · exact SeqAt.RcNeAt.str_int _ _ _ _
  · rename_i a t b u
    have e : (decide (av (.str a t) ≠ av (.str b u))) = (!(a == b)) := by
      by_cases q : a = b <;> simp [av, q]
    rw [e]; exact SeqAt.RcNeAt.str_str _ _ _ _

theorem ks_inj : ∀ i, i < 19 → ∀ j, j < 19 → ks i = ks j → i = j := by decide +kernel

theorem valueAt_of_get {K : Type} [DecidableEq K] {kvs : List (K × Value)} {i : Nat} {k : K} {v : Value} (hn : (kvs.map (·.1)).Nodup) (h : kvs[i]? = some (k, v)) : valueAt kvs k = some v := by
  induction kvs generalizing i with
  | nil => simp at h
  | cons p r ih =>
    obtain ⟨k', v'⟩ := p
    rw [List.map_cons, List.nodup_cons] at hn
    cases i with
    | zero => cases h; simp [valueAt]
    | succ i =>
      have hr : r[i]? = some (k, v) := h
      have : k' ≠ k := by
        rintro rfl
        exact hn.1 (List.mem_map.mpr ⟨_, List.mem_of_getElem? hr, rfl⟩)
      have := ih hn.2 hr
      unfold valueAt at this ⊢
      rw [List.find?_cons]
      simp [*]


/-- two values are told equal by the program's own == (here and with these worlds' hashes) -/
def EqIn (c : Cx) (A : Around) (s : Shared) (y x : Value) : Prop := ∀ (E : Value → Shared → Prop) (Q : Bool → Shared → Prop), Q true s → wpAny (model c.prog c.w) A (eqBool y x) Q E s
theorem EqIn.of {y x : Value} (h : SeqAt.EqAt A s y x true) : EqIn c A s y x := fun E Q q => h _ _ E Q q
theorem EqIn.refs {a b : Addr} (h : ∀ (E : Value → Shared → Prop) (Q : Value → Shared → Prop), Q (.bool true) s → wpAny (model c.prog c.w) A (richCompare .Eq (.ref a) (.ref b)) Q E s) : EqIn c A s (.ref a) (.ref b) := fun E Q q => by
  by_cases hab : a = b
  · subst hab; exact SeqAt.EqAt.same _ _ _ E Q q
  · unfold eqBool
    refine wpAny_holding (wpAny_ite_split (fun h => absurd (eq_of_beq h) fun e => hab (by injection e)) fun _ => ?_)
    exact wpAny_bind (h E _ (wpAny_truthy_bool q))

open AutoSeq1 (wpAny_loadPart') in
open MeetsSeq MeetsSeq2 MeetsSeq3 SeqRoads2 in
theorem loopIn {m : Int} (hm : m = 2 ∨ m = 3) {a b : Addr} {xs ys : Array Value} {n n2 : Nat} {dd dd2 : Option Addr} {sl sl2 : Array (Option Value)} (hsz : xs.size = ys.size) : ∀ (k i : Nat), xs.size - i = k →
    MeetsIn c.prog c.w (Builtin.«list.__eq__.loop» ⟨[.ref a, .ref b, rawInt i, rawInt m], []⟩)
      (fun A R s => s.heap.get? a = some { cls := .type "list", dict := dd, data := .seq xs n, slots := sl } ∧ s.heap.get? b = some { cls := .type "list", dict := dd2, data := .seq ys n2, slots := sl2 } ∧
        (∀ j (h1 : j < xs.size) (h2 : j < ys.size), EqIn c A.in1 s xs[j] ys[j]) ∧ R (.ok (.ret (.bool (m == 2)))) s) := by
  intro k
  induction k with
  | zero =>
    intro i hi A R s h
    obtain ⟨hp, g, d, tk, os⟩ := s; obtain ⟨ha, hb, he, h⟩ := h
    have g1 : xs[((i : Nat) : Int).toNat]? = none := by simp; omega
    have g2 : ys[((i : Nat) : Int).toNat]? = none := by simp; omega
    rcases hm with rfl | rfl
    · wp_walk using wpAny_loadPart' ha, wpAny_loadPart' hb
      rw [g1, g2]
      wp_walk using wpAny_loadPart' ha, wpAny_loadPart' hb
      show R (.ok (.ret (.bool (xs.size == ys.size)))) _
      rw [hsz]; simpa using h
    · wp_walk using wpAny_loadPart' ha, wpAny_loadPart' hb
      rw [g1, g2]
      wp_walk using wpAny_loadPart' ha, wpAny_loadPart' hb
      show R (.ok (.ret (.bool (xs.size != ys.size)))) _
      rw [hsz]; simpa using h
  | succ k ih =>
    intro i hi A R s h
    obtain ⟨hp, g, d, tk, os⟩ := s; obtain ⟨ha, hb, he, h⟩ := h
    have l1 : i < xs.size := by omega
    have l2 : i < ys.size := by omega
    have g1 : xs[((i : Nat) : Int).toNat]? = some xs[i] := by simp [l1]
    have g2 : ys[((i : Nat) : Int).toNat]? = some ys[i] := by simp [l2]
    have hc : ((i : Int) + 1) = ((i + 1 : Nat) : Int) := by push_cast; rfl
    have next := ih (i + 1) (by omega) A R _ ⟨ha, hb, he, h⟩
    rcases hm with rfl | rfl
    · wp_walk using wpAny_loadPart' ha, wpAny_loadPart' hb
      rw [g1, g2]
      refine wpAny_bind (he i l1 l2 _ _ ?_)
      wp_walk
      rw [hc]
      exact ⟨plainId_quiet plain_eq_loop _, codeAny_builtin entry_eq_loop (by rw [Around.under_plainId plain_eq_loop _]; exact next)⟩
    · wp_walk using wpAny_loadPart' ha, wpAny_loadPart' hb
      rw [g1, g2]
      refine wpAny_bind (he i l1 l2 _ _ ?_)
      wp_walk
      rw [hc]
      exact ⟨plainId_quiet plain_eq_loop _, codeAny_builtin entry_eq_loop (by rw [Around.under_plainId plain_eq_loop _]; exact next)⟩

open AutoSeq1 (wpAny_loadPart') in
open MeetsSeq MeetsSeq2 MeetsSeq3 SeqRoads2 in
theorem listEqIn {a b : Addr} {xs ys : Array Value} {E : Value → Shared → Prop} {Q : Value → Shared → Prop} (ha : s.heap.IsList a xs) (hb : s.heap.IsList b ys) (hsz : xs.size = ys.size) (hu : A.units < cLine)
    (he : ∀ j (h1 : j < xs.size) (h2 : j < ys.size), EqIn c A.in1 s xs[j] ys[j]) (h : Q (.bool true) s) : wpAny (model c.prog c.w) A (richCompare .Eq (.ref a) (.ref b)) Q E s := by
  obtain ⟨⟨cls, dd, data, sl⟩, ho, hc, n, hd⟩ := id ha
  obtain ⟨⟨cls2, dd2, data2, sl2⟩, ho2, hc2, n2, hd2⟩ := id hb
  simp only at hc hd hc2 hd2
  subst hc hd hc2 hd2
  refine wpAny_richCompare_same_room (op := .Eq) ⟨_, ho, rfl⟩ ⟨_, ho2, rfl⟩ PySem.F.slot_list_eq (call_meetsIn (S := fun A' R s' => A' = A ∧ s' = s ∧ R (.ok (.ret (.bool true))) s) PySem.F.slot_list_eq ⟨_, ho, rfl⟩ PySem.F.entry_list_eq (PySem.F.args_list_eq_2 _ _) ?_ ⟨rfl, rfl, ?_⟩) hu
  · rintro A' R s' ⟨rfl, rfl, h⟩
    obtain ⟨hp, g, d, tk, os⟩ := s'
    have f3 := AutoSeq1.sub_list_list
    have hne : ¬ (xs.size != ys.size) = true := by simp [hsz]
    wp_walk using wpAny_loadPart' ho, wpAny_loadPart' ho2
    exact ⟨plainId_quiet plain_eq_loop _, codeAny_builtin entry_eq_loop (by
      rw [Around.under_plainId plain_eq_loop _]
      exact loopIn (.inl rfl) hsz _ 0 rfl _ R _ ⟨ho, ho2, he, h⟩)⟩
  · exact ⟨fun x => (nomatch x), h⟩

open AutoSeq1 (wpAny_loadPart') in
open MeetsSeq MeetsSeq2 MeetsSeq3 SeqRoads2 in
theorem listNeIn {a b : Addr} {xs ys : Array Value} {E : Value → Shared → Prop} {Q : Value → Shared → Prop} (ha : s.heap.IsList a xs) (hb : s.heap.IsList b ys) (hsz : xs.size = ys.size) (hu : A.units < cLine)
    (he : ∀ j (h1 : j < xs.size) (h2 : j < ys.size), EqIn c A.in1 s xs[j] ys[j]) (h : Q (.bool false) s) : wpAny (model c.prog c.w) A (richCompare .NotEq (.ref a) (.ref b)) Q E s := by
  obtain ⟨⟨cls, dd, data, sl⟩, ho, hc, n, hd⟩ := id ha
  obtain ⟨⟨cls2, dd2, data2, sl2⟩, ho2, hc2, n2, hd2⟩ := id hb
  simp only at hc hd hc2 hd2
  subst hc hd hc2 hd2
  refine wpAny_richCompare_same_room (op := .NotEq) ⟨_, ho, rfl⟩ ⟨_, ho2, rfl⟩ PySem.F.slot_list_ne (call_meetsIn (S := fun A' R s' => A' = A ∧ s' = s ∧ R (.ok (.ret (.bool false))) s) PySem.F.slot_list_ne ⟨_, ho, rfl⟩ PySem.F.entry_list_ne (PySem.F.args_list_ne_2 _ _) ?_ ⟨rfl, rfl, ?_⟩) hu
  · rintro A' R s' ⟨rfl, rfl, h⟩
    obtain ⟨hp, g, d, tk, os⟩ := s'
    have f3 := AutoSeq1.sub_list_list
    have hne : ¬ (xs.size != ys.size) = true := by simp [hsz]
    wp_walk using wpAny_loadPart' ho, wpAny_loadPart' ho2
    exact ⟨plainId_quiet plain_eq_loop _, codeAny_builtin entry_eq_loop (by
      rw [Around.under_plainId plain_eq_loop _]
      exact loopIn (.inr rfl) hsz _ 0 rfl _ R _ ⟨ho, ho2, he, h⟩)⟩
  · exact ⟨fun x => (nomatch x), h⟩

theorem samePairsIn {nm : String} {a b : Addr} {ka kb : List (Str × Value)} {E : Value → Shared → Prop} {Q : Bool → Shared → Prop} (na : (a == sysModules) = false) (nb : (b == sysModules) = false)
    (da : s.heap.DictOf (PySem.strKind c.prog c.w) a ka) (db : s.heap.DictOf (PySem.strKind c.prog c.w) b kb) (hlen : ka.length = kb.length)
    (hits : ∀ (i : Nat) (k : Str) (v : Value), ka[i]? = some (k, v) → ∃ y, valueAt kb k = some y ∧ EqIn c A s v y) (h : Q true s) :
    wpAny (model c.prog c.w) A (Builtin.Dict.samePairs nm a b) Q E s := by
  obtain ⟨oa, es, ep, hoa, _, hda, hka, hpa, _⟩ := da
  obtain ⟨ob, fs, fp, hob, _, hdb, hkb, hpb, _⟩ := db
  have sa : es.size = ka.length := by rw [← hpa.length]; exact Array.length_toList.symm
  have sb : fs.size = kb.length := by rw [← hpb.length]; exact Array.length_toList.symm
  have look : ∀ k, findBy (PySem.strKind c.prog c.w).is fs k = valueAt kb k := fun k => by
    rw [← hpb.find k]
    cases fs with
    | mk l => simp [findBy]
  unfold Builtin.Dict.samePairs Builtin.Dict.showsAll
  rw [if_neg (by rw [na]; decide), if_neg (by rw [nb]; decide)]
  refine wpAny_bind (wpAny_pure (wpAny_bind (wpAny_pure ?_)))
  refine wpAny_bind (wpAny_dictEntries hoa hda ?_)
  dsimp only
  refine wpAny_bind (wpAny_dictEntries hob hdb ?_)
  have same : es.size = fs.size := by omega
  rw [if_neg (by rw [same]; simp)]
  refine wpAny_bind (wpAny_dictEpoch hoa hda ?_)
  refine wpAny_bind ?_
  rw [Std.Legacy.Range.forIn_eq_forIn_range']
  simp only [Std.Legacy.Range.size, Nat.sub_zero, Nat.add_sub_cancel, Nat.div_one]
  refine wpAny_forIn_list _ (fun rest q s' => s' = s ∧ q = (none, ()) ∧ ∃ i, rest = List.range' i (es.size - i) ∧ i ≤ es.size) _ ?_ ?_ _ _ ⟨rfl, rfl, 0, by simp, Nat.zero_le _⟩
  · rintro x rest q s' ⟨rfl, rfl, i, hr, hi⟩
    have lt : i < es.size := by
      rcases Nat.lt_or_ge i es.size with h | h
      · exact h
      · rw [Nat.sub_eq_zero_of_le h] at hr; simp at hr
    have e : es.size - i = (es.size - (i + 1)) + 1 := by omega
    rw [e, List.range'_succ] at hr
    injection hr with h1 h2
    subst h1
    refine wpAny_bind (wpAny_dictEntries hoa hda ?_)
    rw [Array.getElem?_eq_getElem lt]
    have lt' : x < ka.length := by omega
    obtain ⟨k, v, hkv⟩ : ∃ k v, ka[x] = (k, v) := ⟨_, _, rfl⟩
    have hx : ka[x]? = some (k, v) := by rw [List.getElem?_eq_getElem lt', hkv]
    obtain ⟨hkey, hval⟩ := hpa.get? (i := x) (e := es[x]) (k := k) (v := v) (by rw [Array.getElem?_toList]; exact Array.getElem?_eq_getElem lt) hx
    obtain ⟨k', hk', hh⟩ := hka es[x] (Array.getElem_mem lt)
    have ekk : k' = k := (PySem.strKind c.prog c.w).inj _ _ _ hk' hkey
    rw [ekk] at hh
    show wpAny _ _ (holding [es[x].key, es[x].val] _ >>= _) _ _ _
    rw [hh]
    refine wpAny_bind (wpAny_holding (wpAny_bind (wpAny_dictFind_of hkey hob hdb hkb ?_)))
    obtain ⟨y, hy, he⟩ := hits x k v hx
    cases hj : fs.findIdx? fun e => (PySem.strKind c.prog c.w).is k e.key with
    | none =>
      rw [← look k, findBy_of_findIdx?, hj] at hy
      cases hy
    | some j =>
      obtain ⟨hjl, _, _⟩ := Array.findIdx?_eq_some_iff_getElem.mp hj
      refine wpAny_bind (wpAny_dictEntries hob hdb ?_)
      rw [Array.getElem?_eq_getElem hjl]
      have ey : fs[j].val = y := by
        rw [← look k, findBy_of_findIdx?, hj] at hy
        simpa [Array.getElem?_eq_getElem hjl] using hy
      rw [← ey, ← hval] at he
      refine wpAny_holding (he _ _ ?_)
      show wpAny _ _ (if (!true) = true then _ else _) _ _ _
      rw [if_neg (by decide)]
      refine wpAny_bind (wpAny_dictEpoch hoa hda ?_)
      rw [if_neg (by simp)]
      exact wpAny_pure ⟨rfl, rfl, x + 1, h2, lt⟩
  · rintro q s' ⟨rfl, rfl, i, hr, hi⟩
    exact wpAny_pure h

theorem dictEqIn {a b : Addr} {ka kb : List (Str × Value)} {E : Value → Shared → Prop} {Q : Value → Shared → Prop} (na : (a == sysModules) = false) (nb : (b == sysModules) = false)
    (da : s.heap.DictOf (PySem.strKind c.prog c.w) a ka) (db : s.heap.DictOf (PySem.strKind c.prog c.w) b kb) (hlen : ka.length = kb.length) (hu : A.units < cLine)
    (hits : ∀ (i : Nat) (k : Str) (v : Value), ka[i]? = some (k, v) → ∃ y, valueAt kb k = some y ∧ EqIn c A.in1 s v y) (h : Q (.bool true) s) :
    wpAny (model c.prog c.w) A (richCompare .Eq (.ref a) (.ref b)) Q E s := by
  refine wpAny_richCompare_same_room (op := .Eq) da.typeIs db.typeIs PySem.F.slot_dict_eq (wpAny_call_entry PySem.F.slot_dict_eq da.typeIs PySem.F.entry_dict_eq ?_ (PySem.F.args_dict_eq_2 _ _)) hu
  show wpAny _ _ (Builtin.Dict.dictSlotArgs "__eq__" ⟨[.ref a, .ref b], []⟩ >>= _) _ _ s
  refine wpAny_bind ?_
  unfold Builtin.Dict.dictSlotArgs
  refine wpAny_bind (wpAny_notOrdered_dict da.typeIs (wpAny_pure ?_))
  refine wpAny_bind (wpAny_isInstance (T := "dict") db.typeIs PySem.F.sub_dict_dict ?_)
  simp only [Bool.not_true, Bool.false_eq_true, if_false]
  refine wpAny_bind (wpAny_pure (wpAny_bind (wpAny_pure ?_)))
  refine wpAny_bind (samePairsIn na nb da db hlen hits (wpAny_pure ⟨_, rfl, ?_, ?_⟩))
  · exact fun x => nomatch x
  · exact h

theorem de_sound : ∀ (n : Nat) (A : Around) (v w : Value), Rep c F L names l H s → DE H n (av v) (av w) → A.units + n + 5 < cLine → EqIn c A s v w := by
  intro n
  induction n with
  | zero =>
    intro A v w R h hu
    generalize e1 : av v = x at h
    generalize e2 : av w = y at h
    cases h with
    | none => rw [av_none e1, av_none e2]; exact .of (SeqAt.EqAt.same _)
    | bool b => rw [av_bool e1, av_bool e2]; exact .of (SeqAt.EqAt.same _)
    | int i => obtain ⟨t, rfl⟩ := av_int e1; obtain ⟨u, rfl⟩ := av_int e2; have := SeqAt.EqAt.int_int (A := A) (s := s) i t i u; exact .of (by simpa using this)
    | str x => obtain ⟨t, rfl⟩ := av_str e1; obtain ⟨u, rfl⟩ := av_str e2; have := SeqAt.EqAt.str_str (A := A) (s := s) x t x u; exact .of (by simpa using this)
    | same a => rw [av_ref e1, av_ref e2]; exact .of (SeqAt.EqAt.same _)
  | succ n ih =>
    intro A v w R h hu
    generalize e1 : av v = x at h
    generalize e2 : av w = y at h
    cases h with
    | none => rw [av_none e1, av_none e2]; exact .of (SeqAt.EqAt.same _)
    | bool b => rw [av_bool e1, av_bool e2]; exact .of (SeqAt.EqAt.same _)
    | int i => obtain ⟨t, rfl⟩ := av_int e1; obtain ⟨u, rfl⟩ := av_int e2; have := SeqAt.EqAt.int_int (A := A) (s := s) i t i u; exact .of (by simpa using this)
    | str x => obtain ⟨t, rfl⟩ := av_str e1; obtain ⟨u, rfl⟩ := av_str e2; have := SeqAt.EqAt.str_str (A := A) (s := s) x t x u; exact .of (by simpa using this)
    | same a => rw [av_ref e1, av_ref e2]; exact .of (SeqAt.EqAt.same _)
    | @list _ a b xs ys ha hb hlen he =>
      rw [av_ref e1, av_ref e2]
      obtain ⟨vs, hl, rfl, _⟩ := R.objs _ _ ha
      obtain ⟨ws, hl', rfl, _⟩ := R.objs _ _ hb
      simp only [List.length_map] at hlen
      refine .refs fun E Q q => listEqIn hl hl' (by simpa using hlen) (by omega) (fun j h1 h2 => ?_) q
      simp only [List.size_toArray] at h1 h2
      refine ih A.in1 _ _ R ?_ (by simp; omega)
      refine he j _ _ ?_ ?_
      · rw [List.getElem?_map]; simp [h1]
      · rw [List.getElem?_map]; simp [h2]
    | @dict _ a b xs ys ha hb hk he =>
      rw [av_ref e1, av_ref e2]
      obtain ⟨cvs, hd, hx, _⟩ := R.objs _ _ ha
      obtain ⟨dvs, hd', hy, _⟩ := R.objs _ _ hb
      have hkeys : cvs.map (·.1) = dvs.map (·.1) := by
        have h1 := congrArg (List.map (·.1)) hx
        have h2 := congrArg (List.map (·.1)) hy
        simp only [List.map_map] at h1 h2
        have e3 : (xs.map fun p => ks p.1) = ys.map fun p => ks p.1 := by
          have := congrArg (List.map ks) hk
          simp only [List.map_map] at this
          exact this
        have h1' : cvs.map (·.1) = xs.map fun p => ks p.1 := h1
        have h2' : dvs.map (·.1) = ys.map fun p => ks p.1 := h2
        rw [h1', h2', e3]
      have hlen : cvs.length = dvs.length := by
        have := congrArg List.length hkeys
        simpa using this
      obtain ⟨o1, es1, ep1, g1, g2, g3, g4, g5, g6⟩ := id hd'
      refine .refs fun E Q q => dictEqIn (R.noSys ha) (R.noSys hb) hd hd' hlen (by omega) (fun i k v hv => ?_) q
      have hi : i < dvs.length := by
        have := (List.getElem?_eq_some_iff.mp hv).1
        omega
      obtain ⟨k', y, hq⟩ : ∃ k' y, dvs[i] = (k', y) := ⟨_, _, rfl⟩
      have hy' : dvs[i]? = some (k', y) := by rw [List.getElem?_eq_getElem hi, hq]
      have hkk : k = k' := by
        have h1 : (cvs.map (·.1))[i]? = some k := by rw [List.getElem?_map, hv]; rfl
        have h2 : (dvs.map (·.1))[i]? = some k' := by rw [List.getElem?_map, hy']; rfl
        rw [hkeys, h2] at h1; exact (Option.some.inj h1).symm
      subst hkk
      refine ⟨y, valueAt_of_get g6 hy', ih A.in1 _ _ R ?_ (by simp; omega)⟩
      have h1 : (cvs.map fun p => (p.1, av p.2))[i]? = some (k, av v) := by rw [List.getElem?_map, hv]; rfl
      have h2 : (dvs.map fun p => (p.1, av p.2))[i]? = some (k, av y) := by rw [List.getElem?_map, hy']; rfl
      rw [hx, List.getElem?_map] at h1
      rw [hy, List.getElem?_map] at h2
      cases q1 : xs[i]? with
      | none => rw [q1] at h1; cases h1
      | some p1 =>
        cases q2 : ys[i]? with
        | none => rw [q2] at h2; cases h2
        | some p2 =>
          rw [q1] at h1; rw [q2] at h2
          have h1 := (Prod.mk.inj (Option.some.inj h1)).2
          have h2 := (Prod.mk.inj (Option.some.inj h2)).2
          have := he i p1 p2 q1 q2
          rw [h1, h2] at this; exact this

theorem Room.units {n : Nat} (h : Room A n) : A.units + 280 < cLine := by rw [cLine_is]; have := h.2.2; omega

theorem cmp_sound {n : Nat} {op : CmpOp} {v w : Value} {Q : AV → AH → Prop} (hr : Room A n) (R : Rep c F L names l H s) (h : wCmp op (av v) (av w) H Q) : WP c A F L names l (compareOp op v w) Q s := by
  unfold WP
  cases op with
  | Eq =>
    obtain ⟨h1, h2⟩ := h
    exact cmp_ofEq (rcEq h1 _ _ _ _ ⟨H, R, h2⟩)
  | NotEq =>
    simp only [wCmp] at h
    split at h
    · rename_i h1
      exact cmp_ofNotEq (rcNe h1 _ _ _ _ ⟨H, R, h⟩)
    · obtain ⟨h1, h2⟩ := h
      obtain ⟨p, hp, h1⟩ := h1.elim
      obtain ⟨q, hq, hlen, h1⟩ := h1.elim
      obtain ⟨e1, ha⟩ := listAt_some hp
      obtain ⟨e2, hb⟩ := listAt_some hq
      obtain ⟨vs, hl, hvs, _⟩ := R.objs _ _ ha
      obtain ⟨ws, hl', hws, _⟩ := R.objs _ _ hb
      rw [← hvs] at hlen h1
      rw [← hws] at hlen h1
      simp only [List.length_map] at hlen
      rw [av_ref e1, av_ref e2]
      have hu := hr.units
      refine cmp_ofNotEq (listNeIn hl hl' (by simpa using hlen) (by omega) (fun j g1 g2 => ?_) ⟨H, R, h2⟩)
      simp only [List.size_toArray] at g1 g2
      refine de_sound 50 A.in1 _ _ R (h1 j _ _ ?_ ?_) (by simp; omega)
      · rw [List.getElem?_map]; simp [g1]
      · rw [List.getElem?_map]; simp [g2]
  | Lt =>
    obtain ⟨a, b, e1, e2, h⟩ := h
    obtain ⟨t, rfl⟩ := av_int e1; obtain ⟨u, rfl⟩ := av_int e2
    exact PyProof.Rows.lt_int ⟨H, R, h⟩
  | LtE =>
    obtain ⟨a, b, e1, e2, h⟩ := h
    obtain ⟨t, rfl⟩ := av_int e1; obtain ⟨u, rfl⟩ := av_int e2
    exact PyProof.Rows.le_int ⟨H, R, h⟩
  | Gt =>
    obtain ⟨a, b, e1, e2, h⟩ := h
    obtain ⟨t, rfl⟩ := av_int e1; obtain ⟨u, rfl⟩ := av_int e2
    exact PyProof.Rows.gt_int ⟨H, R, h⟩
  | GtE =>
    obtain ⟨a, b, e1, e2, h⟩ := h
    obtain ⟨t, rfl⟩ := av_int e1; obtain ⟨u, rfl⟩ := av_int e2
    exact PyProof.Rows.ge_int ⟨H, R, h⟩
  | Is =>
    obtain ⟨h1, h2⟩ := h
    rcases h1 with h1 | ⟨a, b, e1, e2⟩
    · rw [av_none h1]
      refine is_none ⟨H, R, ?_⟩
      have : (v == .none) = decide (av v = av w) := by rw [h1]; cases v <;> rfl
      show Q (.bool (v == .none)) H
      rw [this]; exact h2
    · rw [av_bool e1, av_bool e2]
      refine is_bool ⟨H, R, ?_⟩
      rw [e1, e2] at h2
      have : (a == b) = decide (AV.bool a = AV.bool b) := by cases a <;> cases b <;> rfl
      show Q (.bool (a == b)) H
      rw [this]; exact h2
  | IsNot =>
    obtain ⟨h1, h2⟩ := h
    rcases h1 with h1 | ⟨a, b, e1, e2⟩ | ⟨a, e1, e2⟩
    · rw [av_none h1]
      refine isNot_none ⟨H, R, ?_⟩
      have : (!(v == .none)) = decide (av v ≠ av w) := by rw [h1]; cases v <;> rfl
      show Q (.bool (!(v == .none))) H
      rw [this]; exact h2
    · rw [av_bool e1, av_bool e2]
      refine isnot_bool ⟨H, R, ?_⟩
      rw [e1, e2] at h2
      have : (a != b) = decide (AV.bool a ≠ AV.bool b) := by cases a <;> cases b <;> rfl
      show Q (.bool (a != b)) H
      rw [this]; exact h2
    · rw [av_ref e1, av_ref e2]
      rw [e1, e2] at h2
      exact wpAny_isNot_ref_self ⟨H, R, (by simpa using h2 : Q (.bool false) H)⟩
  | In => exact h.elim
  | NotIn => exact h.elim
end

section
variable {c : Cx} {A : Around} {F : Addr → Option Obj} {L : Addr} {names : List Str} {l : List AV} {H : AH} {s : Shared} {n : Nat}

def notSlice : Expr → Bool
  | .Slice .. => false
  | _ => true
theorem subscripted_plain {slice : Expr} (h : notSlice slice = true) (o i : Value) : subscripted slice false o i = operate [o, i] (getItem o i) := by
  cases slice <;> first | rfl | cases h
theorem subscripted_slice (lo hi : Option Expr) (p : Pos) (o i : Value) : subscripted (.Slice lo hi none p) false o i = operate [i, o] (getItem o i) := rfl

theorem ks_eq {i j : Nat} (hi : i < 19) (hj : j < 19) : ks i = ks j ↔ i = j := ⟨ks_inj i hi j hj, fun e => by rw [e]⟩

theorem mapOf_of_dictOf {d : Addr} {cvs : List (Str × Value)} {h : Heap} (x : h.DictOf (PySem.strKind c.prog c.w) d cvs) : h.MapOf (PySem.strKind c.prog c.w) d (valueAt cvs) := by
  obtain ⟨o, es, ep, h1, h2, h3, h4, h5, h6⟩ := x
  refine ⟨o, es, ep, h1, h2, h3, h4, fun k => ?_⟩
  rw [← h5.find k]
  cases es with
  | mk l => simp [findBy]

theorem dict_look {cvs : List (Str × Value)} {kvs : List (Nat × AV)} (hm : cvs.map (fun p => (p.1, av p.2)) = kvs.map (fun p => (ks p.1, p.2))) (hk : ∀ p ∈ kvs, p.1 < 19) {k : Nat} (hk' : k < 19) :
    (valueAt cvs (ks k)).map av = kvs.lookup k := by
  induction kvs generalizing cvs with
  | nil => cases cvs <;> simp_all [valueAt]
  | cons p r ih =>
    cases cvs with
    | nil => simp at hm
    | cons q t =>
      obtain ⟨k1, v1⟩ := p
      obtain ⟨x1, u1⟩ := q
      simp only [List.map_cons, List.cons.injEq, Prod.mk.injEq] at hm
      obtain ⟨⟨e1, e2⟩, e3⟩ := hm
      have := ih e3 (fun p hp => hk p (.tail _ hp))
      have h1 := hk _ (.head _)
      unfold valueAt at this ⊢
      rw [List.find?_cons, List.lookup_cons]
      by_cases q : k1 = k
      · subst q; simp [e1, e2]
      · have q1 : ¬ ks k1 = ks k := fun e => q ((ks_eq h1 hk').mp e)
        have q2 : ¬ k = k1 := fun e => q e.symm
        have q3 : (k == k1) = false := by simp [q2]
        simp only [e1, q3, decide_eq_false q1]
        exact this

theorem getK_some {v : AV} {k : Nat} {r : AV} (h : getK H v k = some r) : ∃ a kvs, v = .ref a ∧ H a = some (.dict kvs) ∧ kvs.lookup k = some r := by
  cases v with
  | ref a =>
    simp only [getK] at h
    cases q : H a with
    | none => rw [q] at h; cases h
    | some o =>
      rw [q] at h
      cases o <;> first | cases h | skip
      exact ⟨a, _, rfl, q, h⟩
  | _ => cases h

theorem lookup_lt {kvs : List (Nat × AV)} (hk : ∀ p ∈ kvs, p.1 < 19) {k : Nat} {r : AV} (h : kvs.lookup k = some r) : k < 19 := by
  induction kvs with
  | nil => cases h
  | cons p t ih =>
    obtain ⟨k1, v1⟩ := p
    rw [List.lookup_cons] at h
    by_cases q : k = k1
    · subst q; exact hk _ (.head _)
    · have q3 : (k == k1) = false := by simp [q]
      rw [q3] at h; exact ih (fun p hp => hk p (.tail _ hp)) h

theorem getK_sound {value slice : Expr} {v : Value} {k : Nat} {t : Tok} {r : AV} {Q : AV → AH → Prop} (R : Rep c F L names l H s) (h : getK H (av v) k = some r) (hq : Q r H) (hs : notSlice slice = true) :
    WP c A F L names l (subscriptTail value slice v (.str (ks k) t)) Q s := by
  obtain ⟨a, kvs, e, hH, hl⟩ := getK_some h
  obtain ⟨cvs, hd, hm, hk⟩ := R.objs _ _ hH
  rw [av_ref e]
  have hk' := lookup_lt hk hl
  have hv := dict_look hm hk hk'
  rw [hl] at hv
  obtain ⟨u, hu, hu'⟩ := Option.map_eq_some_iff.mp hv
  refine tail_any hd.typeIs PySem.F.slot_dict_getitem.lookup (wpAny_getItem_of (strKind_is _ _ _ _) (mapOf_of_dictOf hd) hu ⟨H, R.tk _, ?_⟩) (subscripted_plain hs _ _)
  rw [hu']; exact hq

theorem getI_some {v i : AV} {r : AV} (h : getI H v i = some r) : ∃ a j xs, v = .ref a ∧ i = .int j ∧ (H a = some (.list xs) ∨ H a = some (.tup xs)) ∧ (0 ≤ j ∧ j < 4611686018427387904) ∧ xs[j.toNat]? = some r := by
  cases v with
  | ref a =>
    cases i with
    | int j =>
      simp only [getI] at h
      cases q : H a with
      | none => rw [q] at h; cases h
      | some o =>
        rw [q] at h
        cases o with
        | list xs => simp only at h; split at h <;> first | cases h | exact ⟨a, j, xs, rfl, rfl, .inl q, by assumption, h⟩
        | tup xs => simp only at h; split at h <;> first | cases h | exact ⟨a, j, xs, rfl, rfl, .inr q, by assumption, h⟩
        | dict xs => cases h
        | inst C d xs => cases h
        | cell x => cases h
        | tab => cases h
    | _ => cases h
  | _ => cases h

theorem seqIdx {j : Int} {m : Nat} (h0 : 0 ≤ j) (h1 : j.toNat < m) : seqIndex? j m = some j.toNat := by
  have : ¬ j < 0 := by omega
  have h2 : j < (m : Int) := by omega
  simp [seqIndex?, this, h0, h2]

theorem getI_sound {value slice : Expr} {v i : Value} {r : AV} {Q : AV → AH → Prop} (R : Rep c F L names l H s) (h : getI H (av v) (av i) = some r) (hq : Q r H) (hs : notSlice slice = true) :
    WP c A F L names l (subscriptTail value slice v i) Q s := by
  obtain ⟨a, j, xs, e, e2, hH, h0, hx⟩ := getI_some h
  rw [av_ref e]
  obtain ⟨u, rfl⟩ := av_int e2
  rcases hH with hH | hH
  · obtain ⟨vs, hl, hvs, _⟩ := R.objs _ _ hH
    rw [← hvs, List.getElem?_map] at hx
    obtain ⟨y, hy, hy'⟩ := Option.map_eq_some_iff.mp hx
    have hlt := (List.getElem?_eq_some_iff.mp hy).1
    refine tail_any hl.typeIs PySem.F.slot_list_getitem.lookup (wpAny_getItem_list hl h0.1 (by omega) (by simpa using hy) ⟨H, R, ?_⟩) (subscripted_plain hs _ _)
    rw [hy']; exact hq
  · obtain ⟨vs, hl, hvs⟩ := R.objs _ _ hH
    rw [← hvs, List.getElem?_map] at hx
    obtain ⟨y, hy, hy'⟩ := Option.map_eq_some_iff.mp hx
    have hlt := (List.getElem?_eq_some_iff.mp hy).1
    refine tail_any (T := "tuple") hl.typeIs PySem.F.slot_tuple_getitem.lookup (PyProof.Rows.getItem_tuple (j := j.toNat) hl (by omega) (by omega) (seqIdx h0.1 (by simpa using hlt)) (by simpa using hy) ⟨H, R, ?_⟩) (subscripted_plain hs _ _)
    rw [hy']; exact hq

/-! names of things -/
theorem attr_look {es : List DictEntry} {kvs : List (Nat × AV)} (r : AttrRel es kvs) {k : Nat} {v : AV} (h : kvs.lookup k = some v) : ∃ u, getL (ks k) es = some (some u) ∧ av u = v := by
  induction r with
  | nil => cases h
  | @cons e k1 t v1 es kvs h1 h2 h3 h4 ih =>
    rw [List.lookup_cons] at h
    unfold getL at ih ⊢
    rw [List.find?_cons, h1]
    by_cases q : k = k1
    · subst q
      simp at h
      simp [Value.isStr]
      rw [h3]; exact h
    · have q3 : (k == k1) = false := by simp [q]
      rw [q3] at h
      obtain ⟨u, hu, hu'⟩ := ih h
      have hk : k < 19 := by
        clear ih hu hu' q3 q
        induction h4 with
        | nil => cases h
        | @cons e k2 t v2 es kvs g1 g2 g3 g4 ih =>
          rw [List.lookup_cons] at h
          by_cases q : k = k2
          · subst q; exact g2
          · have q3 : (k == k2) = false := by simp [q]
            rw [q3] at h; exact ih h
      have q4 : (Value.str (ks k1) t).isStr (ks k) = false := by
        simp only [Value.isStr, beq_eq_false_iff_ne, ne_eq, ks_eq h2 hk]
        exact fun e => q e.symm
      rw [q4]
      refine ⟨u, ?_, hu'⟩
      have q5 : e.refKey = false := by simp [DictEntry.refKey, h1]
      rw [List.any_cons, q5]
      exact hu

theorem attrOk_parts {K : Frag} {C : Addr} {x : Str} (h : attrOk K C x = true) : plainGet K C x = true ∧ hasDictIn K C = true ∧ (∃ a, findIn K (.ref C) x = some a ∧ noGet K a = true) ∧ findIn K (.ref C) "__setattr__" = some (some (.builtin "object.__setattr__")) ∧ plainOver K C = true ∧ takerIn K C x = some none := by
  simp only [attrOk, Bool.and_eq_true, beq_iff_eq] at h
  obtain ⟨⟨⟨⟨⟨h1, h2⟩, h3⟩, h4⟩, h5⟩, h6⟩ := h
  refine ⟨h1, h2, ?_, h4, h5, h6⟩
  split at h3
  · exact ⟨_, by assumption, h3⟩
  · cases h3

theorem Rep.instAt (R : Rep c F L names l H s) {a C d : Addr} {kvs : List (Nat × AV)} (h : H a = some (.inst C d kvs)) :
    ∃ es n, PySem.W.InstAt s.heap a (instObj C d) C (some (dictOf es n)) ∧ AttrRel es kvs ∧ c.cls C = true ∧ s.heap.get? d = some (dictOf es n) := by
  obtain ⟨od, h1, h2, ⟨h3, es, n, rfl, h4⟩, h5⟩ := R.objs _ _ h
  exact ⟨es, n, ⟨h1, rfl, rfl, h2⟩, h4, h3, h2⟩

theorem handed_of {v : Value} (h : av v ≠ .bad) : handedIn v = true := by
  cases v <;> first | rfl | exact absurd rfl h

theorem getA_some {v : AV} {k : Nat} {r : AV} (h : getA H v k = some r) : ∃ a C d kvs, v = .ref a ∧ H a = some (.inst C d kvs) ∧ kvs.lookup k = some r := by
  cases v with
  | ref a =>
    simp only [getA] at h
    cases q : H a with
    | none => rw [q] at h; cases h
    | some o =>
      rw [q] at h
      cases o <;> first | cases h | skip
      exact ⟨a, _, _, _, rfl, q, h⟩
  | _ => cases h
theorem attr_lt {es : List DictEntry} {kvs : List (Nat × AV)} (r : AttrRel es kvs) : ∀ p ∈ kvs, p.1 < 19 := by
  induction r with
  | nil => intro p h; cases h
  | cons h1 h2 h3 h4 ih =>
    intro p h
    cases h with
    | head => exact h2
    | tail _ h => exact ih p h

theorem getA_sound {v : Value} {k : Nat} {r : AV} {b : Bool} {Q : AV → AH → Prop} (R : Rep c F L names l H s) (h : getA H (av v) k = some r) (hb : r ≠ .bad) (hq : Q r H) :
    WP c A F L names l (getAttr v (ks k) b) Q s := by
  obtain ⟨a, C, d, kvs, e, hH, hl⟩ := getA_some h
  obtain ⟨es, m, I, hr, hc, _⟩ := R.instAt hH
  have hk := lookup_lt (attr_lt hr) hl
  obtain ⟨u, hu, hu'⟩ := attr_look hr hl
  obtain ⟨g1, g2, ⟨at', g3, g4⟩, _⟩ := attrOk_parts (R.ok.attr C hc k hk)
  rw [av_ref e]
  refine get_value R.kin I (plainGet_of g1).1 (findObj_own g2 g3 g4 (by rw [lookIn_dict]; exact hu)) (handed_of (by rw [hu']; exact hb)) ⟨H, R.tk _, ?_⟩
  rw [hu']; exact hq

theorem putL_rel {es : List DictEntry} {kvs : List (Nat × AV)} (r : AttrRel es kvs) {k : Nat} {hsh : Int} {t : Tok} {v : Value} (hk : k < 19) : AttrRel (putL (ks k) hsh (.str (ks k) t) v es) (putA kvs k (av v)) := by
  induction r with
  | nil => exact .cons rfl hk rfl .nil
  | @cons e k1 t1 v1 es kvs h1 h2 h3 h4 ih =>
    unfold putL putA
    rw [h1]
    by_cases q : k1 = k
    · subst q
      have : (Value.str (ks k1) t1).isStr (ks k1) = true := by simp [Value.isStr]
      rw [this]
      simp only [if_true]
      exact .cons (t := t1) rfl h2 rfl h4
    · have : (Value.str (ks k1) t1).isStr (ks k) = false := by
        simp only [Value.isStr, beq_eq_false_iff_ne, ne_eq, ks_eq h2 hk]
        exact q
      rw [this]
      simp only [Bool.false_eq_true, if_false, q]
      exact .cons h1 h2 h3 ih
theorem putL_length (x : Str) (hsh : Int) (key v : Value) : ∀ es : List DictEntry, (putL x hsh key v es).length ≤ es.length + 1
  | [] => by simp [putL]
  | e :: r => by
    unfold putL
    split
    · simp
    · have := putL_length x hsh key v r; simp; omega
theorem AttrRel.length {es : List DictEntry} {kvs : List (Nat × AV)} (r : AttrRel es kvs) : es.length = kvs.length := by
  induction r with
  | nil => rfl
  | cons _ _ _ _ ih => simp [ih]
theorem getL_some {es : List DictEntry} {kvs : List (Nat × AV)} (r : AttrRel es kvs) (x : Str) : (getL x es).isSome = true := by
  unfold getL
  have : es.any (·.refKey) = false := by
    induction r with
    | nil => rfl
    | cons h1 _ _ _ ih => rw [List.any_cons, ih]; simp [DictEntry.refKey, h1]
  split
  · rfl
  · rw [this]; rfl

theorem split_mem {α β : Type} {p : α × β} {xs : List (α × β)} (h : p ∈ xs) (hn : (xs.map (·.1)).Nodup) : ∃ pre post, xs = pre ++ p :: post ∧ (∀ q ∈ pre, q.1 ≠ p.1) ∧ ∀ q ∈ post, q.1 ≠ p.1 := by
  obtain ⟨pre, post, e⟩ := List.append_of_mem h
  refine ⟨pre, post, e, ?_, ?_⟩
  · intro q hq e'
    rw [e, List.map_append, List.map_cons, List.nodup_append] at hn
    exact hn.2.2 _ (List.mem_map.mpr ⟨q, hq, rfl⟩) _ (.head _) e'
  · intro q hq e'
    rw [e, List.map_append, List.map_cons, List.nodup_append] at hn
    exact (List.nodup_cons.mp hn.2.1).1 (List.mem_map.mpr ⟨q, hq, e'⟩)
theorem liveNews_nodup (hB h : Heap) (L : Addr) : ((liveNews hB h L).map (·.1)).Nodup := by
  unfold liveNews
  have : ∀ xs : List Nat, xs.Nodup → ((xs.filterMap fun a => match h.get? a with
    | some o => if a = L ∨ (hB.get? a).isSome = true then none else some (a, o)
    | none => none).map (·.1)).Nodup := by
    intro xs hx
    induction xs with
    | nil => exact List.nodup_nil
    | cons a r ih =>
      obtain ⟨h1, h2⟩ := List.nodup_cons.mp hx
      rw [List.filterMap_cons]
      split
      · exact ih h2
      · rename_i q hq
        have e : q.1 = a := by
          split at hq
          · split at hq <;> first | (cases hq; done) | (cases hq; rfl)
          · cases hq
        rw [List.map_cons, e]
        refine List.nodup_cons.mpr ⟨fun hm => ?_, ih h2⟩
        obtain ⟨p, hp, e'⟩ := List.mem_map.mp hm
        obtain ⟨b, hb, hb'⟩ := List.mem_filterMap.mp hp
        have : p.1 = b := by
          split at hb'
          · split at hb' <;> first | (cases hb'; done) | (cases hb'; rfl)
          · cases hb'
        exact h1 (by rw [← e', this]; exact hb)
  exact this _ List.nodup_range

theorem setA_sound {x : Value} {k : Nat} {v : Value} {a C d : Addr} {kvs : List (Nat × AV)} {P : Shared → Prop} (R : Rep c F L names l H s) (hx : av x = .ref a) (hH : H a = some (.inst C d kvs)) (hk : k < 19) (hz : kvs.length ≤ 100) (hs : a ≠ c.scr)
    (hq : ∀ s', Rep c F L names l (upd H a (.inst C d (putA kvs k (av v)))) s' → P s') :
    wpAny (model c.prog c.w) A (setAttr x (ks k) v) (fun _ s' => P s') NoE s := by
  obtain ⟨es, m, I, hr, hc, hd⟩ := R.instAt hH
  obtain ⟨g1, g2, _, g4, g5, g6⟩ := attrOk_parts (R.ok.attr C hc k hk)
  obtain ⟨mc, F1, h2⟩ := R.fr
  have hdL : d ≠ L := by rintro rfl; exact R.offO (.inr ⟨_, _, _, hH⟩)
  have hdB : c.hB.get? d = none := by
    cases q : c.hB.get? d with
    | none => rfl
    | some o =>
      have h1 := R.own d (.inr ⟨_, _, _, hH⟩)
      rw [R.base _ _ q] at h1; cases h1
  obtain ⟨pre, post, e, p1, p2⟩ := split_mem (mem_liveNews.mpr ⟨hd, hdL, hdB⟩) (liveNews_nodup c.hB s.heap L)
  have N1 : News c.hB L s.heap (pre ++ (d, dictOf es m) :: post) := by
    rw [← e]; exact fun p hp => mem_liveNews.mp hp
  rw [av_ref hx]
  refine set_plain R.kin I g4 ?_
  refine osa_dict (s := { s with toks := s.toks + 1 }) (od' := dictOf (putL (ks k) (PyData.keyHash c.w.params (ks k)) (.str (ks k) (s.toks + 1)) v es) (putN (ks k) es m)) F1 N1 R.kin I rfl g5 g6 g2 (getL_some hr _) p1 p2 ?_ rfl ?_ fun h' F2 N2 => ?_
  · exact putName_dict _ _ _ _ _ _
  · have := putL_length (ks k) (PyData.keyHash c.w.params (ks k)) (.str (ks k) (s.toks + 1)) v es
    have := hr.length
    omega
  · refine hq _ ?_
    have sb : ∀ b, b ≠ d → b ≠ L → ∀ o, s.heap.get? b = some o → h'.get? b = some o := by
      intro b hb hbL o ho
      cases q : c.hB.get? b with
      | none =>
        have hm := mem_liveNews.mpr ⟨ho, hbL, q⟩
        rw [e] at hm
        rcases List.mem_append.mp hm with hm | hm
        · exact (N2 _ (List.mem_append_left _ hm)).1
        · rcases List.mem_cons.mp hm with hm | hm
          · cases hm; exact absurd rfl hb
          · exact (N2 _ (List.mem_append_right _ (.tail _ hm))).1
      | some x =>
        have h1 := F1.keep _ _ q
        rw [ho] at h1; cases h1
        exact F2.keep _ _ q
    have nd := (N2 (d, dictOf (putL (ks k) (PyData.keyHash c.w.params (ks k)) (.str (ks k) (s.toks + 1)) v es) (putN (ks k) es m)) (List.mem_append_right _ (.head _))).1
    have naL := R.neL hH
    obtain ⟨od, q1, q2, q3, q4⟩ := R.objs _ _ hH
    refine R.writeL hH (fun b hb hbL O hO => sb b hb hbL O hO) ⟨mc, F2.ns, h2⟩ rfl rfl hs ?_ ?_
    · exact ⟨_, sb a q4 naL _ q1, nd, ⟨hc, _, _, rfl, putL_rel hr hk⟩, q4⟩
    · intro C' d' kvs' e'; cases e'; exact ⟨_, rfl⟩
end

section
variable {c : Cx} {A : Around} {F : Addr → Option Obj} {L : Addr} {names : List Str} {l : List AV} {H : AH} {s : Shared} {n : Nat}

theorem plain_list {h : Heap} {D : Addr} {items : Array Value} (p : h.PlainList D items) : ∃ n, h.get? D = some (listOf items n) := by
  obtain ⟨n, e⟩ := p
  exact ⟨n, e⟩

/-! slices -/
theorem pick_cut (vs : List Value) {lo hi : Option Int} (h1 : okPart lo) (h2 : okPart hi) : (slicePick vs.toArray lo hi none).toList.map av = cutL (vs.map av) lo hi := by
  rw [slicePick_plain]
  simp only [List.size_toArray, cutL]
  have e : ∀ i : Int, 0 ≤ i → clipAt vs.length i = min i.toNat vs.length := by
    intro i hi; unfold clipAt; rw [if_neg (by omega)]; omega
  cases hi with
  | none =>
    cases lo with
    | none => simp
    | some i =>
      have := h1 i rfl
      simp only [Option.elim, Option.getD_some, e i this, List.map_take, List.map_drop]
      rw [List.take_of_length_le (by simp)]
      by_cases q : i.toNat ≤ vs.length
      · rw [Nat.min_eq_left q]
      · rw [Nat.min_eq_right (by omega), List.drop_of_length_le (by simp), List.drop_of_length_le (by simp; omega)]
  | some j =>
    have hj := h2 j rfl
    cases lo with
    | none =>
      simp only [Option.elim, Option.getD_none, e j hj, List.drop_zero, Nat.sub_zero, Int.toNat_zero, List.map_take]
      by_cases q : j.toNat ≤ vs.length
      · rw [Nat.min_eq_left q]
      · rw [Nat.min_eq_right (by omega), List.take_of_length_le (by simp), List.take_of_length_le (by simp; omega)]
    | some i =>
      have hi' := h1 i rfl
      simp only [Option.elim, Option.getD_some, e j hj, e i hi', List.map_take, List.map_drop]
      apply List.ext_getElem?
      intro k
      simp only [List.getElem?_take, List.getElem?_drop, List.getElem?_map]
      by_cases q : i.toNat + k < vs.length
      · by_cases q2 : i.toNat + k < j.toNat
        · rw [if_pos (by omega), if_pos q2, Nat.min_eq_left (by omega)]
        · rw [if_neg (by omega), if_neg q2]
      · have : vs[i.toNat + k]? = none := by simp; omega
        rw [this]
        by_cases q2 : i.toNat + k < j.toNat
        · rw [if_pos q2]
          split
          · have : vs[min i.toNat vs.length + k]? = none := by simp; omega
            simp [this]
          · rfl
        · rw [if_neg q2]
          split
          · have : vs[min i.toNat vs.length + k]? = none := by simp; omega
            simp [this]
          · rfl

theorem isPart_of {v : Value} {lo : Option Int} (h : partV (av v) = some lo) : IsPart v lo := by
  cases v <;> simp [av, partV] at h <;> subst h <;> constructor

theorem strCut_made {x : Str} {t : Tok} {lo hi : Option (Int × Tok)} {Q : Value → Shared → Prop} (hx : x.length ≤ 1000) (h : ∀ t' k, Q (.str (sCut x (lo.map (·.1)) (hi.map (·.1))) t') { s with toks := k }) : (sliceMade x t lo hi none).post Q s := by
  have le := PySem.Txt.slice_le x (lo.map (·.1)) (hi.map (·.1))
  have h1 : ∀ t' k, Q (.str (PySem.Txt.slice x (lo.map (·.1)) (hi.map (·.1))) t') { s with toks := k } := h
  unfold PySem.Txt.slice at h1 le
  unfold sliceMade slicePicked
  simp only [Option.map_none, Option.getD_none]
  split
  · rename_i hc
    rw [if_pos hc] at h1
    exact h1 t s.toks
  · rename_i hc
    rw [if_neg hc] at h1 le
    refine ⟨?_, h1 _ _⟩
    rw [sizeLine_eq]; omega

theorem part_of {v : Value} {lo : Option Int} (h : partV (av v) = some lo) : ∃ p : Option (Int × Tok), v = partValue p ∧ p.map (·.1) = lo := by
  cases v <;> simp [av, partV] at h <;> subst h
  · exact ⟨none, rfl, rfl⟩
  · rename_i i t; exact ⟨some (i, t), rfl, rfl⟩

theorem slice_sound {value : Expr} {lower upper : Option Expr} {p : Pos} {v vl vu : Value} {Q : AV → AH → Prop} (R : Rep c F L names l H s) (h : wSlice c (av v) (av vl) (av vu) H Q) :
    WP c A F L names l (subscriptTail value (.Slice lower upper none p) v (.ref s.heap.objs.size)) Q { s with heap := s.heap.push { cls := .type "slice", data := .fields #[vl, vu, .none] } } := by
  obtain ⟨lo, hlo, h⟩ := h.elim
  obtain ⟨hi, hhi, h⟩ := h.elim
  have R1 := R.ext (Ext.push s { cls := .type "slice", data := .fields #[vl, vu, .none] })
  cases v with
  | str x t =>
    obtain ⟨h1, h2⟩ := h
    obtain ⟨p1, e1, e1'⟩ := part_of hlo
    obtain ⟨p2, e2, e2'⟩ := part_of hhi
    refine tail_any (T := "str") (typeIs_str _ _ _) PySem.F.slot_str_getitem.lookup (wpAny_getItem_str_slice (l := p1) (u := p2) (st := none) ⟨_, Heap.get?_push_size _ rfl, rfl, by rw [e1, e2]; rfl⟩ rfl
      (strCut_made h1 fun t' k => ⟨H, R1.tk _, ?_⟩)) (subscripted_slice _ _ _ _ _)
    rw [e1', e2']; exact h2
  | ref a =>
    obtain ⟨xs, hx, hsz, h1, h2, h3⟩ := Ok.elim h
    have hx : H a = some (.list xs) := by
      revert hx; cases H a with
      | none => intro q; cases q
      | some o => cases o <;> intro q <;> cases q; rfl
    obtain ⟨vs, hl, hvs, _⟩ := R1.objs _ _ hx
    subst hvs
    rw [List.length_map] at hsz
    refine tail_any hl.typeIs PySem.F.slot_list_getitem.lookup (wpAny_getItem_list_slice hl (Heap.IsSliceOf.new _ _ _ _) (isPart_of hlo) (isPart_of hhi) .none (by simp) ?_ (by rw [sizeLine_eq, List.size_toArray]; omega)) (subscripted_slice _ _ _ _ _)
    obtain ⟨hd, R2⟩ := R1.alloc (s' := { s with heap := (s.heap.push { cls := .type "slice", data := .fields #[vl, vu, .none] }).push { cls := .type "list", data := .seq (slicePick vs.toArray lo hi none) } }) (a := (s.heap.push { cls := .type "slice", data := .fields #[vl, vu, .none] }).objs.size) (o := .list (cutL (vs.map av) lo hi))
      (Ext.push _ _) size_none (.mkList (vs := (slicePick vs.toArray lo hi none).toList) (n := 0) (by rw [Array.toArray_toList]; exact Heap.get?_push_size _ rfl) (pick_cut vs h1 h2)) (by intro C d kvs e; cases e)
    exact ⟨_, R2, h3 _ hd (R1.freshS size_none)⟩
  | _ => exact h.elim
end

section
variable {c : Cx} {A : Around} {F : Addr → Option Obj} {L : Addr} {names : List Str} {l : List AV} {H : AH} {s : Shared} {n : Nat}

def frz (F : Addr → Option Obj) (D : Addr) (O : Obj) : Addr → Option Obj := fun b => if b = D then some O else F b
theorem Rep.freeze (R : Rep c F L names l H s) {D : Addr} {O : Obj} (hO : s.heap.get? D = some O) (hL : D ≠ L) (hn : ¬ Own c H D) : Rep c (frz F D O) L names l H s := by
  refine ⟨R.ok, ?_, ?_, R.objs, ?_, R.inst, R.inj, R.gens, R.os, R.ns, ?_, R.offO, R.above, R.tab⟩
  · intro b o h
    unfold frz at h
    split at h
    · rename_i q; cases h; rw [q]; exact hO
    · exact R.keep _ _ h
  · intro b o h
    unfold frz
    split
    · rename_i q
      have := R.keep _ _ (R.base _ _ h)
      rw [q, hO] at this; exact this
    · exact R.base _ _ h
  · intro b h
    unfold frz
    rw [if_neg (fun (q : b = D) => hn (q ▸ h))]
    exact R.own _ h
  · unfold frz
    rw [if_neg (Ne.symm hL)]; exact R.offF
theorem Rep.thaw {D : Addr} {O : Obj} (R : Rep c (frz F D O) L names l H s) (hF : F D = none) (hB : c.hB.get? D = none) : Rep c F L names l H s := by
  have sub : ∀ b o, F b = some o → frz F D O b = some o := by
    intro b o h
    unfold frz
    rw [if_neg (fun q => by rw [q, hF] at h; cases h)]; exact h
  refine ⟨R.ok, fun b o h => R.keep _ _ (sub _ _ h), ?_, R.objs, ?_, R.inst, R.inj, R.gens, R.os, R.ns, ?_, R.offO, R.above, R.tab⟩
  · intro b o h
    have := R.base _ _ h
    unfold frz at this
    split at this
    · rename_i q; rw [q, hB] at h; cases h
    · exact this
  · intro b h
    have := R.own _ h
    cases q : F b with
    | none => rfl
    | some o => rw [sub _ _ q] at this; cases this
  · have := R.offF
    unfold frz at this
    split at this
    · cases this
    · exact this

/-! displays -/
def notStar : Expr → Bool
  | .Starred .. => false
  | _ => true
theorem star_plain {e : Expr} (h : notStar e = true) (rest : List Expr) (env : Env) : starEach (e :: rest) env = (false, eval e env) :: starEach rest env := by
  cases e <;> first | rfl | cases h

inductive SndEs (c : Cx) (f : FnC) : List Expr → Es → Prop
  | nil : SndEs c f [] .nil
  | cons {ex : Expr} {e : E} {exs : List Expr} {es : Es} : notStar ex = true → SndE c f ex e → SndEs c f exs es → SndEs c f (ex :: exs) (.cons e es)

theorem spliced_sound {f : FnC} {pos : Pos} {exs : List Expr} {es : Es} (h : SndEs c f exs es) : ∀ {l : List AV} {H : AH} {s : Shared} {Q : List AV → AH → Prop}, Room A n → wEs c n es l H Q → Rep c F L f.names l H s →
    wpAny (model c.prog c.w) A (spliced (backTo pos (starEach exs (f.env L)))) (fun vs s' => vs.length = exs.length ∧ ∃ H', Rep c F L f.names l H' s' ∧ Q (vs.map av) H') NoE s := by
  induction h with
  | nil => intro l H s Q hr hw R; exact spliced_none ⟨rfl, H, R, hw⟩
  | cons h1 h2 h3 ih =>
    intro l H s Q hr hw R
    refine spliced_more ?_ (star_plain h1 _ _)
    refine wpNo (h2.run _ _ _ _ _ _ _ _ hr hw R) ?_
    rintro v s1 ⟨H1, R1, hw1⟩
    refine wpNo (ih hr hw1 R1) ?_
    rintro vs s2 ⟨hl, H2, R2, hq⟩
    exact ⟨by simp [hl], H2, R2, hq⟩

theorem list_sound {f : FnC} {pos : Pos} {exs : List Expr} {es : Es} (h : SndEs c f exs es) (hlen : exs.length ≤ 1000) : SndE c f (.List exs pos) (.list es) := by
  refine ⟨fun n A F L l H s Q hr hw R => ?_⟩
  refine List_ (wpNo (spliced_sound h hr hw R) ?_)
  rintro vs s1 ⟨hl, H1, R1, hq⟩
  refine wpAny_newList ?_ (by rw [sizeLine_eq]; omega)
  obtain ⟨hd, R2⟩ := R1.alloc (s' := { s1 with heap := s1.heap.push (listOf vs.toArray 0) }) (o := .list (vs.map av)) (Ext.push _ _) size_none (.mkList (Heap.get?_push_size _ rfl) rfl) (by intro C d kvs e; cases e)
  exact ⟨_, R2, hq _ hd (R1.freshS size_none)⟩
theorem tup_sound {f : FnC} {k : Nat} {pos : Pos} {exs : List Expr} {es : Es} (h : SndEs c f exs es) (hlen : exs.length ≤ 1000) : SndE c f (.Tuple exs k pos) (.tup es) := by
  refine ⟨fun n A F L l H s Q hr hw R => ?_⟩
  refine Tuple_ (wpNo (spliced_sound h hr hw R) ?_)
  rintro vs s1 ⟨hl, H1, R1, hq⟩
  refine wpAny_newTuple ?_ (by rw [sizeLine_eq]; omega)
  obtain ⟨hd, R2⟩ := R1.alloc (s' := { s1 with heap := s1.heap.push { cls := .type "tuple", data := .seq vs.toArray } }) (o := .tup (vs.map av)) (Ext.push _ _) size_none ⟨vs, ⟨_, Heap.get?_push_size _ rfl, rfl, _, rfl⟩, rfl⟩ (by intro C d kvs e; cases e)
  exact ⟨_, R2, hq _ hd (R1.freshS size_none)⟩

/-- keys of a display: known words -/
inductive KeysAre : List (Option Expr) → List Nat → Prop
  | nil : KeysAre [] []
  | cons {k : Nat} {m : Nat} {p : Pos} {ks' : List (Option Expr)} {r : List Nat} : k < 19 → KeysAre ks' r → KeysAre (some (.Constant (.str (ks k)) m p) :: ks') (k :: r)
theorem KeysAre.length {a : List (Option Expr)} {b : List Nat} (h : KeysAre a b) : a.length = b.length := by
  induction h with
  | nil => rfl
  | cons _ _ ih => simp [ih]
theorem KeysAre.all {a : List (Option Expr)} {b : List Nat} (h : KeysAre a b) : a.all (·.isSome) = true := by
  induction h with
  | nil => rfl
  | cons _ _ ih => simpa using ih
theorem KeysAre.lt {a : List (Option Expr)} {b : List Nat} (h : KeysAre a b) : ∀ k ∈ b, k < 19 := by
  induction h with
  | nil => intro k h; cases h
  | cons h1 _ ih =>
    intro k h
    cases h with
    | head => exact h1
    | tail _ h => exact ih k h

theorem pairs_sound {f : FnC} {pos : Pos} {keys : List (Option Expr)} {kk : List Nat} (hk : KeysAre keys kk) : ∀ {exs : List Expr} {es : Es}, SndEs c f exs es → keys.length = exs.length → ∀ {l : List AV} {H : AH} {s : Shared} {Q : List AV → AH → Prop}, Room A n → wEs c n es l H Q → Rep c F L f.names l H s →
    wpAny (model c.prog c.w) A (evalPairs (pairTrees keys exs (f.env L) pos)) (fun vs s' => ∃ us, us.length = kk.length ∧ Carries (PySem.strKind c.prog c.w) vs ((kk.map ks).zip us) ∧ ∃ H', Rep c F L f.names l H' s' ∧ Q (us.map av) H') NoE s := by
  induction hk with
  | nil =>
    intro exs es h he l H s Q hr hw R
    cases h with
    | nil => exact evalPairs_nil ⟨[], rfl, trivial, H, R, hw⟩
    | cons _ _ _ => cases he
  | cons h1 h2 ih =>
    intro exs es h he l H s Q hr hw R
    cases h with
    | nil => cases he
    | cons g1 g2 g3 =>
      refine evalPairs_cons (wpAny_Constant_str ?_)
      refine wpAny_bind (wpNo (g2.run _ _ _ _ _ _ _ _ hr hw (R.tk _)) ?_)
      rintro v s1 ⟨H1, R1, hw1⟩
      refine wpAny_bind (wpAny_standAt (wpAny_pure ?_))
      refine wpNo (ih g3 (by simpa using he) hr hw1 R1) ?_
      rintro vs s2 ⟨us, hl, hc, H2, R2, hq⟩
      exact ⟨v :: us, by simp [hl], ⟨strKind_is _ _ _ _, rfl, hc⟩, H2, R2, hq⟩

theorem map_zip_av : ∀ (kk : List Nat) (us : List Value), kk.length = us.length → ((kk.map ks).zip us).map (fun p => (p.1, av p.2)) = (kk.zip (us.map av)).map fun p => (ks p.1, p.2)
  | [], [], _ => rfl
  | [], _ :: _, h => by cases h
  | _ :: _, [], h => by cases h
  | k :: kk, u :: us, h => by simp [map_zip_av kk us (by simpa using h)]

theorem ks_nodup {kk : List Nat} (hlt : ∀ k ∈ kk, k < 19) (hn : kk.Nodup) : (kk.map ks).Nodup := by
  induction kk with
  | nil => exact List.nodup_nil
  | cons k r ih =>
    obtain ⟨h1, h2⟩ := List.nodup_cons.mp hn
    rw [List.map_cons]
    refine List.nodup_cons.mpr ⟨fun hm => ?_, ih (fun k h => hlt k (.tail _ h)) h2⟩
    obtain ⟨j, hj, e⟩ := List.mem_map.mp hm
    exact h1 ((ks_eq (hlt j (.tail _ hj)) (hlt k (.head _))).mp e ▸ hj)

theorem dict_sound {f : FnC} {pos : Pos} {keys : List (Option Expr)} {kk : List Nat} {exs : List Expr} {es : Es} (hk : KeysAre keys kk) (h : SndEs c f exs es) (hlen : keys.length = exs.length) (h0 : keys ≠ []) (h15 : keys.length ≤ 15) (hn : kk.Nodup) :
    SndE c f (.Dict keys exs pos) (.dict kk es) := by
  refine ⟨fun n A F L l H s Q hr hw R => ?_⟩
  refine wpAny_Dict_walk (knd := PySem.strKind c.prog c.w) hk.all hlen h0 h15 ?_
  have R1 := R.ext (Ext.push s { cls := .type "dict", data := .dict #[] })
  have hO : (s.heap.push { cls := .type "dict", data := .dict #[] }).get? s.heap.objs.size = some { cls := .type "dict", data := .dict #[] } := Heap.get?_push_size _ rfl
  have hF := R.freshF (size_none (h := s.heap))
  have hB : c.hB.get? s.heap.objs.size = none := by
    cases q : c.hB.get? s.heap.objs.size with
    | none => rfl
    | some o => rw [R.base _ _ q] at hF; cases hF
  have hLn := R.freshL (size_none (h := s.heap))
  have hOw := R.freshD (size_none (h := s.heap))
  have R2 := R1.freeze hO (Ne.symm hLn) hOw
  refine wpNo (pairs_sound hk h hlen hr hw R2) ?_
  rintro vs s1 ⟨us, hul, hcar, H1, R3, hq⟩
  have hD : s1.heap.get? s.heap.objs.size = some { cls := .type "dict", data := .dict #[] } := R3.keep _ _ (by unfold frz; rw [if_pos rfl])
  have nd : ((kk.map ks).zip us).map (·.1) = kk.map ks := List.map_fst_zip (by simp [hul])
  refine ⟨(kk.map ks).zip us, hcar, ⟨_, #[], 0, hD, ⟨rfl, rfl, rfl⟩, rfl, fun e he => by simp at he, .nil, List.nodup_nil⟩, fun h' hd hs => ?_⟩
  rw [merged_nil_of_nodup _ (by rw [nd]; exact ks_nodup hk.lt hn)] at hd
  -- the dict becomes ours
  have R4 := R3.thaw hF hB
  have hH : H1 s.heap.objs.size = none := by
    cases q : H1 s.heap.objs.size with
    | none => rfl
    | some o =>
      have hsc : s.heap.objs.size ≠ c.scr := by
        intro e
        obtain ⟨o', ho'⟩ := R.ok.scrIn
        rw [← e, hB] at ho'; cases ho'
      have := R3.own _ (.inl ⟨hsc, o, q⟩)
      unfold frz at this; rw [if_pos rfl] at this; cases this
  have hnO : ¬ Own c H1 s.heap.objs.size := fun ho => by
    have := R3.own _ ho
    unfold frz at this; rw [if_pos rfl] at this; cases this
  have hLD : L ≠ s.heap.objs.size := hLn
  have nL : ∀ {b : Addr}, F b ≠ none → b ≠ s.heap.objs.size := by rintro b hb rfl; exact hb hF
  have R5 : Rep c F L f.names l H1 { s1 with heap := h', toks := s1.toks + vs.length } := by
    obtain ⟨mc, m1, m2⟩ := R4.ns
    refine ⟨R4.ok, fun b o hb => (hs.2 b (nL (by rw [hb]; simp))).trans (R4.keep _ _ hb), R4.base, ?_, R4.own, R4.inst, R4.inj, R4.gens, R4.os, ⟨mc, m1.sameBut hs hLD, m2⟩, R4.offF, R4.offO, R4.above, R4.tab⟩
    intro a o ha
    refine (R4.objs _ _ ha).keeps (fun O hO => (hs.2 a ?_).trans hO) fun C d kvs e O hO => (hs.2 d ?_).trans hO
    · rintro rfl; rw [hH] at ha; cases ha
    · subst e; rintro rfl; exact hnO (.inr ⟨_, _, _, ha⟩)
  have R6 := R5.add hH hnO hF hLD (o := .dict (kk.zip (us.map av))) ⟨_, hd, map_zip_av kk us hul.symm, fun p hp => hk.lt p.1 (List.of_mem_zip hp).1⟩ (by intro C d kvs e; cases e)
  exact ⟨_, R6, hq _ hH (R.freshS size_none)⟩
end

section
variable {c : Cx} {A : Around} {F : Addr → Option Obj} {L : Addr} {names : List Str} {l : List AV} {H : AH} {s : Shared} {n : Nat} {f : FnC}

/-! names -/
theorem var_read {x : Nat} {y : Str} {pos : Pos} {v : AV} {P : Value → Shared → Prop} (hf : f.Ok) (hx : f.names[x]? = some y) (R : Rep c F L f.names l H s) (hv : l[x]? = some v) (hb : v ≠ .bad) (h : ∀ u, av u = v → P u s) :
    wpAny (model c.prog c.w) A (eval (.Name y pos) (f.env L)) P NoE s := by
  obtain ⟨mc, F1, h2⟩ := R.fr
  obtain ⟨u, hu, hu'⟩ := h2 _ _ _ hx hv hb
  have hm := List.mem_of_getElem? hx
  exact wpAny_Name (wpAny_loadName_local (env := f.env L) hf.kind (hf.loc y hm) F1.ns hu (h u hu')) (hf.dbg y hm)
theorem var_sound {x : Nat} {y : Str} {pos : Pos} (hf : f.Ok) (hx : f.names[x]? = some y) : SndE c f (.Name y pos) (.var x) := by
  refine ⟨fun n A F L l H s Q hr hw R => ?_⟩
  obtain ⟨v, hv, hb, hq⟩ := hw.elim
  exact var_read hf hx R hv hb fun u hu => ⟨H, R, by rw [hu]; exact hq⟩
theorem var_read_ld {x : Nat} {y : Str} {v : AV} {P : Value → Shared → Prop} (hf : f.Ok) (hx : f.names[x]? = some y) (R : Rep c F L f.names l H s) (hv : l[x]? = some v) (hb : v ≠ .bad) (h : ∀ u, av u = v → P u s) :
    wpAny (model c.prog c.w) A (loadName (f.env L) y) P NoE s := by
  obtain ⟨mc, F1, h2⟩ := R.fr
  obtain ⟨u, hu, hu'⟩ := h2 _ _ _ hx hv hb
  have hm := List.mem_of_getElem? hx
  exact wpAny_loadName_local (env := f.env L) hf.kind (hf.loc y hm) F1.ns hu (h u hu')

theorem attr_sound {x : Nat} {y : Str} {k : Nat} {px pos : Pos} (hf : f.Ok) (hx : f.names[x]? = some y) : SndE c f (.Attribute (.Name y px) (ks k) pos) (.attr x k) := by
  refine ⟨fun n A F L l H s Q hr hw R => ?_⟩
  obtain ⟨v, hv, hb, hq⟩ := hw.elim
  obtain ⟨r, hr', hb', hq⟩ := hq.elim
  refine Attribute_Name_ (var_read hf hx R hv hb fun u hu => ?_)
  exact getA_sound R (by rw [hu]; exact hr') hb' hq

theorem item_sound {value : Expr} {e : E} {k m : Nat} {p pos : Pos} (h : SndE c f value e) : SndE c f (.Subscript value (.Constant (.str (ks k)) m p) pos) (.item e k) := by
  refine ⟨fun n A F L l H s Q hr hw R => ?_⟩
  refine Subscript_ (wpNo (h.run _ _ _ _ _ _ _ _ hr hw R) ?_)
  rintro v s1 ⟨H1, R1, hq⟩
  obtain ⟨r, hr', hq⟩ := hq.elim
  exact wpAny_Constant_str (getK_sound (R1.tk _) hr' hq rfl)
theorem sub_sound {value slice : Expr} {e i : E} {pos : Pos} (h : SndE c f value e) (h2 : SndE c f slice i) (hn : notSlice slice = true) : SndE c f (.Subscript value slice pos) (.sub e i) := by
  refine ⟨fun n A F L l H s Q hr hw R => ?_⟩
  refine Subscript_ (wpNo (h.run _ _ _ _ _ _ _ _ hr hw R) ?_)
  rintro v s1 ⟨H1, R1, hw1⟩
  refine wpNo (h2.run _ _ _ _ _ _ _ _ hr hw1 R1) ?_
  rintro j s2 ⟨H2, R2, hq⟩
  obtain ⟨r, hr', hq⟩ := hq.elim
  exact getI_sound R2 hr' hq hn

/-- a slice's part: nothing or an expression -/
def PartSnd (c : Cx) (f : FnC) (x : Option Expr) (e : E) : Prop := match x with
  | none => e = .none
  | some x => SndE c f x e
theorem part_run {x : Option Expr} {e : E} {Q : AV → AH → Prop} (h : PartSnd c f x e) (hr : Room A n) (hw : wE c n e l H Q) (R : Rep c F L f.names l H s) : WP c A F L f.names l (evalPart x (f.env L)) Q s := by
  cases x with
  | none => cases h; exact wpAny_pure ⟨H, R, hw⟩
  | some x => exact h.run _ _ _ _ _ _ _ _ hr hw R
theorem slc_sound {value : Expr} {lo hi : Option Expr} {e elo ehi : E} {p pos : Pos} (h : SndE c f value e) (h1 : PartSnd c f lo elo) (h2 : PartSnd c f hi ehi) : SndE c f (.Subscript value (.Slice lo hi none p) pos) (.slice e elo ehi) := by
  refine ⟨fun n A F L l H s Q hr hw R => ?_⟩
  refine Subscript_ (wpNo (h.run _ _ _ _ _ _ _ _ hr hw R) ?_)
  rintro v s1 ⟨H1, R1, hw1⟩
  refine wpAny_Slice (wpNo (part_run h1 hr hw1 R1) ?_)
  rintro vl s2 ⟨H2, R2, hw2⟩
  refine wpNo (part_run h2 hr hw2 R2) ?_
  rintro vu s3 ⟨H3, R3, hw3⟩
  exact wpAny_pure (slice_sound R3 hw3)

theorem bin_e {a b : Expr} {ea eb : E} {op : Operator} {pos : Pos} (h1 : SndE c f a ea) (h2 : SndE c f b eb) : SndE c f (.BinOp a op b pos) (.bin op ea eb) := by
  refine ⟨fun n A F L l H s Q hr hw R => ?_⟩
  refine wpAny_BinOp (wpNo (h1.run _ _ _ _ _ _ _ _ hr hw R) ?_)
  rintro v s1 ⟨H1, R1, hw1⟩
  refine wpNo (h2.run _ _ _ _ _ _ _ _ hr hw1 R1) ?_
  rintro u s2 ⟨H2, R2, hw2⟩
  exact bin_sound R2 hw2
theorem neg_e {a : Expr} {ea : E} {pos : Pos} (h1 : SndE c f a ea) : SndE c f (.UnaryOp .USub a pos) (.neg ea) := by
  refine ⟨fun n A F L l H s Q hr hw R => ?_⟩
  have e : eval (.UnaryOp .USub a pos) (f.env L) = (do let v ← eval a (f.env L); standAt pos; holding [v] (unaryOp .USub v)) := rfl
  rw [e]
  refine wpAny_bind (wpNo (h1.run _ _ _ _ _ _ _ _ hr hw R) ?_)
  rintro v s1 ⟨H1, R1, hq⟩
  obtain ⟨i, hi, hq⟩ := hq.elim
  refine wpAny_bind (wpAny_standAt (wpAny_holding ?_))
  cases v <;> simp [av, intOf] at hi
  subst hi
  exact PyProof.Rows.neg_int ⟨H1, R1.tk _, hq⟩
def notSetX : Expr → Bool
  | .Set .. => false
  | _ => true
theorem marks_of {op : CmpOp} {r : Expr} (h : notSetX r = true) : behindInMarks op r = false := by
  cases r <;> first | rfl | cases h
theorem cmp_e {a b : Expr} {ea eb : E} {op : CmpOp} {pos : Pos} (h1 : SndE c f a ea) (h2 : SndE c f b eb) (hn : notSetX b = true) : SndE c f (.Compare a [op] [b] pos) (.cmp op ea eb) := by
  refine ⟨fun n A F L l H s Q hr hw R => ?_⟩
  refine wpAny_Compare1 (wpNo (h1.run _ _ _ _ _ _ _ _ hr hw R) ?_) (marks_of hn)
  rintro v s1 ⟨H1, R1, hw1⟩
  refine wpNo (h2.run _ _ _ _ _ _ _ _ hr hw1 R1) ?_
  rintro u s2 ⟨H2, R2, hw2⟩
  exact cmp_sound hr R2 hw2
theorem cmp_t {a b : Expr} {ea eb : E} {op : CmpOp} {pos : Pos} (h1 : SndE c f a ea) (h2 : SndE c f b eb) (hn : notSetX b = true) : SndT c f (.Compare a [op] [b] pos) (.cmp op ea eb) := by
  refine ⟨fun n A F L l H s Q hr hw R => ?_⟩
  refine wpAny_isTrue_Compare1 (wpNo (h1.run _ _ _ _ _ _ _ _ hr hw R) ?_) (marks_of hn)
  rintro v s1 ⟨H1, R1, hw1⟩
  refine wpNo (h2.run _ _ _ _ _ _ _ _ hr hw1 R1) ?_
  rintro u s2 ⟨H2, R2, hw2⟩
  refine wpNo (cmp_sound hr R2 hw2) ?_
  rintro r s3 ⟨H3, R3, hw3⟩
  exact tr_sound R3 hw3

theorem hasKey_run {v : Value} {k : Nat} {t : Tok} {p : Addr × List (Nat × AV)} {P : Value → Shared → Prop} (R : Rep c F L names l H s) (hp : dictAt H (av v) = some p) (hk : k < 19) (h : ∀ s', Rep c F L names l H s' → P (.bool (p.2.lookup k).isSome) s') :
    wpAny (model c.prog c.w) A (compareOp .In (.str (ks k) t) v) P NoE s := by
  obtain ⟨e, hH⟩ := dictAt_some hp
  obtain ⟨cvs, hd, hm, hk'⟩ := R.objs _ _ hH
  rw [av_ref e]
  refine wpAny_in_of (strKind_is _ _ _ _) (R.noSys hH) (mapOf_of_dictOf hd) ?_
  have := dict_look hm hk' hk
  have e2 : (valueAt cvs (ks k)).isSome = (p.2.lookup k).isSome := by rw [← this]; cases valueAt cvs (ks k) <;> rfl
  rw [e2]
  exact h _ (R.tk _)
theorem hasKey_e {b : Expr} {eb : E} {k m : Nat} {p pos : Pos} (hk : k < 19) (h2 : SndE c f b eb) (hn : notSetX b = true) : SndE c f (.Compare (.Constant (.str (ks k)) m p) [.In] [b] pos) (.hasKey k eb) := by
  refine ⟨fun n A F L l H s Q hr hw R => ?_⟩
  refine wpAny_Compare1 (wpAny_Constant_str (wpNo (h2.run _ _ _ _ _ _ _ _ hr hw (R.tk _)) ?_)) (marks_of hn)
  rintro u s2 ⟨H2, R2, hw2⟩
  obtain ⟨p, hp, hq⟩ := hw2.elim
  exact hasKey_run R2 hp hk fun s' R' => ⟨H2, R', hq⟩
theorem hasKey_t {b : Expr} {eb : E} {k m : Nat} {p pos : Pos} (hk : k < 19) (h2 : SndE c f b eb) (hn : notSetX b = true) : SndT c f (.Compare (.Constant (.str (ks k)) m p) [.In] [b] pos) (.hasKey k eb) := by
  refine ⟨fun n A F L l H s Q hr hw R => ?_⟩
  refine wpAny_isTrue_Compare1 (wpAny_Constant_str (wpNo (h2.run _ _ _ _ _ _ _ _ hr hw (R.tk _)) ?_)) (marks_of hn)
  rintro u s2 ⟨H2, R2, hw2⟩
  obtain ⟨p, hp, hq⟩ := hw2.elim
  exact hasKey_run R2 hp hk fun s' R' => wpAny_truthy_bool ⟨H2, R', hq⟩

/-! tests -/
theorem plain_t {ex : Expr} {e : E} (h : SndE c f ex e) (hT : ∀ n l H (Q : Bool → AH → Prop), wT c n e l H Q → wE c n e l H fun v H => wTr H v fun t => Q t H)
    (he : ∀ env whole, isTrue ex env whole = (do let v ← whole; standAt ex.pos; holding [v] (truthy v))) : SndT c f ex e := by
  refine ⟨fun n A F L l H s Q hr hw R => ?_⟩
  refine isTrue_plain (wpNo (h.run _ _ _ _ _ _ _ _ hr (hT _ _ _ _ hw) R) ?_) (he _ _)
  rintro v s1 ⟨H1, R1, hq⟩
  exact tr_sound R1 hq
theorem not_t {a : Expr} {ea : E} {pos : Pos} (h : SndT c f a ea) : SndT c f (.UnaryOp .Not a pos) (.not ea) := by
  refine ⟨fun n A F L l H s Q hr hw R => ?_⟩
  exact isTrue_not (wpNo (h.run _ _ _ _ _ _ _ _ hr hw R) fun b s1 h1 => h1)
theorem and_t {a : Expr} {rest : List Expr} {ea er : E} {pos : Pos} (h1 : SndT c f a ea) (h2 : SndT c f (.BoolOp .And rest pos) er) : SndT c f (.BoolOp .And (a :: rest) pos) (.and ea er) := by
  refine ⟨fun n A F L l H s Q hr hw R => ?_⟩
  refine isTrue_and (wpNo (h1.run _ _ _ _ _ _ _ _ hr hw R) ?_)
  rintro b s1 ⟨H1, R1, hq⟩
  cases b with
  | true => exact h2.run _ _ _ _ _ _ _ _ hr hq R1
  | false => exact ⟨H1, R1, hq⟩
theorem or_t {a : Expr} {rest : List Expr} {ea er : E} {pos : Pos} (h1 : SndT c f a ea) (h2 : SndT c f (.BoolOp .Or rest pos) er) : SndT c f (.BoolOp .Or (a :: rest) pos) (.or ea er) := by
  refine ⟨fun n A F L l H s Q hr hw R => ?_⟩
  refine isTrue_or (wpNo (h1.run _ _ _ _ _ _ _ _ hr hw R) ?_)
  rintro b s1 ⟨H1, R1, hq⟩
  cases b with
  | false => exact h2.run _ _ _ _ _ _ _ _ hr hq R1
  | true => exact ⟨H1, R1, hq⟩
theorem and1_t {a : Expr} {ea : E} {pos : Pos} (h1 : SndT c f a ea) : SndT c f (.BoolOp .And [a] pos) ea := by
  refine ⟨fun n A F L l H s Q hr hw R => ?_⟩
  refine isTrue_and (wpNo (h1.run _ _ _ _ _ _ _ _ hr hw R) ?_)
  rintro b s1 ⟨H1, R1, hq⟩
  cases b with
  | true => exact isTrue_and_nil ⟨H1, R1, hq⟩
  | false => exact ⟨H1, R1, hq⟩
theorem or1_t {a : Expr} {ea : E} {pos : Pos} (h1 : SndT c f a ea) : SndT c f (.BoolOp .Or [a] pos) ea := by
  refine ⟨fun n A F L l H s Q hr hw R => ?_⟩
  refine isTrue_or (wpNo (h1.run _ _ _ _ _ _ _ _ hr hw R) ?_)
  rintro b s1 ⟨H1, R1, hq⟩
  cases b with
  | false => exact isTrue_or_nil ⟨H1, R1, hq⟩
  | true => exact ⟨H1, R1, hq⟩
theorem and_e {a b : Expr} {rest : List Expr} {ea er : E} {pos : Pos} (h1 : SndE c f a ea) (h2 : SndE c f (.BoolOp .And (b :: rest) pos) er) : SndE c f (.BoolOp .And (a :: b :: rest) pos) (.and ea er) := by
  refine ⟨fun n A F L l H s Q hr hw R => ?_⟩
  refine BoolOp_and (wpNo (h1.run _ _ _ _ _ _ _ _ hr hw R) ?_)
  rintro v s1 ⟨H1, R1, hq⟩
  refine wpNo (tr_sound (Q := fun t H => if t = true then wE c n er l H Q else Q (av v) H) R1 hq) ?_
  rintro t s2 ⟨H2, R2, hq⟩
  cases t with
  | true => exact h2.run _ _ _ _ _ _ _ _ hr hq R2
  | false => exact ⟨H2, R2, hq⟩
theorem or_e {a b : Expr} {rest : List Expr} {ea er : E} {pos : Pos} (h1 : SndE c f a ea) (h2 : SndE c f (.BoolOp .Or (b :: rest) pos) er) : SndE c f (.BoolOp .Or (a :: b :: rest) pos) (.or ea er) := by
  refine ⟨fun n A F L l H s Q hr hw R => ?_⟩
  refine BoolOp_or (wpNo (h1.run _ _ _ _ _ _ _ _ hr hw R) ?_)
  rintro v s1 ⟨H1, R1, hq⟩
  refine wpNo (tr_sound (Q := fun t H => if t = true then Q (av v) H else wE c n er l H Q) R1 hq) ?_
  rintro t s2 ⟨H2, R2, hq⟩
  cases t with
  | false => exact h2.run _ _ _ _ _ _ _ _ hr hq R2
  | true => exact ⟨H2, R2, hq⟩
theorem one_e {a : Expr} {op : BoolOp} {ea : E} {pos : Pos} (h1 : SndE c f a ea) : SndE c f (.BoolOp op [a] pos) ea := by
  refine ⟨fun n A F L l H s Q hr hw R => ?_⟩
  exact BoolOp_one (h1.run _ _ _ _ _ _ _ _ hr hw R)
theorem ite_e {t a b : Expr} {et ea eb : E} {pos : Pos} (h0 : SndT c f t et) (h1 : SndE c f a ea) (h2 : SndE c f b eb) : SndE c f (.IfExp t a b pos) (.ite et ea eb) := by
  refine ⟨fun n A F L l H s Q hr hw R => ?_⟩
  refine IfExp_ (wpNo (h0.run _ _ _ _ _ _ _ _ hr hw R) ?_)
  rintro v s1 ⟨H1, R1, hq⟩
  cases v with
  | true => exact h1.run _ _ _ _ _ _ _ _ hr hq R1
  | false => exact h2.run _ _ _ _ _ _ _ _ hr hq R1
theorem const_none {k : Nat} {pos : Pos} : SndE c f (.Constant .none k pos) .none := ⟨fun n A F L l H s Q hr hw R => wpAny_Constant_none ⟨H, R, hw⟩⟩
theorem const_bool {b : Bool} {k : Nat} {pos : Pos} : SndE c f (.Constant (.bool b) k pos) (.bool b) := ⟨fun n A F L l H s Q hr hw R => wpAny_Constant_bool ⟨H, R, hw⟩⟩
theorem const_int {i : Int} {k : Nat} {pos : Pos} : SndE c f (.Constant (.int i) k pos) (.int i) := ⟨fun n A F L l H s Q hr hw R => wpAny_Constant_int ⟨H, R.tk _, hw⟩⟩
theorem const_str {x : Str} {k : Nat} {pos : Pos} : SndE c f (.Constant (.str x) k pos) (.str x) := ⟨fun n A F L l H s Q hr hw R => wpAny_Constant_str ⟨H, R.tk _, hw⟩⟩
end

section
variable {c : Cx} {A : Around} {F : Addr → Option Obj} {L : Addr} {names : List Str} {l : List AV} {H : AH} {s : Shared} {n : Nat} {f : FnC}

theorem Calls.run {fa : Addr} {vs : List AV} {Q : AV → AH → Prop} (h : Calls c n fa vs H Q) {cvs : List Value} (hr : Room A n) (R : Rep c F L names l H s) (hc : cvs.map av = vs) : WP c A F L names l (call (.ref fa) cvs) Q s := by
  refine wpAny_call (codeAny_mono (h A F L names l s cvs hr R hc) fun r s' z => ?_)
  rcases r with e | (v | _ | _ | _) <;> first | exact z | exact z.elim
theorem SndEs.any {exs : List Expr} {es : Es} (h : SndEs c f exs es) (pos : Pos) (env : Env) : (backTo pos (starEach exs env)).any (·.1) = false := by
  induction h with
  | nil => rfl
  | cons h1 _ _ ih => rw [star_plain h1]; simp only [backTo, List.map_cons, List.any_cons] at ih ⊢; simpa using ih
theorem SndEs.all {exs : List Expr} {es : Es} (h : SndEs c f exs es) (pos : Pos) (env : Env) : (backTo pos (starEach exs env)).all (fun x => !x.1) = true := by
  induction h with
  | nil => rfl
  | cons h1 _ _ ih => rw [star_plain h1]; simp only [backTo, List.map_cons, List.all_cons] at ih ⊢; simpa using ih

/-! names of the top -/
theorem glob_read {y : Str} {pos : Pos} {v : Value} {P : Value → Shared → Prop} (hf : f.Ok) (hk : f.sc.names.lookup y = some .globalImplicit) (hd : (y == ("__debug__" : Str)) = false) (he : nsIn c.K mainGlobals y = some (some v)) (R : Rep c F L f.names l H s) (h : P v s) :
    wpAny (model c.prog c.w) A (eval (.Name y pos) (f.env L)) P NoE s := by
  obtain ⟨mc, F1, h2⟩ := R.fr
  exact Calls.Name_function_global (env := f.env L) hf.kind hk (Calls.loadGlobal_global (env := f.env L) (R.ok.top.g.keeps F1.keep) (mg_of R.ok.kin R.ok.top.g he) h) hd
theorem boot_read {y : Str} {pos : Pos} {v : Value} {P : Value → Shared → Prop} (hf : f.Ok) (hk : f.sc.names.lookup y = some .globalImplicit) (hd : (y == ("__debug__" : Str)) = false) (he : nsIn c.K mainGlobals y = some none) (hb : bootBuiltins y = some v) (hn : y ≠ "__name__") (R : Rep c F L f.names l H s) (h : P v s) :
    wpAny (model c.prog c.w) A (eval (.Name y pos) (f.env L)) P NoE s := by
  obtain ⟨mc, F1, h2⟩ := R.fr
  exact Calls.Name_function_global (env := f.env L) hf.kind hk (Calls.loadGlobal_builtin (env := f.env L) (R.ok.top.g.keeps F1.keep) (mg_none_of R.ok.kin R.ok.top.g he) (R.ok.top.b.keeps F1.keep) ((R.ok.top.builtins y hn).trans hb) h) hd

theorem eval_CallName (y : Str) (py : Pos) (args : List Expr) (pos : Pos) (env : Env) : eval (.Call (.Name y py) args [] pos) env = (do callWith pos (← eval (.Name y py) env) [] (backTo pos (starEach args env)) (backToKw pos (keywordEach [] env))) := rfl

theorem call_e {y : Str} {py pos : Pos} {a : Addr} {exs : List Expr} {es : Es} (hf : f.Ok) (hk : f.sc.names.lookup y = some .globalImplicit) (hd : (y == ("__debug__" : Str)) = false) (he : nsIn c.K mainGlobals y = some (some (.ref a))) (hkeep : keepIn c.K (.ref a) = true)
    (h : SndEs c f exs es) (hne : exs ≠ []) : SndE c f (.Call (.Name y py) exs [] pos) (.call a es) := by
  refine ⟨fun n A F L l H s Q hr hw R => ?_⟩
  unfold WP
  rw [eval_CallName]
  refine wpAny_bind (glob_read hf hk hd he R ?_)
  cases h with
  | nil => exact absurd rfl hne
  | @cons ex e exs es h1 h2 h3 =>
    refine callWith_K R.ok.kin hkeep ?_ (star_plain h1 _ _) (h3.any _ _)
    refine wpNo (spliced_sound (.cons h1 h2 h3) hr hw R) ?_
    rintro vs s1 ⟨hl, H1, R1, hq⟩
    exact ⟨R1.kin, Calls.run hq hr R1 rfl⟩

theorem boot1_e {y : Str} {py pos : Pos} {v : Value} {ex : Expr} {e : E} {P : AV → AH → (AV → AH → Prop) → Prop} (hf : f.Ok) (hk : f.sc.names.lookup y = some .globalImplicit) (hd : (y == ("__debug__" : Str)) = false) (he : nsIn c.K mainGlobals y = some none) (hb : bootBuiltins y = some v) (hn : y ≠ "__name__")
    (hv : (∃ id, v = .builtin id) ∨ ∃ T, v = .type T) (h1 : notStar ex = true) (h2 : SndE c f ex e) (E' : E) (hE : ∀ n l H Q, wE c n E' l H Q = wE c n e l H fun u H => P u H Q)
    (run : ∀ (n : Nat) (A : Around) (F : Addr → Option Obj) (L : Addr) (l : List AV) (H : AH) (s : Shared) (Q : AV → AH → Prop) (u : Value), Room A n → P (av u) H Q → Rep c F L f.names l H s → WP c A F L f.names l (call v [u]) Q s) : SndE c f (.Call (.Name y py) [ex] [] pos) E' := by
  refine ⟨fun n A F L l H s Q hr hw R => ?_⟩
  unfold WP
  rw [eval_CallName]
  refine wpAny_bind (boot_read hf hk hd he hb hn R ?_)
  have es : backTo pos (starEach [ex] (f.env L)) = [(false, eval ex (f.env L))] := by rw [star_plain h1]; rfl
  have ek : backToKw pos (keywordEach [] (f.env L)) = [] := rfl
  rw [es, ek]
  rw [hE] at hw
  have body : wpAny (model c.prog c.w) A (eval ex (f.env L)) (fun u s1 => wpAny (model c.prog c.w) A (call v [u]) (fun v s' => ∃ H', Rep c F L f.names l H' s' ∧ Q (av v) H') NoE s1) NoE s := by
    refine wpNo (h2.run _ _ _ _ _ _ _ _ hr hw R) ?_
    rintro u s1 ⟨H1, R1, hq⟩
    exact run n A F L l H1 s1 Q u hr hq R1
  rcases hv with ⟨id, rfl⟩ | ⟨T, rfl⟩
  · exact Calls.callWith_builtin rfl (Calls.evalArgs_plain (Calls.spliced_cons (wpNo body fun u s1 h => Calls.spliced_nil h)))
  · exact PyProof.Rows.callWith_type rfl (Calls.evalArgs_plain (Calls.spliced_cons (wpNo body fun u s1 h => Calls.spliced_nil h)))

def lenP (v : AV) (H : AH) (Q : AV → AH → Prop) : Prop := match v with
  | .str x => x.length ≤ 10000 ∧ Q (.int x.length) H
  | v => Ok (listAt H v) fun p => p.2.length ≤ 10000 ∧ Q (.int p.2.length) H
theorem len_run {u : Value} {Q : AV → AH → Prop} (h : lenP (av u) H Q) (R : Rep c F L names l H s) : WP c A F L names l (call (.builtin "len") [u]) Q s := by
  cases u with
  | str x t =>
    obtain ⟨h1, h2⟩ := h
    exact PyProof.Rows.len_str (by omega) ⟨H, R.tk _, h2⟩
  | ref a =>
    obtain ⟨p, hp, h1, h2⟩ := Ok.elim h
    obtain ⟨e, hH⟩ := listAt_some hp
    cases e
    obtain ⟨vs, hl, hvs, _⟩ := R.objs _ _ hH
    rw [← hvs, List.length_map] at h1 h2
    refine Calls.call_len_list hl (by simp; omega) ⟨H, R.tk _, ?_⟩
    simpa [av] using h2
  | _ => exact (show False from h).elim

theorem bool_run {u : Value} {Q : AV → AH → Prop} (h : Ok (strOf (av u)) fun x => x.length ≤ 10000 ∧ Q (.bool (decide (x.length ≠ 0))) H) (R : Rep c F L names l H s) : WP c A F L names l (call (.type "bool") [u]) Q s := by
  obtain ⟨x, hx, h1, h2⟩ := h.elim
  cases u <;> simp [av, strOf] at hx
  subst hx
  refine call_bool_str (by omega) ⟨H, R.tk _, ?_⟩
  rename_i y t
  have : ((y.length : Int) != 0) = decide (y.length ≠ 0) := by
    by_cases q : y.length = 0 <;> simp [q]
  show Q (.bool ((y.length : Int) != 0)) H
  rw [this]; exact h2

theorem dictOf_run {u : Value} {Q : AV → AH → Prop} (h : Ok (dictAt H (av u)) fun p => p.2.length ≤ 100 ∧ ∀ d, H d = Option.none → d ≠ c.scr → Q (.ref d) (upd H d (.dict p.2))) (R : Rep c F L names l H s) : WP c A F L names l (call (.type "dict") [u]) Q s := by
  obtain ⟨p, hp, h1, h2⟩ := h.elim
  obtain ⟨e, hH⟩ := dictAt_some hp
  rw [av_ref e]
  obtain ⟨cvs, hd, hm, hk⟩ := R.objs _ _ hH
  have hlen : cvs.length = p.2.length := by have := congrArg List.length hm; simpa using this
  refine kt_call_dict (R.noSys hH) hd (by rw [sizeLine_eq]; omega) fun h' hd' hs => ?_
  have ext : Ext s { s with heap := h' } := by
    refine ⟨fun b o hb => ?_, rfl, rfl⟩
    have : b ≠ s.heap.objs.size := Nat.ne_of_lt (Heap.lt_size hb)
    exact (hs.2 b this).trans (Heap.get?_push_of_some _ hb)
  obtain ⟨hn, R2⟩ := R.alloc ext size_none (o := .dict p.2) ⟨cvs, hd', hm, hk⟩ (by intro C d kvs e; cases e)
  exact ⟨_, R2, h2 _ hn (R.freshS size_none)⟩

theorem listOf_run {u : Value} {Q : AV → AH → Prop} (h : Ok (listAt H (av u)) fun p => p.2.length ≤ 10000 ∧ ∀ d, H d = Option.none → d ≠ c.scr → Q (.ref d) (upd H d (.list p.2))) (R : Rep c F L names l H s) : WP c A F L names l (call (.type "list") [u]) Q s := by
  obtain ⟨p, hp, h1, h2⟩ := h.elim
  obtain ⟨e, hH⟩ := listAt_some hp
  rw [av_ref e]
  obtain ⟨vs, hl, hvs, _⟩ := R.objs _ _ hH
  rw [← hvs, List.length_map] at h1
  obtain ⟨mc, news, F1, N1, hall, k⟩ := R.viaNew
  refine list_copyK F1 N1 hl (fun D cc h' F2 N2 lt => ?_) (by rw [sizeLine_eq]; simp; omega)
  have hfr := fresh_of_lt F1 hall N2 lt
  obtain ⟨hD, R'⟩ := k h' D _ _ { s with heap := h' } (.list p.2) F2 N2 (fun p hp => .tail _ hp) (.head _) hfr rfl rfl rfl (.mkList (N2 _ (.head _)).1 hvs) (by intro C d kvs e; cases e)
  exact ⟨_, R', h2 D hD (R.freshS hfr)⟩

theorem max_e {y : Str} {py pos : Pos} {a b : Expr} {ea eb : E} (hf : f.Ok) (hk : f.sc.names.lookup y = some .globalImplicit) (hd : (y == ("__debug__" : Str)) = false) (he : nsIn c.K mainGlobals y = some none) (hb : bootBuiltins y = some (.builtin "max")) (hn : y ≠ "__name__")
    (h1 : notStar a = true) (h2 : notStar b = true) (g1 : SndE c f a ea) (g2 : SndE c f b eb) : SndE c f (.Call (.Name y py) [a, b] [] pos) (.max2 ea eb) := by
  refine ⟨fun n A F L l H s Q hr hw R => ?_⟩
  unfold WP
  rw [eval_CallName]
  refine wpAny_bind (boot_read hf hk hd he hb hn R ?_)
  have es : backTo pos (starEach [a, b] (f.env L)) = [(false, eval a (f.env L)), (false, eval b (f.env L))] := by rw [star_plain h1, star_plain h2]; rfl
  have ek : backToKw pos (keywordEach [] (f.env L)) = [] := rfl
  rw [es, ek]
  refine Calls.callWith_builtin rfl (Calls.evalArgs_plain (Calls.spliced_cons (wpNo (g1.run _ _ _ _ _ _ _ _ hr hw R) ?_)))
  rintro u s1 ⟨H1, R1, hw1⟩
  refine Calls.spliced_cons (wpNo (g2.run _ _ _ _ _ _ _ _ hr hw1 R1) ?_)
  rintro v s2 ⟨H2, R2, hq⟩
  refine Calls.spliced_nil ?_
  obtain ⟨i, hi, hq⟩ := hq.elim
  obtain ⟨j, hj, hq⟩ := hq.elim
  have hu : ∃ t, u = .int i t := by cases u <;> simp [av, intOf] at hi; subst hi; exact ⟨_, rfl⟩
  have hv : ∃ t, v = .int j t := by cases v <;> simp [av, intOf] at hj; subst hj; exact ⟨_, rfl⟩
  obtain ⟨t, rfl⟩ := hu
  obtain ⟨t', rfl⟩ := hv
  refine max_two_ints hr.1 fun h' tk hk => ⟨H2, R2.ext ⟨hk, rfl, rfl⟩, ?_⟩
  have : av (if j > i then Value.int j t' else Value.int i t) = .int (max i j) := by
    split
    · rw [Int.max_eq_right (by omega)]; rfl
    · rw [Int.max_eq_left (by omega)]; rfl
  rw [this]; exact hq

/-! methods -/
theorem eval_CallMeth (y : Str) (py apos pos : Pos) (name : Str) (args : List Expr) (env : Env) : eval (.Call (.Attribute (.Name y py) name apos) args [] pos) env = (do
    let ov ← eval (.Name y py) env
    standAt apos.atName
    methodCall (.Name y py) name apos pos env ov (args.length + 0) (backTo pos (starEach args env)) []) := rfl

theorem meth_open {y : Str} {py apos pos : Pos} {name : Str} {exs : List Expr} {es : Es} {env : Env} {P : Value → Shared → Prop} (h : SndEs c f exs es) (h20 : exs.length < 20) (hline : (apos.endLine == pos.line) = true)
    (hw : wpAny (model c.prog c.w) A (eval (.Name y py) env) (fun ov s1 => ∀ pl, wpAny (model c.prog c.w) A (getMethod ov name pl) (fun fx s2 => wpAny (model c.prog c.w) A (callWith pos fx.1 fx.2 (backTo pos (starEach exs env)) []) P NoE s2) NoE s1) NoE s) :
    wpAny (model c.prog c.w) A (eval (.Call (.Attribute (.Name y py) name apos) exs [] pos) env) P NoE s := by
  rw [eval_CallMeth]
  refine wpAny_bind (wpNo hw fun ov s1 h1 => wpAny_bind (wpAny_standAt ?_))
  have hform : methodCallForm (exs.length + 0) (backTo pos (starEach exs env)) [] = true := by
    unfold methodCallForm
    have := h.all pos env
    simp only [Bool.and_eq_true, decide_eq_true_eq]
    refine ⟨⟨this, rfl⟩, ?_⟩
    simp; omega
  have hpos : methodCallPos true (.Name y py) env apos pos = pure pos := by unfold methodCallPos; simp [hline]
  unfold methodCall
  rw [hform]
  refine wpAny_bind (wpAny_holding (wpNo (h1 _) fun fx s2 h2 => ?_))
  obtain ⟨g, first⟩ := fx
  show wpAny _ _ (methodCallPos true (.Name y py) env apos pos >>= _) _ _ _
  rw [hpos]
  exact wpAny_bind (wpAny_pure h2)

theorem getL_none {es : List DictEntry} {kvs : List (Nat × AV)} {name : Str} (r : AttrRel es kvs) (hnk : ∀ k, k < 19 → ks k ≠ name) : getL name es = some none := by
  have h1 : es.find? (·.key.isStr name) = none := by
    induction r with
    | nil => rfl
    | @cons e k t v es kvs q1 q2 q3 q4 ih =>
      rw [List.find?_cons, q1]
      have : (Value.str (ks k) t).isStr name = false := by
        simp only [Value.isStr, beq_eq_false_iff_ne, ne_eq]
        exact fun e => hnk k q2 e
      rw [this]; exact ih
  have h3 : es.any (·.refKey) = false := by
    clear h1
    induction r with
    | nil => rfl
    | cons q1 _ _ _ ih => rw [List.any_cons, ih]; simp [DictEntry.refKey, q1]
  unfold getL
  rw [h1]; simp [h3]

theorem meth_e {x : Nat} {y : Str} {py apos pos : Pos} {name : Str} {C g : Addr} {exs : List Expr} {es : Es} (hf : f.Ok) (hx : f.names[x]? = some y) (h20 : exs.length < 20) (hline : (apos.endLine == pos.line) = true) (hg : plainGet c.K C name = true) (hfi : findIn c.K (.ref C) name = some (some (.ref g))) (hfn : isFn c.K (.ref g) = true)
    (hnk : ∀ k, k < 19 → ks k ≠ name) (hkeep : keepIn c.K (.ref g) = true) (h : SndEs c f exs es) (hne : exs ≠ []) : SndE c f (.Call (.Attribute (.Name y py) name apos) exs [] pos) (.meth x C g es) := by
  refine ⟨fun n A F L l H s Q hr hw R => ?_⟩
  obtain ⟨v, hv, hb, hw⟩ := hw.elim
  obtain ⟨p, hp, hC, hw⟩ := hw.elim
  refine meth_open h h20 hline (var_read hf hx R hv hb fun u hu pl => ?_)
  obtain ⟨e, hH⟩ := instAt_some hp
  rw [← hu] at e
  obtain ⟨es', m, I, hrel, hcl, hd⟩ := R.instAt hH
  obtain ⟨mc, F1, h2⟩ := R.fr
  rw [av_ref e]
  rw [hC] at I
  have hnone : getL name es' = some none := getL_none hrel hnk
  refine method_inst F1 R.ok.kin I hg hfi hfn hnone ?_
  cases h with
  | nil => exact absurd rfl hne
  | @cons ex e0 exs es h1 h2' h3 =>
    refine callWith_K R.ok.kin hkeep ?_ (star_plain h1 _ _) (h3.any _ _)
    refine wpNo (spliced_sound (.cons h1 h2' h3) hr hw R) ?_
    rintro vs s1 ⟨hl, H1, R1, hq⟩
    refine ⟨R1.kin, ?_⟩
    exact Calls.run hq hr R1 (cvs := .ref p.1 :: vs) (by simp only [List.map_cons, av]; rw [← hu, e])

theorem plainAt {a : Addr} {xs : List AV} (R : Rep c F L names l H s) (hH : H a = some (.list xs)) (hs : a ≠ c.scr) : ∃ (vs : List Value) (n : Nat), s.heap.get? a = some (listOf vs.toArray n) ∧ vs.map av = xs := by
  obtain ⟨vs, hl, hvs, hx⟩ := R.objs _ _ hH
  obtain ⟨n, e⟩ := hx hs
  exact ⟨vs, n, e, hvs⟩

theorem append_e {x : Nat} {y : Str} {py apos pos : Pos} {ex : Expr} {e : E} (hf : f.Ok) (hx : f.names[x]? = some y) (hline : (apos.endLine == pos.line) = true) (h1 : notStar ex = true) (h : SndE c f ex e) : SndE c f (.Call (.Attribute (.Name y py) "append" apos) [ex] [] pos) (.append x e) := by
  refine ⟨fun n A F L l H s Q hr hw R => ?_⟩
  obtain ⟨v, hv, hb, hw⟩ := hw.elim
  obtain ⟨p0, hp0, hs0, hw⟩ := hw.elim
  refine meth_open (SndEs.cons h1 h .nil) (by simp) hline (var_read hf hx R hv hb fun u hu pl => ?_)
  obtain ⟨e0, hH⟩ := listAt_some hp0
  rw [← hu] at e0
  obtain ⟨vs0, m0, q0, _⟩ := plainAt R hH hs0
  rw [av_ref e0]
  refine Calls.getMethod_list_append q0 rfl rfl ?_
  have es : backTo pos (starEach [ex] (f.env L)) = [(false, eval ex (f.env L))] := by rw [star_plain h1]; rfl
  rw [es]
  refine Calls.callWith_builtin rfl (Calls.evalArgs_plain (Calls.spliced_cons (wpNo (h.run _ _ _ _ _ _ _ _ hr hw R) ?_)))
  rintro w s1 ⟨H1, R1, hq⟩
  refine Calls.spliced_nil ?_
  obtain ⟨p, hp, hs, hz, hq⟩ := hq.elim
  obtain ⟨e1, hH1⟩ := listAt_some hp
  have e01 : p.1 = p0.1 := by rw [← hu, e0] at e1; injection e1 with e1; exact e1.symm
  rw [← e01]
  obtain ⟨vs, m, q, hvs⟩ := plainAt R1 hH1 hs
  rw [← hvs, List.length_map] at hz
  refine append_at q (fun h' hsb hget => ?_) (by rw [sizeLine_eq]; simp; omega)
  refine ⟨_, R1.write hH1 (s' := { s1 with heap := h' }) hsb rfl rfl hs (o' := .list (p.2 ++ [av w])) (.mkList (vs := vs ++ [w]) (n := m + 1) (by simpa using hget) (by rw [List.map_append, hvs]; rfl)) (by intro C d kvs e; cases e), hq⟩

theorem pop_e {x : Nat} {y : Str} {py apos pos : Pos} (hf : f.Ok) (hx : f.names[x]? = some y) (hline : (apos.endLine == pos.line) = true) : SndE c f (.Call (.Attribute (.Name y py) "pop" apos) [] [] pos) (.pop x) := by
  refine ⟨fun n A F L l H s Q hr hw R => ?_⟩
  obtain ⟨v, hv, hb, hw⟩ := hw.elim
  obtain ⟨p, hp, hs, hz, hw⟩ := hw.elim
  obtain ⟨w, hw', hq⟩ := hw.elim
  refine meth_open (c := c) (f := f) (.nil) (by simp) hline (var_read hf hx R hv hb fun u hu pl => ?_)
  obtain ⟨e0, hH⟩ := listAt_some hp
  rw [← hu] at e0
  obtain ⟨vs, m, q, hvs⟩ := plainAt R hH hs
  rw [av_ref e0]
  refine getMethod_builtin ⟨_, q, rfl⟩ PySem.F.plainAttrs_list PySem.F.slot_list_pop (by kernel_rfl) (fun a e => ⟨_, by cases e; exact q, rfl⟩) ?_
  have hne : vs ≠ [] := by rintro rfl; rw [← hvs] at hw'; cases hw'
  obtain ⟨r, z, rfl⟩ : ∃ r z, vs = r ++ [z] := ⟨vs.dropLast, vs.getLast hne, (List.dropLast_concat_getLast hne).symm⟩
  rw [← hvs] at hz hw'
  simp only [List.map_append, List.map_cons, List.map_nil, List.getLast?_append, List.getLast?_singleton, Option.some_or, Option.some.injEq, List.length_append, List.length_map, List.length_cons, List.length_nil] at hz hw'
  refine Calls.callWith_builtin rfl (PySem.evalArgs_none ?_)
  refine call_meets PySem.F.slot_list_pop ⟨_, q, rfl⟩ PySem.F.entry_list_pop (PySem.F.args_list_pop_1 _) (PySem.MeetsSeq.list_pop_last p.1 _ m z (by simp) (by rw [sizeLine_eq]; simp; omega)) ⟨q, ?_⟩
  refine ⟨_, R.write hH (s' := { s with heap := s.heap.update p.1 (Obj.mapSeq fun xs => xs.eraseIdxIfInBounds ((r ++ [z]).toArray.size - 1)) }) (Heap.SameBut.update ..) rfl rfl hs (o' := .list p.2.dropLast) ?_ (by intro C d kvs e; cases e), ?_⟩
  · refine .mkList (vs := r) (n := m + 1) ?_ (by rw [← hvs]; simp)
    have := Heap.get?_update_self (Obj.mapSeq fun xs => xs.eraseIdxIfInBounds ((r ++ [z]).toArray.size - 1)) q rfl
    rw [this]
    have e2 : (r ++ [z]).toArray.eraseIdxIfInBounds ((r ++ [z]).toArray.size - 1) = r.toArray := by
      apply Array.toList_inj.mp
      simp
      rw [List.eraseIdx_append_of_length_le (Nat.le_refl _)]
      simp
    simp only [Obj.mapSeq, e2]
    simp
  · rw [hw']; exact hq
end

section
variable {c : Cx} {A : Around} {F : Addr → Option Obj} {L : Addr} {names : List Str} {l : List AV} {H : AH} {s : Shared} {n : Nat} {f : FnC}

def FlIs (fl : Flow) (P : AFl → Prop) : Prop := match fl with
  | .next => P .next
  | .ret v => P (.ret (av v))
  | _ => False
abbrev WS (c : Cx) (A : Around) (F : Addr → Option Obj) (L : Addr) (names : List Str) (t : Sem Flow) (Q : AFl → List AV → AH → Prop) (s : Shared) : Prop :=
  wpAny (model c.prog c.w) A t (fun fl s' => ∃ l' H', Rep c F L names l' H' s' ∧ FlIs fl fun fl => Q fl l' H') NoE s
structure SndS (c : Cx) (f : FnC) (st : Stmt) (S : S) : Prop where
  run : ∀ (n : Nat) (A : Around) (F : Addr → Option Obj) (L : Addr) (l : List AV) (H : AH) (s : Shared) (Q : AFl → List AV → AH → Prop), Room A n → wS c n S l H Q → Rep c F L f.names l H s →
    WS c A F L f.names (exec st (f.env L)) Q s
structure SndSs (c : Cx) (f : FnC) (st : List Stmt) (S : Ss) : Prop where
  run : ∀ (n : Nat) (A : Around) (F : Addr → Option Obj) (L : Addr) (l : List AV) (H : AH) (s : Shared) (Q : AFl → List AV → AH → Prop), Room A n → wSs c n S l H Q → Rep c F L f.names l H s →
    WS c A F L f.names (execs st (f.env L)) Q s

theorem nil_ss : SndSs c f [] .nil := ⟨fun n A F L l H s Q hr hw R => wpAny_execs_nil ⟨l, H, R, hw⟩⟩
theorem cons_ss {st : Stmt} {rest : List Stmt} {S1 : S} {Ss1 : Ss} (h1 : SndS c f st S1) (h2 : SndSs c f rest Ss1) : SndSs c f (st :: rest) (.cons S1 Ss1) := by
  refine ⟨fun n A F L l H s Q hr hw R => ?_⟩
  refine wpAny_execs_cons (wpNo (h1.run _ _ _ _ _ _ _ _ hr hw R) ?_)
  rintro fl s1 ⟨l1, H1, R1, hq⟩
  cases fl with
  | next => exact h2.run _ _ _ _ _ _ _ _ hr hq R1
  | ret v => exact ⟨l1, H1, R1, hq⟩
  | _ => exact False.elim hq

theorem nocls (hf : f.Ok) : ((f.env L).scope.kind == .class || ((f.env L).scope.kind == .module && (f.env L).locals != (f.env L).globals)) = false := by
  have : (f.env L).scope.kind = .function := hf.kind
  rw [this]; rfl
theorem store_run {x : Nat} {y : Str} {v : Value} {P : Shared → Prop} (hf : f.Ok) (hx : f.names[x]? = some y) (R : Rep c F L f.names l H s) (h : ∀ s', Rep c F L f.names (l.set x (av v)) H s' → P s') :
    wpAny (model c.prog c.w) A (storeName (f.env L) y v) (fun _ s' => P s') NoE s := by
  obtain ⟨mc, h1, h2⟩ := R.ns
  have hm := List.mem_of_getElem? hx
  refine wpAny_storeName_local (env := f.env L) (hf.loc y hm) h1 (fun h' hn hs => h _ (R.store hx hf.nodup h2 hn hs rfl rfl rfl)) (nocls hf)

theorem assign_s {x : Nat} {y : Str} {py pos : Pos} {ex : Expr} {e : E} (hf : f.Ok) (hx : f.names[x]? = some y) (h : SndE c f ex e) (hs : ∀ env, swapsWith ex (some (.Name y py)) pos.line env = pure false) : SndS c f (.Assign [.Name y py] ex pos) (.assign x e) := by
  refine ⟨fun n A F L l H s Q hr hw R => ?_⟩
  refine wpAny_Assign_Name (wpNo (h.run _ _ _ _ _ _ _ _ hr hw R) ?_) (hs _)
  rintro v s1 ⟨H1, R1, hq⟩
  exact store_run hf hx R1 fun s' R' => ⟨_, H1, R', hq⟩
theorem expr_s {pos : Pos} {ex : Expr} {e : E} (h : SndE c f ex e) (hs : ∀ env, swapsWith ex none pos.line env = pure false) (hi : ∀ L, interactive (f.env L) = false) : SndS c f (.Expr ex pos) (.expr e) := by
  refine ⟨fun n A F L l H s Q hr hw R => ?_⟩
  refine wpAny_Expr (wpNo (h.run _ _ _ _ _ _ _ _ hr hw R) ?_) (hi _) (hs _)
  rintro v s1 ⟨H1, R1, hv, hq⟩
  rw [av_none hv]
  exact ⟨_, H1, R1, hq⟩
theorem ret_s {pos : Pos} {ex : Expr} {e : E} (h : SndE c f ex e) : SndS c f (.Return (some ex) pos) (.ret e) := by
  refine ⟨fun n A F L l H s Q hr hw R => ?_⟩
  refine wpAny_Return_some (wpNo (h.run _ _ _ _ _ _ _ _ hr hw R) ?_)
  rintro v s1 ⟨H1, R1, hq⟩
  exact ⟨_, H1, R1, hq⟩
theorem ret0_s {pos : Pos} : SndS c f (.Return none pos) (.ret .none) := by
  refine ⟨fun n A F L l H s Q hr hw R => ?_⟩
  exact wpAny_Return_none ⟨_, H, R, hw⟩
theorem if_s {pos : Pos} {t : Expr} {et : E} {a b : List Stmt} {Sa Sb : Ss} (h : SndT c f t et) (ha : SndSs c f a Sa) (hb : SndSs c f b Sb) : SndS c f (.If t a b pos) (.ite et Sa Sb) := by
  refine ⟨fun n A F L l H s Q hr hw R => ?_⟩
  refine wpAny_If (wpNo (h.run _ _ _ _ _ _ _ _ hr hw R) ?_)
  rintro x s1 ⟨H1, R1, hq⟩
  cases x with
  | true => exact ha.run _ _ _ _ _ _ _ _ hr hq R1
  | false => exact hb.run _ _ _ _ _ _ _ _ hr hq R1

theorem noE {α : Type} {t : Sem α} {P : α → Shared → Prop} {E' : Value → Shared → Prop} (h : wpAny (model c.prog c.w) A t P NoE s) : wpAny (model c.prog c.w) A t P E' s :=
  wpAny_mono h (fun _ _ e => e) fun _ _ e => False.elim e

theorem while_s {pos : Pos} {t : Expr} {et : E} {a : List Stmt} {Sa : Ss} (h : SndT c f t et) (ha : SndSs c f a Sa) : SndS c f (.While t a [] pos) (.while et Sa) := by
  refine ⟨fun n A F L l H s Q hr hw R => ?_⟩
  obtain ⟨I, ⟨m, hI⟩, step⟩ := hw
  refine wpAny_While (codeAny_whileLoop (fun m s => ∃ l H, Rep c F L f.names l H s ∧ I m l H) ?_ m ⟨l, H, R, hI⟩)
  rintro m s1 ⟨l1, H1, R1, hI1⟩
  refine noE (wpNo (h.run _ _ _ _ _ _ _ _ hr (step _ _ _ hI1) R1) ?_)
  rintro x s2 ⟨H2, R2, hq⟩
  cases x with
  | true =>
    refine noE (wpNo (ha.run _ _ _ _ _ _ _ _ hr hq R2) ?_)
    rintro fl s3 ⟨l3, H3, R3, hq⟩
    cases fl with
    | next => exact let ⟨m', h1, h2⟩ := hq; ⟨m', h1, l3, H3, R3, h2⟩
    | ret v => exact ⟨l3, H3, R3, hq⟩
    | _ => exact False.elim hq
  | false => exact wpAny_execs_nil ⟨_, H2, R2, hq⟩

/-! aug -/
theorem aug_sound {op : Operator} {v w : Value} {Q : AV → Prop} {P : Value → Shared → Prop} (h : wAug op (av v) (av w) Q) (R : Rep c F L names l H s) (k : ∀ u s', Q (av u) → Rep c F L names l H s' → P u s') :
    wpAny (model c.prog c.w) A (inplaceOp op v w) P NoE s := by
  unfold wAug at h
  split at h
  · rename_i a b e1 e2
    obtain ⟨t, rfl⟩ := av_int e1; obtain ⟨u, rfl⟩ := av_int e2
    exact PyProof.Rows.iadd_int (k _ _ h (R.tk _))
  · rename_i a b e1 e2
    obtain ⟨t, rfl⟩ := av_int e1; obtain ⟨u, rfl⟩ := av_int e2
    exact isub_int (k _ _ h (R.tk _))
  · exact h.elim

theorem augVar_s {op : Operator} {x : Nat} {y : Str} {py pos : Pos} {ex : Expr} {e : E} (hf : f.Ok) (hx : f.names[x]? = some y) (h : SndE c f ex e) : SndS c f (.AugAssign (.Name y py) op ex pos) (.augVar op x e) := by
  refine ⟨fun n A F L l H s Q hr hw R => ?_⟩
  obtain ⟨u, hu, hb, hw⟩ := hw.elim
  refine wpAny_AugAssign_Name (var_read_ld hf hx R hu hb fun ov hov => ?_)
  refine wpNo (h.run _ _ _ _ _ _ _ _ hr hw R) ?_
  rintro v s1 ⟨H1, R1, hq⟩
  rw [← hov] at hq
  exact aug_sound hq R1 fun r s' hq' R' => store_run hf hx R' fun s'' R'' => ⟨_, H1, R'', hq'⟩

theorem setAttr_s {o : Expr} {eo : E} {k : Nat} {po pos : Pos} {ex : Expr} {e : E} (h : SndE c f ex e) (ho : SndE c f o eo) (hs : ∀ env, swapsWith ex (some (.Attribute o (ks k) po)) pos.line env = pure false) :
    SndS c f (.Assign [.Attribute o (ks k) po] ex pos) (.setAttr eo k e) := by
  refine ⟨fun n A F L l H s Q hr hw R => ?_⟩
  refine plainObj_wpAny_Assign_Attribute (wpNo (h.run _ _ _ _ _ _ _ _ hr hw R) ?_) (hs _)
  rintro v s1 ⟨H1, R1, hq⟩
  refine wpNo (ho.run _ _ _ _ _ _ _ _ hr hq R1) ?_
  rintro u s2 ⟨H2, R2, hq⟩
  obtain ⟨p, hp, hs, hz, hk, hq⟩ := hq.elim
  obtain ⟨e, hH⟩ := instAt_some hp
  exact setA_sound R2 e hH hk hz hs fun s' R' => ⟨_, _, R', hq⟩
theorem augAttr_s {op : Operator} {x k : Nat} {y : Str} {py po pos : Pos} {ex : Expr} {e : E} (hf : f.Ok) (hx : f.names[x]? = some y) (h : SndE c f ex e) : SndS c f (.AugAssign (.Attribute (.Name y py) (ks k) po) op ex pos) (.augAttr op x k e) := by
  refine ⟨fun n A F L l H s Q hr hw R => ?_⟩
  obtain ⟨u, hu, hb, hw⟩ := hw.elim
  obtain ⟨r, hr1, hb1, hw⟩ := hw.elim
  refine wpAny_AugAssign_AttributeAny (var_read hf hx R hu hb fun ov hov => ?_)
  refine wpNo (getA_sound (b := true) (Q := fun w H' => w = r ∧ H' = H) R (by rw [hov]; exact hr1) hb1 ⟨rfl, rfl⟩) ?_
  rintro old s1 ⟨H1, R1, ho, rfl⟩
  refine wpNo (h.run _ _ _ _ _ _ _ _ hr hw R1) ?_
  rintro v s2 ⟨H2, R2, hq⟩
  rw [← ho] at hq
  refine aug_sound hq R2 fun r' s' hq' R' => ?_
  obtain ⟨p, hp, hs, hz, hk, hq⟩ := hq'.elim
  obtain ⟨e, hH⟩ := instAt_some hp
  exact setA_sound R' (hov.trans e) hH hk hz hs fun s' R' => ⟨_, _, R', hq⟩

end

section
variable {c : Cx} {A : Around} {F : Addr → Option Obj} {L : Addr} {names : List Str} {l : List AV} {H : AH} {s : Shared} {n : Nat} {f : FnC}

theorem stored_rel {k : Nat} {v : Value} (hk' : k < 19) : ∀ (kvs : List (Nat × AV)) (cvs : List (Str × Value)), cvs.map (fun p => (p.1, av p.2)) = kvs.map (fun p => (ks p.1, p.2)) → (∀ p ∈ kvs, p.1 < 19) → (cvs.map (·.1)).Nodup →
    (stored cvs (ks k) v).map (fun p => (p.1, av p.2)) = (putA kvs k (av v)).map (fun p => (ks p.1, p.2)) := by
  intro kvs
  induction kvs with
  | nil =>
    intro cvs h _ _
    cases cvs with
    | nil => simp [stored, putA]
    | cons a r => cases h
  | cons p kvs ih =>
    intro cvs h hk hn
    cases cvs with
    | nil => cases h
    | cons a r =>
      rw [List.map_cons, List.map_cons] at h
      injection h with h1 h2
      rw [List.map_cons, List.nodup_cons] at hn
      have ea : a.1 = ks p.1 := congrArg Prod.fst h1
      have ev : av a.2 = p.2 := congrArg Prod.snd h1
      have ih' := ih r h2 (fun q hq => hk q (.tail _ hq)) hn.2
      by_cases q : p.1 = k
      · have e1 : a.1 = ks k := by rw [ea, q]
        have nomem : ∀ z ∈ r, z.1 ≠ ks k := by
          intro z hz e; apply hn.1; rw [e1, ← e]; exact List.mem_map_of_mem hz
        have e2 : r.map (fun kv => if kv.1 = ks k then (kv.1, v) else kv) = r := by
          conv => rhs; rw [← List.map_id r]
          exact List.map_congr_left fun z hz => by rw [if_neg (nomem z hz)]; rfl
        unfold stored
        rw [if_pos (by simp [e1]), List.map_cons, e2, if_pos e1]
        unfold putA
        rw [if_pos q, List.map_cons, List.map_cons, h2, e1]
      · have e1 : a.1 ≠ ks k := by rw [ea]; exact fun e => q (ks_inj _ (hk p (.head _)) _ hk' e)
        unfold putA
        rw [if_neg q, List.map_cons, ← ih']
        unfold stored
        by_cases z : r.any (fun kv => kv.1 = ks k) = true
        · rw [if_pos (by simp only [List.any_cons, z, Bool.or_true]), if_pos z, List.map_cons, if_neg e1, List.map_cons]
          rw [ea, ev]
        · rw [if_neg (by simp only [List.any_cons, Bool.or_eq_true, z, decide_eq_true_eq]; rintro (h | h); exact e1 h; cases h), if_neg z, List.cons_append, List.map_cons, ea, ev]
theorem putA_lt {kvs : List (Nat × AV)} {k : Nat} {v : AV} (hk' : k < 19) (h : ∀ p ∈ kvs, p.1 < 19) : ∀ p ∈ putA kvs k v, p.1 < 19 := by
  induction kvs with
  | nil => intro p hp; simp [putA] at hp; subst hp; exact hk'
  | cons a r ih =>
    intro p hp
    unfold putA at hp
    split at hp
    · rcases List.mem_cons.mp hp with rfl | hp
      · exact hk'
      · exact h _ (.tail _ hp)
    · rcases List.mem_cons.mp hp with rfl | hp
      · exact h _ (.head _)
      · exact ih (fun q hq => h q (.tail _ hq)) p hp

theorem setK_sound {a : Addr} {k : Nat} {t : Tok} {v : Value} {kvs : List (Nat × AV)} {P : Shared → Prop} (R : Rep c F L names l H s) (hH : H a = some (.dict kvs)) (hk : k < 19) (hz : kvs.length ≤ 100) (hs : a ≠ c.scr)
    (hq : ∀ s', Rep c F L names l (upd H a (.dict (putA kvs k (av v)))) s' → P s') :
    wpAny (model c.prog c.w) A (setItem (.ref a) (.str (ks k) t) v) (fun _ s' => P s') NoE s := by
  obtain ⟨cvs, hd, hm, hk'⟩ := R.objs _ _ hH
  have hlen : cvs.length = kvs.length := by have := congrArg List.length hm; simpa using this
  have hn : (cvs.map (·.1)).Nodup := by obtain ⟨_, _, _, _, _, _, _, _, h⟩ := hd; exact h
  refine wpAny_setItem_pairs (strKind_is _ _ _ _) hd (fun h' hd' hsb => hq _ ?_) (by rw [sizeLine_eq]; omega)
  exact R.write hH hsb rfl rfl hs ⟨_, hd', stored_rel hk _ _ hm hk' hn, putA_lt hk hk'⟩ (by intro C d kvs e; cases e)
theorem setI_sound {a : Addr} {j : Int} {t : Tok} {v : Value} {xs : List AV} {P : Shared → Prop} (R : Rep c F L names l H s) (hH : H a = some (.list xs)) (h0 : 0 ≤ j) (h1 : j < xs.length) (hz : xs.length ≤ 10000) (hs : a ≠ c.scr)
    (hq : ∀ s', Rep c F L names l (upd H a (.list (xs.set j.toNat (av v)))) s' → P s') :
    wpAny (model c.prog c.w) A (setItem (.ref a) (.int j t) v) (fun _ s' => P s') NoE s := by
  obtain ⟨vs, m, q, hvs⟩ := plainAt R hH hs
  have hl : vs.length = xs.length := by rw [← hvs]; simp
  refine ki_setAt q h0 (by omega) (by simp; omega) (hq _ ?_)
  have := Heap.get?_update_self (Obj.mapSeq (·.setIfInBounds j.toNat v)) q rfl
  refine R.write hH (Heap.SameBut.update ..) rfl rfl hs (.mkList (vs := vs.set j.toNat v) (n := m) ?_ (by rw [List.map_set, hvs])) (by intro C d kvs e; cases e)
  show Heap.get? (s.heap.update a _) a = _
  rw [this]
  simp only [Obj.mapSeq]
  simp

theorem getI_raw {v i : Value} {r : AV} {Q : AV → AH → Prop} (R : Rep c F L names l H s) (h : getI H (av v) (av i) = some r) (hq : Q r H) :
    WP c A F L names l (getItem v i) Q s := by
  obtain ⟨a, j, xs, e, e2, hH, h0, hx⟩ := getI_some h
  rw [av_ref e]
  obtain ⟨u, rfl⟩ := av_int e2
  rcases hH with hH | hH
  · obtain ⟨vs, hl, hvs, _⟩ := R.objs _ _ hH
    rw [← hvs, List.getElem?_map] at hx
    obtain ⟨y, hy, hy'⟩ := Option.map_eq_some_iff.mp hx
    refine wpAny_getItem_list hl h0.1 (by omega) (by simpa using hy) ⟨H, R, ?_⟩
    rw [hy']; exact hq
  · obtain ⟨vs, hl, hvs⟩ := R.objs _ _ hH
    rw [← hvs, List.getElem?_map] at hx
    obtain ⟨y, hy, hy'⟩ := Option.map_eq_some_iff.mp hx
    have hlt := (List.getElem?_eq_some_iff.mp hy).1
    refine PyProof.Rows.getItem_tuple (j := j.toNat) hl (by omega) (by omega) (seqIdx h0.1 (by simpa using hlt)) (by simpa using hy) ⟨H, R, ?_⟩
    rw [hy']; exact hq

theorem setItem_s {o : Expr} {eo : E} {k m : Nat} {p po pos : Pos} {ex : Expr} {e : E} (h : SndE c f ex e) (ho : SndE c f o eo) (hs : ∀ env, swapsWith ex (some (.Subscript o (.Constant (.str (ks k)) m p) po)) pos.line env = pure false) :
    SndS c f (.Assign [.Subscript o (.Constant (.str (ks k)) m p) po] ex pos) (.setItem eo k e) := by
  refine ⟨fun n A F L l H s Q hr hw R => ?_⟩
  refine wpAny_Assign_Subscript (wpNo (h.run _ _ _ _ _ _ _ _ hr hw R) ?_) (hs _)
  rintro v s1 ⟨H1, R1, hq⟩
  refine wpNo (ho.run _ _ _ _ _ _ _ _ hr hq R1) ?_
  rintro u s2 ⟨H2, R2, hq⟩
  obtain ⟨p, hp, hs, hz, hk, hq⟩ := hq.elim
  obtain ⟨e, hH⟩ := dictAt_some hp
  rw [av_ref e]
  exact wpAny_Constant_str (setK_sound (R2.tk _) hH hk hz hs fun s' R' => ⟨_, _, R', hq⟩)
theorem setSub_s {o i : Expr} {eo ei : E} {po pos : Pos} {ex : Expr} {e : E} (h : SndE c f ex e) (ho : SndE c f o eo) (hi : SndE c f i ei) (hs : ∀ env, swapsWith ex (some (.Subscript o i po)) pos.line env = pure false) :
    SndS c f (.Assign [.Subscript o i po] ex pos) (.setSub eo ei e) := by
  refine ⟨fun n A F L l H s Q hr hw R => ?_⟩
  refine wpAny_Assign_Subscript (wpNo (h.run _ _ _ _ _ _ _ _ hr hw R) ?_) (hs _)
  rintro v s1 ⟨H1, R1, hq⟩
  refine wpNo (ho.run _ _ _ _ _ _ _ _ hr hq R1) ?_
  rintro u s2 ⟨H2, R2, hq⟩
  refine wpNo (hi.run _ _ _ _ _ _ _ _ hr hq R2) ?_
  rintro j s3 ⟨H3, R3, hq⟩
  obtain ⟨p, hp, hq⟩ := hq.elim
  obtain ⟨jj, hj, hs, h0, h1, hz, hq2⟩ := hq.elim
  obtain ⟨e, hH⟩ := listAt_some hp
  rw [av_ref e]
  have : ∃ t, j = .int jj t := by cases j <;> simp [av, intOf] at hj; subst hj; exact ⟨_, rfl⟩
  obtain ⟨t, rfl⟩ := this
  exact setI_sound R3 hH h0 h1 hz hs fun s' R' => ⟨_, _, R', hq2⟩
theorem augSub_s {op : Operator} {o : Expr} {eo : E} {i : Nat} {y : Str} {py po pos : Pos} {ex : Expr} {e : E} (hf : f.Ok) (hx : f.names[i]? = some y) (h : SndE c f ex e) (ho : SndE c f o eo) :
    SndS c f (.AugAssign (.Subscript o (.Name y py) po) op ex pos) (.augSub op eo i e) := by
  refine ⟨fun n A F L l H s Q hr hw R => ?_⟩
  refine wpAny_AugAssign_Subscript (wpNo (ho.run _ _ _ _ _ _ _ _ hr hw R) ?_)
  rintro u s1 ⟨H1, R1, hq⟩
  obtain ⟨jv, hj, hb, hq⟩ := hq.elim
  obtain ⟨r, hr1, hq⟩ := hq.elim
  refine var_read hf hx R1 hj hb fun iv hiv => ?_
  refine wpNo (getI_raw (v := u) (i := iv) (Q := fun w H' => w = r ∧ H' = H1) R1 (by rw [hiv]; exact hr1) ⟨rfl, rfl⟩) ?_
  rintro old s2 ⟨H2, R2, ho, rfl⟩
  refine wpNo (h.run _ _ _ _ _ _ _ _ hr hq R2) ?_
  rintro v s3 ⟨H3, R3, hq⟩
  rw [← ho] at hq
  refine aug_sound hq R3 fun r' s' hq' R' => ?_
  obtain ⟨p, hp, hq⟩ := hq'.elim
  obtain ⟨jj, hj', hs, h0, h1, hz, hq⟩ := hq.elim
  obtain ⟨e, hH⟩ := listAt_some hp
  rw [av_ref e]
  have : ∃ t, iv = .int jj t := by rw [← hiv] at hj'; cases iv <;> simp [av, intOf] at hj'; subst hj'; exact ⟨_, rfl⟩
  obtain ⟨t, rfl⟩ := this
  exact setI_sound R' hH h0 h1 hz hs fun s' R' => ⟨_, _, R', hq⟩

/-! unpacking -/
inductive TgtsAre (f : FnC) : List Expr → List Nat → Prop
  | nil : TgtsAre f [] []
  | cons {y : Str} {py : Pos} {x : Nat} {es : List Expr} {xs : List Nat} : f.names[x]? = some y → TgtsAre f es xs → TgtsAre f (.Name y py :: es) (x :: xs)
theorem TgtsAre.each {es : List Expr} {xs : List Nat} (h : TgtsAre f es xs) (env : Env) : (assignEach es env).length = xs.length ∧ (assignEach es env).findIdx? (·.1) = none := by
  induction h with
  | nil => exact ⟨rfl, rfl⟩
  | @cons y py x es xs h1 _ ih =>
    have : assignEach (.Name y py :: es) env = (false, assign (.Name y py) env) :: assignEach es env := rfl
    rw [this]
    refine ⟨by simp [ih.1], ?_⟩
    rw [List.findIdx?_cons, ih.2]; rfl
theorem TgtsAre.run {es : List Expr} {xs : List Nat} (h : TgtsAre f es xs) (hf : f.Ok) : ∀ {l : List AV} {s : Shared} {vs : List Value} {P : Shared → Prop}, Rep c F L f.names l H s → vs.length = xs.length →
    (∀ s', Rep c F L f.names (setAll l xs (vs.map av)) H s' → P s') → wpAny (model c.prog c.w) A (assignInOrder ((assignEach es (f.env L)).map (·.2)) vs) (fun _ s' => P s') NoE s := by
  induction h with
  | nil =>
    intro l s vs P R hl k
    cases vs with
    | nil => exact assignInOrder_nil (k _ (by simpa [setAll] using R))
    | cons a r => cases hl
  | @cons y py x es xs h1 _ ih =>
    intro l s vs P R hl k
    cases vs with
    | nil => cases hl
    | cons a r =>
      have : assignEach (.Name y py :: es) (f.env L) = (false, assign (.Name y py) (f.env L)) :: assignEach es (f.env L) := rfl
      rw [this, List.map_cons]
      refine assignInOrder_cons (wpAny_assign_Name (store_run hf h1 R fun s' R' => ?_))
      exact ih R' (by simpa using hl) fun s'' R'' => k s'' R''
theorem unpack_s {es : List Expr} {xs : List Nat} {k : Nat} {tpos pos : Pos} {ex : Expr} {e : E} (hf : f.Ok) (ht : TgtsAre f es xs) (h : SndE c f ex e) (hs : ∀ env, swapsWithSole [.Tuple es k tpos] ex pos.line env = pure false) (hw' : ∀ env, swappedStores [.Tuple es k tpos] ex env = pure none) :
    SndS c f (.Assign [.Tuple es k tpos] ex pos) (.unpack xs e) := by
  refine ⟨fun n A F L l H s Q hr hw R => ?_⟩
  refine Assign_Tuple (wpNo (h.run _ _ _ _ _ _ _ _ hr hw R) ?_) (hs _) (hw' _)
  rintro v s1 ⟨H1, R1, hq⟩
  obtain ⟨ws, hws, hl, hq⟩ := hq.elim
  obtain ⟨a, e, hH⟩ := tupAt_some hws
  obtain ⟨vs, hT, hvs⟩ := R1.objs _ _ hH
  rw [av_ref e]
  have hvl : vs.length = xs.length := by rw [← hl, ← hvs]; simp
  obtain ⟨q1, q2⟩ := ht.each (f.env L)
  refine wpAny_assign_Tuple hr.1 hT (by rw [q1, ← hvl]; simp) q2 fun h' hext => ?_
  have R2 := R1.ext (s' := { s1 with heap := h' }) ⟨fun b o hb => hext b o (Nat.ne_of_lt (Heap.lt_size hb)) hb, rfl, rfl⟩
  exact ht.run hf R2 hvl fun s' R' => ⟨_, _, R', by rw [hvs]; exact hq⟩

end

section
variable {c : Cx} {A : Around} {F : Addr → Option Obj} {L : Addr} {names : List Str} {l : List AV} {H : AH} {s : Shared} {n : Nat} {f : FnC}

/-- a frozen thing takes its turn -/
theorem Rep.turn {D : Addr} {O : Obj} {s' : Shared} (R : Rep c (frz F D O) L names l H s) (hF : F D = none) (hB : c.hB.get? D = none) (sb : ∀ b, b ≠ D → ∀ o, s.heap.get? b = some o → s'.heap.get? b = some o) (hg : s'.gens = s.gens) (hos : s'.os = s.os) :
    Rep c F L names l H s' := by
  have nF : ∀ {b o}, F b = some o → b ≠ D := fun h e => by rw [e, hF] at h; cases h
  have hL : L ≠ D := by
    rintro rfl
    have := R.offF
    simp [frz] at this
  have nO : ∀ {b}, Own c H b → b ≠ D := by
    rintro b hb rfl
    have := R.own _ hb
    simp [frz] at this
  have R0 := R.thaw hF hB
  refine ⟨R.ok, fun b o h => sb b (nF h) _ (R0.keep _ _ h), R0.base, ?_, R0.own, R.inst, R.inj, by rw [hg]; exact R.gens, hos.trans R.os, ?_, R0.offF, R.offO, R.above, R.tab⟩
  · intro a o h
    by_cases q : a = c.scr
    · refine (R.objs _ _ h).keeps (fun O' hO => sb a ?_ _ hO) fun C d kvs e O' hO => sb d ?_ _ hO
      · obtain ⟨o', ho⟩ := R.ok.scrIn
        rw [q]; rintro rfl; rw [hB] at ho; cases ho
      · subst e; exact nO (.inr ⟨_, _, _, h⟩)
    · refine (R.objs _ _ h).keeps (fun O' hO => sb a (nO (.inl ⟨q, _, h⟩)) _ hO) fun C d kvs e O' hO => sb d ?_ _ hO
      subst e; exact nO (.inr ⟨_, _, _, h⟩)
  · obtain ⟨mc, h1, h2⟩ := R.ns
    obtain ⟨o, es, ep, ho, hr⟩ := h1
    exact ⟨mc, ⟨o, es, ep, sb L hL _ ho, hr⟩, h2⟩
theorem Rep.frzNe {D : Addr} {O : Obj} (R : Rep c (frz F D O) L names l H s) : D ≠ L ∧ ¬ Own c H D := by
  refine ⟨?_, fun h => ?_⟩
  · rintro rfl
    have := R.offF
    simp [frz] at this
  · have := R.own _ h
    simp [frz] at this
theorem Rep.frzAt {D : Addr} {O : Obj} (R : Rep c (frz F D O) L names l H s) : s.heap.get? D = some O := R.keep _ _ (by simp [frz])
/-- a new thing at the heap's end, frozen -/
theorem Rep.born (R : Rep c F L names l H s) (O : Obj) (hO : O.isFreed = false := by rfl) : Rep c (frz F s.heap.objs.size O) L names l H { s with heap := s.heap.push O } ∧ F s.heap.objs.size = none ∧ c.hB.get? s.heap.objs.size = none := by
  have hf := size_none (h := s.heap)
  refine ⟨(R.ext (Ext.push s O)).freeze (Heap.get?_push_size _ hO) (R.freshL hf).symm (R.freshD hf), R.freshF hf, ?_⟩
  cases q : c.hB.get? s.heap.objs.size with
  | none => rfl
  | some o => have := R.keep _ _ (R.base _ _ q); rw [hf] at this; cases this

theorem forL_s {x : Nat} {y : Str} {py pos : Pos} {ex : Expr} {e : E} {body : List Stmt} {Sb : Ss} (hf : f.Ok) (hx : f.names[x]? = some y) (h : SndE c f ex e) (hb : SndSs c f body Sb) (hs : ∀ env v, foldedSetIterable ex env v = pure v) :
    SndS c f (.For (.Name y py) ex body [] pos) (.forL x e Sb) := by
  refine ⟨fun n A F L l H s Q hr hw R => ?_⟩
  refine wpAny_For (wpNo (h.run _ _ _ _ _ _ _ _ hr hw R) ?_) (hs _)
  rintro u s1 ⟨H1, R1, hq⟩
  obtain ⟨p, hp, hz, I, hI0, hIk, hst, hend⟩ := hq.elim
  obtain ⟨e, hH⟩ := listAt_some hp
  obtain ⟨vs, hl, hvs, _⟩ := R1.objs _ _ hH
  rw [av_ref e]
  refine wpAny_pyIter_list hl ?_
  obtain ⟨R2, hF, hB⟩ := R1.born { cls := .type "list_iterator", data := .fields #[.ref p.1, .int 0 0] }
  generalize hD : s1.heap.objs.size = D at *
  refine codeAny_forLoop (fun m s => ∃ i O l H, m = p.2.length - i ∧ i ≤ p.2.length ∧ s.heap.IsListIter D p.1 i ∧ Rep c (frz F D O) L f.names l H s ∧ I i l H) ?_ _ ⟨0, _, l, H1, rfl, Nat.zero_le _, ⟨_, R2.frzAt, rfl, rfl⟩, R2, hI0⟩
  rintro m s3 ⟨i, O, l3, H3, hm, hle, hit, R3, hI3⟩
  have hH3 := hIk _ _ _ hI3
  obtain ⟨vs3, hl3, hvs3, _⟩ := R3.objs _ _ hH3
  have hlen : vs3.length = p.2.length := by rw [← hvs3]; simp
  obtain ⟨nL, nO⟩ := R3.frzNe
  by_cases q : i < p.2.length
  · have hi : vs3[i]? = some vs3[i] := List.getElem?_eq_getElem (by omega)
    refine noE (wpAny_pyNext_list_item (x := vs3[i]) hit hl3 (by rw [← hi]; simp) fun h' hit' hsb => ?_)
    have R4 : Rep c F L f.names l3 H3 { s3 with heap := h' } := R3.turn hF hB (fun b hb o ho => (hsb.2 b hb).trans ho) rfl rfl
    obtain ⟨O', hO'⟩ : ∃ O', h'.get? D = some O' := let ⟨o, ho, _⟩ := hit'; ⟨o, ho⟩
    have R5 := R4.freeze (D := D) (O := O') hO' nL nO
    refine wpAny_assign_Name (noE (store_run hf hx R5 fun s6 R6 => ?_))
    have hw' : p.2[i]? = some (av vs3[i]) := by rw [← hvs3, List.getElem?_map, hi]; rfl
    refine noE (wpNo (hb.run _ _ _ _ _ _ _ _ hr (hst i l3 H3 _ hw' hI3) R6) ?_)
    rintro fl s7 ⟨l7, H7, R7, hq⟩
    cases fl with
    | next =>
      refine ⟨p.2.length - (i + 1), by omega, i + 1, O', l7, H7, rfl, q, ?_, R7, hq⟩
      obtain ⟨o, ho, hc⟩ := hit'
      rw [hO'] at ho; cases ho
      exact ⟨_, R7.frzAt, hc⟩
    | ret v => exact ⟨l7, H7, R7.thaw hF hB, hq⟩
    | _ => exact False.elim hq
  · have hi : i = p.2.length := by omega
    refine noE (wpAny_pyNext_list_end hr.1 hit hl3 (by simp; omega) fun h' hext => ?_)
    have R4 : Rep c F L f.names l3 H3 { s3 with heap := h' } := R3.turn hF hB (fun b hb o ho => hext b o hb ho) rfl rfl
    refine wpAny_execs_nil ⟨_, _, R4, ?_⟩
    exact hend _ _ (hi ▸ hI3)

theorem range_small {a b : Int} (h1 : -10000 ≤ a) (h2 : a ≤ 10000) (h3 : -10000 ≤ b) (h4 : b ≤ 10000) : Builtin.Range.small a b 1 = true := by
  unfold Builtin.Range.small
  rw [rangeSize_one]
  have fits : ∀ z : Int, -30000 ≤ z → z ≤ 30000 → Builtin.Range.rangeFitsLong z = true := by
    intro z h h'
    simp only [Builtin.Range.rangeFitsLong, Bool.and_eq_true, decide_eq_true_eq]
    omega
  rw [fits a (by omega) (by omega), fits b (by omega) (by omega), fits 1 (by omega) (by omega), fits (if a < b then b - a else 0) (by split <;> omega) (by split <;> omega)]
  simp only [Bool.and_self, Bool.true_and, Bool.or_eq_true]
  right
  rw [if_pos (by decide)]
  exact fits _ (by omega) (by omega)

/-- the loop over a range that stands -/
theorem range_loop {x : Nat} {y : Str} {py : Pos} {body : List Stmt} {Sb : Ss} {D : Addr} {a b' : Int} {t1 t2 t3 : Tok} {I : Nat → List AV → AH → Prop} {Q : AFl → List AV → AH → Prop} (hf : f.Ok) (hx : f.names[x]? = some y) (hb : SndSs c f body Sb) (hr : Room A n)
    (R : Rep c F L f.names l H s) (hD : IsRange s.heap D a b' 1 t1 t2 t3) (h1 : -10000 ≤ a) (h2 : a ≤ 10000) (h3 : -10000 ≤ b') (h4 : b' ≤ 10000) (hI : I 0 l H)
    (hst : ∀ (i : Nat) l H, (i : Int) < b' - a → I i l H → wSs c n Sb (l.set x (.int (a + i))) H (fun fl l H => match fl with
        | .next => I (i + 1) l H
        | .ret v => Q (.ret v) l H)) (hend : ∀ l H, I (b' - a).toNat l H → Q .next l H) :
    wpAny (model c.prog c.w) A (pyIter (.ref D)) (fun it s₂ => codeAny (model c.prog c.w) A (.forLoop (.Name y py) it body [] (f.env L)) (fun r s' => match r with | .ok fl => (∃ l' H', Rep c F L f.names l' H' s' ∧ FlIs fl fun fl => Q fl l' H') | .error e => cameBackBy (model c.prog c.w) A (f.env L) NoE e s') s₂) NoE s := by
  refine wpAny_pyIter_range hD (range_small h1 h2 h3 h4) ?_
  rw [rangeSize_one]
  obtain ⟨R2, hF, hB⟩ := R.born { cls := .type "range_iterator", data := .fields #[rawInt a, rawInt (if a < b' then b' - a else 0), rawInt 1] }
  generalize hDD : s.heap.objs.size = J at *
  have hsz : (if a < b' then b' - a else 0) = ((b' - a).toNat : Int) := by split <;> omega
  rw [hsz] at R2 ⊢
  have e0 : (((b' - a).toNat : Int)) = ((b' - a).toNat : Int) - (0 : Nat) := by simp
  refine codeAny_forLoop (fun m s => ∃ i O l H, m = (b' - a).toNat - i ∧ i ≤ (b' - a).toNat ∧ IsRangeIter s.heap J (a + i) ((b' - a).toNat - i) 1 ∧ Rep c (frz F J O) L f.names l H s ∧ I i l H) ?_ _ ⟨0, _, l, H, rfl, Nat.zero_le _, ?_, R2, hI⟩
  · rintro m s3 ⟨i, O, l3, H3, hm, hle, hit, R3, hI3⟩
    obtain ⟨nL, nO⟩ := R3.frzNe
    by_cases q : i < (b' - a).toNat
    · refine noE (wpAny_pyNext_range_item hit (by omega) fun h' hit' hsb => ?_)
      have R4 : Rep c F L f.names l3 H3 { s3 with heap := h', toks := s3.toks + 1 } := R3.turn hF hB (fun b hb o ho => (hsb.2 b hb).trans ho) rfl rfl
      have R5 := R4.freeze (D := J) hit' nL nO
      refine wpAny_assign_Name (noE (store_run hf hx R5 fun s6 R6 => ?_))
      refine noE (wpNo (hb.run _ _ _ _ _ _ _ _ hr (hst i l3 H3 (by omega) hI3) R6) ?_)
      rintro fl s7 ⟨l7, H7, R7, hq⟩
      cases fl with
      | next =>
        refine ⟨(b' - a).toNat - (i + 1), by omega, i + 1, _, l7, H7, rfl, q, ?_, R7, hq⟩
        have := R7.frzAt
        rw [show a + (i : Int) + 1 = a + ((i + 1 : Nat) : Int) by omega, show ((b' - a).toNat : Int) - (i : Int) - 1 = (b' - a).toNat - ((i + 1 : Nat) : Int) by omega] at this
        exact this
      | ret v => exact ⟨l7, H7, R7.thaw hF hB, hq⟩
      | _ => exact False.elim hq
    · have hi : i = (b' - a).toNat := by omega
      refine noE (wpAny_pyNext_range_end hr.1 hit (by omega) fun h' hext => ?_)
      have R4 : Rep c F L f.names l3 H3 { s3 with heap := h' } := R3.turn hF hB (fun b hb o ho => hext b o hb ho) rfl rfl
      exact wpAny_execs_nil ⟨_, _, R4, hend _ _ (hi ▸ hI3)⟩
  · have := R2.frzAt
    simpa using this

theorem eval_range {py pos : Pos} {args : List Expr} {P : Value → Shared → Prop} (hf : f.Ok) (hk : f.sc.names.lookup ("range" : Str) = some .globalImplicit) (he : nsIn c.K mainGlobals "range" = some none) (R : Rep c F L f.names l H s)
    (h : wpAny (model c.prog c.w) A (callWith pos (.type "range") [] (backTo pos (starEach args (f.env L))) []) P NoE s) : wpAny (model c.prog c.w) A (eval (.Call (.Name "range" py) args [] pos) (f.env L)) P NoE s := by
  rw [eval_CallName]
  exact wpAny_bind (boot_read hf hk (by decide) he (v := .type "range") (by kernel_rfl) (by decide) R h)

theorem forR2_s {x : Nat} {y : Str} {py pr pc pos : Pos} {a b : Expr} {ea eb : E} {body : List Stmt} {Sb : Ss} (hf : f.Ok) (hx : f.names[x]? = some y) (hk : f.sc.names.lookup ("range" : Str) = some .globalImplicit) (he : nsIn c.K mainGlobals "range" = some none) (h1 : notStar a = true) (h2 : notStar b = true) (ha : SndE c f a ea) (hb' : SndE c f b eb) (hb : SndSs c f body Sb) :
    SndS c f (.For (.Name y py) (.Call (.Name "range" pr) [a, b] [] pc) body [] pos) (.forR x ea eb Sb) := by
  refine ⟨fun n A F L l H s Q hr hw R => ?_⟩
  refine wpAny_For (eval_range hf hk he R ?_) (fun _ => rfl)
  have es : backTo pc (starEach [a, b] (f.env L)) = [(false, eval a (f.env L)), (false, eval b (f.env L))] := by rw [star_plain h1, star_plain h2]; rfl
  rw [es]
  refine PyProof.Rows.callWith_type rfl (Calls.evalArgs_plain (Calls.spliced_cons (wpNo (ha.run _ _ _ _ _ _ _ _ hr hw R) ?_)))
  rintro u s1 ⟨H1, R1, hw1⟩
  refine Calls.spliced_cons (wpNo (hb'.run _ _ _ _ _ _ _ _ hr hw1 R1) ?_)
  rintro v s2 ⟨H2, R2, hq⟩
  refine Calls.spliced_nil ?_
  obtain ⟨i, hi, hq⟩ := hq.elim
  obtain ⟨j, hj, q1, q2, q3, q4, I, hI0, hst, hend⟩ := hq.elim
  have hu : ∃ t, u = .int i t := by cases u <;> simp [av, intOf] at hi; subst hi; exact ⟨_, rfl⟩
  have hv : ∃ t, v = .int j t := by cases v <;> simp [av, intOf] at hj; subst hj; exact ⟨_, rfl⟩
  obtain ⟨t, rfl⟩ := hu
  obtain ⟨t', rfl⟩ := hv
  refine call_range_2 ?_
  exact range_loop hf hx hb hr (R2.ext (Ext.pushT _ _ _)) (IsRange.new ..) q1 q2 q3 q4 hI0 hst hend
theorem forR1_s {x : Nat} {y : Str} {py pr pc pos : Pos} {b : Expr} {eb : E} {body : List Stmt} {Sb : Ss} (hf : f.Ok) (hx : f.names[x]? = some y) (hk : f.sc.names.lookup ("range" : Str) = some .globalImplicit) (he : nsIn c.K mainGlobals "range" = some none) (h2 : notStar b = true) (hb' : SndE c f b eb) (hb : SndSs c f body Sb) :
    SndS c f (.For (.Name y py) (.Call (.Name "range" pr) [b] [] pc) body [] pos) (.forR x (.int 0) eb Sb) := by
  refine ⟨fun n A F L l H s Q hr hw R => ?_⟩
  refine wpAny_For (eval_range hf hk he R ?_) (fun _ => rfl)
  have es : backTo pc (starEach [b] (f.env L)) = [(false, eval b (f.env L))] := by rw [star_plain h2]; rfl
  rw [es]
  refine PyProof.Rows.callWith_type rfl (Calls.evalArgs_plain (Calls.spliced_cons (wpNo (hb'.run _ _ _ _ _ _ _ _ hr hw R) ?_)))
  rintro v s2 ⟨H2, R2, hq⟩
  refine Calls.spliced_nil ?_
  obtain ⟨i, hi, hq⟩ := hq.elim
  cases hi
  obtain ⟨j, hj, q1, q2, q3, q4, I, hI0, hst, hend⟩ := hq.elim
  have hv : ∃ t, v = .int j t := by cases v <;> simp [av, intOf] at hj; subst hj; exact ⟨_, rfl⟩
  obtain ⟨t', rfl⟩ := hv
  refine call_range_1 ?_
  exact range_loop hf hx hb hr (R2.ext (Ext.pushT _ _ _)) (IsRange.new ..) q1 q2 q3 q4 hI0 hst hend

theorem carried_ints : ∀ {is : List Int} {ys : List Value}, CarriedAll ys (is.map .int) → ys.map av = is.map .int
  | [], [], _ => rfl
  | i :: is, y :: ys, .cons h r => by
    rw [List.map_cons, List.map_cons, carried_ints r]
    cases h; rfl

theorem rangeList_e {py pr pc pos : Pos} {b : Expr} {eb : E} (hf : f.Ok) (hk : f.sc.names.lookup ("range" : Str) = some .globalImplicit) (he : nsIn c.K mainGlobals "range" = some none) (hk' : f.sc.names.lookup ("list" : Str) = some .globalImplicit) (he' : nsIn c.K mainGlobals "list" = some none) (h2 : notStar b = true) (hb' : SndE c f b eb) :
    SndE c f (.Call (.Name "list" py) [.Call (.Name "range" pr) [b] [] pc] [] pos) (.rangeList eb) := by
  refine ⟨fun n A F L l H s Q hr hw R => ?_⟩
  unfold WP
  rw [eval_CallName]
  refine wpAny_bind (boot_read hf hk' (by decide) he' (v := .type "list") (by kernel_rfl) (by decide) R ?_)
  have es0 : backTo pos (starEach [.Call (.Name "range" pr) [b] [] pc] (f.env L)) = [(false, eval (.Call (.Name "range" pr) [b] [] pc) (f.env L))] := by rw [star_plain rfl]; rfl
  have ek : backToKw pos (keywordEach [] (f.env L)) = [] := rfl
  rw [es0, ek]
  refine PyProof.Rows.callWith_type rfl (Calls.evalArgs_plain (Calls.spliced_cons (eval_range hf hk he R ?_)))
  have es : backTo pc (starEach [b] (f.env L)) = [(false, eval b (f.env L))] := by rw [star_plain h2]; rfl
  rw [es]
  refine PyProof.Rows.callWith_type rfl (Calls.evalArgs_plain (Calls.spliced_cons (wpNo (hb'.run _ _ _ _ _ _ _ _ hr hw R) ?_)))
  rintro v s2 ⟨H2, R2, hq⟩
  refine Calls.spliced_nil ?_
  obtain ⟨j, hj, q1, q2, hq2⟩ := hq.elim
  have hv : ∃ t, v = .int j t := by cases v <;> simp [av, intOf] at hj; subst hj; exact ⟨_, rfl⟩
  obtain ⟨t', rfl⟩ := hv
  refine call_range_1 (Calls.spliced_nil ?_)
  have R3 := R2.ext (Ext.pushT s2 { cls := .type "range", data := .fields #[.int 0 s2.toks, .int j t', .int 1 (s2.toks + 1)] } (s2.toks + 1 + 1))
  obtain ⟨mc, F1, _⟩ := R3.fr
  have N1 : News c.hB L (s2.heap.push { cls := .type "range", data := .fields #[.int 0 s2.toks, .int j t', .int 1 (s2.toks + 1)] }) [] := fun p hp => by cases hp
  refine list_rangeD hr.1 F1 N1 (IsRange.new ..) (range_small (by omega) (by omega) (by omega) (by omega)) (n := j.toNat) (by rw [rangeSize_one]; split <;> omega) (by omega) fun h' tk ys F2 N2 keep nb hl np hc => ?_
  obtain ⟨⟨m, hm⟩, _⟩ := np
  have hys := carried_ints hc
  obtain ⟨hd, R4⟩ := R3.alloc (s' := { s2 with heap := h', toks := tk }) ⟨keep, rfl, rfl⟩ size_none (o := .list ((List.range j.toNat).map fun k => .int (k : Nat))) (.mkList hm (by rw [hys]; simp [rangeInts])) (by intro C d kvs e; cases e)
  exact ⟨_, R4, hq2 _ hd (R3.freshS size_none)⟩
end

section
variable {c : Cx} {A : Around} {F : Addr → Option Obj} {L : Addr} {names : List Str} {l : List AV} {H : AH} {s : Shared} {n : Nat} {f : FnC}

theorem bounds_nat {a b n : Nat} (hab : a ≤ b) (hb : b ≤ n) : sliceBounds (some (a : Int)) (some (b : Int)) none n = ((a : Int), (b : Int), 1) := by
  unfold sliceBounds
  simp only [Option.getD_none, gt_iff_lt, Int.zero_lt_one, if_true, Prod.mk.injEq, and_true]
  rw [if_neg (by omega), if_neg (by omega)]
  omega
theorem setSlice_raw {l m sl : Addr} {xs ys : Array Value} {nl : Nat} {a b : Nat} {ta tb : Tok} {Q : Unit → Shared → Prop} {E : Value → Shared → Prop} (hl : s.heap.get? l = some (listOf xs nl)) (hm : s.heap.IsList m ys) (hs : s.heap.IsSliceOf sl (.int a ta) (.int b tb) .none)
    (hab : a ≤ b) (hb : b ≤ xs.size) (hz : xs.size + ys.size ≤ sizeLine) (hne : l ≠ m) (hQ : Q () { s with heap := s.heap.update l (Obj.mapSeq fun xs => xs.extract 0 a ++ ys ++ xs.extract b xs.size) }) :
    wpAny (model c.prog c.w) A (setItem (.ref l) (.ref sl) (.ref m)) Q E s := by
  have hl' : s.heap.IsList l xs := PySem.IsL.isList (n := nl) hl
  obtain ⟨om, hom, hcm, nm, hdm⟩ := id hm
  obtain ⟨os, hos, hcs, hds⟩ := id hs
  have hTs : s.TypeIs (.ref sl) "slice" := ⟨os, hos, hcs⟩
  unfold setItem
  try with_reducible refine wpAny_holding ?_
  first | refine wpAny_bind (wpAny_pure ?_) | skip
  refine wpAny_bind (wpAny_sequenceKey hl'.typeIs (by decide) ?_)
  refine wpAny_bind (wpAny_callSpecial?_slot (name := Str.ofString "__setitem__") hl'.typeIs slot_list_setitem
    (wpAny_call_entry slot_list_setitem hl'.typeIs entry_list_setitem ?_ (args_list_setitem _ _ _)))
  show wpAny _ _ (Builtin.List.listSubscript? (.ref sl) >>= _) _ _ s
  refine wpAny_bind ?_
  unfold Builtin.List.listSubscript?
  refine wpAny_bind (wpAny_specialOf hTs slice_no_index ?_)
  simp only [Option.isNone_none, if_true]
  refine wpAny_pure ?_
  show wpAny _ _ (typeOf (.ref sl) >>= _) _ _ s
  refine wpAny_bind (wpAny_typeOf hTs ?_)
  rw [if_neg (by decide)]
  rw [listSliceParts_eq]
  refine wpAny_bind (wpAny_bind (wpAny_field hos hds (x := .none) rfl (wpAny_bind (wpAny_listPart (k := none) .none ?_))))
  rw [if_neg (show ¬ ((rawPart none == rawInt 0) = true) from Bool.false_ne_true)]
  refine wpAny_bind (wpAny_field hos hds (x := .int a ta) rfl (wpAny_bind (wpAny_listPart (k := some (a : Int)) (.int _ _) ?_)))
  refine wpAny_bind (wpAny_field hos hds (x := .int b tb) rfl (wpAny_bind (wpAny_listPart (k := some (b : Int)) (.int _ _) (wpAny_pure ?_))))
  have hsame : Builtin.List.listSameRef (.ref l) (.ref m) = false := by simp [Builtin.List.listSameRef, hne]
  rw [hsame]
  refine wpAny_bind (m := Builtin.List.listAllItems (.ref m) _) ?_
  unfold Builtin.List.listAllItems
  refine wpAny_bind (wpAny_typeOf hm.typeIs ?_)
  rw [if_pos (by decide)]
  unfold Builtin.List.listItems
  refine wpAny_bind (wpAny_seqItems hom hdm (wpAny_pure ?_))
  refine wpAny_bind ?_
  refine wpAny_bind (wpAny_seqItems hl rfl (wpAny_pure ?_))
  refine wpAny_bind (wpAny_of_eq (sliceIndices_raw (some (a : Int)) (some (b : Int)) none xs.size (by simp)) ?_)
  rw [bounds_nat hab hb]
  show wpAny _ _ (if (1 : Int) == 1 then _ else _) _ _ s
  rw [if_pos (by decide)]
  refine wpAny_bind (wpAny_rule ?_)
  have hlong : Builtin.List.listTooLong (xs.size + ys.size) = false := by simp [Builtin.List.listTooLong]; omega
  rw [hlong]
  have e1 : ((a : Int)).toNat = a := by omega
  have e2 : (max (a : Int) b).toNat = b := by omega
  simp only [e1, e2, Bool.false_eq_true, if_false]
  refine wpAny_bind (m := Builtin.List.listUpdate (.ref l) _) (wpAny_updateSeq (xs := xs) hl rfl ?_ (by omega) (by rw [Array.size_append, Array.size_append, Array.size_extract, Array.size_extract]; omega))
  refine wpAny_bind (wpAny_letGo ?_)
  exact wpAny_pure ⟨_, rfl, wpAny_pure hQ⟩

theorem setSlice_s {o : Expr} {lo hi : Expr} {eo elo ehi : E} {p po pos : Pos} {ex : Expr} {e : E} (h : SndE c f ex e) (ho : SndE c f o eo) (h1 : SndE c f lo elo) (h2 : SndE c f hi ehi) (hs : ∀ env, swapsWith ex (some (.Subscript o (.Slice (some lo) (some hi) none p) po)) pos.line env = pure false) :
    SndS c f (.Assign [.Subscript o (.Slice (some lo) (some hi) none p) po] ex pos) (.setSlice eo elo ehi e) := by
  refine ⟨fun n A F L l H s Q hr hw R => ?_⟩
  refine wpAny_Assign_Subscript (wpNo (h.run _ _ _ _ _ _ _ _ hr hw R) ?_) (hs _)
  rintro v s1 ⟨H1, R1, hq⟩
  refine wpNo (ho.run _ _ _ _ _ _ _ _ hr hq R1) ?_
  rintro u s2 ⟨H2, R2, hq⟩
  refine wpAny_Slice (wpNo (part_run (x := some lo) h1 hr hq R2) ?_)
  rintro vl s3 ⟨H3, R3, hq⟩
  refine wpNo (part_run (x := some hi) h2 hr hq R3) ?_
  rintro vu s4 ⟨H4, R4, hq⟩
  refine wpAny_pure ?_
  obtain ⟨p, hp, hq⟩ := hq.elim
  obtain ⟨q, hq', hq⟩ := hq.elim
  obtain ⟨a, ha, hq⟩ := hq.elim
  obtain ⟨b, hb, n1, n2, n3, n4, n5, n6, n7, hq2⟩ := hq.elim
  obtain ⟨eu, hHu⟩ := listAt_some hp
  obtain ⟨ev, hHv⟩ := listAt_some hq'
  have hvl : ∃ t, vl = .int a t := by cases vl <;> simp [av, intOf] at ha; subst ha; exact ⟨_, rfl⟩
  have hvu : ∃ t, vu = .int b t := by cases vu <;> simp [av, intOf] at hb; subst hb; exact ⟨_, rfl⟩
  obtain ⟨ta, rfl⟩ := hvl
  obtain ⟨tb, rfl⟩ := hvu
  rw [av_ref eu, av_ref ev]
  have R5 := R4.ext (Ext.push s4 { cls := .type "slice", data := .fields #[.int a ta, .int b tb, .none] })
  obtain ⟨xs, m, hx, hxs⟩ := plainAt R5 hHu n1
  obtain ⟨ys, hy, hys, _⟩ := R5.objs _ _ hHv
  have lx : xs.length = p.2.length := by rw [← hxs]; simp
  have ly : ys.length = q.2.length := by rw [← hys]; simp
  obtain ⟨a', rfl⟩ := Int.eq_ofNat_of_zero_le n3
  obtain ⟨b', rfl⟩ := Int.eq_ofNat_of_zero_le (show 0 ≤ b by omega)
  refine setSlice_raw hx hy (Heap.IsSliceOf.new _ _ _ _) (by omega) (by simp; omega) (by rw [sizeLine_eq]; simp; omega) n2 ?_
  have upd := Heap.get?_update_self (Obj.mapSeq fun zs => zs.extract 0 a' ++ ys.toArray ++ zs.extract b' zs.size) hx rfl
  refine ⟨_, _, R5.write hHu (s' := { s4 with heap := (s4.heap.push { cls := .type "slice", data := .fields #[.int a' ta, .int b' tb, .none] }).update p.1 (Obj.mapSeq fun zs => zs.extract 0 a' ++ ys.toArray ++ zs.extract b' zs.size) }) (Heap.SameBut.update ..) rfl rfl n1
    (RepO.mkList (vs := xs.take a' ++ ys ++ xs.drop b') (n := if (xs.toArray.extract 0 a' ++ ys.toArray ++ xs.toArray.extract b' xs.toArray.size).size == xs.toArray.size then m else m + 1) ?_ (by rw [List.map_append, List.map_append, List.map_take, List.map_drop, hxs, hys]; rfl)) (by intro C d kvs e; cases e), hq2⟩
  refine upd.trans ?_
  have e3 : xs.toArray.extract 0 a' ++ ys.toArray ++ xs.toArray.extract b' xs.toArray.size = (xs.take a' ++ ys ++ xs.drop b').toArray := by
    apply Array.toList_inj.mp
    simp
    rw [List.take_of_length_le (by simp)]
  simp only [Obj.mapSeq, e3]
end

section
variable {c : Cx} {A : Around} {F : Addr → Option Obj} {L : Addr} {names : List Str} {l : List AV} {H : AH} {s : Shared} {n : Nat} {f : FnC}

open Classical in
noncomputable def frozenAt (c : Cx) (H : AH) (h : Heap) : Addr → Option Obj := fun b => if Own c H b then none else h.get? b
theorem frozenAt_own {h : Heap} {b : Addr} (hb : Own c H b) : frozenAt c H h b = none := by unfold frozenAt; rw [if_pos hb]
theorem frozenAt_not {h : Heap} {b : Addr} (hb : ¬ Own c H b) : frozenAt c H h b = h.get? b := by unfold frozenAt; rw [if_neg hb]
theorem frozenAt_some {h : Heap} {b : Addr} {o : Obj} (e : frozenAt c H h b = some o) : ¬ Own c H b ∧ h.get? b = some o := by
  by_cases q : Own c H b
  · rw [frozenAt_own q] at e; cases e
  · rw [frozenAt_not q] at e; exact ⟨q, e⟩

theorem Rep.enter {names' : List Str} {l' : List AV} {s' : Shared} {mc : Str → Option Value} (R : Rep c F L names l H s) (keep : ∀ b o, s.heap.get? b = some o → s'.heap.get? b = some o) (hn : s'.heap.Ns s.heap.objs.size mc) (hl : LocsAre names' l' mc)
    (hg : s'.gens = s.gens) (hos : s'.os = s.os) : Rep c (frozenAt c H s.heap) s.heap.objs.size names' l' H s' := by
  have hf := size_none (h := s.heap)
  have Llt : L < s.heap.objs.size := by
    obtain ⟨mc, hn, _⟩ := R.ns
    obtain ⟨oL, _, _, hL, _⟩ := hn
    exact Heap.lt_size hL
  refine ⟨R.ok, fun b o h => keep _ _ (frozenAt_some h).2, ?_, fun a o h => (R.objs _ _ h).keeps (keep _) fun C d kvs e => keep d, fun b h => frozenAt_own h, R.inst, R.inj, by rw [hg]; exact R.gens, hos.trans R.os, ⟨mc, hn, hl⟩, ?_, R.freshD hf, Nat.le_trans R.above (Nat.le_of_lt Llt), R.tab⟩
  · intro b o h
    have hF := R.base _ _ h
    rw [frozenAt_not fun q => by rw [R.own _ q] at hF; cases hF]
    exact R.keep _ _ hF
  · rw [frozenAt_not (R.freshD hf)]; exact hf
theorem Rep.back {L' : Addr} {names' : List Str} {l' : List AV} {H' : AH} {s' : Shared} (R : Rep c F L names l H s) (R' : Rep c (frozenAt c H s.heap) L' names' l' H' s') : Rep c F L names l H' s' := by
  have up : ∀ {b o}, F b = some o → frozenAt c H s.heap b = some o := by
    intro b o h
    rw [frozenAt_not fun q => by rw [R.own _ q] at h; cases h]
    exact R.keep _ _ h
  obtain ⟨mc, hn, hl⟩ := R.ns
  obtain ⟨oL, es, ep, hL, hr⟩ := hn
  have fL : frozenAt c H s.heap L = some oL := by rw [frozenAt_not R.offO]; exact hL
  refine ⟨R.ok, fun b o h => R'.keep _ _ (up h), R.base, R'.objs, ?_, R'.inst, R'.inj, R'.gens, R'.os, ⟨mc, ⟨oL, es, ep, R'.keep _ _ fL, hr⟩, hl⟩, R.offF, ?_, R.above, R'.tab⟩
  · intro b h
    cases q : F b with
    | none => rfl
    | some o => have := R'.own _ h; rw [up q] at this; cases this
  · intro h
    have := R'.own _ h; rw [fL] at this; cases this

/-- a function of the program, seen in the written part -/
structure FnIn (c : Cx) (f : FnC) (fd : FuncData) (body : List Stmt) (k : Nat) : Prop where
  look : ∃ oc od sl, c.K.lookup f.addr = some ⟨oc, od, .func fd, sl⟩
  body : fd.body = .stmts body
  env : ∀ L, callEnv fd L f.addr = f.env L
  code : codeIn c.K fd.code fd.qualname = true
  sc : fd.scope = f.sc
  co : f.sc.isCoroutine = false
  gen : f.sc.isGenerator = false
  cell : ∀ x ∈ f.sc.names, x.2 ≠ .cell
  binds : ∀ s cvs, cvs.length = k → c.K.In s.heap → BindsTo s fd ⟨cvs, []⟩ ((f.names.take k).zip cvs)
  le : k ≤ f.names.length

theorem lookup_zip_rev {ns : List Str} {cvs : List Value} (hn : ns.Nodup) (hl : ns.length = cvs.length) {i : Nat} {x : Str} {v : Value} (hx : ns[i]? = some x) (hv : cvs[i]? = some v) : (ns.zip cvs).reverse.lookup x = some v := by
  have mem : (x, v) ∈ (ns.zip cvs).reverse := by
    rw [List.mem_reverse]
    have : (ns.zip cvs)[i]? = some (x, v) := by
      obtain ⟨h1, h2⟩ := List.getElem?_eq_some_iff.mp hx
      obtain ⟨h3, h4⟩ := List.getElem?_eq_some_iff.mp hv
      rw [List.getElem?_eq_getElem (by simp; omega), List.getElem_zip, h2, h4]
    exact List.mem_of_getElem? this
  have hk : ((ns.zip cvs).reverse.map (·.1)).Nodup := by
    rw [List.map_reverse, List.Perm.nodup_iff (List.reverse_perm _), List.map_fst_zip (by omega)]; exact hn
  have gen : ∀ (zs : List (Str × Value)), (zs.map (·.1)).Nodup → (x, v) ∈ zs → zs.lookup x = some v := by
    intro zs
    induction zs with
    | nil => intro _ h; cases h
    | cons a r ih =>
      intro hn hm
      rw [List.map_cons, List.nodup_cons] at hn
      rw [List.lookup_cons]
      rcases List.mem_cons.mp hm with rfl | hm
      · simp
      · have : (x == a.1) = false := by
          simp only [beq_eq_false_iff_ne, ne_eq]
          rintro rfl
          exact hn.1 (List.mem_map.mpr ⟨_, hm, rfl⟩)
        rw [this]; exact ih hn.2 hm
  exact gen _ hk mem

theorem calls_fn {fd : FuncData} {body : List Stmt} {k : Nat} {S : Ss} {vs : List AV} {Q : AV → AH → Prop} (hf : f.Ok) (X : FnIn c f fd body k) (hb : SndSs c f body S) (hk : vs.length = k)
    (h : wSs c n S (vs ++ List.replicate (f.names.length - k) .bad) H (fun fl l H' => match fl with | .next => Q .none H' | .ret v => Q v H')) : Calls c (n + 1) f.addr vs H Q := by
  intro A F L names l s cvs hr R hcv
  obtain ⟨oc, od, sl, hlook⟩ := X.look
  have hcl : cvs.length = k := by rw [← hk, ← hcv]; simp
  obtain ⟨mc, F1, _⟩ := R.fr
  refine codeAny_call_def (fd := fd) (body := body) (binds := (f.names.take k).zip cvs) ?_ (R.kin _ _ hlook) rfl (R.ok.top.nolimit.keeps F1.keep) (codeRec_of R.kin X.code) X.body (X.binds s cvs hcl R.kin) ?_ ?_ (fun h₀ hns hk₁ => ?_) (by rw [X.sc]; exact X.co) (by rw [X.sc]; exact X.gen) (by rw [X.sc]; exact hf.kind)
  · have := hr.2.1; show A.depth < 1000; omega
  · rw [X.sc]; exact X.cell
  · intro x hx
    rw [X.sc]
    exact hf.loc _ (List.mem_of_mem_take (List.of_mem_zip hx).1)
  · rw [X.env]
    have hr' : Room (A.deeper (f.env s.heap.objs.size)) n := by
      refine ⟨hr.1, ?_, ?_⟩
      · show A.depth + 1 + n + 50 ≤ 1000
        have := hr.2.1; omega
      · show A.units + 3 + 20 * n + 300 ≤ 9900
        have := hr.2.2; omega
    have R0 : Rep c (frozenAt c H s.heap) s.heap.objs.size f.names (vs ++ List.replicate (f.names.length - k) .bad) H { s with heap := h₀, toks := s.toks + ((f.names.take k).zip cvs).length } := by
      refine R.enter hk₁ hns ?_ rfl rfl
      intro i x v hx hv hbad
      by_cases q : i < k
      · rw [List.getElem?_append_left (by omega), ← hcv, List.getElem?_map] at hv
        obtain ⟨u, hu, hu'⟩ := Option.map_eq_some_iff.mp hv
        refine ⟨u, lookup_zip_rev (hf.nodup.sublist (List.take_sublist _ _)) (by have := X.le; simp; omega) (i := i) ?_ hu, hu'⟩
        rw [List.getElem?_take, if_pos q]; exact hx
      · rw [List.getElem?_append_right (by omega)] at hv
        have := List.mem_of_getElem? hv
        exact absurd (List.eq_of_mem_replicate this) hbad
    refine noE (wpNo (hb.run _ _ _ _ _ _ _ _ hr' h R0) ?_)
    rintro fl s' ⟨l', H', R', hq⟩
    cases fl with
    | next => exact ⟨H', R.back R', hq⟩
    | ret v => exact ⟨H', R.back R', hq⟩
    | _ => exact False.elim hq

/-- a class called -/
theorem calls_new {C fI : Addr} {vs : List AV} {Q : AV → AH → Prop} (hm : makesIn c.K C = true) (hi : findIn c.K (.ref C) "__init__" = some (some (.ref fI))) (hf : typeIn c.K (.ref fI) = some (.type "function")) (hC : c.cls C = true)
    (h : ∀ a d, H a = none → a ≠ c.scr → H d = none → Calls c n fI (.ref a :: vs) (upd H a (.inst C d [])) (fun v H' => v = .none ∧ Q (.ref a) H')) : Calls c (n + 1) C vs H Q := by
  intro A F L names l s cvs hr R hcv
  obtain ⟨hh, g, dr, t, os⟩ := s
  refine make_core (makes_of R.kin hm) (looks_findIn R.kin hi) (fun self => bind_fn R.kin self hf) (.inl rfl) ?_
  have e1 : (⟨hh, g, dr, t, os⟩ : Shared).heap.get? hh.objs.size = none := size_none
  have e2 : hh.get? (hh.objs.size + 1) = none := by
    cases q : hh.get? (hh.objs.size + 1) with
    | none => rfl
    | some o => exact absurd (Heap.lt_size q) (Nat.not_lt.mpr (Nat.le_succ _))
  have hd : ((hh.push emptyDict).push (instObj C hh.objs.size)).get? hh.objs.size = some emptyDict := Heap.get?_push_of_some _ (Heap.get?_push_size _ rfl)
  have ha : ((hh.push emptyDict).push (instObj C hh.objs.size)).get? (hh.objs.size + 1) = some (instObj C hh.objs.size) := by
    have := Heap.get?_push_size (hh.push emptyDict) (o := instObj C hh.objs.size) rfl
    rwa [Heap.size_push] at this
  obtain ⟨hn, R2⟩ := R.allocI (s' := ⟨(hh.push emptyDict).push (instObj C hh.objs.size), g, dr, t, os⟩) (a := hh.objs.size + 1) (C := C) (d := hh.objs.size) (kvs := []) ⟨fun b o hb => Heap.get?_push_of_some _ (Heap.get?_push_of_some _ hb), rfl, rfl⟩ e2 e1
    ⟨emptyDict, ha, hd, ⟨hC, [], 0, rfl, .nil⟩, Nat.succ_ne_self _⟩
  have hr' : Room (A.under (.builtin "type.__call__" ⟨.ref C :: cvs, []⟩)) n := by
    refine ⟨hr.1, ?_, ?_⟩
    · show A.depth + Code.weight _ + n + 50 ≤ 1000
      have : Code.weight (.builtin "type.__call__" ⟨.ref C :: cvs, []⟩) = 1 := rfl
      have := hr.2.1; omega
    · show A.units + Code.cUnits _ + 20 * n + 300 ≤ 9900
      have : Code.cUnits (.builtin "type.__call__" ⟨.ref C :: cvs, []⟩) = 1 := rfl
      have := hr.2.2; omega
  have hw := h (hh.objs.size + 1) hh.objs.size hn (R.freshS e2) (R.fresh e1) _ F L names l _ (.ref (hh.objs.size + 1) :: cvs) hr' R2 (by rw [List.map_cons, hcv]; rfl)
  refine codeAny_mono hw fun r s' z => ?_
  rcases r with e | (v | _ | _ | v) <;> first | exact z.elim | skip
  obtain ⟨H', R', hv, hq⟩ := z
  exact ⟨av_none hv, H', R', hq⟩
end

section
variable {c : Cx} {A : Around} {F : Addr → Option Obj} {L : Addr} {names : List Str} {l : List AV} {H : AH} {s : Shared} {n : Nat} {f : FnC}

theorem var_t {x : Nat} {y : Str} {pos : Pos} (hf : f.Ok) (hx : f.names[x]? = some y) : SndT c f (.Name y pos) (.var x) :=
  plain_t (var_sound hf hx) (fun n l H Q h => h) fun _ _ => rfl
theorem attr_t {x : Nat} {y : Str} {k : Nat} {px pos : Pos} (hf : f.Ok) (hx : f.names[x]? = some y) : SndT c f (.Attribute (.Name y px) (ks k) pos) (.attr x k) :=
  plain_t (attr_sound hf hx) (fun n l H Q h => h) fun _ _ => rfl
theorem item_t {value : Expr} {e : E} {k m : Nat} {p pos : Pos} (h : SndE c f value e) : SndT c f (.Subscript value (.Constant (.str (ks k)) m p) pos) (.item e k) :=
  plain_t (item_sound h) (fun n l H Q h => h) fun _ _ => rfl
theorem call_t {y : Str} {py pos : Pos} {a : Addr} {exs : List Expr} {es : Es} (h : SndE c f (.Call (.Name y py) exs [] pos) (.call a es)) : SndT c f (.Call (.Name y py) exs [] pos) (.call a es) :=
  plain_t h (fun n l H Q h => h) fun _ _ => rfl

theorem len_e {y : Str} {py pos : Pos} {ex : Expr} {e : E} (hy : y = "len") (hf : f.Ok) (hk : f.sc.names.lookup ("len" : Str) = some .globalImplicit) (he : nsIn c.K mainGlobals "len" = some none) (h1 : notStar ex = true) (h2 : SndE c f ex e) : SndE c f (.Call (.Name y py) [ex] [] pos) (.len e) := by
  subst hy; exact boot1_e hf hk (by decide) he (v := .builtin "len") (by kernel_rfl) (by decide) (.inl ⟨_, rfl⟩) h1 h2 (.len e) (P := fun u H Q => lenP u H Q) (fun n l H Q => by rfl) fun n A F L l H s Q u hr hp R => len_run hp R
theorem bool_e {y : Str} {py pos : Pos} {ex : Expr} {e : E} (hy : y = "bool") (hf : f.Ok) (hk : f.sc.names.lookup ("bool" : Str) = some .globalImplicit) (he : nsIn c.K mainGlobals "bool" = some none) (h1 : notStar ex = true) (h2 : SndE c f ex e) : SndE c f (.Call (.Name y py) [ex] [] pos) (.boolOf e) := by
  subst hy; exact boot1_e hf hk (by decide) he (v := .type "bool") (by kernel_rfl) (by decide) (.inr ⟨_, rfl⟩) h1 h2 (.boolOf e) (P := fun u H Q => Ok (strOf u) fun x => x.length ≤ 10000 ∧ Q (.bool (decide (x.length ≠ 0))) H) (fun n l H Q => by rfl) fun n A F L l H s Q u hr hp R => bool_run hp R
theorem dictOf_e {y : Str} {py pos : Pos} {ex : Expr} {e : E} (hy : y = "dict") (hf : f.Ok) (hk : f.sc.names.lookup ("dict" : Str) = some .globalImplicit) (he : nsIn c.K mainGlobals "dict" = some none) (h1 : notStar ex = true) (h2 : SndE c f ex e) : SndE c f (.Call (.Name y py) [ex] [] pos) (.dictOf e) := by
  subst hy; exact boot1_e hf hk (by decide) he (v := .type "dict") (by kernel_rfl) (by decide) (.inr ⟨_, rfl⟩) h1 h2 (.dictOf e) (P := fun u H Q => Ok (dictAt H u) fun p => p.2.length ≤ 100 ∧ ∀ d, H d = Option.none → d ≠ c.scr → Q (.ref d) (upd H d (.dict p.2))) (fun n l H Q => by rfl) fun n A F L l H s Q u hr hp R => dictOf_run hp R
theorem listOf_e {y : Str} {py pos : Pos} {ex : Expr} {e : E} (hy : y = "list") (hf : f.Ok) (hk : f.sc.names.lookup ("list" : Str) = some .globalImplicit) (he : nsIn c.K mainGlobals "list" = some none) (h1 : notStar ex = true) (h2 : SndE c f ex e) : SndE c f (.Call (.Name y py) [ex] [] pos) (.listOf e) := by
  subst hy; exact boot1_e hf hk (by decide) he (v := .type "list") (by kernel_rfl) (by decide) (.inr ⟨_, rfl⟩) h1 h2 (.listOf e) (P := fun u H Q => Ok (listAt H u) fun p => p.2.length ≤ 10000 ∧ ∀ d, H d = Option.none → d ≠ c.scr → Q (.ref d) (upd H d (.list p.2))) (fun n l H Q => by rfl) fun n A F L l H s Q u hr hp R => listOf_run hp R

/-! keys by equation -/
theorem str_k {x a : Str} {k : Nat} {pos : Pos} (h : a = x) : SndE c f (.Constant (.str a) k pos) (.str x) := by subst h; exact const_str
theorem max_k {y : Str} {py pos : Pos} {a b : Expr} {ea eb : E} (hy : y = "max") (hf : f.Ok) (hk : f.sc.names.lookup ("max" : Str) = some .globalImplicit) (he : nsIn c.K mainGlobals "max" = some none)
    (h1 : notStar a = true) (h2 : notStar b = true) (g1 : SndE c f a ea) (g2 : SndE c f b eb) : SndE c f (.Call (.Name y py) [a, b] [] pos) (.max2 ea eb) := by
  subst hy; exact max_e hf hk (by decide) he (by kernel_rfl) (by decide) h1 h2 g1 g2
theorem rangeList_k {y z : Str} {py pr pc pos : Pos} {b : Expr} {eb : E} (hy : y = "list") (hz : z = "range") (hf : f.Ok) (hk : f.sc.names.lookup ("range" : Str) = some .globalImplicit) (he : nsIn c.K mainGlobals "range" = some none) (hk' : f.sc.names.lookup ("list" : Str) = some .globalImplicit) (he' : nsIn c.K mainGlobals "list" = some none) (h2 : notStar b = true) (hb' : SndE c f b eb) :
    SndE c f (.Call (.Name y py) [.Call (.Name z pr) [b] [] pc] [] pos) (.rangeList eb) := by
  subst hy hz; exact rangeList_e hf hk he hk' he' h2 hb'
theorem forR2_k {x : Nat} {y z : Str} {py pr pc pos : Pos} {a b : Expr} {ea eb : E} {body : List Stmt} {Sb : Ss} (hz : z = "range") (hf : f.Ok) (hx : f.names[x]? = some y) (hk : f.sc.names.lookup ("range" : Str) = some .globalImplicit) (he : nsIn c.K mainGlobals "range" = some none) (h1 : notStar a = true) (h2 : notStar b = true) (ha : SndE c f a ea) (hb' : SndE c f b eb) (hb : SndSs c f body Sb) :
    SndS c f (.For (.Name y py) (.Call (.Name z pr) [a, b] [] pc) body [] pos) (.forR x ea eb Sb) := by
  subst hz; exact forR2_s hf hx hk he h1 h2 ha hb' hb
theorem forR1_k {x : Nat} {y z : Str} {py pr pc pos : Pos} {b : Expr} {eb : E} {body : List Stmt} {Sb : Ss} (hz : z = "range") (hf : f.Ok) (hx : f.names[x]? = some y) (hk : f.sc.names.lookup ("range" : Str) = some .globalImplicit) (he : nsIn c.K mainGlobals "range" = some none) (h2 : notStar b = true) (hb' : SndE c f b eb) (hb : SndSs c f body Sb) :
    SndS c f (.For (.Name y py) (.Call (.Name z pr) [b] [] pc) body [] pos) (.forR x (.int 0) eb Sb) := by
  subst hz; exact forR1_s hf hx hk he h2 hb' hb
theorem call_k {y z : Str} {py pos : Pos} {a : Addr} {exs : List Expr} {es : Es} (hy : y = z) (hf : f.Ok) (hk : f.sc.names.lookup z = some .globalImplicit) (hd : (z == ("__debug__" : Str)) = false) (he : nsIn c.K mainGlobals z = some (some (.ref a))) (hkeep : keepIn c.K (.ref a) = true)
    (h : SndEs c f exs es) (hne : exs ≠ []) : SndE c f (.Call (.Name y py) exs [] pos) (.call a es) := by subst hy; exact call_e hf hk hd he hkeep h hne
theorem meth_k {x : Nat} {y : Str} {py apos pos : Pos} {name nm : Str} {C g : Addr} {exs : List Expr} {es : Es} (hy : nm = name) (hf : f.Ok) (hx : f.names[x]? = some y) (h20 : exs.length < 20) (hline : (apos.endLine == pos.line) = true) (hg : plainGet c.K C name = true) (hfi : findIn c.K (.ref C) name = some (some (.ref g))) (hfn : isFn c.K (.ref g) = true)
    (hnk : ∀ k, k < 19 → ks k ≠ name) (hkeep : keepIn c.K (.ref g) = true) (h : SndEs c f exs es) (hne : exs ≠ []) : SndE c f (.Call (.Attribute (.Name y py) nm apos) exs [] pos) (.meth x C g es) := by subst hy; exact meth_e hf hx h20 hline hg hfi hfn hnk hkeep h hne
theorem append_k {x : Nat} {y z : Str} {py apos pos : Pos} {ex : Expr} {e : E} (hz : z = "append") (hf : f.Ok) (hx : f.names[x]? = some y) (hline : (apos.endLine == pos.line) = true) (h1 : notStar ex = true) (h : SndE c f ex e) : SndE c f (.Call (.Attribute (.Name y py) z apos) [ex] [] pos) (.append x e) := by subst hz; exact append_e hf hx hline h1 h
theorem attr_k {x : Nat} {y a : Str} {k : Nat} {px pos : Pos} (hf : f.Ok) (hx : f.names[x]? = some y) (hk : a = ks k) : SndE c f (.Attribute (.Name y px) a pos) (.attr x k) := by subst hk; exact attr_sound hf hx
theorem attr_kt {x : Nat} {y a : Str} {k : Nat} {px pos : Pos} (hf : f.Ok) (hx : f.names[x]? = some y) (hk : a = ks k) : SndT c f (.Attribute (.Name y px) a pos) (.attr x k) := by subst hk; exact attr_t hf hx
theorem item_k {value : Expr} {e : E} {a : Str} {k m : Nat} {p pos : Pos} (h : SndE c f value e) (hk : a = ks k) : SndE c f (.Subscript value (.Constant (.str a) m p) pos) (.item e k) := by subst hk; exact item_sound h
theorem item_kt {value : Expr} {e : E} {a : Str} {k m : Nat} {p pos : Pos} (h : SndE c f value e) (hk : a = ks k) : SndT c f (.Subscript value (.Constant (.str a) m p) pos) (.item e k) := by subst hk; exact item_t h
theorem hasKey_k {b : Expr} {eb : E} {a : Str} {k m : Nat} {p pos : Pos} (hlt : k < 19) (h2 : SndE c f b eb) (hn : notSetX b = true) (hk : a = ks k) : SndE c f (.Compare (.Constant (.str a) m p) [.In] [b] pos) (.hasKey k eb) := by subst hk; exact hasKey_e hlt h2 hn
theorem hasKey_kt {b : Expr} {eb : E} {a : Str} {k m : Nat} {p pos : Pos} (hlt : k < 19) (h2 : SndE c f b eb) (hn : notSetX b = true) (hk : a = ks k) : SndT c f (.Compare (.Constant (.str a) m p) [.In] [b] pos) (.hasKey k eb) := by subst hk; exact hasKey_t hlt h2 hn
theorem setAttr_k {o : Expr} {eo : E} {a : Str} {k : Nat} {po pos : Pos} {ex : Expr} {e : E} (h : SndE c f ex e) (ho : SndE c f o eo) (hk : a = ks k) (hs : ∀ env, swapsWith ex (some (.Attribute o a po)) pos.line env = pure false) : SndS c f (.Assign [.Attribute o a po] ex pos) (.setAttr eo k e) := by subst hk; exact setAttr_s h ho hs
theorem augAttr_k {op : Operator} {x k : Nat} {y a : Str} {py po pos : Pos} {ex : Expr} {e : E} (hf : f.Ok) (hx : f.names[x]? = some y) (h : SndE c f ex e) (hk : a = ks k) : SndS c f (.AugAssign (.Attribute (.Name y py) a po) op ex pos) (.augAttr op x k e) := by subst hk; exact augAttr_s hf hx h
theorem setItem_k {o : Expr} {eo : E} {a : Str} {k m : Nat} {p po pos : Pos} {ex : Expr} {e : E} (h : SndE c f ex e) (ho : SndE c f o eo) (hk : a = ks k) (hs : ∀ env, swapsWith ex (some (.Subscript o (.Constant (.str a) m p) po)) pos.line env = pure false) : SndS c f (.Assign [.Subscript o (.Constant (.str a) m p) po] ex pos) (.setItem eo k e) := by subst hk; exact setItem_s h ho hs
theorem KeysAre.k {k : Nat} {a : Str} {m : Nat} {p : Pos} {ks' : List (Option Expr)} {r : List Nat} (hlt : k < 19) (hk : a = ks k) (h : KeysAre ks' r) : KeysAre (some (.Constant (.str a) m p) :: ks') (k :: r) := by subst hk; exact .cons hlt h
/-! functions as the written part has them -/
def fdAt (K : Frag) (a : Addr) : FuncData := match K.lookup a with
  | some ⟨_, _, .func fd, _⟩ => fd
  | _ => default
def bodyAt (K : Frag) (a : Addr) : List Stmt := match (fdAt K a).body with
  | .stmts b => b
  | _ => []
def fnAt (K : Frag) (a : Addr) (names : List Str) : FnC := { qual := (fdAt K a).qualname, sc := (fdAt K a).scope, addr := a, cd := (fdAt K a).code, names := names }
def nodupB : List Str → Bool
  | [] => true
  | x :: r => !r.contains x && nodupB r
theorem nodup_of {xs : List Str} (h : nodupB xs = true) : xs.Nodup := by
  induction xs with
  | nil => exact List.nodup_nil
  | cons x r ih =>
    simp only [nodupB, Bool.and_eq_true, Bool.not_eq_true', List.contains_eq_mem, decide_eq_false_iff_not] at h
    exact List.nodup_cons.mpr ⟨h.1, ih h.2⟩
def okB (f : FnC) : Bool := f.sc.kind == .function && nodupB f.names && f.names.all (fun x => f.sc.names.lookup x == some .local && !(x == ("__debug__" : Str)))
theorem ok_of (h : okB f = true) : f.Ok := by
  simp only [okB, Bool.and_eq_true, List.all_eq_true, Bool.not_eq_true', beq_iff_eq] at h
  exact ⟨h.1.1, nodup_of h.1.2, fun x hx => (h.2 x hx).1, fun x hx => (h.2 x hx).2⟩
def inB (K : Frag) (a : Addr) (names : List Str) (k : Nat) : Bool := (match K.lookup a with
  | some ⟨_, _, .func _, _⟩ => true
  | _ => false) && (match (fdAt K a).body with
  | .stmts _ => true
  | _ => false) && codeIn K (fdAt K a).code (fdAt K a).qualname && !(fdAt K a).scope.isCoroutine && !(fdAt K a).scope.isGenerator && (fdAt K a).scope.names.all (fun x => x.2 != .cell) && decide (k ≤ names.length)
theorem fnIn_of {K : Frag} {a : Addr} {names : List Str} {k : Nat} (hK : c.K = K) (h : inB K a names k = true) (he : ∀ L, callEnv (fdAt K a) L a = (fnAt K a names).env L)
    (hb : ∀ s cvs, cvs.length = k → K.In s.heap → BindsTo s (fdAt K a) ⟨cvs, []⟩ ((names.take k).zip cvs)) : FnIn c (fnAt K a names) (fdAt K a) (bodyAt K a) k := by
  subst hK
  simp only [inB, Bool.and_eq_true, Bool.not_eq_true', decide_eq_true_eq, List.all_eq_true, bne_iff_ne] at h
  obtain ⟨⟨⟨⟨⟨⟨h1, h2⟩, h3⟩, h4⟩, h5⟩, h6⟩, h7⟩ := h
  refine ⟨?_, ?_, he, h3, rfl, h4, h5, h6, hb, h7⟩
  · show ∃ oc od sl, c.K.lookup a = some ⟨oc, od, .func (fdAt c.K a), sl⟩
    split at h1
    · rename_i oc od fd sl e
      refine ⟨oc, od, sl, ?_⟩
      rw [e]; unfold fdAt; rw [e]
    · cases h1
  · unfold bodyAt
    split at h2
    · rename_i b e; rw [e]
    · cases h2
theorem fnIn_eq {K : Frag} {a : Addr} {names : List Str} {k : Nat} (hK : c.K = K) (h : inB K a names k = true) (he : ∀ L, callEnv (fdAt K a) L a = (fnAt K a names).env L)
    (hb : ∀ cvs, cvs.length = k → bindArgs (fdAt K a) ⟨cvs, []⟩ = pure ((names.take k).zip cvs)) : FnIn c (fnAt K a names) (fdAt K a) (bodyAt K a) k := fnIn_of hK h he fun s cvs hl _ => BindsTo.of_eq (hb cvs hl)
theorem len_zero {α : Type} {xs : List α} (h : xs.length = 0) : xs = [] := List.length_eq_zero_iff.mp h
theorem len_succ {α : Type} {xs : List α} {k : Nat} (h : xs.length = k + 1) : ∃ a t, xs = a :: t ∧ t.length = k := by
  cases xs with
  | nil => cases h
  | cons a t => exact ⟨a, t, rfl, by simpa using h⟩
end

set_option maxHeartbeats 4000000 in
open_top hd for PySem.Challenge.rw_fe5003_01

set_option maxRecDepth 100000
theorem part_some {c : Cx} {f : FnC} {x : Expr} {e : E} (h : SndE c f x e) : PartSnd c f (some x) e := h
theorem ns_bool {c : Cx} {P : Params} (hK : c.K = hd.heap_39 P) : nsIn c.K mainGlobals "bool" = some none := by rw [hK]; kernel_rfl
theorem ns_dict {c : Cx} {P : Params} (hK : c.K = hd.heap_39 P) : nsIn c.K mainGlobals "dict" = some none := by rw [hK]; kernel_rfl
theorem ns_len {c : Cx} {P : Params} (hK : c.K = hd.heap_39 P) : nsIn c.K mainGlobals "len" = some none := by rw [hK]; kernel_rfl
theorem ns_list {c : Cx} {P : Params} (hK : c.K = hd.heap_39 P) : nsIn c.K mainGlobals "list" = some none := by rw [hK]; kernel_rfl
theorem ns_max {c : Cx} {P : Params} (hK : c.K = hd.heap_39 P) : nsIn c.K mainGlobals "max" = some none := by rw [hK]; kernel_rfl
theorem ns_range {c : Cx} {P : Params} (hK : c.K = hd.heap_39 P) : nsIn c.K mainGlobals "range" = some none := by rw [hK]; kernel_rfl
theorem ns_at_26 {c : Cx} {P : Params} (hK : c.K = hd.heap_39 P) : nsIn c.K mainGlobals "token_depth" = some (some (.ref 26)) := by rw [hK]; kernel_rfl
theorem keep_26 {c : Cx} {P : Params} (hK : c.K = hd.heap_39 P) : keepIn c.K (.ref 26) = true := by rw [hK]; kernel_rfl
theorem ns_at_77 {c : Cx} {P : Params} (hK : c.K = hd.heap_39 P) : nsIn c.K mainGlobals "_Delimiter" = some (some (.ref 77)) := by rw [hK]; kernel_rfl
theorem keep_77 {c : Cx} {P : Params} (hK : c.K = hd.heap_39 P) : keepIn c.K (.ref 77) = true := by rw [hK]; kernel_rfl
theorem ns_at_133 {c : Cx} {P : Params} (hK : c.K = hd.heap_39 P) : nsIn c.K mainGlobals "_DelimiterIndex" = some (some (.ref 133)) := by rw [hK]; kernel_rfl
theorem keep_133 {c : Cx} {P : Params} (hK : c.K = hd.heap_39 P) : keepIn c.K (.ref 133) = true := by rw [hK]; kernel_rfl
theorem ns_at_144 {c : Cx} {P : Params} (hK : c.K = hd.heap_39 P) : nsIn c.K mainGlobals "_find_emphasis_opener" = some (some (.ref 144)) := by rw [hK]; kernel_rfl
theorem keep_144 {c : Cx} {P : Params} (hK : c.K = hd.heap_39 P) : keepIn c.K (.ref 144) = true := by rw [hK]; kernel_rfl
theorem ns_at_151 {c : Cx} {P : Params} (hK : c.K = hd.heap_39 P) : nsIn c.K mainGlobals "_get_emphasis_use_length" = some (some (.ref 151)) := by rw [hK]; kernel_rfl
theorem keep_151 {c : Cx} {P : Params} (hK : c.K = hd.heap_39 P) : keepIn c.K (.ref 151) = true := by rw [hK]; kernel_rfl
theorem ns_at_158 {c : Cx} {P : Params} (hK : c.K = hd.heap_39 P) : nsIn c.K mainGlobals "_get_emphasis_children" = some (some (.ref 158)) := by rw [hK]; kernel_rfl
theorem keep_158 {c : Cx} {P : Params} (hK : c.K = hd.heap_39 P) : keepIn c.K (.ref 158) = true := by rw [hK]; kernel_rfl
theorem ns_at_165 {c : Cx} {P : Params} (hK : c.K = hd.heap_39 P) : nsIn c.K mainGlobals "_apply_emphasis_match" = some (some (.ref 165)) := by rw [hK]; kernel_rfl
theorem keep_165 {c : Cx} {P : Params} (hK : c.K = hd.heap_39 P) : keepIn c.K (.ref 165) = true := by rw [hK]; kernel_rfl
theorem ns_at_172 {c : Cx} {P : Params} (hK : c.K = hd.heap_39 P) : nsIn c.K mainGlobals "_has_strong_enabled" = some (some (.ref 172)) := by rw [hK]; kernel_rfl
theorem keep_172 {c : Cx} {P : Params} (hK : c.K = hd.heap_39 P) : keepIn c.K (.ref 172) = true := by rw [hK]; kernel_rfl
theorem ns_at_179 {c : Cx} {P : Params} (hK : c.K = hd.heap_39 P) : nsIn c.K mainGlobals "_has_emphasis_enabled" = some (some (.ref 179)) := by rw [hK]; kernel_rfl
theorem keep_179 {c : Cx} {P : Params} (hK : c.K = hd.heap_39 P) : keepIn c.K (.ref 179) = true := by rw [hK]; kernel_rfl
theorem ns_at_186 {c : Cx} {P : Params} (hK : c.K = hd.heap_39 P) : nsIn c.K mainGlobals "_text_raw" = some (some (.ref 186)) := by rw [hK]; kernel_rfl
theorem keep_186 {c : Cx} {P : Params} (hK : c.K = hd.heap_39 P) : keepIn c.K (.ref 186) = true := by rw [hK]; kernel_rfl
theorem ns_at_193 {c : Cx} {P : Params} (hK : c.K = hd.heap_39 P) : nsIn c.K mainGlobals "_has_emphasis_content" = some (some (.ref 193)) := by rw [hK]; kernel_rfl
theorem keep_193 {c : Cx} {P : Params} (hK : c.K = hd.heap_39 P) : keepIn c.K (.ref 193) = true := by rw [hK]; kernel_rfl
theorem ns_at_200 {c : Cx} {P : Params} (hK : c.K = hd.heap_39 P) : nsIn c.K mainGlobals "_can_match_emphasis_delimiters" = some (some (.ref 200)) := by rw [hK]; kernel_rfl
theorem keep_200 {c : Cx} {P : Params} (hK : c.K = hd.heap_39 P) : keepIn c.K (.ref 200) = true := by rw [hK]; kernel_rfl
theorem ns_at_207 {c : Cx} {P : Params} (hK : c.K = hd.heap_39 P) : nsIn c.K mainGlobals "_law_draw" = some (some (.ref 207)) := by rw [hK]; kernel_rfl
theorem keep_207 {c : Cx} {P : Params} (hK : c.K = hd.heap_39 P) : keepIn c.K (.ref 207) = true := by rw [hK]; kernel_rfl
theorem ns_at_214 {c : Cx} {P : Params} (hK : c.K = hd.heap_39 P) : nsIn c.K mainGlobals "_law_word" = some (some (.ref 214)) := by rw [hK]; kernel_rfl
theorem keep_214 {c : Cx} {P : Params} (hK : c.K = hd.heap_39 P) : keepIn c.K (.ref 214) = true := by rw [hK]; kernel_rfl
theorem ns_at_221 {c : Cx} {P : Params} (hK : c.K = hd.heap_39 P) : nsIn c.K mainGlobals "_law_shape" = some (some (.ref 221)) := by rw [hK]; kernel_rfl
theorem keep_221 {c : Cx} {P : Params} (hK : c.K = hd.heap_39 P) : keepIn c.K (.ref 221) = true := by rw [hK]; kernel_rfl
theorem ns_at_228 {c : Cx} {P : Params} (hK : c.K = hd.heap_39 P) : nsIn c.K mainGlobals "_law_deep" = some (some (.ref 228)) := by rw [hK]; kernel_rfl
theorem keep_228 {c : Cx} {P : Params} (hK : c.K = hd.heap_39 P) : keepIn c.K (.ref 228) = true := by rw [hK]; kernel_rfl
theorem ns_at_235 {c : Cx} {P : Params} (hK : c.K = hd.heap_39 P) : nsIn c.K mainGlobals "_law_can" = some (some (.ref 235)) := by rw [hK]; kernel_rfl
theorem keep_235 {c : Cx} {P : Params} (hK : c.K = hd.heap_39 P) : keepIn c.K (.ref 235) = true := by rw [hK]; kernel_rfl
theorem ns_at_242 {c : Cx} {P : Params} (hK : c.K = hd.heap_39 P) : nsIn c.K mainGlobals "_law_find" = some (some (.ref 242)) := by rw [hK]; kernel_rfl
theorem keep_242 {c : Cx} {P : Params} (hK : c.K = hd.heap_39 P) : keepIn c.K (.ref 242) = true := by rw [hK]; kernel_rfl
theorem ns_at_249 {c : Cx} {P : Params} (hK : c.K = hd.heap_39 P) : nsIn c.K mainGlobals "_law_use" = some (some (.ref 249)) := by rw [hK]; kernel_rfl
theorem keep_249 {c : Cx} {P : Params} (hK : c.K = hd.heap_39 P) : keepIn c.K (.ref 249) = true := by rw [hK]; kernel_rfl
theorem ns_at_256 {c : Cx} {P : Params} (hK : c.K = hd.heap_39 P) : nsIn c.K mainGlobals "_law_kids" = some (some (.ref 256)) := by rw [hK]; kernel_rfl
theorem keep_256 {c : Cx} {P : Params} (hK : c.K = hd.heap_39 P) : keepIn c.K (.ref 256) = true := by rw [hK]; kernel_rfl
theorem ns_at_263 {c : Cx} {P : Params} (hK : c.K = hd.heap_39 P) : nsIn c.K mainGlobals "_law_apply" = some (some (.ref 263)) := by rw [hK]; kernel_rfl
theorem keep_263 {c : Cx} {P : Params} (hK : c.K = hd.heap_39 P) : keepIn c.K (.ref 263) = true := by rw [hK]; kernel_rfl
theorem ns_at_270 {c : Cx} {P : Params} (hK : c.K = hd.heap_39 P) : nsIn c.K mainGlobals "_law_same" = some (some (.ref 270)) := by rw [hK]; kernel_rfl
theorem keep_270 {c : Cx} {P : Params} (hK : c.K = hd.heap_39 P) : keepIn c.K (.ref 270) = true := by rw [hK]; kernel_rfl
theorem ns_at_277 {c : Cx} {P : Params} (hK : c.K = hd.heap_39 P) : nsIn c.K mainGlobals "_law_steps" = some (some (.ref 277)) := by rw [hK]; kernel_rfl
theorem keep_277 {c : Cx} {P : Params} (hK : c.K = hd.heap_39 P) : keepIn c.K (.ref 277) = true := by rw [hK]; kernel_rfl
theorem ns_at_284 {c : Cx} {P : Params} (hK : c.K = hd.heap_39 P) : nsIn c.K mainGlobals "_law_at" = some (some (.ref 284)) := by rw [hK]; kernel_rfl
theorem keep_284 {c : Cx} {P : Params} (hK : c.K = hd.heap_39 P) : keepIn c.K (.ref 284) = true := by rw [hK]; kernel_rfl
theorem ns_at_291 {c : Cx} {P : Params} (hK : c.K = hd.heap_39 P) : nsIn c.K mainGlobals "law" = some (some (.ref 291)) := by rw [hK]; kernel_rfl
theorem keep_291 {c : Cx} {P : Params} (hK : c.K = hd.heap_39 P) : keepIn c.K (.ref 291) = true := by rw [hK]; kernel_rfl
theorem keep_102 {c : Cx} {P : Params} (hK : c.K = hd.heap_39 P) : keepIn c.K (.ref 102) = true := by rw [hK]; kernel_rfl
theorem mget_102 {c : Cx} {P : Params} (hK : c.K = hd.heap_39 P) : plainGet c.K 133 "current" = true := by rw [hK]; kernel_rfl
theorem mfind_102 {c : Cx} {P : Params} (hK : c.K = hd.heap_39 P) : findIn c.K (.ref 133) "current" = some (some (.ref 102)) := by rw [hK]; kernel_rfl
theorem mfn_102 {c : Cx} {P : Params} (hK : c.K = hd.heap_39 P) : isFn c.K (.ref 102) = true := by rw [hK]; kernel_rfl
theorem keep_109 {c : Cx} {P : Params} (hK : c.K = hd.heap_39 P) : keepIn c.K (.ref 109) = true := by rw [hK]; kernel_rfl
theorem mget_109 {c : Cx} {P : Params} (hK : c.K = hd.heap_39 P) : plainGet c.K 133 "collapse" = true := by rw [hK]; kernel_rfl
theorem mfind_109 {c : Cx} {P : Params} (hK : c.K = hd.heap_39 P) : findIn c.K (.ref 133) "collapse" = some (some (.ref 109)) := by rw [hK]; kernel_rfl
theorem mfn_109 {c : Cx} {P : Params} (hK : c.K = hd.heap_39 P) : isFn c.K (.ref 109) = true := by rw [hK]; kernel_rfl
theorem keep_116 {c : Cx} {P : Params} (hK : c.K = hd.heap_39 P) : keepIn c.K (.ref 116) = true := by rw [hK]; kernel_rfl
theorem mget_116 {c : Cx} {P : Params} (hK : c.K = hd.heap_39 P) : plainGet c.K 133 "deactivate" = true := by rw [hK]; kernel_rfl
theorem mfind_116 {c : Cx} {P : Params} (hK : c.K = hd.heap_39 P) : findIn c.K (.ref 133) "deactivate" = some (some (.ref 116)) := by rw [hK]; kernel_rfl
theorem mfn_116 {c : Cx} {P : Params} (hK : c.K = hd.heap_39 P) : isFn c.K (.ref 116) = true := by rw [hK]; kernel_rfl
theorem keep_123 {c : Cx} {P : Params} (hK : c.K = hd.heap_39 P) : keepIn c.K (.ref 123) = true := by rw [hK]; kernel_rfl
theorem mget_123 {c : Cx} {P : Params} (hK : c.K = hd.heap_39 P) : plainGet c.K 133 "deactivate_range" = true := by rw [hK]; kernel_rfl
theorem mfind_123 {c : Cx} {P : Params} (hK : c.K = hd.heap_39 P) : findIn c.K (.ref 133) "deactivate_range" = some (some (.ref 123)) := by rw [hK]; kernel_rfl
theorem mfn_123 {c : Cx} {P : Params} (hK : c.K = hd.heap_39 P) : isFn c.K (.ref 123) = true := by rw [hK]; kernel_rfl
theorem keep_130 {c : Cx} {P : Params} (hK : c.K = hd.heap_39 P) : keepIn c.K (.ref 130) = true := by rw [hK]; kernel_rfl
theorem mget_130 {c : Cx} {P : Params} (hK : c.K = hd.heap_39 P) : plainGet c.K 133 "_find" = true := by rw [hK]; kernel_rfl
theorem mfind_130 {c : Cx} {P : Params} (hK : c.K = hd.heap_39 P) : findIn c.K (.ref 133) "_find" = some (some (.ref 130)) := by rw [hK]; kernel_rfl
theorem mfn_130 {c : Cx} {P : Params} (hK : c.K = hd.heap_39 P) : isFn c.K (.ref 130) = true := by rw [hK]; kernel_rfl
def n_initD : List Str := [("self" : Str), ("index" : Str), ("marker" : Str), ("length" : Str), ("can_open" : Str), ("can_close" : Str), ("orig_length" : Str), ("order" : Str)]
def S_initD_27 : Ss := .cons (.setAttr (.var 0) 16 (.var 7)) .nil
def S_initD_26 : Ss := .cons (.setAttr (.var 0) 15 (.var 6)) S_initD_27
def S_initD_25 : Ss := .cons (.setAttr (.var 0) 14 (.var 5)) S_initD_26
def S_initD_24 : Ss := .cons (.setAttr (.var 0) 13 (.var 4)) S_initD_25
def S_initD_23 : Ss := .cons (.setAttr (.var 0) 12 (.var 3)) S_initD_24
def S_initD_22 : Ss := .cons (.setAttr (.var 0) 11 (.var 2)) S_initD_23
def S_initD : Ss := .cons (.setAttr (.var 0) 10 (.var 1)) S_initD_22
theorem ok_initD {P : Params} : (fnAt (hd.heap_39 P) 42 n_initD).Ok := ok_of (by kernel_rfl)
set_option maxHeartbeats 8000000 in
theorem snd_initD {c : Cx} {P : Params} (hK : c.K = hd.heap_39 P) : SndSs c (fnAt (hd.heap_39 P) 42 n_initD) (bodyAt (hd.heap_39 P) 42) S_initD :=
  have hf := ok_initD (P := P)
  (cons_ss (setAttr_k (k := 10) (var_sound (x := 1) hf (by kernel_rfl)) (var_sound (x := 0) hf (by kernel_rfl)) (by kernel_rfl) (fun _ => by kernel_rfl)) (cons_ss (setAttr_k (k := 11) (var_sound (x := 2) hf (by kernel_rfl)) (var_sound (x := 0) hf (by kernel_rfl)) (by kernel_rfl) (fun _ => by kernel_rfl)) (cons_ss (setAttr_k (k := 12) (var_sound (x := 3) hf (by kernel_rfl)) (var_sound (x := 0) hf (by kernel_rfl)) (by kernel_rfl) (fun _ => by kernel_rfl)) (cons_ss (setAttr_k (k := 13) (var_sound (x := 4) hf (by kernel_rfl)) (var_sound (x := 0) hf (by kernel_rfl)) (by kernel_rfl) (fun _ => by kernel_rfl)) (cons_ss (setAttr_k (k := 14) (var_sound (x := 5) hf (by kernel_rfl)) (var_sound (x := 0) hf (by kernel_rfl)) (by kernel_rfl) (fun _ => by kernel_rfl)) (cons_ss (setAttr_k (k := 15) (var_sound (x := 6) hf (by kernel_rfl)) (var_sound (x := 0) hf (by kernel_rfl)) (by kernel_rfl) (fun _ => by kernel_rfl)) (cons_ss (setAttr_k (k := 16) (var_sound (x := 7) hf (by kernel_rfl)) (var_sound (x := 0) hf (by kernel_rfl)) (by kernel_rfl) (fun _ => by kernel_rfl)) nil_ss)))))))
def n_initX : List Str := [("self" : Str), ("delimiters" : Str), ("part_count" : Str)]
def S_initX_60 : Ss := .cons (.setAttr (.var 0) 18 (.rangeList (.bin .Add (.len (.var 1)) (.int 1)))) .nil
def S_initX : Ss := .cons (.setAttr (.var 0) 17 (.bin .Mult (.list (.cons (.int 0) .nil)) (.bin .Add (.var 2) (.int 1)))) S_initX_60
theorem ok_initX {P : Params} : (fnAt (hd.heap_39 P) 95 n_initX).Ok := ok_of (by kernel_rfl)
set_option maxHeartbeats 8000000 in
theorem snd_initX {c : Cx} {P : Params} (hK : c.K = hd.heap_39 P) : SndSs c (fnAt (hd.heap_39 P) 95 n_initX) (bodyAt (hd.heap_39 P) 95) S_initX :=
  have hf := ok_initX (P := P)
  (cons_ss (setAttr_k (k := 17) (bin_e (list_sound (SndEs.cons rfl const_int SndEs.nil) (Nat.le_of_ble_eq_true rfl)) (bin_e (var_sound (x := 2) hf (by kernel_rfl)) const_int)) (var_sound (x := 0) hf (by kernel_rfl)) (by kernel_rfl) (fun _ => by kernel_rfl)) (cons_ss (setAttr_k (k := 18) (rangeList_k (by kernel_rfl) (by kernel_rfl) hf (by kernel_rfl) (ns_range hK) (by kernel_rfl) (ns_list hK) rfl (bin_e (len_e (by kernel_rfl) hf (by kernel_rfl) (ns_len hK) rfl (var_sound (x := 1) hf (by kernel_rfl))) const_int)) (var_sound (x := 0) hf (by kernel_rfl)) (by kernel_rfl) (fun _ => by kernel_rfl)) nil_ss))
theorem in_initX {c : Cx} {P : Params} (hK : c.K = hd.heap_39 P) : FnIn c (fnAt (hd.heap_39 P) 95 n_initX) (fdAt (hd.heap_39 P) 95) (bodyAt (hd.heap_39 P) 95) 3 := by
  refine fnIn_eq hK (by kernel_rfl) (fun L => by kernel_rfl) ?_
  intro cvs h0
  obtain ⟨a0, t0, rfl, h1⟩ := len_succ h0
  obtain ⟨a1, t1, rfl, h2⟩ := len_succ h1
  obtain ⟨a2, t2, rfl, h3⟩ := len_succ h2
  obtain rfl := len_zero h3
  kernel_rfl
def n_current : List Str := [("self" : Str), ("delimiter" : Str), ("index" : Str), ("total" : Str), ("cursor" : Str)]
def S_current_69 : Ss := .cons (.ret (.bin .Sub (.var 2) (.var 3))) .nil
def S_current_68 : Ss := .cons (.augVar .Sub 4 (.bin .BitAnd (.var 4) (.neg (.var 4)))) .nil
def S_current_67 : Ss := .cons (.augVar .Add 3 (.sub (.attr 0 17) (.var 4))) S_current_68
def S_current_66 : Ss := .cons (.while (.var 4) S_current_67) S_current_69
def S_current_65 : Ss := .cons (.assign 4 (.bin .Add (.var 2) (.int 1))) S_current_66
def S_current_64 : Ss := .cons (.assign 3 (.int 0)) S_current_65
def S_current : Ss := .cons (.assign 2 (.attr 1 10)) S_current_64
theorem ok_current {P : Params} : (fnAt (hd.heap_39 P) 102 n_current).Ok := ok_of (by kernel_rfl)
set_option maxHeartbeats 8000000 in
theorem snd_current {c : Cx} {P : Params} (hK : c.K = hd.heap_39 P) : SndSs c (fnAt (hd.heap_39 P) 102 n_current) (bodyAt (hd.heap_39 P) 102) S_current :=
  have hf := ok_current (P := P)
  (cons_ss (assign_s (x := 2) hf (by kernel_rfl) (attr_k (k := 10) (x := 1) hf (by kernel_rfl) (by kernel_rfl)) (fun _ => by kernel_rfl)) (cons_ss (assign_s (x := 3) hf (by kernel_rfl) const_int (fun _ => by kernel_rfl)) (cons_ss (assign_s (x := 4) hf (by kernel_rfl) (bin_e (var_sound (x := 2) hf (by kernel_rfl)) const_int) (fun _ => by kernel_rfl)) (cons_ss (while_s (var_t (x := 4) hf (by kernel_rfl)) (cons_ss (augVar_s (x := 3) hf (by kernel_rfl) (sub_sound (attr_k (k := 17) (x := 0) hf (by kernel_rfl) (by kernel_rfl)) (var_sound (x := 4) hf (by kernel_rfl)) rfl)) (cons_ss (augVar_s (x := 4) hf (by kernel_rfl) (bin_e (var_sound (x := 4) hf (by kernel_rfl)) (neg_e (var_sound (x := 4) hf (by kernel_rfl))))) nil_ss))) (cons_ss (ret_s (bin_e (var_sound (x := 2) hf (by kernel_rfl)) (var_sound (x := 3) hf (by kernel_rfl)))) nil_ss)))))
theorem in_current {c : Cx} {P : Params} (hK : c.K = hd.heap_39 P) : FnIn c (fnAt (hd.heap_39 P) 102 n_current) (fdAt (hd.heap_39 P) 102) (bodyAt (hd.heap_39 P) 102) 2 := by
  refine fnIn_eq hK (by kernel_rfl) (fun L => by kernel_rfl) ?_
  intro cvs h0
  obtain ⟨a0, t0, rfl, h1⟩ := len_succ h0
  obtain ⟨a1, t1, rfl, h2⟩ := len_succ h1
  obtain rfl := len_zero h2
  kernel_rfl
def n_collapse : List Str := [("self" : Str), ("closer" : Str), ("removed" : Str), ("cursor" : Str)]
def S_collapse_77 : Ss := .cons (.augVar .Add 3 (.bin .BitAnd (.var 3) (.neg (.var 3)))) .nil
def S_collapse_76 : Ss := .cons (.augSub .Add (.attr 0 17) 3 (.var 2)) S_collapse_77
def S_collapse_75 : Ss := .cons (.while (.cmp .Lt (.var 3) (.len (.attr 0 17))) S_collapse_76) .nil
def S_collapse_74 : Ss := .cons (.assign 3 (.bin .Add (.attr 1 10) (.int 1))) S_collapse_75
def S_collapse_73 : Ss := .cons (.ret .none) .nil
def S_collapse : Ss := .cons (.ite (.not (.var 2)) S_collapse_73 .nil) S_collapse_74
theorem ok_collapse {P : Params} : (fnAt (hd.heap_39 P) 109 n_collapse).Ok := ok_of (by kernel_rfl)
set_option maxHeartbeats 8000000 in
theorem snd_collapse {c : Cx} {P : Params} (hK : c.K = hd.heap_39 P) : SndSs c (fnAt (hd.heap_39 P) 109 n_collapse) (bodyAt (hd.heap_39 P) 109) S_collapse :=
  have hf := ok_collapse (P := P)
  (cons_ss (if_s (not_t (var_t (x := 2) hf (by kernel_rfl))) (cons_ss ret0_s nil_ss) nil_ss) (cons_ss (assign_s (x := 3) hf (by kernel_rfl) (bin_e (attr_k (k := 10) (x := 1) hf (by kernel_rfl) (by kernel_rfl)) const_int) (fun _ => by kernel_rfl)) (cons_ss (while_s (cmp_t (var_sound (x := 3) hf (by kernel_rfl)) (len_e (by kernel_rfl) hf (by kernel_rfl) (ns_len hK) rfl (attr_k (k := 17) (x := 0) hf (by kernel_rfl) (by kernel_rfl))) rfl) (cons_ss (augSub_s (i := 3) hf (by kernel_rfl) (var_sound (x := 2) hf (by kernel_rfl)) (attr_k (k := 17) (x := 0) hf (by kernel_rfl) (by kernel_rfl))) (cons_ss (augVar_s (x := 3) hf (by kernel_rfl) (bin_e (var_sound (x := 3) hf (by kernel_rfl)) (neg_e (var_sound (x := 3) hf (by kernel_rfl))))) nil_ss))) nil_ss)))
theorem in_collapse {c : Cx} {P : Params} (hK : c.K = hd.heap_39 P) : FnIn c (fnAt (hd.heap_39 P) 109 n_collapse) (fdAt (hd.heap_39 P) 109) (bodyAt (hd.heap_39 P) 109) 3 := by
  refine fnIn_eq hK (by kernel_rfl) (fun L => by kernel_rfl) ?_
  intro cvs h0
  obtain ⟨a0, t0, rfl, h1⟩ := len_succ h0
  obtain ⟨a1, t1, rfl, h2⟩ := len_succ h1
  obtain ⟨a2, t2, rfl, h3⟩ := len_succ h2
  obtain rfl := len_zero h3
  kernel_rfl
def n_deactivate : List Str := [("self" : Str), ("order" : Str)]
def S_deactivate : Ss := .cons (.setSub (.attr 0 18) (.var 1) (.meth 0 133 130 (.cons (.bin .Add (.var 1) (.int 1)) .nil))) .nil
theorem ok_deactivate {P : Params} : (fnAt (hd.heap_39 P) 116 n_deactivate).Ok := ok_of (by kernel_rfl)
set_option maxHeartbeats 8000000 in
theorem snd_deactivate {c : Cx} {P : Params} (hK : c.K = hd.heap_39 P) : SndSs c (fnAt (hd.heap_39 P) 116 n_deactivate) (bodyAt (hd.heap_39 P) 116) S_deactivate :=
  have hf := ok_deactivate (P := P)
  (cons_ss (setSub_s (meth_k (C := 133) (g := 130) (name := "_find") (by kernel_rfl) (x := 0) hf (by kernel_rfl) (Nat.le_of_ble_eq_true rfl) (by kernel_rfl) (mget_130 hK) (mfind_130 hK) (mfn_130 hK) (by decide +kernel) (keep_130 hK) (SndEs.cons rfl (bin_e (var_sound (x := 1) hf (by kernel_rfl)) const_int) SndEs.nil) (List.cons_ne_nil _ _)) (attr_k (k := 18) (x := 0) hf (by kernel_rfl) (by kernel_rfl)) (var_sound (x := 1) hf (by kernel_rfl)) (fun _ => by kernel_rfl)) nil_ss)
theorem in_deactivate {c : Cx} {P : Params} (hK : c.K = hd.heap_39 P) : FnIn c (fnAt (hd.heap_39 P) 116 n_deactivate) (fdAt (hd.heap_39 P) 116) (bodyAt (hd.heap_39 P) 116) 2 := by
  refine fnIn_eq hK (by kernel_rfl) (fun L => by kernel_rfl) ?_
  intro cvs h0
  obtain ⟨a0, t0, rfl, h1⟩ := len_succ h0
  obtain ⟨a1, t1, rfl, h2⟩ := len_succ h1
  obtain rfl := len_zero h2
  kernel_rfl
def n_deactRange : List Str := [("self" : Str), ("delimiters" : Str), ("start" : Str), ("end" : Str), ("order" : Str)]
def S_deactRange_87 : Ss := .cons (.assign 4 (.meth 0 133 130 (.cons (.var 4) .nil))) .nil
def S_deactRange_86 : Ss := .cons (.setSub (.attr 0 18) (.var 4) (.meth 0 133 130 (.cons (.bin .Add (.var 4) (.int 1)) .nil))) S_deactRange_87
def S_deactRange_85 : Ss := .cons (.setAttr (.sub (.var 1) (.var 4)) 12 (.int 0)) S_deactRange_86
def S_deactRange_84 : Ss := .cons (.while (.cmp .Lt (.var 4) (.var 3)) S_deactRange_85) .nil
def S_deactRange : Ss := .cons (.assign 4 (.meth 0 133 130 (.cons (.var 2) .nil))) S_deactRange_84
theorem ok_deactRange {P : Params} : (fnAt (hd.heap_39 P) 123 n_deactRange).Ok := ok_of (by kernel_rfl)
set_option maxHeartbeats 8000000 in
theorem snd_deactRange {c : Cx} {P : Params} (hK : c.K = hd.heap_39 P) : SndSs c (fnAt (hd.heap_39 P) 123 n_deactRange) (bodyAt (hd.heap_39 P) 123) S_deactRange :=
  have hf := ok_deactRange (P := P)
  (cons_ss (assign_s (x := 4) hf (by kernel_rfl) (meth_k (C := 133) (g := 130) (name := "_find") (by kernel_rfl) (x := 0) hf (by kernel_rfl) (Nat.le_of_ble_eq_true rfl) (by kernel_rfl) (mget_130 hK) (mfind_130 hK) (mfn_130 hK) (by decide +kernel) (keep_130 hK) (SndEs.cons rfl (var_sound (x := 2) hf (by kernel_rfl)) SndEs.nil) (List.cons_ne_nil _ _)) (fun _ => by kernel_rfl)) (cons_ss (while_s (cmp_t (var_sound (x := 4) hf (by kernel_rfl)) (var_sound (x := 3) hf (by kernel_rfl)) rfl) (cons_ss (setAttr_k (k := 12) const_int (sub_sound (var_sound (x := 1) hf (by kernel_rfl)) (var_sound (x := 4) hf (by kernel_rfl)) rfl) (by kernel_rfl) (fun _ => by kernel_rfl)) (cons_ss (setSub_s (meth_k (C := 133) (g := 130) (name := "_find") (by kernel_rfl) (x := 0) hf (by kernel_rfl) (Nat.le_of_ble_eq_true rfl) (by kernel_rfl) (mget_130 hK) (mfind_130 hK) (mfn_130 hK) (by decide +kernel) (keep_130 hK) (SndEs.cons rfl (bin_e (var_sound (x := 4) hf (by kernel_rfl)) const_int) SndEs.nil) (List.cons_ne_nil _ _)) (attr_k (k := 18) (x := 0) hf (by kernel_rfl) (by kernel_rfl)) (var_sound (x := 4) hf (by kernel_rfl)) (fun _ => by kernel_rfl)) (cons_ss (assign_s (x := 4) hf (by kernel_rfl) (meth_k (C := 133) (g := 130) (name := "_find") (by kernel_rfl) (x := 0) hf (by kernel_rfl) (Nat.le_of_ble_eq_true rfl) (by kernel_rfl) (mget_130 hK) (mfind_130 hK) (mfn_130 hK) (by decide +kernel) (keep_130 hK) (SndEs.cons rfl (var_sound (x := 4) hf (by kernel_rfl)) SndEs.nil) (List.cons_ne_nil _ _)) (fun _ => by kernel_rfl)) nil_ss)))) nil_ss))
theorem in_deactRange {c : Cx} {P : Params} (hK : c.K = hd.heap_39 P) : FnIn c (fnAt (hd.heap_39 P) 123 n_deactRange) (fdAt (hd.heap_39 P) 123) (bodyAt (hd.heap_39 P) 123) 4 := by
  refine fnIn_eq hK (by kernel_rfl) (fun L => by kernel_rfl) ?_
  intro cvs h0
  obtain ⟨a0, t0, rfl, h1⟩ := len_succ h0
  obtain ⟨a1, t1, rfl, h2⟩ := len_succ h1
  obtain ⟨a2, t2, rfl, h3⟩ := len_succ h2
  obtain ⟨a3, t3, rfl, h4⟩ := len_succ h3
  obtain rfl := len_zero h4
  kernel_rfl
def n_ufind : List Str := [("self" : Str), ("order" : Str), ("root" : Str), ("parent" : Str)]
def S_ufind_97 : Ss := .cons (.ret (.var 2)) .nil
def S_ufind_96 : Ss := .cons (.assign 1 (.var 3)) .nil
def S_ufind_95 : Ss := .cons (.setSub (.attr 0 18) (.var 1) (.var 2)) S_ufind_96
def S_ufind_94 : Ss := .cons (.assign 3 (.sub (.attr 0 18) (.var 1))) S_ufind_95
def S_ufind_93 : Ss := .cons (.while (.cmp .NotEq (.sub (.attr 0 18) (.var 1)) (.var 1)) S_ufind_94) S_ufind_97
def S_ufind_92 : Ss := .cons (.assign 2 (.sub (.attr 0 18) (.var 2))) .nil
def S_ufind_91 : Ss := .cons (.while (.cmp .NotEq (.sub (.attr 0 18) (.var 2)) (.var 2)) S_ufind_92) S_ufind_93
def S_ufind : Ss := .cons (.assign 2 (.var 1)) S_ufind_91
theorem ok_ufind {P : Params} : (fnAt (hd.heap_39 P) 130 n_ufind).Ok := ok_of (by kernel_rfl)
set_option maxHeartbeats 8000000 in
theorem snd_ufind {c : Cx} {P : Params} (hK : c.K = hd.heap_39 P) : SndSs c (fnAt (hd.heap_39 P) 130 n_ufind) (bodyAt (hd.heap_39 P) 130) S_ufind :=
  have hf := ok_ufind (P := P)
  (cons_ss (assign_s (x := 2) hf (by kernel_rfl) (var_sound (x := 1) hf (by kernel_rfl)) (fun _ => by kernel_rfl)) (cons_ss (while_s (cmp_t (sub_sound (attr_k (k := 18) (x := 0) hf (by kernel_rfl) (by kernel_rfl)) (var_sound (x := 2) hf (by kernel_rfl)) rfl) (var_sound (x := 2) hf (by kernel_rfl)) rfl) (cons_ss (assign_s (x := 2) hf (by kernel_rfl) (sub_sound (attr_k (k := 18) (x := 0) hf (by kernel_rfl) (by kernel_rfl)) (var_sound (x := 2) hf (by kernel_rfl)) rfl) (fun _ => by kernel_rfl)) nil_ss)) (cons_ss (while_s (cmp_t (sub_sound (attr_k (k := 18) (x := 0) hf (by kernel_rfl) (by kernel_rfl)) (var_sound (x := 1) hf (by kernel_rfl)) rfl) (var_sound (x := 1) hf (by kernel_rfl)) rfl) (cons_ss (assign_s (x := 3) hf (by kernel_rfl) (sub_sound (attr_k (k := 18) (x := 0) hf (by kernel_rfl) (by kernel_rfl)) (var_sound (x := 1) hf (by kernel_rfl)) rfl) (fun _ => by kernel_rfl)) (cons_ss (setSub_s (var_sound (x := 2) hf (by kernel_rfl)) (attr_k (k := 18) (x := 0) hf (by kernel_rfl) (by kernel_rfl)) (var_sound (x := 1) hf (by kernel_rfl)) (fun _ => by kernel_rfl)) (cons_ss (assign_s (x := 1) hf (by kernel_rfl) (var_sound (x := 3) hf (by kernel_rfl)) (fun _ => by kernel_rfl)) nil_ss)))) (cons_ss (ret_s (var_sound (x := 2) hf (by kernel_rfl))) nil_ss))))
theorem in_ufind {c : Cx} {P : Params} (hK : c.K = hd.heap_39 P) : FnIn c (fnAt (hd.heap_39 P) 130 n_ufind) (fdAt (hd.heap_39 P) 130) (bodyAt (hd.heap_39 P) 130) 2 := by
  refine fnIn_eq hK (by kernel_rfl) (fun L => by kernel_rfl) ?_
  intro cvs h0
  obtain ⟨a0, t0, rfl, h1⟩ := len_succ h0
  obtain ⟨a1, t1, rfl, h2⟩ := len_succ h1
  obtain rfl := len_zero h2
  kernel_rfl
def n_find : List Str := [("delimiters" : Str), ("closer_pos" : Str), ("closer" : Str), ("opener_bottom" : Str), ("opener_pos" : Str), ("opener" : Str)]
def S_find_105 : Ss := .cons (.ret .none) .nil
def S_find_104 : Ss := .cons (.augVar .Sub 4 (.int 1)) .nil
def S_find_103 : Ss := .cons (.ret (.tup (.cons (.var 4) (.cons (.var 5) .nil)))) .nil
def S_find_102 : Ss := .cons (.ite (.and (.cmp .Eq (.attr 5 11) (.attr 2 11)) (.and (.attr 5 13) (.and (.cmp .Gt (.attr 5 12) (.int 0)) (.call 200 (.cons (.var 5) (.cons (.var 2) .nil)))))) S_find_103 .nil) S_find_104
def S_find_101 : Ss := .cons (.assign 5 (.sub (.var 0) (.var 4))) S_find_102
def S_find_100 : Ss := .cons (.while (.cmp .GtE (.var 4) (.var 3)) S_find_101) S_find_105
def S_find : Ss := .cons (.assign 4 (.bin .Sub (.var 1) (.int 1))) S_find_100
theorem ok_find {P : Params} : (fnAt (hd.heap_39 P) 144 n_find).Ok := ok_of (by kernel_rfl)
set_option maxHeartbeats 8000000 in
theorem snd_find {c : Cx} {P : Params} (hK : c.K = hd.heap_39 P) : SndSs c (fnAt (hd.heap_39 P) 144 n_find) (bodyAt (hd.heap_39 P) 144) S_find :=
  have hf := ok_find (P := P)
  (cons_ss (assign_s (x := 4) hf (by kernel_rfl) (bin_e (var_sound (x := 1) hf (by kernel_rfl)) const_int) (fun _ => by kernel_rfl)) (cons_ss (while_s (cmp_t (var_sound (x := 4) hf (by kernel_rfl)) (var_sound (x := 3) hf (by kernel_rfl)) rfl) (cons_ss (assign_s (x := 5) hf (by kernel_rfl) (sub_sound (var_sound (x := 0) hf (by kernel_rfl)) (var_sound (x := 4) hf (by kernel_rfl)) rfl) (fun _ => by kernel_rfl)) (cons_ss (if_s (and_t (cmp_t (attr_k (k := 11) (x := 5) hf (by kernel_rfl) (by kernel_rfl)) (attr_k (k := 11) (x := 2) hf (by kernel_rfl) (by kernel_rfl)) rfl) (and_t (attr_kt (k := 13) (x := 5) hf (by kernel_rfl) (by kernel_rfl)) (and_t (cmp_t (attr_k (k := 12) (x := 5) hf (by kernel_rfl) (by kernel_rfl)) const_int rfl) (and1_t (call_t (call_k (a := 200) (z := "_can_match_emphasis_delimiters") (by kernel_rfl) hf (by kernel_rfl) (by kernel_rfl) (ns_at_200 hK) (keep_200 hK) (SndEs.cons rfl (var_sound (x := 5) hf (by kernel_rfl)) (SndEs.cons rfl (var_sound (x := 2) hf (by kernel_rfl)) SndEs.nil)) (List.cons_ne_nil _ _))))))) (cons_ss (ret_s (tup_sound (SndEs.cons rfl (var_sound (x := 4) hf (by kernel_rfl)) (SndEs.cons rfl (var_sound (x := 5) hf (by kernel_rfl)) SndEs.nil)) (Nat.le_of_ble_eq_true rfl))) nil_ss) nil_ss) (cons_ss (augVar_s (x := 4) hf (by kernel_rfl) const_int) nil_ss)))) (cons_ss (ret_s const_none) nil_ss)))
theorem in_find {c : Cx} {P : Params} (hK : c.K = hd.heap_39 P) : FnIn c (fnAt (hd.heap_39 P) 144 n_find) (fdAt (hd.heap_39 P) 144) (bodyAt (hd.heap_39 P) 144) 4 := by
  refine fnIn_eq hK (by kernel_rfl) (fun L => by kernel_rfl) ?_
  intro cvs h0
  obtain ⟨a0, t0, rfl, h1⟩ := len_succ h0
  obtain ⟨a1, t1, rfl, h2⟩ := len_succ h1
  obtain ⟨a2, t2, rfl, h3⟩ := len_succ h2
  obtain ⟨a3, t3, rfl, h4⟩ := len_succ h3
  obtain rfl := len_zero h4
  kernel_rfl
def n_useLen : List Str := [("parts" : Str), ("opener" : Str), ("closer" : Str), ("opener_index" : Str), ("closer_index" : Str), ("use_length" : Str)]
def S_useLen_112 : Ss := .cons (.ret (.var 5)) .nil
def S_useLen_111 : Ss := .cons (.ret .none) .nil
def S_useLen_110 : Ss := .cons (.ite (.and (.cmp .Eq (.var 5) (.int 1)) (.not (.call 179 (.cons (.var 0) (.cons (.var 3) (.cons (.var 4) .nil)))))) S_useLen_111 .nil) S_useLen_112
def S_useLen_109 : Ss := .cons (.assign 5 (.int 1)) .nil
def S_useLen_108 : Ss := .cons (.ite (.and (.cmp .Eq (.var 5) (.int 2)) (.not (.call 172 (.cons (.var 0) (.cons (.var 3) (.cons (.var 4) .nil)))))) S_useLen_109 .nil) S_useLen_110
def S_useLen : Ss := .cons (.assign 5 (.ite (.and (.cmp .GtE (.attr 1 12) (.int 2)) (.cmp .GtE (.attr 2 12) (.int 2))) (.int 2) (.int 1))) S_useLen_108
theorem ok_useLen {P : Params} : (fnAt (hd.heap_39 P) 151 n_useLen).Ok := ok_of (by kernel_rfl)
set_option maxHeartbeats 8000000 in
theorem snd_useLen {c : Cx} {P : Params} (hK : c.K = hd.heap_39 P) : SndSs c (fnAt (hd.heap_39 P) 151 n_useLen) (bodyAt (hd.heap_39 P) 151) S_useLen :=
  have hf := ok_useLen (P := P)
  (cons_ss (assign_s (x := 5) hf (by kernel_rfl) (ite_e (and_t (cmp_t (attr_k (k := 12) (x := 1) hf (by kernel_rfl) (by kernel_rfl)) const_int rfl) (and1_t (cmp_t (attr_k (k := 12) (x := 2) hf (by kernel_rfl) (by kernel_rfl)) const_int rfl))) const_int const_int) (fun _ => by kernel_rfl)) (cons_ss (if_s (and_t (cmp_t (var_sound (x := 5) hf (by kernel_rfl)) const_int rfl) (and1_t (not_t (call_t (call_k (a := 172) (z := "_has_strong_enabled") (by kernel_rfl) hf (by kernel_rfl) (by kernel_rfl) (ns_at_172 hK) (keep_172 hK) (SndEs.cons rfl (var_sound (x := 0) hf (by kernel_rfl)) (SndEs.cons rfl (var_sound (x := 3) hf (by kernel_rfl)) (SndEs.cons rfl (var_sound (x := 4) hf (by kernel_rfl)) SndEs.nil))) (List.cons_ne_nil _ _)))))) (cons_ss (assign_s (x := 5) hf (by kernel_rfl) const_int (fun _ => by kernel_rfl)) nil_ss) nil_ss) (cons_ss (if_s (and_t (cmp_t (var_sound (x := 5) hf (by kernel_rfl)) const_int rfl) (and1_t (not_t (call_t (call_k (a := 179) (z := "_has_emphasis_enabled") (by kernel_rfl) hf (by kernel_rfl) (by kernel_rfl) (ns_at_179 hK) (keep_179 hK) (SndEs.cons rfl (var_sound (x := 0) hf (by kernel_rfl)) (SndEs.cons rfl (var_sound (x := 3) hf (by kernel_rfl)) (SndEs.cons rfl (var_sound (x := 4) hf (by kernel_rfl)) SndEs.nil))) (List.cons_ne_nil _ _)))))) (cons_ss (ret_s const_none) nil_ss) nil_ss) (cons_ss (ret_s (var_sound (x := 5) hf (by kernel_rfl))) nil_ss))))
theorem in_useLen {c : Cx} {P : Params} (hK : c.K = hd.heap_39 P) : FnIn c (fnAt (hd.heap_39 P) 151 n_useLen) (fdAt (hd.heap_39 P) 151) (bodyAt (hd.heap_39 P) 151) 5 := by
  refine fnIn_eq hK (by kernel_rfl) (fun L => by kernel_rfl) ?_
  intro cvs h0
  obtain ⟨a0, t0, rfl, h1⟩ := len_succ h0
  obtain ⟨a1, t1, rfl, h2⟩ := len_succ h1
  obtain ⟨a2, t2, rfl, h3⟩ := len_succ h2
  obtain ⟨a3, t3, rfl, h4⟩ := len_succ h3
  obtain ⟨a4, t4, rfl, h5⟩ := len_succ h4
  obtain rfl := len_zero h5
  kernel_rfl
def n_children : List Str := [("parts" : Str), ("opener_index" : Str), ("closer_index" : Str), ("max_depth" : Str), ("opener_text" : Str), ("closer_text" : Str), ("children" : Str)]
def S_children_123 : Ss := .cons (.ret (.var 6)) .nil
def S_children_122 : Ss := .cons (.ret .none) .nil
def S_children_121 : Ss := .cons (.ite (.and (.cmp .Gt (.var 3) (.int 0)) (.cmp .GtE (.call 26 (.cons (.var 6) .nil)) (.var 3))) S_children_122 .nil) S_children_123
def S_children_120 : Ss := .cons (.assign 6 (.slice (.var 0) (.bin .Add (.var 1) (.int 1)) (.var 2))) S_children_121
def S_children_119 : Ss := .cons (.ret .none) .nil
def S_children_118 : Ss := .cons (.ite (.or (.cmp .NotEq (.item (.var 4) 0) (.str "text")) (.cmp .NotEq (.item (.var 5) 0) (.str "text"))) S_children_119 .nil) S_children_120
def S_children_117 : Ss := .cons (.assign 5 (.sub (.var 0) (.var 2))) S_children_118
def S_children_116 : Ss := .cons (.assign 4 (.sub (.var 0) (.var 1))) S_children_117
def S_children_115 : Ss := .cons (.ret .none) .nil
def S_children : Ss := .cons (.ite (.not (.call 193 (.cons (.var 0) (.cons (.bin .Add (.var 1) (.int 1)) (.cons (.var 2) .nil))))) S_children_115 .nil) S_children_116
theorem ok_children {P : Params} : (fnAt (hd.heap_39 P) 158 n_children).Ok := ok_of (by kernel_rfl)
set_option maxHeartbeats 8000000 in
theorem snd_children {c : Cx} {P : Params} (hK : c.K = hd.heap_39 P) : SndSs c (fnAt (hd.heap_39 P) 158 n_children) (bodyAt (hd.heap_39 P) 158) S_children :=
  have hf := ok_children (P := P)
  (cons_ss (if_s (not_t (call_t (call_k (a := 193) (z := "_has_emphasis_content") (by kernel_rfl) hf (by kernel_rfl) (by kernel_rfl) (ns_at_193 hK) (keep_193 hK) (SndEs.cons rfl (var_sound (x := 0) hf (by kernel_rfl)) (SndEs.cons rfl (bin_e (var_sound (x := 1) hf (by kernel_rfl)) const_int) (SndEs.cons rfl (var_sound (x := 2) hf (by kernel_rfl)) SndEs.nil))) (List.cons_ne_nil _ _)))) (cons_ss (ret_s const_none) nil_ss) nil_ss) (cons_ss (assign_s (x := 4) hf (by kernel_rfl) (sub_sound (var_sound (x := 0) hf (by kernel_rfl)) (var_sound (x := 1) hf (by kernel_rfl)) rfl) (fun _ => by kernel_rfl)) (cons_ss (assign_s (x := 5) hf (by kernel_rfl) (sub_sound (var_sound (x := 0) hf (by kernel_rfl)) (var_sound (x := 2) hf (by kernel_rfl)) rfl) (fun _ => by kernel_rfl)) (cons_ss (if_s (or_t (cmp_t (item_k (k := 0) (var_sound (x := 4) hf (by kernel_rfl)) (by kernel_rfl)) (str_k (by kernel_rfl)) rfl) (or1_t (cmp_t (item_k (k := 0) (var_sound (x := 5) hf (by kernel_rfl)) (by kernel_rfl)) (str_k (by kernel_rfl)) rfl))) (cons_ss (ret_s const_none) nil_ss) nil_ss) (cons_ss (assign_s (x := 6) hf (by kernel_rfl) (slc_sound (var_sound (x := 0) hf (by kernel_rfl)) (part_some (bin_e (var_sound (x := 1) hf (by kernel_rfl)) const_int)) (part_some (var_sound (x := 2) hf (by kernel_rfl)))) (fun _ => by kernel_rfl)) (cons_ss (if_s (and_t (cmp_t (var_sound (x := 3) hf (by kernel_rfl)) const_int rfl) (and1_t (cmp_t (call_k (a := 26) (z := "token_depth") (by kernel_rfl) hf (by kernel_rfl) (by kernel_rfl) (ns_at_26 hK) (keep_26 hK) (SndEs.cons rfl (var_sound (x := 6) hf (by kernel_rfl)) SndEs.nil) (List.cons_ne_nil _ _)) (var_sound (x := 3) hf (by kernel_rfl)) rfl))) (cons_ss (ret_s const_none) nil_ss) nil_ss) (cons_ss (ret_s (var_sound (x := 6) hf (by kernel_rfl))) nil_ss)))))))
theorem in_children {c : Cx} {P : Params} (hK : c.K = hd.heap_39 P) : FnIn c (fnAt (hd.heap_39 P) 158 n_children) (fdAt (hd.heap_39 P) 158) (bodyAt (hd.heap_39 P) 158) 4 := by
  refine fnIn_eq hK (by kernel_rfl) (fun L => by kernel_rfl) ?_
  intro cvs h0
  obtain ⟨a0, t0, rfl, h1⟩ := len_succ h0
  obtain ⟨a1, t1, rfl, h2⟩ := len_succ h1
  obtain ⟨a2, t2, rfl, h3⟩ := len_succ h2
  obtain ⟨a3, t3, rfl, h4⟩ := len_succ h3
  obtain rfl := len_zero h4
  kernel_rfl
def n_apply : List Str := [("parts" : Str), ("delimiters" : Str), ("index_map" : Str), ("opener" : Str), ("closer" : Str), ("opener_pos" : Str), ("closer_pos" : Str), ("opener_index" : Str), ("closer_index" : Str), ("use_length" : Str), ("children" : Str), ("opener_text" : Str), ("closer_text" : Str), ("node_type" : Str), ("removed" : Str)]
def S_apply_142 : Ss := .cons (.expr (.meth 2 133 116 (.cons (.attr 4 16) .nil))) .nil
def S_apply_141 : Ss := .cons (.setAttr (.var 4) 14 (.bool false)) S_apply_142
def S_apply_140 : Ss := .cons (.ite (.cmp .Eq (.attr 4 12) (.int 0)) S_apply_141 .nil) .nil
def S_apply_139 : Ss := .cons (.expr (.meth 2 133 116 (.cons (.attr 3 16) .nil))) .nil
def S_apply_138 : Ss := .cons (.setAttr (.var 3) 13 (.bool false)) S_apply_139
def S_apply_137 : Ss := .cons (.ite (.cmp .Eq (.attr 3 12) (.int 0)) S_apply_138 .nil) S_apply_140
def S_apply_136 : Ss := .cons (.augAttr .Sub 4 12 (.var 9)) S_apply_137
def S_apply_135 : Ss := .cons (.augAttr .Sub 3 12 (.var 9)) S_apply_136
def S_apply_134 : Ss := .cons (.expr (.meth 2 133 109 (.cons (.var 4) (.cons (.var 14) .nil)))) .nil
def S_apply_133 : Ss := .cons (.expr (.meth 2 133 123 (.cons (.var 1) (.cons (.bin .Add (.var 5) (.int 1)) (.cons (.var 6) .nil))))) S_apply_134
def S_apply_132 : Ss := .cons (.ite (.var 14) S_apply_133 .nil) S_apply_135
def S_apply_131 : Ss := .cons (.assign 14 (.bin .Sub (.bin .Sub (.var 8) (.var 7)) (.int 2))) S_apply_132
def S_apply_130 : Ss := .cons (.setSlice (.var 0) (.bin .Add (.var 7) (.int 1)) (.var 8) (.list (.cons (.dict [0, 2] (.cons (.var 13) (.cons (.var 10) .nil))) .nil))) S_apply_131
def S_apply_129 : Ss := .cons (.assign 13 (.ite (.cmp .Eq (.var 9) (.int 2)) (.str "strong") (.str "emphasis"))) S_apply_130
def S_apply_128 : Ss := .cons (.setItem (.var 12) 1 (.slice (.item (.var 12) 1) (.var 9) .none)) S_apply_129
def S_apply_127 : Ss := .cons (.setItem (.var 11) 1 (.slice (.item (.var 11) 1) .none (.neg (.var 9)))) S_apply_128
def S_apply_126 : Ss := .cons (.assign 12 (.sub (.var 0) (.var 8))) S_apply_127
def S_apply : Ss := .cons (.assign 11 (.sub (.var 0) (.var 7))) S_apply_126
theorem ok_apply {P : Params} : (fnAt (hd.heap_39 P) 165 n_apply).Ok := ok_of (by kernel_rfl)
set_option maxHeartbeats 8000000 in
theorem snd_apply {c : Cx} {P : Params} (hK : c.K = hd.heap_39 P) : SndSs c (fnAt (hd.heap_39 P) 165 n_apply) (bodyAt (hd.heap_39 P) 165) S_apply :=
  have hf := ok_apply (P := P)
  (cons_ss (assign_s (x := 11) hf (by kernel_rfl) (sub_sound (var_sound (x := 0) hf (by kernel_rfl)) (var_sound (x := 7) hf (by kernel_rfl)) rfl) (fun _ => by kernel_rfl)) (cons_ss (assign_s (x := 12) hf (by kernel_rfl) (sub_sound (var_sound (x := 0) hf (by kernel_rfl)) (var_sound (x := 8) hf (by kernel_rfl)) rfl) (fun _ => by kernel_rfl)) (cons_ss (setItem_k (k := 1) (slc_sound (item_k (k := 1) (var_sound (x := 11) hf (by kernel_rfl)) (by kernel_rfl)) rfl (part_some (neg_e (var_sound (x := 9) hf (by kernel_rfl))))) (var_sound (x := 11) hf (by kernel_rfl)) (by kernel_rfl) (fun _ => by kernel_rfl)) (cons_ss (setItem_k (k := 1) (slc_sound (item_k (k := 1) (var_sound (x := 12) hf (by kernel_rfl)) (by kernel_rfl)) (part_some (var_sound (x := 9) hf (by kernel_rfl))) rfl) (var_sound (x := 12) hf (by kernel_rfl)) (by kernel_rfl) (fun _ => by kernel_rfl)) (cons_ss (assign_s (x := 13) hf (by kernel_rfl) (ite_e (cmp_t (var_sound (x := 9) hf (by kernel_rfl)) const_int rfl) (str_k (by kernel_rfl)) (str_k (by kernel_rfl))) (fun _ => by kernel_rfl)) (cons_ss (setSlice_s (list_sound (SndEs.cons rfl (dict_sound (KeysAre.k (k := 0) (by decide) (by kernel_rfl) (KeysAre.k (k := 2) (by decide) (by kernel_rfl) KeysAre.nil)) (SndEs.cons rfl (var_sound (x := 13) hf (by kernel_rfl)) (SndEs.cons rfl (var_sound (x := 10) hf (by kernel_rfl)) SndEs.nil)) rfl (List.cons_ne_nil _ _) (Nat.le_of_ble_eq_true rfl) (by decide)) SndEs.nil) (Nat.le_of_ble_eq_true rfl)) (var_sound (x := 0) hf (by kernel_rfl)) (bin_e (var_sound (x := 7) hf (by kernel_rfl)) const_int) (var_sound (x := 8) hf (by kernel_rfl)) (fun _ => by kernel_rfl)) (cons_ss (assign_s (x := 14) hf (by kernel_rfl) (bin_e (bin_e (var_sound (x := 8) hf (by kernel_rfl)) (var_sound (x := 7) hf (by kernel_rfl))) const_int) (fun _ => by kernel_rfl)) (cons_ss (if_s (var_t (x := 14) hf (by kernel_rfl)) (cons_ss (expr_s (meth_k (C := 133) (g := 123) (name := "deactivate_range") (by kernel_rfl) (x := 2) hf (by kernel_rfl) (Nat.le_of_ble_eq_true rfl) (by kernel_rfl) (mget_123 hK) (mfind_123 hK) (mfn_123 hK) (by decide +kernel) (keep_123 hK) (SndEs.cons rfl (var_sound (x := 1) hf (by kernel_rfl)) (SndEs.cons rfl (bin_e (var_sound (x := 5) hf (by kernel_rfl)) const_int) (SndEs.cons rfl (var_sound (x := 6) hf (by kernel_rfl)) SndEs.nil))) (List.cons_ne_nil _ _)) (fun _ => by kernel_rfl) (fun _ => by kernel_rfl)) (cons_ss (expr_s (meth_k (C := 133) (g := 109) (name := "collapse") (by kernel_rfl) (x := 2) hf (by kernel_rfl) (Nat.le_of_ble_eq_true rfl) (by kernel_rfl) (mget_109 hK) (mfind_109 hK) (mfn_109 hK) (by decide +kernel) (keep_109 hK) (SndEs.cons rfl (var_sound (x := 4) hf (by kernel_rfl)) (SndEs.cons rfl (var_sound (x := 14) hf (by kernel_rfl)) SndEs.nil)) (List.cons_ne_nil _ _)) (fun _ => by kernel_rfl) (fun _ => by kernel_rfl)) nil_ss)) nil_ss) (cons_ss (augAttr_k (k := 12) (x := 3) hf (by kernel_rfl) (var_sound (x := 9) hf (by kernel_rfl)) (by kernel_rfl)) (cons_ss (augAttr_k (k := 12) (x := 4) hf (by kernel_rfl) (var_sound (x := 9) hf (by kernel_rfl)) (by kernel_rfl)) (cons_ss (if_s (cmp_t (attr_k (k := 12) (x := 3) hf (by kernel_rfl) (by kernel_rfl)) const_int rfl) (cons_ss (setAttr_k (k := 13) const_bool (var_sound (x := 3) hf (by kernel_rfl)) (by kernel_rfl) (fun _ => by kernel_rfl)) (cons_ss (expr_s (meth_k (C := 133) (g := 116) (name := "deactivate") (by kernel_rfl) (x := 2) hf (by kernel_rfl) (Nat.le_of_ble_eq_true rfl) (by kernel_rfl) (mget_116 hK) (mfind_116 hK) (mfn_116 hK) (by decide +kernel) (keep_116 hK) (SndEs.cons rfl (attr_k (k := 16) (x := 3) hf (by kernel_rfl) (by kernel_rfl)) SndEs.nil) (List.cons_ne_nil _ _)) (fun _ => by kernel_rfl) (fun _ => by kernel_rfl)) nil_ss)) nil_ss) (cons_ss (if_s (cmp_t (attr_k (k := 12) (x := 4) hf (by kernel_rfl) (by kernel_rfl)) const_int rfl) (cons_ss (setAttr_k (k := 14) const_bool (var_sound (x := 4) hf (by kernel_rfl)) (by kernel_rfl) (fun _ => by kernel_rfl)) (cons_ss (expr_s (meth_k (C := 133) (g := 116) (name := "deactivate") (by kernel_rfl) (x := 2) hf (by kernel_rfl) (Nat.le_of_ble_eq_true rfl) (by kernel_rfl) (mget_116 hK) (mfind_116 hK) (mfn_116 hK) (by decide +kernel) (keep_116 hK) (SndEs.cons rfl (attr_k (k := 16) (x := 4) hf (by kernel_rfl) (by kernel_rfl)) SndEs.nil) (List.cons_ne_nil _ _)) (fun _ => by kernel_rfl) (fun _ => by kernel_rfl)) nil_ss)) nil_ss) nil_ss))))))))))))
theorem in_apply {c : Cx} {P : Params} (hK : c.K = hd.heap_39 P) : FnIn c (fnAt (hd.heap_39 P) 165 n_apply) (fdAt (hd.heap_39 P) 165) (bodyAt (hd.heap_39 P) 165) 11 := by
  refine fnIn_eq hK (by kernel_rfl) (fun L => by kernel_rfl) ?_
  intro cvs h0
  obtain ⟨a0, t0, rfl, h1⟩ := len_succ h0
  obtain ⟨a1, t1, rfl, h2⟩ := len_succ h1
  obtain ⟨a2, t2, rfl, h3⟩ := len_succ h2
  obtain ⟨a3, t3, rfl, h4⟩ := len_succ h3
  obtain ⟨a4, t4, rfl, h5⟩ := len_succ h4
  obtain ⟨a5, t5, rfl, h6⟩ := len_succ h5
  obtain ⟨a6, t6, rfl, h7⟩ := len_succ h6
  obtain ⟨a7, t7, rfl, h8⟩ := len_succ h7
  obtain ⟨a8, t8, rfl, h9⟩ := len_succ h8
  obtain ⟨a9, t9, rfl, h10⟩ := len_succ h9
  obtain ⟨a10, t10, rfl, h11⟩ := len_succ h10
  obtain rfl := len_zero h11
  kernel_rfl
def n_hasStrong : List Str := [("parts" : Str), ("opener_index" : Str), ("closer_index" : Str)]
def S_hasStrong : Ss := .cons (.ret (.and (.cmp .GtE (.len (.call 186 (.cons (.sub (.var 0) (.var 1)) .nil))) (.int 2)) (.cmp .GtE (.len (.call 186 (.cons (.sub (.var 0) (.var 2)) .nil))) (.int 2)))) .nil
theorem ok_hasStrong {P : Params} : (fnAt (hd.heap_39 P) 172 n_hasStrong).Ok := ok_of (by kernel_rfl)
set_option maxHeartbeats 8000000 in
theorem snd_hasStrong {c : Cx} {P : Params} (hK : c.K = hd.heap_39 P) : SndSs c (fnAt (hd.heap_39 P) 172 n_hasStrong) (bodyAt (hd.heap_39 P) 172) S_hasStrong :=
  have hf := ok_hasStrong (P := P)
  (cons_ss (ret_s (and_e (cmp_e (len_e (by kernel_rfl) hf (by kernel_rfl) (ns_len hK) rfl (call_k (a := 186) (z := "_text_raw") (by kernel_rfl) hf (by kernel_rfl) (by kernel_rfl) (ns_at_186 hK) (keep_186 hK) (SndEs.cons rfl (sub_sound (var_sound (x := 0) hf (by kernel_rfl)) (var_sound (x := 1) hf (by kernel_rfl)) rfl) SndEs.nil) (List.cons_ne_nil _ _))) const_int rfl) (one_e (cmp_e (len_e (by kernel_rfl) hf (by kernel_rfl) (ns_len hK) rfl (call_k (a := 186) (z := "_text_raw") (by kernel_rfl) hf (by kernel_rfl) (by kernel_rfl) (ns_at_186 hK) (keep_186 hK) (SndEs.cons rfl (sub_sound (var_sound (x := 0) hf (by kernel_rfl)) (var_sound (x := 2) hf (by kernel_rfl)) rfl) SndEs.nil) (List.cons_ne_nil _ _))) const_int rfl)))) nil_ss)
theorem in_hasStrong {c : Cx} {P : Params} (hK : c.K = hd.heap_39 P) : FnIn c (fnAt (hd.heap_39 P) 172 n_hasStrong) (fdAt (hd.heap_39 P) 172) (bodyAt (hd.heap_39 P) 172) 3 := by
  refine fnIn_eq hK (by kernel_rfl) (fun L => by kernel_rfl) ?_
  intro cvs h0
  obtain ⟨a0, t0, rfl, h1⟩ := len_succ h0
  obtain ⟨a1, t1, rfl, h2⟩ := len_succ h1
  obtain ⟨a2, t2, rfl, h3⟩ := len_succ h2
  obtain rfl := len_zero h3
  kernel_rfl
def n_hasEmph : List Str := [("parts" : Str), ("opener_index" : Str), ("closer_index" : Str)]
def S_hasEmph : Ss := .cons (.ret (.boolOf (.and (.call 186 (.cons (.sub (.var 0) (.var 1)) .nil)) (.call 186 (.cons (.sub (.var 0) (.var 2)) .nil))))) .nil
theorem ok_hasEmph {P : Params} : (fnAt (hd.heap_39 P) 179 n_hasEmph).Ok := ok_of (by kernel_rfl)
set_option maxHeartbeats 8000000 in
theorem snd_hasEmph {c : Cx} {P : Params} (hK : c.K = hd.heap_39 P) : SndSs c (fnAt (hd.heap_39 P) 179 n_hasEmph) (bodyAt (hd.heap_39 P) 179) S_hasEmph :=
  have hf := ok_hasEmph (P := P)
  (cons_ss (ret_s (bool_e (by kernel_rfl) hf (by kernel_rfl) (ns_bool hK) rfl (and_e (call_k (a := 186) (z := "_text_raw") (by kernel_rfl) hf (by kernel_rfl) (by kernel_rfl) (ns_at_186 hK) (keep_186 hK) (SndEs.cons rfl (sub_sound (var_sound (x := 0) hf (by kernel_rfl)) (var_sound (x := 1) hf (by kernel_rfl)) rfl) SndEs.nil) (List.cons_ne_nil _ _)) (one_e (call_k (a := 186) (z := "_text_raw") (by kernel_rfl) hf (by kernel_rfl) (by kernel_rfl) (ns_at_186 hK) (keep_186 hK) (SndEs.cons rfl (sub_sound (var_sound (x := 0) hf (by kernel_rfl)) (var_sound (x := 2) hf (by kernel_rfl)) rfl) SndEs.nil) (List.cons_ne_nil _ _)))))) nil_ss)
theorem in_hasEmph {c : Cx} {P : Params} (hK : c.K = hd.heap_39 P) : FnIn c (fnAt (hd.heap_39 P) 179 n_hasEmph) (fdAt (hd.heap_39 P) 179) (bodyAt (hd.heap_39 P) 179) 3 := by
  refine fnIn_eq hK (by kernel_rfl) (fun L => by kernel_rfl) ?_
  intro cvs h0
  obtain ⟨a0, t0, rfl, h1⟩ := len_succ h0
  obtain ⟨a1, t1, rfl, h2⟩ := len_succ h1
  obtain ⟨a2, t2, rfl, h3⟩ := len_succ h2
  obtain rfl := len_zero h3
  kernel_rfl
def n_textRaw : List Str := [("token" : Str)]
def S_textRaw_150 : Ss := .cons (.ret (.str "")) .nil
def S_textRaw_149 : Ss := .cons (.ret (.item (.var 0) 1)) .nil
def S_textRaw : Ss := .cons (.ite (.cmp .Eq (.item (.var 0) 0) (.str "text")) S_textRaw_149 .nil) S_textRaw_150
theorem ok_textRaw {P : Params} : (fnAt (hd.heap_39 P) 186 n_textRaw).Ok := ok_of (by kernel_rfl)
set_option maxHeartbeats 8000000 in
theorem snd_textRaw {c : Cx} {P : Params} (hK : c.K = hd.heap_39 P) : SndSs c (fnAt (hd.heap_39 P) 186 n_textRaw) (bodyAt (hd.heap_39 P) 186) S_textRaw :=
  have hf := ok_textRaw (P := P)
  (cons_ss (if_s (cmp_t (item_k (k := 0) (var_sound (x := 0) hf (by kernel_rfl)) (by kernel_rfl)) (str_k (by kernel_rfl)) rfl) (cons_ss (ret_s (item_k (k := 1) (var_sound (x := 0) hf (by kernel_rfl)) (by kernel_rfl))) nil_ss) nil_ss) (cons_ss (ret_s (str_k (by kernel_rfl))) nil_ss))
theorem in_textRaw {c : Cx} {P : Params} (hK : c.K = hd.heap_39 P) : FnIn c (fnAt (hd.heap_39 P) 186 n_textRaw) (fdAt (hd.heap_39 P) 186) (bodyAt (hd.heap_39 P) 186) 1 := by
  refine fnIn_eq hK (by kernel_rfl) (fun L => by kernel_rfl) ?_
  intro cvs h0
  obtain ⟨a0, t0, rfl, h1⟩ := len_succ h0
  obtain rfl := len_zero h1
  kernel_rfl
def n_hasContent : List Str := [("parts" : Str), ("start" : Str), ("end" : Str), ("part" : Str)]
def S_hasContent_155 : Ss := .cons (.ret (.bool false)) .nil
def S_hasContent_154 : Ss := .cons (.ret (.bool true)) .nil
def S_hasContent_153 : Ss := .cons (.ite (.or (.cmp .NotEq (.item (.var 3) 0) (.str "text")) (.cmp .NotEq (.item (.var 3) 1) (.str ""))) S_hasContent_154 .nil) .nil
def S_hasContent : Ss := .cons (.forL 3 (.slice (.var 0) (.var 1) (.var 2)) S_hasContent_153) S_hasContent_155
theorem ok_hasContent {P : Params} : (fnAt (hd.heap_39 P) 193 n_hasContent).Ok := ok_of (by kernel_rfl)
set_option maxHeartbeats 8000000 in
theorem snd_hasContent {c : Cx} {P : Params} (hK : c.K = hd.heap_39 P) : SndSs c (fnAt (hd.heap_39 P) 193 n_hasContent) (bodyAt (hd.heap_39 P) 193) S_hasContent :=
  have hf := ok_hasContent (P := P)
  (cons_ss (forL_s (x := 3) hf (by kernel_rfl) (slc_sound (var_sound (x := 0) hf (by kernel_rfl)) (part_some (var_sound (x := 1) hf (by kernel_rfl))) (part_some (var_sound (x := 2) hf (by kernel_rfl)))) (cons_ss (if_s (or_t (cmp_t (item_k (k := 0) (var_sound (x := 3) hf (by kernel_rfl)) (by kernel_rfl)) (str_k (by kernel_rfl)) rfl) (or1_t (cmp_t (item_k (k := 1) (var_sound (x := 3) hf (by kernel_rfl)) (by kernel_rfl)) (str_k (by kernel_rfl)) rfl))) (cons_ss (ret_s const_bool) nil_ss) nil_ss) nil_ss) (fun _ _ => by kernel_rfl)) (cons_ss (ret_s const_bool) nil_ss))
theorem in_hasContent {c : Cx} {P : Params} (hK : c.K = hd.heap_39 P) : FnIn c (fnAt (hd.heap_39 P) 193 n_hasContent) (fdAt (hd.heap_39 P) 193) (bodyAt (hd.heap_39 P) 193) 3 := by
  refine fnIn_eq hK (by kernel_rfl) (fun L => by kernel_rfl) ?_
  intro cvs h0
  obtain ⟨a0, t0, rfl, h1⟩ := len_succ h0
  obtain ⟨a1, t1, rfl, h2⟩ := len_succ h1
  obtain ⟨a2, t2, rfl, h3⟩ := len_succ h2
  obtain rfl := len_zero h3
  kernel_rfl
def n_canMatch : List Str := [("opener" : Str), ("closer" : Str), ("open_len" : Str), ("close_len" : Str)]
def S_canMatch_161 : Ss := .cons (.ret (.bool true)) .nil
def S_canMatch_160 : Ss := .cons (.ret (.or (.cmp .NotEq (.bin .Mod (.bin .Add (.var 2) (.var 3)) (.int 3)) (.int 0)) (.and (.cmp .Eq (.bin .Mod (.var 2) (.int 3)) (.int 0)) (.cmp .Eq (.bin .Mod (.var 3) (.int 3)) (.int 0))))) .nil
def S_canMatch_159 : Ss := .cons (.assign 3 (.attr 1 15)) S_canMatch_160
def S_canMatch_158 : Ss := .cons (.assign 2 (.attr 0 15)) S_canMatch_159
def S_canMatch : Ss := .cons (.ite (.or (.attr 0 14) (.attr 1 13)) S_canMatch_158 .nil) S_canMatch_161
theorem ok_canMatch {P : Params} : (fnAt (hd.heap_39 P) 200 n_canMatch).Ok := ok_of (by kernel_rfl)
set_option maxHeartbeats 8000000 in
theorem snd_canMatch {c : Cx} {P : Params} (hK : c.K = hd.heap_39 P) : SndSs c (fnAt (hd.heap_39 P) 200 n_canMatch) (bodyAt (hd.heap_39 P) 200) S_canMatch :=
  have hf := ok_canMatch (P := P)
  (cons_ss (if_s (or_t (attr_kt (k := 14) (x := 0) hf (by kernel_rfl) (by kernel_rfl)) (or1_t (attr_kt (k := 13) (x := 1) hf (by kernel_rfl) (by kernel_rfl)))) (cons_ss (assign_s (x := 2) hf (by kernel_rfl) (attr_k (k := 15) (x := 0) hf (by kernel_rfl) (by kernel_rfl)) (fun _ => by kernel_rfl)) (cons_ss (assign_s (x := 3) hf (by kernel_rfl) (attr_k (k := 15) (x := 1) hf (by kernel_rfl) (by kernel_rfl)) (fun _ => by kernel_rfl)) (cons_ss (ret_s (or_e (cmp_e (bin_e (bin_e (var_sound (x := 2) hf (by kernel_rfl)) (var_sound (x := 3) hf (by kernel_rfl))) const_int) const_int rfl) (one_e (and_e (cmp_e (bin_e (var_sound (x := 2) hf (by kernel_rfl)) const_int) const_int rfl) (one_e (cmp_e (bin_e (var_sound (x := 3) hf (by kernel_rfl)) const_int) const_int rfl)))))) nil_ss))) nil_ss) (cons_ss (ret_s const_bool) nil_ss))
theorem in_canMatch {c : Cx} {P : Params} (hK : c.K = hd.heap_39 P) : FnIn c (fnAt (hd.heap_39 P) 200 n_canMatch) (fdAt (hd.heap_39 P) 200) (bodyAt (hd.heap_39 P) 200) 2 := by
  refine fnIn_eq hK (by kernel_rfl) (fun L => by kernel_rfl) ?_
  intro cvs h0
  obtain ⟨a0, t0, rfl, h1⟩ := len_succ h0
  obtain ⟨a1, t1, rfl, h2⟩ := len_succ h1
  obtain rfl := len_zero h2
  kernel_rfl
def n_ldraw : List Str := [("box" : Str), ("size" : Str), ("row" : Str), ("place" : Str), ("number" : Str)]
def S_ldraw_169 : Ss := .cons (.ret (.bin .Mod (.bin .FloorDiv (.sub (.var 0) (.int 2)) (.int 8)) (.var 1))) .nil
def S_ldraw_168 : Ss := .cons (.setSub (.var 0) (.int 2) (.bin .Mod (.bin .Add (.bin .Add (.bin .Add (.bin .Mult (.sub (.var 0) (.int 2)) (.int 48271)) (.var 4)) (.var 3)) (.int 1)) (.int 2147483647))) S_ldraw_169
def S_ldraw_167 : Ss := .cons (.assign 4 (.ite (.var 2) (.bin .Mod (.sub (.var 2) (.bin .Mod (.var 3) (.len (.var 2)))) (.int 65537)) (.int 0))) S_ldraw_168
def S_ldraw_166 : Ss := .cons (.setSub (.var 0) (.int 1) (.bin .Add (.var 3) (.int 1))) S_ldraw_167
def S_ldraw_165 : Ss := .cons (.assign 3 (.sub (.var 0) (.int 1))) S_ldraw_166
def S_ldraw : Ss := .cons (.assign 2 (.sub (.var 0) (.int 0))) S_ldraw_165
theorem ok_ldraw {P : Params} : (fnAt (hd.heap_39 P) 207 n_ldraw).Ok := ok_of (by kernel_rfl)
set_option maxHeartbeats 8000000 in
theorem snd_ldraw {c : Cx} {P : Params} (hK : c.K = hd.heap_39 P) : SndSs c (fnAt (hd.heap_39 P) 207 n_ldraw) (bodyAt (hd.heap_39 P) 207) S_ldraw :=
  have hf := ok_ldraw (P := P)
  (cons_ss (assign_s (x := 2) hf (by kernel_rfl) (sub_sound (var_sound (x := 0) hf (by kernel_rfl)) const_int rfl) (fun _ => by kernel_rfl)) (cons_ss (assign_s (x := 3) hf (by kernel_rfl) (sub_sound (var_sound (x := 0) hf (by kernel_rfl)) const_int rfl) (fun _ => by kernel_rfl)) (cons_ss (setSub_s (bin_e (var_sound (x := 3) hf (by kernel_rfl)) const_int) (var_sound (x := 0) hf (by kernel_rfl)) const_int (fun _ => by kernel_rfl)) (cons_ss (assign_s (x := 4) hf (by kernel_rfl) (ite_e (var_t (x := 2) hf (by kernel_rfl)) (bin_e (sub_sound (var_sound (x := 2) hf (by kernel_rfl)) (bin_e (var_sound (x := 3) hf (by kernel_rfl)) (len_e (by kernel_rfl) hf (by kernel_rfl) (ns_len hK) rfl (var_sound (x := 2) hf (by kernel_rfl)))) rfl) const_int) const_int) (fun _ => by kernel_rfl)) (cons_ss (setSub_s (bin_e (bin_e (bin_e (bin_e (bin_e (sub_sound (var_sound (x := 0) hf (by kernel_rfl)) const_int rfl) const_int) (var_sound (x := 4) hf (by kernel_rfl))) (var_sound (x := 3) hf (by kernel_rfl))) const_int) const_int) (var_sound (x := 0) hf (by kernel_rfl)) const_int (fun _ => by kernel_rfl)) (cons_ss (ret_s (bin_e (bin_e (sub_sound (var_sound (x := 0) hf (by kernel_rfl)) const_int rfl) const_int) (var_sound (x := 1) hf (by kernel_rfl)))) nil_ss))))))
theorem in_ldraw {c : Cx} {P : Params} (hK : c.K = hd.heap_39 P) : FnIn c (fnAt (hd.heap_39 P) 207 n_ldraw) (fdAt (hd.heap_39 P) 207) (bodyAt (hd.heap_39 P) 207) 2 := by
  refine fnIn_eq hK (by kernel_rfl) (fun L => by kernel_rfl) ?_
  intro cvs h0
  obtain ⟨a0, t0, rfl, h1⟩ := len_succ h0
  obtain ⟨a1, t1, rfl, h2⟩ := len_succ h1
  obtain rfl := len_zero h2
  kernel_rfl
def n_lword : List Str := [("words" : Str)]
def S_lword : Ss := .cons (.ret (.dict [0, 1] (.cons (.str "text") (.cons (.var 0) .nil)))) .nil
theorem ok_lword {P : Params} : (fnAt (hd.heap_39 P) 214 n_lword).Ok := ok_of (by kernel_rfl)
set_option maxHeartbeats 8000000 in
theorem snd_lword {c : Cx} {P : Params} (hK : c.K = hd.heap_39 P) : SndSs c (fnAt (hd.heap_39 P) 214 n_lword) (bodyAt (hd.heap_39 P) 214) S_lword :=
  have hf := ok_lword (P := P)
  (cons_ss (ret_s (dict_sound (KeysAre.k (k := 0) (by decide) (by kernel_rfl) (KeysAre.k (k := 1) (by decide) (by kernel_rfl) KeysAre.nil)) (SndEs.cons rfl (str_k (by kernel_rfl)) (SndEs.cons rfl (var_sound (x := 0) hf (by kernel_rfl)) SndEs.nil)) rfl (List.cons_ne_nil _ _) (Nat.le_of_ble_eq_true rfl) (by decide))) nil_ss)
theorem in_lword {c : Cx} {P : Params} (hK : c.K = hd.heap_39 P) : FnIn c (fnAt (hd.heap_39 P) 214 n_lword) (fdAt (hd.heap_39 P) 214) (bodyAt (hd.heap_39 P) 214) 1 := by
  refine fnIn_eq hK (by kernel_rfl) (fun L => by kernel_rfl) ?_
  intro cvs h0
  obtain ⟨a0, t0, rfl, h1⟩ := len_succ h0
  obtain rfl := len_zero h1
  kernel_rfl
def n_lshape : List Str := [("box" : Str), ("mine" : Str), ("owner" : Str), ("rows" : Str), ("turn" : Str), ("kind" : Str), ("sign" : Str), ("size" : Str), ("less" : Str), ("deep" : Str)]
def S_lshape_195 : Ss := .cons (.ret (.tup (.cons (.var 1) (.cons (.var 2) (.cons (.var 3) .nil))))) .nil
def S_lshape_187 : Ss := .cons (.expr (.append 1 (.call 214 (.cons (.sub (.list (.cons (.str "a") (.cons (.str "b c") (.cons (.str "d") (.cons (.str "e") (.cons (.str "") .nil)))))) (.call 207 (.cons (.var 0) (.cons (.int 5) .nil)))) .nil)))) .nil
def S_lshape_186 : Ss := .cons (.expr (.append 2 (.neg (.int 1)))) S_lshape_187
def S_lshape_185 : Ss := .cons (.ite (.cmp .NotEq (.call 207 (.cons (.var 0) (.cons (.int 5) .nil))) (.int 0)) S_lshape_186 .nil) .nil
def S_lshape_184 : Ss := .cons (.expr (.append 1 (.call 214 (.cons (.bin .Mult (.var 6) (.bin .Sub (.var 7) (.var 8))) .nil)))) S_lshape_185
def S_lshape_183 : Ss := .cons (.expr (.append 2 (.bin .Sub (.len (.var 3)) (.int 1)))) S_lshape_184
def S_lshape_182 : Ss := .cons (.expr (.append 3 (.dict [5, 6, 7, 8, 9] (.cons (.var 6) (.cons (.var 7) (.cons (.cmp .NotEq (.call 207 (.cons (.var 0) (.cons (.int 4) .nil))) (.int 0)) (.cons (.cmp .NotEq (.call 207 (.cons (.var 0) (.cons (.int 4) .nil))) (.int 0)) (.cons (.var 7) .nil)))))))) S_lshape_183
def S_lshape_181 : Ss := .cons (.assign 8 (.sub (.list (.cons (.int 0) (.cons (.int 0) (.cons (.int 0) (.cons (.int 0) (.cons (.int 0) (.cons (.int 0) (.cons (.int 0) (.cons (.int 0) (.cons (.int 0) (.cons (.int 0) (.cons (.int 0) (.cons (.int 0) (.cons (.int 0) (.cons (.int 0) (.cons (.int 1) (.cons (.var 7) .nil))))))))))))))))) (.call 207 (.cons (.var 0) (.cons (.int 16) .nil))))) S_lshape_182
def S_lshape_180 : Ss := .cons (.assign 7 (.bin .Add (.int 1) (.call 207 (.cons (.var 0) (.cons (.int 4) .nil))))) S_lshape_181
def S_lshape_179 : Ss := .cons (.assign 6 (.sub (.list (.cons (.str "*") (.cons (.str "_") .nil))) (.bin .FloorDiv (.call 207 (.cons (.var 0) (.cons (.int 4) .nil))) (.int 3)))) S_lshape_180
def S_lshape_191 : Ss := .cons (.expr (.append 1 (.call 214 (.cons (.sub (.list (.cons (.str "a") (.cons (.str "") (.cons (.str "b c") .nil)))) (.call 207 (.cons (.var 0) (.cons (.int 3) .nil)))) .nil)))) .nil
def S_lshape_194 : Ss := .cons (.expr (.append 1 (.sub (.list (.cons (.dict [0, 2, 3] (.cons (.str "link") (.cons (.list (.cons (.call 214 (.cons (.str "e") .nil)) .nil)) (.cons (.dict [4] (.cons (.str "/u") .nil)) .nil)))) (.cons (.var 9) .nil))) (.call 207 (.cons (.var 0) (.cons (.int 2) .nil)))))) .nil
def S_lshape_193 : Ss := .cons (.assign 9 (.dict [0, 2] (.cons (.str "strong") (.cons (.list (.cons (.dict [0, 2] (.cons (.str "emphasis") (.cons (.list (.cons (.call 214 (.cons (.str "d") .nil)) .nil)) .nil))) .nil)) .nil)))) S_lshape_194
def S_lshape_190 : Ss := .cons (.ite (.cmp .Eq (.var 5) (.int 4)) S_lshape_191 S_lshape_193) .nil
def S_lshape_189 : Ss := .cons (.expr (.append 2 (.neg (.int 1)))) S_lshape_190
def S_lshape_178 : Ss := .cons (.ite (.cmp .Lt (.var 5) (.int 4)) S_lshape_179 S_lshape_189) .nil
def S_lshape_177 : Ss := .cons (.assign 5 (.call 207 (.cons (.var 0) (.cons (.int 6) .nil)))) S_lshape_178
def S_lshape_176 : Ss := .cons (.forR 4 (.int 0) (.bin .Add (.int 3) (.call 207 (.cons (.var 0) (.cons (.int 7) .nil)))) S_lshape_177) S_lshape_195
def S_lshape_175 : Ss := .cons (.assign 3 (.list .nil)) S_lshape_176
def S_lshape_174 : Ss := .cons (.assign 2 (.list .nil)) S_lshape_175
def S_lshape : Ss := .cons (.assign 1 (.list .nil)) S_lshape_174
theorem ok_lshape {P : Params} : (fnAt (hd.heap_39 P) 221 n_lshape).Ok := ok_of (by kernel_rfl)
set_option maxHeartbeats 8000000 in
theorem snd_lshape {c : Cx} {P : Params} (hK : c.K = hd.heap_39 P) : SndSs c (fnAt (hd.heap_39 P) 221 n_lshape) (bodyAt (hd.heap_39 P) 221) S_lshape :=
  have hf := ok_lshape (P := P)
  (cons_ss (assign_s (x := 1) hf (by kernel_rfl) (list_sound SndEs.nil (Nat.le_of_ble_eq_true rfl)) (fun _ => by kernel_rfl)) (cons_ss (assign_s (x := 2) hf (by kernel_rfl) (list_sound SndEs.nil (Nat.le_of_ble_eq_true rfl)) (fun _ => by kernel_rfl)) (cons_ss (assign_s (x := 3) hf (by kernel_rfl) (list_sound SndEs.nil (Nat.le_of_ble_eq_true rfl)) (fun _ => by kernel_rfl)) (cons_ss (forR1_k (x := 4) (by kernel_rfl) hf (by kernel_rfl) (by kernel_rfl) (ns_range hK) rfl (bin_e const_int (call_k (a := 207) (z := "_law_draw") (by kernel_rfl) hf (by kernel_rfl) (by kernel_rfl) (ns_at_207 hK) (keep_207 hK) (SndEs.cons rfl (var_sound (x := 0) hf (by kernel_rfl)) (SndEs.cons rfl const_int SndEs.nil)) (List.cons_ne_nil _ _))) (cons_ss (assign_s (x := 5) hf (by kernel_rfl) (call_k (a := 207) (z := "_law_draw") (by kernel_rfl) hf (by kernel_rfl) (by kernel_rfl) (ns_at_207 hK) (keep_207 hK) (SndEs.cons rfl (var_sound (x := 0) hf (by kernel_rfl)) (SndEs.cons rfl const_int SndEs.nil)) (List.cons_ne_nil _ _)) (fun _ => by kernel_rfl)) (cons_ss (if_s (cmp_t (var_sound (x := 5) hf (by kernel_rfl)) const_int rfl) (cons_ss (assign_s (x := 6) hf (by kernel_rfl) (sub_sound (list_sound (SndEs.cons rfl (str_k (by kernel_rfl)) (SndEs.cons rfl (str_k (by kernel_rfl)) SndEs.nil)) (Nat.le_of_ble_eq_true rfl)) (bin_e (call_k (a := 207) (z := "_law_draw") (by kernel_rfl) hf (by kernel_rfl) (by kernel_rfl) (ns_at_207 hK) (keep_207 hK) (SndEs.cons rfl (var_sound (x := 0) hf (by kernel_rfl)) (SndEs.cons rfl const_int SndEs.nil)) (List.cons_ne_nil _ _)) const_int) rfl) (fun _ => by kernel_rfl)) (cons_ss (assign_s (x := 7) hf (by kernel_rfl) (bin_e const_int (call_k (a := 207) (z := "_law_draw") (by kernel_rfl) hf (by kernel_rfl) (by kernel_rfl) (ns_at_207 hK) (keep_207 hK) (SndEs.cons rfl (var_sound (x := 0) hf (by kernel_rfl)) (SndEs.cons rfl const_int SndEs.nil)) (List.cons_ne_nil _ _))) (fun _ => by kernel_rfl)) (cons_ss (assign_s (x := 8) hf (by kernel_rfl) (sub_sound (list_sound (SndEs.cons rfl const_int (SndEs.cons rfl const_int (SndEs.cons rfl const_int (SndEs.cons rfl const_int (SndEs.cons rfl const_int (SndEs.cons rfl const_int (SndEs.cons rfl const_int (SndEs.cons rfl const_int (SndEs.cons rfl const_int (SndEs.cons rfl const_int (SndEs.cons rfl const_int (SndEs.cons rfl const_int (SndEs.cons rfl const_int (SndEs.cons rfl const_int (SndEs.cons rfl const_int (SndEs.cons rfl (var_sound (x := 7) hf (by kernel_rfl)) SndEs.nil)))))))))))))))) (Nat.le_of_ble_eq_true rfl)) (call_k (a := 207) (z := "_law_draw") (by kernel_rfl) hf (by kernel_rfl) (by kernel_rfl) (ns_at_207 hK) (keep_207 hK) (SndEs.cons rfl (var_sound (x := 0) hf (by kernel_rfl)) (SndEs.cons rfl const_int SndEs.nil)) (List.cons_ne_nil _ _)) rfl) (fun _ => by kernel_rfl)) (cons_ss (expr_s (append_k (by kernel_rfl) (x := 3) hf (by kernel_rfl) (by kernel_rfl) rfl (dict_sound (KeysAre.k (k := 5) (by decide) (by kernel_rfl) (KeysAre.k (k := 6) (by decide) (by kernel_rfl) (KeysAre.k (k := 7) (by decide) (by kernel_rfl) (KeysAre.k (k := 8) (by decide) (by kernel_rfl) (KeysAre.k (k := 9) (by decide) (by kernel_rfl) KeysAre.nil))))) (SndEs.cons rfl (var_sound (x := 6) hf (by kernel_rfl)) (SndEs.cons rfl (var_sound (x := 7) hf (by kernel_rfl)) (SndEs.cons rfl (cmp_e (call_k (a := 207) (z := "_law_draw") (by kernel_rfl) hf (by kernel_rfl) (by kernel_rfl) (ns_at_207 hK) (keep_207 hK) (SndEs.cons rfl (var_sound (x := 0) hf (by kernel_rfl)) (SndEs.cons rfl const_int SndEs.nil)) (List.cons_ne_nil _ _)) const_int rfl) (SndEs.cons rfl (cmp_e (call_k (a := 207) (z := "_law_draw") (by kernel_rfl) hf (by kernel_rfl) (by kernel_rfl) (ns_at_207 hK) (keep_207 hK) (SndEs.cons rfl (var_sound (x := 0) hf (by kernel_rfl)) (SndEs.cons rfl const_int SndEs.nil)) (List.cons_ne_nil _ _)) const_int rfl) (SndEs.cons rfl (var_sound (x := 7) hf (by kernel_rfl)) SndEs.nil))))) rfl (List.cons_ne_nil _ _) (Nat.le_of_ble_eq_true rfl) (by decide))) (fun _ => by kernel_rfl) (fun _ => by kernel_rfl)) (cons_ss (expr_s (append_k (by kernel_rfl) (x := 2) hf (by kernel_rfl) (by kernel_rfl) rfl (bin_e (len_e (by kernel_rfl) hf (by kernel_rfl) (ns_len hK) rfl (var_sound (x := 3) hf (by kernel_rfl))) const_int)) (fun _ => by kernel_rfl) (fun _ => by kernel_rfl)) (cons_ss (expr_s (append_k (by kernel_rfl) (x := 1) hf (by kernel_rfl) (by kernel_rfl) rfl (call_k (a := 214) (z := "_law_word") (by kernel_rfl) hf (by kernel_rfl) (by kernel_rfl) (ns_at_214 hK) (keep_214 hK) (SndEs.cons rfl (bin_e (var_sound (x := 6) hf (by kernel_rfl)) (bin_e (var_sound (x := 7) hf (by kernel_rfl)) (var_sound (x := 8) hf (by kernel_rfl)))) SndEs.nil) (List.cons_ne_nil _ _))) (fun _ => by kernel_rfl) (fun _ => by kernel_rfl)) (cons_ss (if_s (cmp_t (call_k (a := 207) (z := "_law_draw") (by kernel_rfl) hf (by kernel_rfl) (by kernel_rfl) (ns_at_207 hK) (keep_207 hK) (SndEs.cons rfl (var_sound (x := 0) hf (by kernel_rfl)) (SndEs.cons rfl const_int SndEs.nil)) (List.cons_ne_nil _ _)) const_int rfl) (cons_ss (expr_s (append_k (by kernel_rfl) (x := 2) hf (by kernel_rfl) (by kernel_rfl) rfl (neg_e const_int)) (fun _ => by kernel_rfl) (fun _ => by kernel_rfl)) (cons_ss (expr_s (append_k (by kernel_rfl) (x := 1) hf (by kernel_rfl) (by kernel_rfl) rfl (call_k (a := 214) (z := "_law_word") (by kernel_rfl) hf (by kernel_rfl) (by kernel_rfl) (ns_at_214 hK) (keep_214 hK) (SndEs.cons rfl (sub_sound (list_sound (SndEs.cons rfl (str_k (by kernel_rfl)) (SndEs.cons rfl (str_k (by kernel_rfl)) (SndEs.cons rfl (str_k (by kernel_rfl)) (SndEs.cons rfl (str_k (by kernel_rfl)) (SndEs.cons rfl (str_k (by kernel_rfl)) SndEs.nil))))) (Nat.le_of_ble_eq_true rfl)) (call_k (a := 207) (z := "_law_draw") (by kernel_rfl) hf (by kernel_rfl) (by kernel_rfl) (ns_at_207 hK) (keep_207 hK) (SndEs.cons rfl (var_sound (x := 0) hf (by kernel_rfl)) (SndEs.cons rfl const_int SndEs.nil)) (List.cons_ne_nil _ _)) rfl) SndEs.nil) (List.cons_ne_nil _ _))) (fun _ => by kernel_rfl) (fun _ => by kernel_rfl)) nil_ss)) nil_ss) nil_ss))))))) (cons_ss (expr_s (append_k (by kernel_rfl) (x := 2) hf (by kernel_rfl) (by kernel_rfl) rfl (neg_e const_int)) (fun _ => by kernel_rfl) (fun _ => by kernel_rfl)) (cons_ss (if_s (cmp_t (var_sound (x := 5) hf (by kernel_rfl)) const_int rfl) (cons_ss (expr_s (append_k (by kernel_rfl) (x := 1) hf (by kernel_rfl) (by kernel_rfl) rfl (call_k (a := 214) (z := "_law_word") (by kernel_rfl) hf (by kernel_rfl) (by kernel_rfl) (ns_at_214 hK) (keep_214 hK) (SndEs.cons rfl (sub_sound (list_sound (SndEs.cons rfl (str_k (by kernel_rfl)) (SndEs.cons rfl (str_k (by kernel_rfl)) (SndEs.cons rfl (str_k (by kernel_rfl)) SndEs.nil))) (Nat.le_of_ble_eq_true rfl)) (call_k (a := 207) (z := "_law_draw") (by kernel_rfl) hf (by kernel_rfl) (by kernel_rfl) (ns_at_207 hK) (keep_207 hK) (SndEs.cons rfl (var_sound (x := 0) hf (by kernel_rfl)) (SndEs.cons rfl const_int SndEs.nil)) (List.cons_ne_nil _ _)) rfl) SndEs.nil) (List.cons_ne_nil _ _))) (fun _ => by kernel_rfl) (fun _ => by kernel_rfl)) nil_ss) (cons_ss (assign_s (x := 9) hf (by kernel_rfl) (dict_sound (KeysAre.k (k := 0) (by decide) (by kernel_rfl) (KeysAre.k (k := 2) (by decide) (by kernel_rfl) KeysAre.nil)) (SndEs.cons rfl (str_k (by kernel_rfl)) (SndEs.cons rfl (list_sound (SndEs.cons rfl (dict_sound (KeysAre.k (k := 0) (by decide) (by kernel_rfl) (KeysAre.k (k := 2) (by decide) (by kernel_rfl) KeysAre.nil)) (SndEs.cons rfl (str_k (by kernel_rfl)) (SndEs.cons rfl (list_sound (SndEs.cons rfl (call_k (a := 214) (z := "_law_word") (by kernel_rfl) hf (by kernel_rfl) (by kernel_rfl) (ns_at_214 hK) (keep_214 hK) (SndEs.cons rfl (str_k (by kernel_rfl)) SndEs.nil) (List.cons_ne_nil _ _)) SndEs.nil) (Nat.le_of_ble_eq_true rfl)) SndEs.nil)) rfl (List.cons_ne_nil _ _) (Nat.le_of_ble_eq_true rfl) (by decide)) SndEs.nil) (Nat.le_of_ble_eq_true rfl)) SndEs.nil)) rfl (List.cons_ne_nil _ _) (Nat.le_of_ble_eq_true rfl) (by decide)) (fun _ => by kernel_rfl)) (cons_ss (expr_s (append_k (by kernel_rfl) (x := 1) hf (by kernel_rfl) (by kernel_rfl) rfl (sub_sound (list_sound (SndEs.cons rfl (dict_sound (KeysAre.k (k := 0) (by decide) (by kernel_rfl) (KeysAre.k (k := 2) (by decide) (by kernel_rfl) (KeysAre.k (k := 3) (by decide) (by kernel_rfl) KeysAre.nil))) (SndEs.cons rfl (str_k (by kernel_rfl)) (SndEs.cons rfl (list_sound (SndEs.cons rfl (call_k (a := 214) (z := "_law_word") (by kernel_rfl) hf (by kernel_rfl) (by kernel_rfl) (ns_at_214 hK) (keep_214 hK) (SndEs.cons rfl (str_k (by kernel_rfl)) SndEs.nil) (List.cons_ne_nil _ _)) SndEs.nil) (Nat.le_of_ble_eq_true rfl)) (SndEs.cons rfl (dict_sound (KeysAre.k (k := 4) (by decide) (by kernel_rfl) KeysAre.nil) (SndEs.cons rfl (str_k (by kernel_rfl)) SndEs.nil) rfl (List.cons_ne_nil _ _) (Nat.le_of_ble_eq_true rfl) (by decide)) SndEs.nil))) rfl (List.cons_ne_nil _ _) (Nat.le_of_ble_eq_true rfl) (by decide)) (SndEs.cons rfl (var_sound (x := 9) hf (by kernel_rfl)) SndEs.nil)) (Nat.le_of_ble_eq_true rfl)) (call_k (a := 207) (z := "_law_draw") (by kernel_rfl) hf (by kernel_rfl) (by kernel_rfl) (ns_at_207 hK) (keep_207 hK) (SndEs.cons rfl (var_sound (x := 0) hf (by kernel_rfl)) (SndEs.cons rfl const_int SndEs.nil)) (List.cons_ne_nil _ _)) rfl)) (fun _ => by kernel_rfl) (fun _ => by kernel_rfl)) nil_ss))) nil_ss))) nil_ss))) (cons_ss (ret_s (tup_sound (SndEs.cons rfl (var_sound (x := 1) hf (by kernel_rfl)) (SndEs.cons rfl (var_sound (x := 2) hf (by kernel_rfl)) (SndEs.cons rfl (var_sound (x := 3) hf (by kernel_rfl)) SndEs.nil))) (Nat.le_of_ble_eq_true rfl))) nil_ss)))))
theorem in_lshape {c : Cx} {P : Params} (hK : c.K = hd.heap_39 P) : FnIn c (fnAt (hd.heap_39 P) 221 n_lshape) (fdAt (hd.heap_39 P) 221) (bodyAt (hd.heap_39 P) 221) 1 := by
  refine fnIn_eq hK (by kernel_rfl) (fun L => by kernel_rfl) ?_
  intro cvs h0
  obtain ⟨a0, t0, rfl, h1⟩ := len_succ h0
  obtain rfl := len_zero h1
  kernel_rfl
def n_ldeep : List Str := [("tokens" : Str), ("most" : Str), ("token" : Str)]
def S_ldeep_201 : Ss := .cons (.ret (.var 1)) .nil
def S_ldeep_200 : Ss := .cons (.assign 1 (.max2 (.var 1) (.bin .Add (.int 1) (.call 228 (.cons (.item (.var 2) 2) .nil))))) .nil
def S_ldeep_199 : Ss := .cons (.ite (.hasKey 2 (.var 2)) S_ldeep_200 .nil) .nil
def S_ldeep_198 : Ss := .cons (.forL 2 (.var 0) S_ldeep_199) S_ldeep_201
def S_ldeep : Ss := .cons (.assign 1 (.int 0)) S_ldeep_198
theorem ok_ldeep {P : Params} : (fnAt (hd.heap_39 P) 228 n_ldeep).Ok := ok_of (by kernel_rfl)
set_option maxHeartbeats 8000000 in
theorem snd_ldeep {c : Cx} {P : Params} (hK : c.K = hd.heap_39 P) : SndSs c (fnAt (hd.heap_39 P) 228 n_ldeep) (bodyAt (hd.heap_39 P) 228) S_ldeep :=
  have hf := ok_ldeep (P := P)
  (cons_ss (assign_s (x := 1) hf (by kernel_rfl) const_int (fun _ => by kernel_rfl)) (cons_ss (forL_s (x := 2) hf (by kernel_rfl) (var_sound (x := 0) hf (by kernel_rfl)) (cons_ss (if_s (hasKey_kt (k := 2) (by decide) (var_sound (x := 2) hf (by kernel_rfl)) rfl (by kernel_rfl)) (cons_ss (assign_s (x := 1) hf (by kernel_rfl) (max_k (by kernel_rfl) hf (by kernel_rfl) (ns_max hK) rfl rfl (var_sound (x := 1) hf (by kernel_rfl)) (bin_e const_int (call_k (a := 228) (z := "_law_deep") (by kernel_rfl) hf (by kernel_rfl) (by kernel_rfl) (ns_at_228 hK) (keep_228 hK) (SndEs.cons rfl (item_k (k := 2) (var_sound (x := 2) hf (by kernel_rfl)) (by kernel_rfl)) SndEs.nil) (List.cons_ne_nil _ _)))) (fun _ => by kernel_rfl)) nil_ss) nil_ss) nil_ss) (fun _ _ => by kernel_rfl)) (cons_ss (ret_s (var_sound (x := 1) hf (by kernel_rfl))) nil_ss)))
theorem in_ldeep {c : Cx} {P : Params} (hK : c.K = hd.heap_39 P) : FnIn c (fnAt (hd.heap_39 P) 228 n_ldeep) (fdAt (hd.heap_39 P) 228) (bodyAt (hd.heap_39 P) 228) 1 := by
  refine fnIn_eq hK (by kernel_rfl) (fun L => by kernel_rfl) ?_
  intro cvs h0
  obtain ⟨a0, t0, rfl, h1⟩ := len_succ h0
  obtain rfl := len_zero h1
  kernel_rfl
def n_lcan : List Str := [("first" : Str), ("second" : Str), ("total" : Str)]
def S_lcan_207 : Ss := .cons (.ret (.bool true)) .nil
def S_lcan_206 : Ss := .cons (.ret (.bool false)) .nil
def S_lcan_205 : Ss := .cons (.ite (.and (.cmp .Eq (.bin .Mod (.var 2) (.int 3)) (.int 0)) (.or (.cmp .NotEq (.bin .Mod (.item (.var 0) 9) (.int 3)) (.int 0)) (.cmp .NotEq (.bin .Mod (.item (.var 1) 9) (.int 3)) (.int 0)))) S_lcan_206 .nil) .nil
def S_lcan_204 : Ss := .cons (.assign 2 (.bin .Add (.item (.var 0) 9) (.item (.var 1) 9))) S_lcan_205
def S_lcan : Ss := .cons (.ite (.or (.item (.var 0) 8) (.item (.var 1) 7)) S_lcan_204 .nil) S_lcan_207
theorem ok_lcan {P : Params} : (fnAt (hd.heap_39 P) 235 n_lcan).Ok := ok_of (by kernel_rfl)
set_option maxHeartbeats 8000000 in
theorem snd_lcan {c : Cx} {P : Params} (hK : c.K = hd.heap_39 P) : SndSs c (fnAt (hd.heap_39 P) 235 n_lcan) (bodyAt (hd.heap_39 P) 235) S_lcan :=
  have hf := ok_lcan (P := P)
  (cons_ss (if_s (or_t (item_kt (k := 8) (var_sound (x := 0) hf (by kernel_rfl)) (by kernel_rfl)) (or1_t (item_kt (k := 7) (var_sound (x := 1) hf (by kernel_rfl)) (by kernel_rfl)))) (cons_ss (assign_s (x := 2) hf (by kernel_rfl) (bin_e (item_k (k := 9) (var_sound (x := 0) hf (by kernel_rfl)) (by kernel_rfl)) (item_k (k := 9) (var_sound (x := 1) hf (by kernel_rfl)) (by kernel_rfl))) (fun _ => by kernel_rfl)) (cons_ss (if_s (and_t (cmp_t (bin_e (var_sound (x := 2) hf (by kernel_rfl)) const_int) const_int rfl) (and1_t (or_t (cmp_t (bin_e (item_k (k := 9) (var_sound (x := 0) hf (by kernel_rfl)) (by kernel_rfl)) const_int) const_int rfl) (or1_t (cmp_t (bin_e (item_k (k := 9) (var_sound (x := 1) hf (by kernel_rfl)) (by kernel_rfl)) const_int) const_int rfl))))) (cons_ss (ret_s const_bool) nil_ss) nil_ss) nil_ss)) nil_ss) (cons_ss (ret_s const_bool) nil_ss))
theorem in_lcan {c : Cx} {P : Params} (hK : c.K = hd.heap_39 P) : FnIn c (fnAt (hd.heap_39 P) 235 n_lcan) (fdAt (hd.heap_39 P) 235) (bodyAt (hd.heap_39 P) 235) 2 := by
  refine fnIn_eq hK (by kernel_rfl) (fun L => by kernel_rfl) ?_
  intro cvs h0
  obtain ⟨a0, t0, rfl, h1⟩ := len_succ h0
  obtain ⟨a1, t1, rfl, h2⟩ := len_succ h1
  obtain rfl := len_zero h2
  kernel_rfl
def n_lfind : List Str := [("rows" : Str), ("closer" : Str), ("bottom" : Str), ("found" : Str), ("k" : Str), ("row" : Str)]
def S_lfind_214 : Ss := .cons (.ret (.var 3)) .nil
def S_lfind_213 : Ss := .cons (.assign 3 (.var 4)) .nil
def S_lfind_212 : Ss := .cons (.ite (.and (.cmp .Eq (.item (.var 5) 5) (.item (.sub (.var 0) (.var 1)) 5)) (.and (.item (.var 5) 7) (.and (.cmp .Gt (.item (.var 5) 6) (.int 0)) (.call 235 (.cons (.var 5) (.cons (.sub (.var 0) (.var 1)) .nil)))))) S_lfind_213 .nil) .nil
def S_lfind_211 : Ss := .cons (.assign 5 (.sub (.var 0) (.var 4))) S_lfind_212
def S_lfind_210 : Ss := .cons (.forR 4 (.var 2) (.var 1) S_lfind_211) S_lfind_214
def S_lfind : Ss := .cons (.assign 3 (.neg (.int 1))) S_lfind_210
theorem ok_lfind {P : Params} : (fnAt (hd.heap_39 P) 242 n_lfind).Ok := ok_of (by kernel_rfl)
set_option maxHeartbeats 8000000 in
theorem snd_lfind {c : Cx} {P : Params} (hK : c.K = hd.heap_39 P) : SndSs c (fnAt (hd.heap_39 P) 242 n_lfind) (bodyAt (hd.heap_39 P) 242) S_lfind :=
  have hf := ok_lfind (P := P)
  (cons_ss (assign_s (x := 3) hf (by kernel_rfl) (neg_e const_int) (fun _ => by kernel_rfl)) (cons_ss (forR2_k (x := 4) (by kernel_rfl) hf (by kernel_rfl) (by kernel_rfl) (ns_range hK) rfl rfl (var_sound (x := 2) hf (by kernel_rfl)) (var_sound (x := 1) hf (by kernel_rfl)) (cons_ss (assign_s (x := 5) hf (by kernel_rfl) (sub_sound (var_sound (x := 0) hf (by kernel_rfl)) (var_sound (x := 4) hf (by kernel_rfl)) rfl) (fun _ => by kernel_rfl)) (cons_ss (if_s (and_t (cmp_t (item_k (k := 5) (var_sound (x := 5) hf (by kernel_rfl)) (by kernel_rfl)) (item_k (k := 5) (sub_sound (var_sound (x := 0) hf (by kernel_rfl)) (var_sound (x := 1) hf (by kernel_rfl)) rfl) (by kernel_rfl)) rfl) (and_t (item_kt (k := 7) (var_sound (x := 5) hf (by kernel_rfl)) (by kernel_rfl)) (and_t (cmp_t (item_k (k := 6) (var_sound (x := 5) hf (by kernel_rfl)) (by kernel_rfl)) const_int rfl) (and1_t (call_t (call_k (a := 235) (z := "_law_can") (by kernel_rfl) hf (by kernel_rfl) (by kernel_rfl) (ns_at_235 hK) (keep_235 hK) (SndEs.cons rfl (var_sound (x := 5) hf (by kernel_rfl)) (SndEs.cons rfl (sub_sound (var_sound (x := 0) hf (by kernel_rfl)) (var_sound (x := 1) hf (by kernel_rfl)) rfl) SndEs.nil)) (List.cons_ne_nil _ _))))))) (cons_ss (assign_s (x := 3) hf (by kernel_rfl) (var_sound (x := 4) hf (by kernel_rfl)) (fun _ => by kernel_rfl)) nil_ss) nil_ss) nil_ss))) (cons_ss (ret_s (var_sound (x := 3) hf (by kernel_rfl))) nil_ss)))
theorem in_lfind {c : Cx} {P : Params} (hK : c.K = hd.heap_39 P) : FnIn c (fnAt (hd.heap_39 P) 242 n_lfind) (fdAt (hd.heap_39 P) 242) (bodyAt (hd.heap_39 P) 242) 3 := by
  refine fnIn_eq hK (by kernel_rfl) (fun L => by kernel_rfl) ?_
  intro cvs h0
  obtain ⟨a0, t0, rfl, h1⟩ := len_succ h0
  obtain ⟨a1, t1, rfl, h2⟩ := len_succ h1
  obtain ⟨a2, t2, rfl, h3⟩ := len_succ h2
  obtain rfl := len_zero h3
  kernel_rfl
def n_luse : List Str := [("mine" : Str), ("one" : Str), ("two" : Str), ("first" : Str), ("second" : Str), ("left" : Str), ("right" : Str)]
def S_luse_220 : Ss := .cons (.ret (.ite (.and (.cmp .GtE (.item (.var 1) 6) (.int 2)) (.and (.cmp .GtE (.item (.var 2) 6) (.int 2)) (.and (.cmp .GtE (.var 5) (.int 2)) (.cmp .GtE (.var 6) (.int 2))))) (.int 2) (.int 1))) .nil
def S_luse_219 : Ss := .cons (.ret .none) .nil
def S_luse_218 : Ss := .cons (.ite (.or (.cmp .Eq (.var 5) (.int 0)) (.cmp .Eq (.var 6) (.int 0))) S_luse_219 .nil) S_luse_220
def S_luse_217 : Ss := .cons (.assign 6 (.len (.item (.sub (.var 0) (.var 4)) 1))) S_luse_218
def S_luse : Ss := .cons (.assign 5 (.len (.item (.sub (.var 0) (.var 3)) 1))) S_luse_217
theorem ok_luse {P : Params} : (fnAt (hd.heap_39 P) 249 n_luse).Ok := ok_of (by kernel_rfl)
set_option maxHeartbeats 8000000 in
theorem snd_luse {c : Cx} {P : Params} (hK : c.K = hd.heap_39 P) : SndSs c (fnAt (hd.heap_39 P) 249 n_luse) (bodyAt (hd.heap_39 P) 249) S_luse :=
  have hf := ok_luse (P := P)
  (cons_ss (assign_s (x := 5) hf (by kernel_rfl) (len_e (by kernel_rfl) hf (by kernel_rfl) (ns_len hK) rfl (item_k (k := 1) (sub_sound (var_sound (x := 0) hf (by kernel_rfl)) (var_sound (x := 3) hf (by kernel_rfl)) rfl) (by kernel_rfl))) (fun _ => by kernel_rfl)) (cons_ss (assign_s (x := 6) hf (by kernel_rfl) (len_e (by kernel_rfl) hf (by kernel_rfl) (ns_len hK) rfl (item_k (k := 1) (sub_sound (var_sound (x := 0) hf (by kernel_rfl)) (var_sound (x := 4) hf (by kernel_rfl)) rfl) (by kernel_rfl))) (fun _ => by kernel_rfl)) (cons_ss (if_s (or_t (cmp_t (var_sound (x := 5) hf (by kernel_rfl)) const_int rfl) (or1_t (cmp_t (var_sound (x := 6) hf (by kernel_rfl)) const_int rfl))) (cons_ss (ret_s const_none) nil_ss) nil_ss) (cons_ss (ret_s (ite_e (and_t (cmp_t (item_k (k := 6) (var_sound (x := 1) hf (by kernel_rfl)) (by kernel_rfl)) const_int rfl) (and_t (cmp_t (item_k (k := 6) (var_sound (x := 2) hf (by kernel_rfl)) (by kernel_rfl)) const_int rfl) (and_t (cmp_t (var_sound (x := 5) hf (by kernel_rfl)) const_int rfl) (and1_t (cmp_t (var_sound (x := 6) hf (by kernel_rfl)) const_int rfl))))) const_int const_int)) nil_ss))))
theorem in_luse {c : Cx} {P : Params} (hK : c.K = hd.heap_39 P) : FnIn c (fnAt (hd.heap_39 P) 249 n_luse) (fdAt (hd.heap_39 P) 249) (bodyAt (hd.heap_39 P) 249) 5 := by
  refine fnIn_eq hK (by kernel_rfl) (fun L => by kernel_rfl) ?_
  intro cvs h0
  obtain ⟨a0, t0, rfl, h1⟩ := len_succ h0
  obtain ⟨a1, t1, rfl, h2⟩ := len_succ h1
  obtain ⟨a2, t2, rfl, h3⟩ := len_succ h2
  obtain ⟨a3, t3, rfl, h4⟩ := len_succ h3
  obtain ⟨a4, t4, rfl, h5⟩ := len_succ h4
  obtain rfl := len_zero h5
  kernel_rfl
def n_lkids : List Str := [("mine" : Str), ("first" : Str), ("second" : Str), ("bound" : Str), ("held" : Str), ("full" : Str), ("part" : Str)]
def S_lkids_229 : Ss := .cons (.ret (.var 4)) .nil
def S_lkids_228 : Ss := .cons (.ret .none) .nil
def S_lkids_227 : Ss := .cons (.ite (.or (.not (.var 5)) (.cmp .GtE (.call 228 (.cons (.var 4) .nil)) (.var 3))) S_lkids_228 .nil) S_lkids_229
def S_lkids_226 : Ss := .cons (.assign 5 (.bool true)) .nil
def S_lkids_225 : Ss := .cons (.ite (.or (.cmp .NotEq (.item (.var 6) 0) (.str "text")) (.cmp .NotEq (.item (.var 6) 1) (.str ""))) S_lkids_226 .nil) .nil
def S_lkids_224 : Ss := .cons (.forL 6 (.var 4) S_lkids_225) S_lkids_227
def S_lkids_223 : Ss := .cons (.assign 5 (.bool false)) S_lkids_224
def S_lkids : Ss := .cons (.assign 4 (.slice (.var 0) (.bin .Add (.var 1) (.int 1)) (.var 2))) S_lkids_223
theorem ok_lkids {P : Params} : (fnAt (hd.heap_39 P) 256 n_lkids).Ok := ok_of (by kernel_rfl)
set_option maxHeartbeats 8000000 in
theorem snd_lkids {c : Cx} {P : Params} (hK : c.K = hd.heap_39 P) : SndSs c (fnAt (hd.heap_39 P) 256 n_lkids) (bodyAt (hd.heap_39 P) 256) S_lkids :=
  have hf := ok_lkids (P := P)
  (cons_ss (assign_s (x := 4) hf (by kernel_rfl) (slc_sound (var_sound (x := 0) hf (by kernel_rfl)) (part_some (bin_e (var_sound (x := 1) hf (by kernel_rfl)) const_int)) (part_some (var_sound (x := 2) hf (by kernel_rfl)))) (fun _ => by kernel_rfl)) (cons_ss (assign_s (x := 5) hf (by kernel_rfl) const_bool (fun _ => by kernel_rfl)) (cons_ss (forL_s (x := 6) hf (by kernel_rfl) (var_sound (x := 4) hf (by kernel_rfl)) (cons_ss (if_s (or_t (cmp_t (item_k (k := 0) (var_sound (x := 6) hf (by kernel_rfl)) (by kernel_rfl)) (str_k (by kernel_rfl)) rfl) (or1_t (cmp_t (item_k (k := 1) (var_sound (x := 6) hf (by kernel_rfl)) (by kernel_rfl)) (str_k (by kernel_rfl)) rfl))) (cons_ss (assign_s (x := 5) hf (by kernel_rfl) const_bool (fun _ => by kernel_rfl)) nil_ss) nil_ss) nil_ss) (fun _ _ => by kernel_rfl)) (cons_ss (if_s (or_t (not_t (var_t (x := 5) hf (by kernel_rfl))) (or1_t (cmp_t (call_k (a := 228) (z := "_law_deep") (by kernel_rfl) hf (by kernel_rfl) (by kernel_rfl) (ns_at_228 hK) (keep_228 hK) (SndEs.cons rfl (var_sound (x := 4) hf (by kernel_rfl)) SndEs.nil) (List.cons_ne_nil _ _)) (var_sound (x := 3) hf (by kernel_rfl)) rfl))) (cons_ss (ret_s const_none) nil_ss) nil_ss) (cons_ss (ret_s (var_sound (x := 4) hf (by kernel_rfl))) nil_ss)))))
theorem in_lkids {c : Cx} {P : Params} (hK : c.K = hd.heap_39 P) : FnIn c (fnAt (hd.heap_39 P) 256 n_lkids) (fdAt (hd.heap_39 P) 256) (bodyAt (hd.heap_39 P) 256) 4 := by
  refine fnIn_eq hK (by kernel_rfl) (fun L => by kernel_rfl) ?_
  intro cvs h0
  obtain ⟨a0, t0, rfl, h1⟩ := len_succ h0
  obtain ⟨a1, t1, rfl, h2⟩ := len_succ h1
  obtain ⟨a2, t2, rfl, h3⟩ := len_succ h2
  obtain ⟨a3, t3, rfl, h4⟩ := len_succ h3
  obtain rfl := len_zero h4
  kernel_rfl
def n_lapply : List Str := [("mine" : Str), ("owner" : Str), ("rows" : Str), ("found" : Str), ("closer" : Str), ("first" : Str), ("second" : Str), ("use" : Str), ("held" : Str), ("lone" : Str), ("left" : Str), ("right" : Str), ("one" : Str), ("two" : Str), ("node" : Str), ("k" : Str), ("row" : Str)]
def S_lapply_250 : Ss := .cons (.ret (.tup (.cons (.bin .Add (.bin .Add (.slice (.var 0) .none (.bin .Add (.var 5) (.int 1))) (.list (.cons (.var 14) .nil))) (.slice (.var 0) (.var 6) .none)) (.cons (.bin .Add (.bin .Add (.slice (.var 1) .none (.bin .Add (.var 5) (.int 1))) (.list (.cons (.neg (.int 1)) .nil))) (.slice (.var 1) (.var 6) .none)) (.cons (.var 9) .nil))))) .nil
def S_lapply_249 : Ss := .cons (.assign 14 (.dict [0, 2] (.cons (.ite (.cmp .Eq (.var 7) (.int 2)) (.str "strong") (.str "emphasis")) (.cons (.var 8) .nil)))) S_lapply_250
def S_lapply_248 : Ss := .cons (.setItem (.var 13) 8 (.bool false)) .nil
def S_lapply_247 : Ss := .cons (.ite (.cmp .Eq (.item (.var 13) 6) (.int 0)) S_lapply_248 .nil) S_lapply_249
def S_lapply_246 : Ss := .cons (.setItem (.var 12) 7 (.bool false)) .nil
def S_lapply_245 : Ss := .cons (.ite (.cmp .Eq (.item (.var 12) 6) (.int 0)) S_lapply_246 .nil) S_lapply_247
def S_lapply_244 : Ss := .cons (.setItem (.var 13) 6 (.bin .Sub (.item (.var 13) 6) (.var 7))) S_lapply_245
def S_lapply_243 : Ss := .cons (.setItem (.var 12) 6 (.bin .Sub (.item (.var 12) 6) (.var 7))) S_lapply_244
def S_lapply_242 : Ss := .cons (.assign 13 (.sub (.var 2) (.var 4))) S_lapply_243
def S_lapply_241 : Ss := .cons (.assign 12 (.sub (.var 2) (.var 3))) S_lapply_242
def S_lapply_240 : Ss := .cons (.setItem (.var 16) 6 (.int 0)) .nil
def S_lapply_239 : Ss := .cons (.assign 16 (.sub (.var 2) (.var 15))) S_lapply_240
def S_lapply_238 : Ss := .cons (.forR 15 (.bin .Add (.var 3) (.int 1)) (.var 4) S_lapply_239) .nil
def S_lapply_237 : Ss := .cons (.ite (.cmp .Gt (.bin .Sub (.var 6) (.var 5)) (.int 2)) S_lapply_238 .nil) S_lapply_241
def S_lapply_236 : Ss := .cons (.setItem (.var 11) 1 (.slice (.item (.var 11) 1) (.var 7) .none)) S_lapply_237
def S_lapply_235 : Ss := .cons (.setItem (.var 10) 1 (.slice (.item (.var 10) 1) .none (.bin .Sub (.len (.item (.var 10) 1)) (.var 7)))) S_lapply_236
def S_lapply_234 : Ss := .cons (.assign 11 (.sub (.var 0) (.var 6))) S_lapply_235
def S_lapply_233 : Ss := .cons (.assign 10 (.sub (.var 0) (.var 5))) S_lapply_234
def S_lapply_232 : Ss := .cons (.assign 9 (.and (.cmp .Eq (.bin .Sub (.var 6) (.var 5)) (.int 2)) (.cmp .GtE (.sub (.var 1) (.bin .Add (.var 5) (.int 1))) (.int 0)))) S_lapply_233
def S_lapply : Ss := .cons (.assign 8 (.slice (.var 0) (.bin .Add (.var 5) (.int 1)) (.var 6))) S_lapply_232
theorem ok_lapply {P : Params} : (fnAt (hd.heap_39 P) 263 n_lapply).Ok := ok_of (by kernel_rfl)
set_option maxHeartbeats 8000000 in
theorem snd_lapply {c : Cx} {P : Params} (hK : c.K = hd.heap_39 P) : SndSs c (fnAt (hd.heap_39 P) 263 n_lapply) (bodyAt (hd.heap_39 P) 263) S_lapply :=
  have hf := ok_lapply (P := P)
  (cons_ss (assign_s (x := 8) hf (by kernel_rfl) (slc_sound (var_sound (x := 0) hf (by kernel_rfl)) (part_some (bin_e (var_sound (x := 5) hf (by kernel_rfl)) const_int)) (part_some (var_sound (x := 6) hf (by kernel_rfl)))) (fun _ => by kernel_rfl)) (cons_ss (assign_s (x := 9) hf (by kernel_rfl) (and_e (cmp_e (bin_e (var_sound (x := 6) hf (by kernel_rfl)) (var_sound (x := 5) hf (by kernel_rfl))) const_int rfl) (one_e (cmp_e (sub_sound (var_sound (x := 1) hf (by kernel_rfl)) (bin_e (var_sound (x := 5) hf (by kernel_rfl)) const_int) rfl) const_int rfl))) (fun _ => by kernel_rfl)) (cons_ss (assign_s (x := 10) hf (by kernel_rfl) (sub_sound (var_sound (x := 0) hf (by kernel_rfl)) (var_sound (x := 5) hf (by kernel_rfl)) rfl) (fun _ => by kernel_rfl)) (cons_ss (assign_s (x := 11) hf (by kernel_rfl) (sub_sound (var_sound (x := 0) hf (by kernel_rfl)) (var_sound (x := 6) hf (by kernel_rfl)) rfl) (fun _ => by kernel_rfl)) (cons_ss (setItem_k (k := 1) (slc_sound (item_k (k := 1) (var_sound (x := 10) hf (by kernel_rfl)) (by kernel_rfl)) rfl (part_some (bin_e (len_e (by kernel_rfl) hf (by kernel_rfl) (ns_len hK) rfl (item_k (k := 1) (var_sound (x := 10) hf (by kernel_rfl)) (by kernel_rfl))) (var_sound (x := 7) hf (by kernel_rfl))))) (var_sound (x := 10) hf (by kernel_rfl)) (by kernel_rfl) (fun _ => by kernel_rfl)) (cons_ss (setItem_k (k := 1) (slc_sound (item_k (k := 1) (var_sound (x := 11) hf (by kernel_rfl)) (by kernel_rfl)) (part_some (var_sound (x := 7) hf (by kernel_rfl))) rfl) (var_sound (x := 11) hf (by kernel_rfl)) (by kernel_rfl) (fun _ => by kernel_rfl)) (cons_ss (if_s (cmp_t (bin_e (var_sound (x := 6) hf (by kernel_rfl)) (var_sound (x := 5) hf (by kernel_rfl))) const_int rfl) (cons_ss (forR2_k (x := 15) (by kernel_rfl) hf (by kernel_rfl) (by kernel_rfl) (ns_range hK) rfl rfl (bin_e (var_sound (x := 3) hf (by kernel_rfl)) const_int) (var_sound (x := 4) hf (by kernel_rfl)) (cons_ss (assign_s (x := 16) hf (by kernel_rfl) (sub_sound (var_sound (x := 2) hf (by kernel_rfl)) (var_sound (x := 15) hf (by kernel_rfl)) rfl) (fun _ => by kernel_rfl)) (cons_ss (setItem_k (k := 6) const_int (var_sound (x := 16) hf (by kernel_rfl)) (by kernel_rfl) (fun _ => by kernel_rfl)) nil_ss))) nil_ss) nil_ss) (cons_ss (assign_s (x := 12) hf (by kernel_rfl) (sub_sound (var_sound (x := 2) hf (by kernel_rfl)) (var_sound (x := 3) hf (by kernel_rfl)) rfl) (fun _ => by kernel_rfl)) (cons_ss (assign_s (x := 13) hf (by kernel_rfl) (sub_sound (var_sound (x := 2) hf (by kernel_rfl)) (var_sound (x := 4) hf (by kernel_rfl)) rfl) (fun _ => by kernel_rfl)) (cons_ss (setItem_k (k := 6) (bin_e (item_k (k := 6) (var_sound (x := 12) hf (by kernel_rfl)) (by kernel_rfl)) (var_sound (x := 7) hf (by kernel_rfl))) (var_sound (x := 12) hf (by kernel_rfl)) (by kernel_rfl) (fun _ => by kernel_rfl)) (cons_ss (setItem_k (k := 6) (bin_e (item_k (k := 6) (var_sound (x := 13) hf (by kernel_rfl)) (by kernel_rfl)) (var_sound (x := 7) hf (by kernel_rfl))) (var_sound (x := 13) hf (by kernel_rfl)) (by kernel_rfl) (fun _ => by kernel_rfl)) (cons_ss (if_s (cmp_t (item_k (k := 6) (var_sound (x := 12) hf (by kernel_rfl)) (by kernel_rfl)) const_int rfl) (cons_ss (setItem_k (k := 7) const_bool (var_sound (x := 12) hf (by kernel_rfl)) (by kernel_rfl) (fun _ => by kernel_rfl)) nil_ss) nil_ss) (cons_ss (if_s (cmp_t (item_k (k := 6) (var_sound (x := 13) hf (by kernel_rfl)) (by kernel_rfl)) const_int rfl) (cons_ss (setItem_k (k := 8) const_bool (var_sound (x := 13) hf (by kernel_rfl)) (by kernel_rfl) (fun _ => by kernel_rfl)) nil_ss) nil_ss) (cons_ss (assign_s (x := 14) hf (by kernel_rfl) (dict_sound (KeysAre.k (k := 0) (by decide) (by kernel_rfl) (KeysAre.k (k := 2) (by decide) (by kernel_rfl) KeysAre.nil)) (SndEs.cons rfl (ite_e (cmp_t (var_sound (x := 7) hf (by kernel_rfl)) const_int rfl) (str_k (by kernel_rfl)) (str_k (by kernel_rfl))) (SndEs.cons rfl (var_sound (x := 8) hf (by kernel_rfl)) SndEs.nil)) rfl (List.cons_ne_nil _ _) (Nat.le_of_ble_eq_true rfl) (by decide)) (fun _ => by kernel_rfl)) (cons_ss (ret_s (tup_sound (SndEs.cons rfl (bin_e (bin_e (slc_sound (var_sound (x := 0) hf (by kernel_rfl)) rfl (part_some (bin_e (var_sound (x := 5) hf (by kernel_rfl)) const_int))) (list_sound (SndEs.cons rfl (var_sound (x := 14) hf (by kernel_rfl)) SndEs.nil) (Nat.le_of_ble_eq_true rfl))) (slc_sound (var_sound (x := 0) hf (by kernel_rfl)) (part_some (var_sound (x := 6) hf (by kernel_rfl))) rfl)) (SndEs.cons rfl (bin_e (bin_e (slc_sound (var_sound (x := 1) hf (by kernel_rfl)) rfl (part_some (bin_e (var_sound (x := 5) hf (by kernel_rfl)) const_int))) (list_sound (SndEs.cons rfl (neg_e const_int) SndEs.nil) (Nat.le_of_ble_eq_true rfl))) (slc_sound (var_sound (x := 1) hf (by kernel_rfl)) (part_some (var_sound (x := 6) hf (by kernel_rfl))) rfl)) (SndEs.cons rfl (var_sound (x := 9) hf (by kernel_rfl)) SndEs.nil))) (Nat.le_of_ble_eq_true rfl))) nil_ss)))))))))))))))
theorem in_lapply {c : Cx} {P : Params} (hK : c.K = hd.heap_39 P) : FnIn c (fnAt (hd.heap_39 P) 263 n_lapply) (fdAt (hd.heap_39 P) 263) (bodyAt (hd.heap_39 P) 263) 8 := by
  refine fnIn_eq hK (by kernel_rfl) (fun L => by kernel_rfl) ?_
  intro cvs h0
  obtain ⟨a0, t0, rfl, h1⟩ := len_succ h0
  obtain ⟨a1, t1, rfl, h2⟩ := len_succ h1
  obtain ⟨a2, t2, rfl, h3⟩ := len_succ h2
  obtain ⟨a3, t3, rfl, h4⟩ := len_succ h3
  obtain ⟨a4, t4, rfl, h5⟩ := len_succ h4
  obtain ⟨a5, t5, rfl, h6⟩ := len_succ h5
  obtain ⟨a6, t6, rfl, h7⟩ := len_succ h6
  obtain ⟨a7, t7, rfl, h8⟩ := len_succ h7
  obtain rfl := len_zero h8
  kernel_rfl
def n_lsame : List Str := [("parts" : Str), ("mine" : Str), ("delimiters" : Str), ("rows" : Str), ("index" : Str), ("owner" : Str), ("k" : Str), ("one" : Str), ("row" : Str)]
def S_lsame_262 : Ss := .cons (.ret (.bool true)) .nil
def S_lsame_261 : Ss := .cons (.ret (.bool false)) .nil
def S_lsame_260 : Ss := .cons (.ite (.and (.cmp .GtE (.sub (.var 5) (.var 6)) (.int 0)) (.cmp .NotEq (.meth 4 133 102 (.cons (.sub (.var 2) (.sub (.var 5) (.var 6))) .nil)) (.var 6))) S_lsame_261 .nil) .nil
def S_lsame_259 : Ss := .cons (.forR 6 (.int 0) (.len (.var 5)) S_lsame_260) S_lsame_262
def S_lsame_258 : Ss := .cons (.ret (.bool false)) .nil
def S_lsame_257 : Ss := .cons (.ite (.or (.cmp .NotEq (.attr 7 12) (.item (.var 8) 6)) (.or (.cmp .NotEq (.attr 7 13) (.item (.var 8) 7)) (.cmp .NotEq (.attr 7 14) (.item (.var 8) 8)))) S_lsame_258 .nil) .nil
def S_lsame_256 : Ss := .cons (.assign 8 (.sub (.var 3) (.var 6))) S_lsame_257
def S_lsame_255 : Ss := .cons (.assign 7 (.sub (.var 2) (.var 6))) S_lsame_256
def S_lsame_254 : Ss := .cons (.forR 6 (.int 0) (.len (.var 3)) S_lsame_255) S_lsame_259
def S_lsame_253 : Ss := .cons (.ret (.bool false)) .nil
def S_lsame : Ss := .cons (.ite (.cmp .NotEq (.var 0) (.var 1)) S_lsame_253 .nil) S_lsame_254
theorem ok_lsame {P : Params} : (fnAt (hd.heap_39 P) 270 n_lsame).Ok := ok_of (by kernel_rfl)
set_option maxHeartbeats 8000000 in
theorem snd_lsame {c : Cx} {P : Params} (hK : c.K = hd.heap_39 P) : SndSs c (fnAt (hd.heap_39 P) 270 n_lsame) (bodyAt (hd.heap_39 P) 270) S_lsame :=
  have hf := ok_lsame (P := P)
  (cons_ss (if_s (cmp_t (var_sound (x := 0) hf (by kernel_rfl)) (var_sound (x := 1) hf (by kernel_rfl)) rfl) (cons_ss (ret_s const_bool) nil_ss) nil_ss) (cons_ss (forR1_k (x := 6) (by kernel_rfl) hf (by kernel_rfl) (by kernel_rfl) (ns_range hK) rfl (len_e (by kernel_rfl) hf (by kernel_rfl) (ns_len hK) rfl (var_sound (x := 3) hf (by kernel_rfl))) (cons_ss (assign_s (x := 7) hf (by kernel_rfl) (sub_sound (var_sound (x := 2) hf (by kernel_rfl)) (var_sound (x := 6) hf (by kernel_rfl)) rfl) (fun _ => by kernel_rfl)) (cons_ss (assign_s (x := 8) hf (by kernel_rfl) (sub_sound (var_sound (x := 3) hf (by kernel_rfl)) (var_sound (x := 6) hf (by kernel_rfl)) rfl) (fun _ => by kernel_rfl)) (cons_ss (if_s (or_t (cmp_t (attr_k (k := 12) (x := 7) hf (by kernel_rfl) (by kernel_rfl)) (item_k (k := 6) (var_sound (x := 8) hf (by kernel_rfl)) (by kernel_rfl)) rfl) (or_t (cmp_t (attr_k (k := 13) (x := 7) hf (by kernel_rfl) (by kernel_rfl)) (item_k (k := 7) (var_sound (x := 8) hf (by kernel_rfl)) (by kernel_rfl)) rfl) (or1_t (cmp_t (attr_k (k := 14) (x := 7) hf (by kernel_rfl) (by kernel_rfl)) (item_k (k := 8) (var_sound (x := 8) hf (by kernel_rfl)) (by kernel_rfl)) rfl)))) (cons_ss (ret_s const_bool) nil_ss) nil_ss) nil_ss)))) (cons_ss (forR1_k (x := 6) (by kernel_rfl) hf (by kernel_rfl) (by kernel_rfl) (ns_range hK) rfl (len_e (by kernel_rfl) hf (by kernel_rfl) (ns_len hK) rfl (var_sound (x := 5) hf (by kernel_rfl))) (cons_ss (if_s (and_t (cmp_t (sub_sound (var_sound (x := 5) hf (by kernel_rfl)) (var_sound (x := 6) hf (by kernel_rfl)) rfl) const_int rfl) (and1_t (cmp_t (meth_k (C := 133) (g := 102) (name := "current") (by kernel_rfl) (x := 4) hf (by kernel_rfl) (Nat.le_of_ble_eq_true rfl) (by kernel_rfl) (mget_102 hK) (mfind_102 hK) (mfn_102 hK) (by decide +kernel) (keep_102 hK) (SndEs.cons rfl (sub_sound (var_sound (x := 2) hf (by kernel_rfl)) (sub_sound (var_sound (x := 5) hf (by kernel_rfl)) (var_sound (x := 6) hf (by kernel_rfl)) rfl) rfl) SndEs.nil) (List.cons_ne_nil _ _)) (var_sound (x := 6) hf (by kernel_rfl)) rfl))) (cons_ss (ret_s const_bool) nil_ss) nil_ss) nil_ss)) (cons_ss (ret_s const_bool) nil_ss))))
theorem in_lsame {c : Cx} {P : Params} (hK : c.K = hd.heap_39 P) : FnIn c (fnAt (hd.heap_39 P) 270 n_lsame) (fdAt (hd.heap_39 P) 270) (bodyAt (hd.heap_39 P) 270) 6 := by
  refine fnIn_eq hK (by kernel_rfl) (fun L => by kernel_rfl) ?_
  intro cvs h0
  obtain ⟨a0, t0, rfl, h1⟩ := len_succ h0
  obtain ⟨a1, t1, rfl, h2⟩ := len_succ h1
  obtain ⟨a2, t2, rfl, h3⟩ := len_succ h2
  obtain ⟨a3, t3, rfl, h4⟩ := len_succ h3
  obtain ⟨a4, t4, rfl, h5⟩ := len_succ h4
  obtain ⟨a5, t5, rfl, h6⟩ := len_succ h5
  obtain rfl := len_zero h6
  kernel_rfl
def n_lsteps : List Str := [("box" : Str), ("rows" : Str), ("closers" : Str), ("k" : Str), ("closer" : Str)]
def S_lsteps_271 : Ss := .cons (.ret (.tup (.cons (.var 4) (.cons (.call 207 (.cons (.var 0) (.cons (.bin .Add (.var 4) (.int 1)) .nil))) (.cons (.call 207 (.cons (.var 0) (.cons (.len (.var 1)) .nil))) .nil))))) .nil
def S_lsteps_270 : Ss := .cons (.assign 4 (.sub (.var 2) (.call 207 (.cons (.var 0) (.cons (.len (.var 2)) .nil))))) S_lsteps_271
def S_lsteps_269 : Ss := .cons (.ret (.tup (.cons (.neg (.int 1)) (.cons (.int 0) (.cons (.int 0) .nil))))) .nil
def S_lsteps_268 : Ss := .cons (.ite (.not (.var 2)) S_lsteps_269 .nil) S_lsteps_270
def S_lsteps_267 : Ss := .cons (.expr (.append 2 (.var 3))) .nil
def S_lsteps_266 : Ss := .cons (.ite (.and (.item (.sub (.var 1) (.var 3)) 8) (.cmp .Gt (.item (.sub (.var 1) (.var 3)) 6) (.int 0))) S_lsteps_267 .nil) .nil
def S_lsteps_265 : Ss := .cons (.forR 3 (.int 0) (.len (.var 1)) S_lsteps_266) S_lsteps_268
def S_lsteps : Ss := .cons (.assign 2 (.list .nil)) S_lsteps_265
theorem ok_lsteps {P : Params} : (fnAt (hd.heap_39 P) 277 n_lsteps).Ok := ok_of (by kernel_rfl)
set_option maxHeartbeats 8000000 in
theorem snd_lsteps {c : Cx} {P : Params} (hK : c.K = hd.heap_39 P) : SndSs c (fnAt (hd.heap_39 P) 277 n_lsteps) (bodyAt (hd.heap_39 P) 277) S_lsteps :=
  have hf := ok_lsteps (P := P)
  (cons_ss (assign_s (x := 2) hf (by kernel_rfl) (list_sound SndEs.nil (Nat.le_of_ble_eq_true rfl)) (fun _ => by kernel_rfl)) (cons_ss (forR1_k (x := 3) (by kernel_rfl) hf (by kernel_rfl) (by kernel_rfl) (ns_range hK) rfl (len_e (by kernel_rfl) hf (by kernel_rfl) (ns_len hK) rfl (var_sound (x := 1) hf (by kernel_rfl))) (cons_ss (if_s (and_t (item_kt (k := 8) (sub_sound (var_sound (x := 1) hf (by kernel_rfl)) (var_sound (x := 3) hf (by kernel_rfl)) rfl) (by kernel_rfl)) (and1_t (cmp_t (item_k (k := 6) (sub_sound (var_sound (x := 1) hf (by kernel_rfl)) (var_sound (x := 3) hf (by kernel_rfl)) rfl) (by kernel_rfl)) const_int rfl))) (cons_ss (expr_s (append_k (by kernel_rfl) (x := 2) hf (by kernel_rfl) (by kernel_rfl) rfl (var_sound (x := 3) hf (by kernel_rfl))) (fun _ => by kernel_rfl) (fun _ => by kernel_rfl)) nil_ss) nil_ss) nil_ss)) (cons_ss (if_s (not_t (var_t (x := 2) hf (by kernel_rfl))) (cons_ss (ret_s (tup_sound (SndEs.cons rfl (neg_e const_int) (SndEs.cons rfl const_int (SndEs.cons rfl const_int SndEs.nil))) (Nat.le_of_ble_eq_true rfl))) nil_ss) nil_ss) (cons_ss (assign_s (x := 4) hf (by kernel_rfl) (sub_sound (var_sound (x := 2) hf (by kernel_rfl)) (call_k (a := 207) (z := "_law_draw") (by kernel_rfl) hf (by kernel_rfl) (by kernel_rfl) (ns_at_207 hK) (keep_207 hK) (SndEs.cons rfl (var_sound (x := 0) hf (by kernel_rfl)) (SndEs.cons rfl (len_e (by kernel_rfl) hf (by kernel_rfl) (ns_len hK) rfl (var_sound (x := 2) hf (by kernel_rfl))) SndEs.nil)) (List.cons_ne_nil _ _)) rfl) (fun _ => by kernel_rfl)) (cons_ss (ret_s (tup_sound (SndEs.cons rfl (var_sound (x := 4) hf (by kernel_rfl)) (SndEs.cons rfl (call_k (a := 207) (z := "_law_draw") (by kernel_rfl) hf (by kernel_rfl) (by kernel_rfl) (ns_at_207 hK) (keep_207 hK) (SndEs.cons rfl (var_sound (x := 0) hf (by kernel_rfl)) (SndEs.cons rfl (bin_e (var_sound (x := 4) hf (by kernel_rfl)) const_int) SndEs.nil)) (List.cons_ne_nil _ _)) (SndEs.cons rfl (call_k (a := 207) (z := "_law_draw") (by kernel_rfl) hf (by kernel_rfl) (by kernel_rfl) (ns_at_207 hK) (keep_207 hK) (SndEs.cons rfl (var_sound (x := 0) hf (by kernel_rfl)) (SndEs.cons rfl (len_e (by kernel_rfl) hf (by kernel_rfl) (ns_len hK) rfl (var_sound (x := 1) hf (by kernel_rfl))) SndEs.nil)) (List.cons_ne_nil _ _)) SndEs.nil))) (Nat.le_of_ble_eq_true rfl))) nil_ss)))))
theorem in_lsteps {c : Cx} {P : Params} (hK : c.K = hd.heap_39 P) : FnIn c (fnAt (hd.heap_39 P) 277 n_lsteps) (fdAt (hd.heap_39 P) 277) (bodyAt (hd.heap_39 P) 277) 2 := by
  refine fnIn_eq hK (by kernel_rfl) (fun L => by kernel_rfl) ?_
  intro cvs h0
  obtain ⟨a0, t0, rfl, h1⟩ := len_succ h0
  obtain ⟨a1, t1, rfl, h2⟩ := len_succ h1
  obtain rfl := len_zero h2
  kernel_rfl
def n_lat : List Str := [("owner" : Str), ("order" : Str), ("k" : Str)]
def S_lat_276 : Ss := .cons (.ret (.neg (.int 1))) .nil
def S_lat_275 : Ss := .cons (.ret (.var 2)) .nil
def S_lat_274 : Ss := .cons (.ite (.cmp .Eq (.sub (.var 0) (.var 2)) (.var 1)) S_lat_275 .nil) .nil
def S_lat : Ss := .cons (.forR 2 (.int 0) (.len (.var 0)) S_lat_274) S_lat_276
theorem ok_lat {P : Params} : (fnAt (hd.heap_39 P) 284 n_lat).Ok := ok_of (by kernel_rfl)
set_option maxHeartbeats 8000000 in
theorem snd_lat {c : Cx} {P : Params} (hK : c.K = hd.heap_39 P) : SndSs c (fnAt (hd.heap_39 P) 284 n_lat) (bodyAt (hd.heap_39 P) 284) S_lat :=
  have hf := ok_lat (P := P)
  (cons_ss (forR1_k (x := 2) (by kernel_rfl) hf (by kernel_rfl) (by kernel_rfl) (ns_range hK) rfl (len_e (by kernel_rfl) hf (by kernel_rfl) (ns_len hK) rfl (var_sound (x := 0) hf (by kernel_rfl))) (cons_ss (if_s (cmp_t (sub_sound (var_sound (x := 0) hf (by kernel_rfl)) (var_sound (x := 2) hf (by kernel_rfl)) rfl) (var_sound (x := 1) hf (by kernel_rfl)) rfl) (cons_ss (ret_s (var_sound (x := 2) hf (by kernel_rfl))) nil_ss) nil_ss) nil_ss)) (cons_ss (ret_s (neg_e const_int)) nil_ss))
theorem in_lat {c : Cx} {P : Params} (hK : c.K = hd.heap_39 P) : FnIn c (fnAt (hd.heap_39 P) 284 n_lat) (fdAt (hd.heap_39 P) 284) (bodyAt (hd.heap_39 P) 284) 2 := by
  refine fnIn_eq hK (by kernel_rfl) (fun L => by kernel_rfl) ?_
  intro cvs h0
  obtain ⟨a0, t0, rfl, h1⟩ := len_succ h0
  obtain ⟨a1, t1, rfl, h2⟩ := len_succ h1
  obtain rfl := len_zero h2
  kernel_rfl
def n_law : List Str := [("script" : Str), ("box" : Str), ("bound" : Str), ("turns" : Str), ("parts" : Str), ("delimiters" : Str), ("k" : Str), ("index" : Str), ("turn" : Str), ("mine" : Str), ("owner" : Str), ("rows" : Str), ("told" : Str), ("found" : Str), ("row" : Str), ("closer" : Str), ("bottom" : Str), ("other" : Str), ("first" : Str), ("second" : Str), ("use" : Str), ("held" : Str), ("kids" : Str), ("lone" : Str)]
def S_law_324 : Ss := .cons (.ret (.call 270 (.cons (.var 4) (.cons (.var 9) (.cons (.var 5) (.cons (.var 11) (.cons (.var 7) (.cons (.var 10) .nil)))))))) .nil
def S_law_302 : Ss := .cons (.ret (.bool false)) .nil
def S_law_301 : Ss := .cons (.ite (.cmp .IsNot (.var 12) .none) S_law_302 .nil) .nil
def S_law_323 : Ss := .cons (.ret (.cmp .Eq (.len (.var 4)) (.len (.var 9)))) .nil
def S_law_322 : Ss := .cons (.ite (.var 23) S_law_323 .nil) .nil
def S_law_321 : Ss := .cons (.ret (.bool false)) .nil
def S_law_320 : Ss := .cons (.ite (.not (.call 270 (.cons (.var 4) (.cons (.var 9) (.cons (.var 5) (.cons (.var 11) (.cons (.var 7) (.cons (.var 10) .nil)))))))) S_law_321 .nil) S_law_322
def S_law_319 : Ss := .cons (.unpack [9, 10, 23] (.call 263 (.cons (.var 9) (.cons (.var 10) (.cons (.var 11) (.cons (.var 13) (.cons (.var 15) (.cons (.var 18) (.cons (.var 19) (.cons (.var 20) .nil)))))))))) S_law_320
def S_law_318 : Ss := .cons (.expr (.call 165 (.cons (.var 4) (.cons (.var 5) (.cons (.var 7) (.cons (.sub (.var 5) (.var 13)) (.cons (.sub (.var 5) (.var 15)) (.cons (.var 13) (.cons (.var 15) (.cons (.var 18) (.cons (.var 19) (.cons (.var 20) (.cons (.var 22) .nil))))))))))))) S_law_319
def S_law_317 : Ss := .cons (.ite (.and (.cmp .IsNot (.var 20) .none) (.cmp .IsNot (.var 21) .none)) S_law_318 .nil) .nil
def S_law_316 : Ss := .cons (.ret (.bool false)) .nil
def S_law_315 : Ss := .cons (.ite (.cmp .NotEq (.var 22) (.var 21)) S_law_316 .nil) S_law_317
def S_law_314 : Ss := .cons (.assign 22 (.call 158 (.cons (.var 4) (.cons (.var 18) (.cons (.var 19) (.cons (.var 2) .nil)))))) S_law_315
def S_law_313 : Ss := .cons (.ret (.bool false)) .nil
def S_law_312 : Ss := .cons (.ite (.cmp .NotEq (.call 151 (.cons (.var 4) (.cons (.sub (.var 5) (.var 13)) (.cons (.sub (.var 5) (.var 15)) (.cons (.var 18) (.cons (.var 19) .nil)))))) (.var 20)) S_law_313 .nil) S_law_314
def S_law_311 : Ss := .cons (.assign 21 (.call 256 (.cons (.var 9) (.cons (.var 18) (.cons (.var 19) (.cons (.var 2) .nil)))))) S_law_312
def S_law_310 : Ss := .cons (.assign 20 (.call 249 (.cons (.var 9) (.cons (.sub (.var 11) (.var 13)) (.cons (.sub (.var 11) (.var 15)) (.cons (.var 18) (.cons (.var 19) .nil))))))) S_law_311
def S_law_309 : Ss := .cons (.ret (.bool false)) .nil
def S_law_308 : Ss := .cons (.ite (.or (.cmp .NotEq (.meth 7 133 102 (.cons (.sub (.var 5) (.var 13)) .nil)) (.var 18)) (.cmp .NotEq (.meth 7 133 102 (.cons (.sub (.var 5) (.var 15)) .nil)) (.var 19))) S_law_309 .nil) S_law_310
def S_law_307 : Ss := .cons (.assign 19 (.call 284 (.cons (.var 10) (.cons (.var 15) .nil)))) S_law_308
def S_law_306 : Ss := .cons (.assign 18 (.call 284 (.cons (.var 10) (.cons (.var 13) .nil)))) S_law_307
def S_law_305 : Ss := .cons (.ret (.bool false)) .nil
def S_law_304 : Ss := .cons (.ite (.or (.cmp .Is (.var 12) .none) (.or (.cmp .NotEq (.sub (.var 12) (.int 0)) (.var 13)) (.cmp .IsNot (.sub (.var 12) (.int 1)) (.sub (.var 5) (.var 13))))) S_law_305 .nil) S_law_306
def S_law_300 : Ss := .cons (.ite (.cmp .Lt (.var 13) (.int 0)) S_law_301 S_law_304) .nil
def S_law_299 : Ss := .cons (.assign 13 (.call 242 (.cons (.var 11) (.cons (.var 15) (.cons (.var 16) .nil))))) S_law_300
def S_law_298 : Ss := .cons (.assign 12 (.call 144 (.cons (.var 5) (.cons (.var 15) (.cons (.sub (.var 5) (.var 15)) (.cons (.var 16) .nil)))))) S_law_299
def S_law_297 : Ss := .cons (.ret (.bool false)) .nil
def S_law_296 : Ss := .cons (.ite (.cmp .IsNot (.call 200 (.cons (.sub (.var 5) (.var 17)) (.cons (.sub (.var 5) (.var 15)) .nil))) (.call 235 (.cons (.sub (.var 11) (.var 17)) (.cons (.sub (.var 11) (.var 15)) .nil)))) S_law_297 .nil) S_law_298
def S_law_295 : Ss := .cons (.ret (.call 270 (.cons (.var 4) (.cons (.var 9) (.cons (.var 5) (.cons (.var 11) (.cons (.var 7) (.cons (.var 10) .nil)))))))) .nil
def S_law_294 : Ss := .cons (.ite (.cmp .Lt (.var 15) (.int 0)) S_law_295 .nil) S_law_296
def S_law_293 : Ss := .cons (.unpack [15, 16, 17] (.call 277 (.cons (.var 1) (.cons (.var 11) .nil)))) S_law_294
def S_law_292 : Ss := .cons (.forR 8 (.int 0) (.var 3) S_law_293) S_law_324
def S_law_291 : Ss := .cons (.assign 7 (.call 133 (.cons (.listOf (.var 5)) (.cons (.len (.var 4)) .nil)))) S_law_292
def S_law_290 : Ss := .cons (.expr (.append 5 (.call 77 (.cons (.var 6) (.cons (.item (.var 14) 5) (.cons (.item (.var 14) 6) (.cons (.item (.var 14) 7) (.cons (.item (.var 14) 8) (.cons (.item (.var 14) 9) (.cons (.sub (.var 10) (.var 6)) .nil)))))))))) .nil
def S_law_289 : Ss := .cons (.assign 14 (.sub (.var 11) (.sub (.var 10) (.var 6)))) S_law_290
def S_law_288 : Ss := .cons (.ite (.cmp .GtE (.sub (.var 10) (.var 6)) (.int 0)) S_law_289 .nil) .nil
def S_law_287 : Ss := .cons (.expr (.append 4 (.dictOf (.sub (.var 9) (.var 6))))) S_law_288
def S_law_286 : Ss := .cons (.forR 6 (.int 0) (.len (.var 9)) S_law_287) S_law_291
def S_law_285 : Ss := .cons (.assign 5 (.list .nil)) S_law_286
def S_law_284 : Ss := .cons (.assign 4 (.list .nil)) S_law_285
def S_law_283 : Ss := .cons (.ret (.cmp .Gt (.var 3) (.int 0))) .nil
def S_law_282 : Ss := .cons (.ite (.not (.var 11)) S_law_283 .nil) S_law_284
def S_law_281 : Ss := .cons (.assign 3 (.bin .Add (.int 3) (.call 207 (.cons (.var 1) (.cons (.int 6) .nil))))) S_law_282
def S_law_280 : Ss := .cons (.assign 2 (.sub (.list (.cons (.int 20) (.cons (.int 20) (.cons (.int 1) (.cons (.int 2) (.cons (.int 3) .nil)))))) (.call 207 (.cons (.var 1) (.cons (.int 5) .nil))))) S_law_281
def S_law_279 : Ss := .cons (.unpack [9, 10, 11] (.call 221 (.cons (.var 1) .nil))) S_law_280
def S_law : Ss := .cons (.assign 1 (.list (.cons (.var 0) (.cons (.int 0) (.cons (.int 1) .nil))))) S_law_279
theorem ok_law {P : Params} : (fnAt (hd.heap_39 P) 291 n_law).Ok := ok_of (by kernel_rfl)
set_option maxHeartbeats 8000000 in
theorem snd_law {c : Cx} {P : Params} (hK : c.K = hd.heap_39 P) : SndSs c (fnAt (hd.heap_39 P) 291 n_law) (bodyAt (hd.heap_39 P) 291) S_law :=
  have hf := ok_law (P := P)
  (cons_ss (assign_s (x := 1) hf (by kernel_rfl) (list_sound (SndEs.cons rfl (var_sound (x := 0) hf (by kernel_rfl)) (SndEs.cons rfl const_int (SndEs.cons rfl const_int SndEs.nil))) (Nat.le_of_ble_eq_true rfl)) (fun _ => by kernel_rfl)) (cons_ss (unpack_s hf (TgtsAre.cons (x := 9) (by kernel_rfl) (TgtsAre.cons (x := 10) (by kernel_rfl) (TgtsAre.cons (x := 11) (by kernel_rfl) TgtsAre.nil))) (call_k (a := 221) (z := "_law_shape") (by kernel_rfl) hf (by kernel_rfl) (by kernel_rfl) (ns_at_221 hK) (keep_221 hK) (SndEs.cons rfl (var_sound (x := 1) hf (by kernel_rfl)) SndEs.nil) (List.cons_ne_nil _ _)) (fun _ => by kernel_rfl) (fun _ => by kernel_rfl)) (cons_ss (assign_s (x := 2) hf (by kernel_rfl) (sub_sound (list_sound (SndEs.cons rfl const_int (SndEs.cons rfl const_int (SndEs.cons rfl const_int (SndEs.cons rfl const_int (SndEs.cons rfl const_int SndEs.nil))))) (Nat.le_of_ble_eq_true rfl)) (call_k (a := 207) (z := "_law_draw") (by kernel_rfl) hf (by kernel_rfl) (by kernel_rfl) (ns_at_207 hK) (keep_207 hK) (SndEs.cons rfl (var_sound (x := 1) hf (by kernel_rfl)) (SndEs.cons rfl const_int SndEs.nil)) (List.cons_ne_nil _ _)) rfl) (fun _ => by kernel_rfl)) (cons_ss (assign_s (x := 3) hf (by kernel_rfl) (bin_e const_int (call_k (a := 207) (z := "_law_draw") (by kernel_rfl) hf (by kernel_rfl) (by kernel_rfl) (ns_at_207 hK) (keep_207 hK) (SndEs.cons rfl (var_sound (x := 1) hf (by kernel_rfl)) (SndEs.cons rfl const_int SndEs.nil)) (List.cons_ne_nil _ _))) (fun _ => by kernel_rfl)) (cons_ss (if_s (not_t (var_t (x := 11) hf (by kernel_rfl))) (cons_ss (ret_s (cmp_e (var_sound (x := 3) hf (by kernel_rfl)) const_int rfl)) nil_ss) nil_ss) (cons_ss (assign_s (x := 4) hf (by kernel_rfl) (list_sound SndEs.nil (Nat.le_of_ble_eq_true rfl)) (fun _ => by kernel_rfl)) (cons_ss (assign_s (x := 5) hf (by kernel_rfl) (list_sound SndEs.nil (Nat.le_of_ble_eq_true rfl)) (fun _ => by kernel_rfl)) (cons_ss (forR1_k (x := 6) (by kernel_rfl) hf (by kernel_rfl) (by kernel_rfl) (ns_range hK) rfl (len_e (by kernel_rfl) hf (by kernel_rfl) (ns_len hK) rfl (var_sound (x := 9) hf (by kernel_rfl))) (cons_ss (expr_s (append_k (by kernel_rfl) (x := 4) hf (by kernel_rfl) (by kernel_rfl) rfl (dictOf_e (by kernel_rfl) hf (by kernel_rfl) (ns_dict hK) rfl (sub_sound (var_sound (x := 9) hf (by kernel_rfl)) (var_sound (x := 6) hf (by kernel_rfl)) rfl))) (fun _ => by kernel_rfl) (fun _ => by kernel_rfl)) (cons_ss (if_s (cmp_t (sub_sound (var_sound (x := 10) hf (by kernel_rfl)) (var_sound (x := 6) hf (by kernel_rfl)) rfl) const_int rfl) (cons_ss (assign_s (x := 14) hf (by kernel_rfl) (sub_sound (var_sound (x := 11) hf (by kernel_rfl)) (sub_sound (var_sound (x := 10) hf (by kernel_rfl)) (var_sound (x := 6) hf (by kernel_rfl)) rfl) rfl) (fun _ => by kernel_rfl)) (cons_ss (expr_s (append_k (by kernel_rfl) (x := 5) hf (by kernel_rfl) (by kernel_rfl) rfl (call_k (a := 77) (z := "_Delimiter") (by kernel_rfl) hf (by kernel_rfl) (by kernel_rfl) (ns_at_77 hK) (keep_77 hK) (SndEs.cons rfl (var_sound (x := 6) hf (by kernel_rfl)) (SndEs.cons rfl (item_k (k := 5) (var_sound (x := 14) hf (by kernel_rfl)) (by kernel_rfl)) (SndEs.cons rfl (item_k (k := 6) (var_sound (x := 14) hf (by kernel_rfl)) (by kernel_rfl)) (SndEs.cons rfl (item_k (k := 7) (var_sound (x := 14) hf (by kernel_rfl)) (by kernel_rfl)) (SndEs.cons rfl (item_k (k := 8) (var_sound (x := 14) hf (by kernel_rfl)) (by kernel_rfl)) (SndEs.cons rfl (item_k (k := 9) (var_sound (x := 14) hf (by kernel_rfl)) (by kernel_rfl)) (SndEs.cons rfl (sub_sound (var_sound (x := 10) hf (by kernel_rfl)) (var_sound (x := 6) hf (by kernel_rfl)) rfl) SndEs.nil))))))) (List.cons_ne_nil _ _))) (fun _ => by kernel_rfl) (fun _ => by kernel_rfl)) nil_ss)) nil_ss) nil_ss))) (cons_ss (assign_s (x := 7) hf (by kernel_rfl) (call_k (a := 133) (z := "_DelimiterIndex") (by kernel_rfl) hf (by kernel_rfl) (by kernel_rfl) (ns_at_133 hK) (keep_133 hK) (SndEs.cons rfl (listOf_e (by kernel_rfl) hf (by kernel_rfl) (ns_list hK) rfl (var_sound (x := 5) hf (by kernel_rfl))) (SndEs.cons rfl (len_e (by kernel_rfl) hf (by kernel_rfl) (ns_len hK) rfl (var_sound (x := 4) hf (by kernel_rfl))) SndEs.nil)) (List.cons_ne_nil _ _)) (fun _ => by kernel_rfl)) (cons_ss (forR1_k (x := 8) (by kernel_rfl) hf (by kernel_rfl) (by kernel_rfl) (ns_range hK) rfl (var_sound (x := 3) hf (by kernel_rfl)) (cons_ss (unpack_s hf (TgtsAre.cons (x := 15) (by kernel_rfl) (TgtsAre.cons (x := 16) (by kernel_rfl) (TgtsAre.cons (x := 17) (by kernel_rfl) TgtsAre.nil))) (call_k (a := 277) (z := "_law_steps") (by kernel_rfl) hf (by kernel_rfl) (by kernel_rfl) (ns_at_277 hK) (keep_277 hK) (SndEs.cons rfl (var_sound (x := 1) hf (by kernel_rfl)) (SndEs.cons rfl (var_sound (x := 11) hf (by kernel_rfl)) SndEs.nil)) (List.cons_ne_nil _ _)) (fun _ => by kernel_rfl) (fun _ => by kernel_rfl)) (cons_ss (if_s (cmp_t (var_sound (x := 15) hf (by kernel_rfl)) const_int rfl) (cons_ss (ret_s (call_k (a := 270) (z := "_law_same") (by kernel_rfl) hf (by kernel_rfl) (by kernel_rfl) (ns_at_270 hK) (keep_270 hK) (SndEs.cons rfl (var_sound (x := 4) hf (by kernel_rfl)) (SndEs.cons rfl (var_sound (x := 9) hf (by kernel_rfl)) (SndEs.cons rfl (var_sound (x := 5) hf (by kernel_rfl)) (SndEs.cons rfl (var_sound (x := 11) hf (by kernel_rfl)) (SndEs.cons rfl (var_sound (x := 7) hf (by kernel_rfl)) (SndEs.cons rfl (var_sound (x := 10) hf (by kernel_rfl)) SndEs.nil)))))) (List.cons_ne_nil _ _))) nil_ss) nil_ss) (cons_ss (if_s (cmp_t (call_k (a := 200) (z := "_can_match_emphasis_delimiters") (by kernel_rfl) hf (by kernel_rfl) (by kernel_rfl) (ns_at_200 hK) (keep_200 hK) (SndEs.cons rfl (sub_sound (var_sound (x := 5) hf (by kernel_rfl)) (var_sound (x := 17) hf (by kernel_rfl)) rfl) (SndEs.cons rfl (sub_sound (var_sound (x := 5) hf (by kernel_rfl)) (var_sound (x := 15) hf (by kernel_rfl)) rfl) SndEs.nil)) (List.cons_ne_nil _ _)) (call_k (a := 235) (z := "_law_can") (by kernel_rfl) hf (by kernel_rfl) (by kernel_rfl) (ns_at_235 hK) (keep_235 hK) (SndEs.cons rfl (sub_sound (var_sound (x := 11) hf (by kernel_rfl)) (var_sound (x := 17) hf (by kernel_rfl)) rfl) (SndEs.cons rfl (sub_sound (var_sound (x := 11) hf (by kernel_rfl)) (var_sound (x := 15) hf (by kernel_rfl)) rfl) SndEs.nil)) (List.cons_ne_nil _ _)) rfl) (cons_ss (ret_s const_bool) nil_ss) nil_ss) (cons_ss (assign_s (x := 12) hf (by kernel_rfl) (call_k (a := 144) (z := "_find_emphasis_opener") (by kernel_rfl) hf (by kernel_rfl) (by kernel_rfl) (ns_at_144 hK) (keep_144 hK) (SndEs.cons rfl (var_sound (x := 5) hf (by kernel_rfl)) (SndEs.cons rfl (var_sound (x := 15) hf (by kernel_rfl)) (SndEs.cons rfl (sub_sound (var_sound (x := 5) hf (by kernel_rfl)) (var_sound (x := 15) hf (by kernel_rfl)) rfl) (SndEs.cons rfl (var_sound (x := 16) hf (by kernel_rfl)) SndEs.nil)))) (List.cons_ne_nil _ _)) (fun _ => by kernel_rfl)) (cons_ss (assign_s (x := 13) hf (by kernel_rfl) (call_k (a := 242) (z := "_law_find") (by kernel_rfl) hf (by kernel_rfl) (by kernel_rfl) (ns_at_242 hK) (keep_242 hK) (SndEs.cons rfl (var_sound (x := 11) hf (by kernel_rfl)) (SndEs.cons rfl (var_sound (x := 15) hf (by kernel_rfl)) (SndEs.cons rfl (var_sound (x := 16) hf (by kernel_rfl)) SndEs.nil))) (List.cons_ne_nil _ _)) (fun _ => by kernel_rfl)) (cons_ss (if_s (cmp_t (var_sound (x := 13) hf (by kernel_rfl)) const_int rfl) (cons_ss (if_s (cmp_t (var_sound (x := 12) hf (by kernel_rfl)) const_none rfl) (cons_ss (ret_s const_bool) nil_ss) nil_ss) nil_ss) (cons_ss (if_s (or_t (cmp_t (var_sound (x := 12) hf (by kernel_rfl)) const_none rfl) (or_t (cmp_t (sub_sound (var_sound (x := 12) hf (by kernel_rfl)) const_int rfl) (var_sound (x := 13) hf (by kernel_rfl)) rfl) (or1_t (cmp_t (sub_sound (var_sound (x := 12) hf (by kernel_rfl)) const_int rfl) (sub_sound (var_sound (x := 5) hf (by kernel_rfl)) (var_sound (x := 13) hf (by kernel_rfl)) rfl) rfl)))) (cons_ss (ret_s const_bool) nil_ss) nil_ss) (cons_ss (assign_s (x := 18) hf (by kernel_rfl) (call_k (a := 284) (z := "_law_at") (by kernel_rfl) hf (by kernel_rfl) (by kernel_rfl) (ns_at_284 hK) (keep_284 hK) (SndEs.cons rfl (var_sound (x := 10) hf (by kernel_rfl)) (SndEs.cons rfl (var_sound (x := 13) hf (by kernel_rfl)) SndEs.nil)) (List.cons_ne_nil _ _)) (fun _ => by kernel_rfl)) (cons_ss (assign_s (x := 19) hf (by kernel_rfl) (call_k (a := 284) (z := "_law_at") (by kernel_rfl) hf (by kernel_rfl) (by kernel_rfl) (ns_at_284 hK) (keep_284 hK) (SndEs.cons rfl (var_sound (x := 10) hf (by kernel_rfl)) (SndEs.cons rfl (var_sound (x := 15) hf (by kernel_rfl)) SndEs.nil)) (List.cons_ne_nil _ _)) (fun _ => by kernel_rfl)) (cons_ss (if_s (or_t (cmp_t (meth_k (C := 133) (g := 102) (name := "current") (by kernel_rfl) (x := 7) hf (by kernel_rfl) (Nat.le_of_ble_eq_true rfl) (by kernel_rfl) (mget_102 hK) (mfind_102 hK) (mfn_102 hK) (by decide +kernel) (keep_102 hK) (SndEs.cons rfl (sub_sound (var_sound (x := 5) hf (by kernel_rfl)) (var_sound (x := 13) hf (by kernel_rfl)) rfl) SndEs.nil) (List.cons_ne_nil _ _)) (var_sound (x := 18) hf (by kernel_rfl)) rfl) (or1_t (cmp_t (meth_k (C := 133) (g := 102) (name := "current") (by kernel_rfl) (x := 7) hf (by kernel_rfl) (Nat.le_of_ble_eq_true rfl) (by kernel_rfl) (mget_102 hK) (mfind_102 hK) (mfn_102 hK) (by decide +kernel) (keep_102 hK) (SndEs.cons rfl (sub_sound (var_sound (x := 5) hf (by kernel_rfl)) (var_sound (x := 15) hf (by kernel_rfl)) rfl) SndEs.nil) (List.cons_ne_nil _ _)) (var_sound (x := 19) hf (by kernel_rfl)) rfl))) (cons_ss (ret_s const_bool) nil_ss) nil_ss) (cons_ss (assign_s (x := 20) hf (by kernel_rfl) (call_k (a := 249) (z := "_law_use") (by kernel_rfl) hf (by kernel_rfl) (by kernel_rfl) (ns_at_249 hK) (keep_249 hK) (SndEs.cons rfl (var_sound (x := 9) hf (by kernel_rfl)) (SndEs.cons rfl (sub_sound (var_sound (x := 11) hf (by kernel_rfl)) (var_sound (x := 13) hf (by kernel_rfl)) rfl) (SndEs.cons rfl (sub_sound (var_sound (x := 11) hf (by kernel_rfl)) (var_sound (x := 15) hf (by kernel_rfl)) rfl) (SndEs.cons rfl (var_sound (x := 18) hf (by kernel_rfl)) (SndEs.cons rfl (var_sound (x := 19) hf (by kernel_rfl)) SndEs.nil))))) (List.cons_ne_nil _ _)) (fun _ => by kernel_rfl)) (cons_ss (assign_s (x := 21) hf (by kernel_rfl) (call_k (a := 256) (z := "_law_kids") (by kernel_rfl) hf (by kernel_rfl) (by kernel_rfl) (ns_at_256 hK) (keep_256 hK) (SndEs.cons rfl (var_sound (x := 9) hf (by kernel_rfl)) (SndEs.cons rfl (var_sound (x := 18) hf (by kernel_rfl)) (SndEs.cons rfl (var_sound (x := 19) hf (by kernel_rfl)) (SndEs.cons rfl (var_sound (x := 2) hf (by kernel_rfl)) SndEs.nil)))) (List.cons_ne_nil _ _)) (fun _ => by kernel_rfl)) (cons_ss (if_s (cmp_t (call_k (a := 151) (z := "_get_emphasis_use_length") (by kernel_rfl) hf (by kernel_rfl) (by kernel_rfl) (ns_at_151 hK) (keep_151 hK) (SndEs.cons rfl (var_sound (x := 4) hf (by kernel_rfl)) (SndEs.cons rfl (sub_sound (var_sound (x := 5) hf (by kernel_rfl)) (var_sound (x := 13) hf (by kernel_rfl)) rfl) (SndEs.cons rfl (sub_sound (var_sound (x := 5) hf (by kernel_rfl)) (var_sound (x := 15) hf (by kernel_rfl)) rfl) (SndEs.cons rfl (var_sound (x := 18) hf (by kernel_rfl)) (SndEs.cons rfl (var_sound (x := 19) hf (by kernel_rfl)) SndEs.nil))))) (List.cons_ne_nil _ _)) (var_sound (x := 20) hf (by kernel_rfl)) rfl) (cons_ss (ret_s const_bool) nil_ss) nil_ss) (cons_ss (assign_s (x := 22) hf (by kernel_rfl) (call_k (a := 158) (z := "_get_emphasis_children") (by kernel_rfl) hf (by kernel_rfl) (by kernel_rfl) (ns_at_158 hK) (keep_158 hK) (SndEs.cons rfl (var_sound (x := 4) hf (by kernel_rfl)) (SndEs.cons rfl (var_sound (x := 18) hf (by kernel_rfl)) (SndEs.cons rfl (var_sound (x := 19) hf (by kernel_rfl)) (SndEs.cons rfl (var_sound (x := 2) hf (by kernel_rfl)) SndEs.nil)))) (List.cons_ne_nil _ _)) (fun _ => by kernel_rfl)) (cons_ss (if_s (cmp_t (var_sound (x := 22) hf (by kernel_rfl)) (var_sound (x := 21) hf (by kernel_rfl)) rfl) (cons_ss (ret_s const_bool) nil_ss) nil_ss) (cons_ss (if_s (and_t (cmp_t (var_sound (x := 20) hf (by kernel_rfl)) const_none rfl) (and1_t (cmp_t (var_sound (x := 21) hf (by kernel_rfl)) const_none rfl))) (cons_ss (expr_s (call_k (a := 165) (z := "_apply_emphasis_match") (by kernel_rfl) hf (by kernel_rfl) (by kernel_rfl) (ns_at_165 hK) (keep_165 hK) (SndEs.cons rfl (var_sound (x := 4) hf (by kernel_rfl)) (SndEs.cons rfl (var_sound (x := 5) hf (by kernel_rfl)) (SndEs.cons rfl (var_sound (x := 7) hf (by kernel_rfl)) (SndEs.cons rfl (sub_sound (var_sound (x := 5) hf (by kernel_rfl)) (var_sound (x := 13) hf (by kernel_rfl)) rfl) (SndEs.cons rfl (sub_sound (var_sound (x := 5) hf (by kernel_rfl)) (var_sound (x := 15) hf (by kernel_rfl)) rfl) (SndEs.cons rfl (var_sound (x := 13) hf (by kernel_rfl)) (SndEs.cons rfl (var_sound (x := 15) hf (by kernel_rfl)) (SndEs.cons rfl (var_sound (x := 18) hf (by kernel_rfl)) (SndEs.cons rfl (var_sound (x := 19) hf (by kernel_rfl)) (SndEs.cons rfl (var_sound (x := 20) hf (by kernel_rfl)) (SndEs.cons rfl (var_sound (x := 22) hf (by kernel_rfl)) SndEs.nil))))))))))) (List.cons_ne_nil _ _)) (fun _ => by kernel_rfl) (fun _ => by kernel_rfl)) (cons_ss (unpack_s hf (TgtsAre.cons (x := 9) (by kernel_rfl) (TgtsAre.cons (x := 10) (by kernel_rfl) (TgtsAre.cons (x := 23) (by kernel_rfl) TgtsAre.nil))) (call_k (a := 263) (z := "_law_apply") (by kernel_rfl) hf (by kernel_rfl) (by kernel_rfl) (ns_at_263 hK) (keep_263 hK) (SndEs.cons rfl (var_sound (x := 9) hf (by kernel_rfl)) (SndEs.cons rfl (var_sound (x := 10) hf (by kernel_rfl)) (SndEs.cons rfl (var_sound (x := 11) hf (by kernel_rfl)) (SndEs.cons rfl (var_sound (x := 13) hf (by kernel_rfl)) (SndEs.cons rfl (var_sound (x := 15) hf (by kernel_rfl)) (SndEs.cons rfl (var_sound (x := 18) hf (by kernel_rfl)) (SndEs.cons rfl (var_sound (x := 19) hf (by kernel_rfl)) (SndEs.cons rfl (var_sound (x := 20) hf (by kernel_rfl)) SndEs.nil)))))))) (List.cons_ne_nil _ _)) (fun _ => by kernel_rfl) (fun _ => by kernel_rfl)) (cons_ss (if_s (not_t (call_t (call_k (a := 270) (z := "_law_same") (by kernel_rfl) hf (by kernel_rfl) (by kernel_rfl) (ns_at_270 hK) (keep_270 hK) (SndEs.cons rfl (var_sound (x := 4) hf (by kernel_rfl)) (SndEs.cons rfl (var_sound (x := 9) hf (by kernel_rfl)) (SndEs.cons rfl (var_sound (x := 5) hf (by kernel_rfl)) (SndEs.cons rfl (var_sound (x := 11) hf (by kernel_rfl)) (SndEs.cons rfl (var_sound (x := 7) hf (by kernel_rfl)) (SndEs.cons rfl (var_sound (x := 10) hf (by kernel_rfl)) SndEs.nil)))))) (List.cons_ne_nil _ _)))) (cons_ss (ret_s const_bool) nil_ss) nil_ss) (cons_ss (if_s (var_t (x := 23) hf (by kernel_rfl)) (cons_ss (ret_s (cmp_e (len_e (by kernel_rfl) hf (by kernel_rfl) (ns_len hK) rfl (var_sound (x := 4) hf (by kernel_rfl))) (len_e (by kernel_rfl) hf (by kernel_rfl) (ns_len hK) rfl (var_sound (x := 9) hf (by kernel_rfl))) rfl)) nil_ss) nil_ss) nil_ss)))) nil_ss) nil_ss))))))))))) nil_ss))))))) (cons_ss (ret_s (call_k (a := 270) (z := "_law_same") (by kernel_rfl) hf (by kernel_rfl) (by kernel_rfl) (ns_at_270 hK) (keep_270 hK) (SndEs.cons rfl (var_sound (x := 4) hf (by kernel_rfl)) (SndEs.cons rfl (var_sound (x := 9) hf (by kernel_rfl)) (SndEs.cons rfl (var_sound (x := 5) hf (by kernel_rfl)) (SndEs.cons rfl (var_sound (x := 11) hf (by kernel_rfl)) (SndEs.cons rfl (var_sound (x := 7) hf (by kernel_rfl)) (SndEs.cons rfl (var_sound (x := 10) hf (by kernel_rfl)) SndEs.nil)))))) (List.cons_ne_nil _ _))) nil_ss)))))))))))
theorem in_law {c : Cx} {P : Params} (hK : c.K = hd.heap_39 P) : FnIn c (fnAt (hd.heap_39 P) 291 n_law) (fdAt (hd.heap_39 P) 291) (bodyAt (hd.heap_39 P) 291) 1 := by
  refine fnIn_eq hK (by kernel_rfl) (fun L => by kernel_rfl) ?_
  intro cvs h0
  obtain ⟨a0, t0, rfl, h1⟩ := len_succ h0
  obtain rfl := len_zero h1
  kernel_rfl


theorem Calls.mono {c : Cx} {n : Nat} {fa : Addr} {vs : List AV} {H : AH} {Q Q' : AV → AH → Prop} (h : Calls c n fa vs H Q) (hq : ∀ v H', Q v H' → Q' v H') : Calls c n fa vs H Q' := by
  intro A F L names l s cvs hr R hc
  refine codeAny_mono (h A F L names l s cvs hr R hc) fun r s' z => ?_
  rcases r with e | (v | _ | _ | _) <;> first | exact z.elim | skip
  exact let ⟨H', R', q⟩ := z; ⟨H', R', hq _ _ q⟩
theorem Room.le {A : Around} {n m : Nat} (h : Room A n) (hm : m ≤ n) : Room A m := ⟨h.1, by have := h.2.1; omega, by have := h.2.2; omega⟩
theorem Calls.le {c : Cx} {n m : Nat} {fa : Addr} {vs : List AV} {H : AH} {Q : AV → AH → Prop} (h : Calls c n fa vs H Q) (hm : n ≤ m) : Calls c m fa vs H Q :=
  fun A F L names l s cvs hr R hc => h A F L names l s cvs (hr.le hm) R hc
theorem upd_upd (H : AH) (a : Addr) (o o' : AO) : upd (upd H a o) a o' = upd H a o' := by
  funext b; unfold upd; split <;> rfl
theorem upd_self {H : AH} {a : Addr} {o : AO} (h : H a = some o) : upd H a o = H := by
  funext b; unfold upd; split
  · rename_i e; rw [e, h]
  · rfl
theorem upd_other {H : AH} {a b : Addr} {o : AO} (h : b ≠ a) : upd H a o b = H b := upd_ne H o h

section
variable {c : Cx} {H : AH} {Q : AV → AH → Prop}
theorem getI_list {a : Addr} {xs : List AV} {j : Int} (h : H a = some (.list xs)) (h0 : 0 ≤ j) (h1 : j < 4611686018427387904) : getI H (.ref a) (.int j) = xs[j.toNat]? := by
  simp only [getI, h]; rw [if_pos ⟨h0, h1⟩]
theorem getI_tup {a : Addr} {xs : List AV} {j : Int} (h : H a = some (.tup xs)) (h0 : 0 ≤ j) (h1 : j < 4611686018427387904) : getI H (.ref a) (.int j) = xs[j.toNat]? := by
  simp only [getI, h]; rw [if_pos ⟨h0, h1⟩]
theorem getI_l0 {a : Addr} {x : AV} {xs : List AV} (h : H a = some (.list (x :: xs))) : getI H (.ref a) (.int 0) = some x := getI_list h (by decide) (by decide)
theorem getI_l1 {a : Addr} {x y : AV} {xs : List AV} (h : H a = some (.list (x :: y :: xs))) : getI H (.ref a) (.int 1) = some y := getI_list h (by decide) (by decide)
theorem getI_l2 {a : Addr} {x y z : AV} {xs : List AV} (h : H a = some (.list (x :: y :: z :: xs))) : getI H (.ref a) (.int 2) = some z := getI_list h (by decide) (by decide)
theorem listAt_ref {a : Addr} {xs : List AV} (h : H a = some (.list xs)) : listAt H (.ref a) = some (a, xs) := by simp only [listAt, h]
theorem dictAt_ref {a : Addr} {xs : List (Nat × AV)} (h : H a = some (.dict xs)) : dictAt H (.ref a) = some (a, xs) := by simp only [dictAt, h]
theorem instAt_ref {a C d : Addr} {xs : List (Nat × AV)} (h : H a = some (.inst C d xs)) : instAt H (.ref a) = some (a, C, d, xs) := by simp only [instAt, h]
theorem tupAt_ref {a : Addr} {xs : List AV} (h : H a = some (.tup xs)) : tupAt H (.ref a) = some xs := by simp only [tupAt, h]
theorem getK_ref {a : Addr} {kvs : List (Nat × AV)} {k : Nat} (h : H a = some (.dict kvs)) : getK H (.ref a) k = kvs.lookup k := by simp only [getK, h]
theorem getA_ref {a C d : Addr} {kvs : List (Nat × AV)} {k : Nat} (h : H a = some (.inst C d kvs)) : getA H (.ref a) k = kvs.lookup k := by simp only [getA, h]
theorem wBin_add {a b : Int} : wBin c .Add (.int a) (.int b) H Q = Q (.int (a + b)) H := rfl
theorem wBin_sub {a b : Int} : wBin c .Sub (.int a) (.int b) H Q = Q (.int (a - b)) H := rfl
theorem wBin_mul {a b : Int} : wBin c .Mult (.int a) (.int b) H Q = (-(2 ^ 62) < b ∧ b < 2 ^ 62 ∧ Q (.int (a * b)) H) := rfl
theorem wBin_mod {a b : Int} : wBin c .Mod (.int a) (.int b) H Q = (0 < b ∧ Q (.int (a % b)) H) := rfl
theorem wBin_fdiv {a b : Int} : wBin c .FloorDiv (.int a) (.int b) H Q = (0 < b ∧ b < 2 ^ 62 ∧ Q (.int (a / b)) H) := rfl
theorem wBin_and {a b : Int} : wBin c .BitAnd (.int a) (.int b) H Q = Q (.int (Builtin.bitAnd a b)) H := rfl
theorem wCmp_eqI {a b : Int} : wCmp .Eq (.int a) (.int b) H Q = Q (.bool (decide (a = b))) H := by simp [wCmp, flat2]
theorem wCmp_neI {a b : Int} : wCmp .NotEq (.int a) (.int b) H Q = Q (.bool (decide (a ≠ b))) H := by simp [wCmp, flat2]
theorem wCmp_eqS {a b : Str} : wCmp .Eq (.str a) (.str b) H Q = Q (.bool (decide (a = b))) H := by simp [wCmp, flat2]
theorem wCmp_neS {a b : Str} : wCmp .NotEq (.str a) (.str b) H Q = Q (.bool (decide (a ≠ b))) H := by simp [wCmp, flat2]
theorem wCmp_neB {a b : Bool} : wCmp .NotEq (.bool a) (.bool b) H Q = Q (.bool (decide (a ≠ b))) H := by simp [wCmp, flat2]
theorem wCmp_neN : wCmp .NotEq .none .none H Q = Q (.bool false) H := by simp [wCmp, flat2]
theorem wCmp_lt {a b : Int} : wCmp .Lt (.int a) (.int b) H Q = Q (.bool (decide (a < b))) H := by simp [wCmp]
theorem wCmp_le {a b : Int} : wCmp .LtE (.int a) (.int b) H Q = Q (.bool (decide (a ≤ b))) H := by simp [wCmp]
theorem wCmp_gt {a b : Int} : wCmp .Gt (.int a) (.int b) H Q = Q (.bool (decide (b < a))) H := by simp [wCmp]
theorem wCmp_ge {a b : Int} : wCmp .GtE (.int a) (.int b) H Q = Q (.bool (decide (b ≤ a))) H := by simp [wCmp]
theorem wCmp_isN {v : AV} : wCmp .Is v .none H Q = Q (.bool (decide (v = .none))) H := by simp [wCmp]
theorem wCmp_notN {v : AV} : wCmp .IsNot v .none H Q = Q (.bool (decide (v ≠ .none))) H := by simp [wCmp]
theorem wCmp_notB {a b : Bool} : wCmp .IsNot (.bool a) (.bool b) H Q = Q (.bool (decide (a ≠ b))) H := by simp [wCmp]
theorem wCmp_notR {a : Addr} : wCmp .IsNot (.ref a) (.ref a) H Q = Q (.bool false) H := by simp [wCmp]
theorem wTr_bool {b : Bool} {P : Bool → Prop} : wTr H (.bool b) P = P b := rfl
theorem wTr_int {i : Int} {P : Bool → Prop} : wTr H (.int i) P = P (decide (i ≠ 0)) := rfl
theorem wTr_none {P : Bool → Prop} : wTr H .none P = P false := rfl
theorem wTr_str {x : Str} {P : Bool → Prop} : wTr H (.str x) P = (x.length ≤ 10000 ∧ P (decide (x.length ≠ 0))) := rfl
theorem wTr_list {a : Addr} {xs : List AV} {P : Bool → Prop} (h : H a = some (.list xs)) : wTr H (.ref a) P = (xs.length ≤ 10000 ∧ P (!xs.isEmpty)) := by simp only [wTr, listAt_ref h, Ok_some]
end

structure Row where
  sign : Str
  len : Int
  op : Bool
  cl : Bool
  orig : Int
def textO (raw : Str) : AO := .dict [(0, .str "text"), (1, .str raw)]
def rowO (r : Row) : AO := .dict [(5, .str r.sign), (6, .int r.len), (7, .bool r.op), (8, .bool r.cl), (9, .int r.orig)]
def delO (dd : Addr) (r : Row) (idx k : Int) : AO := .inst 77 dd [(10, .int idx), (11, .str r.sign), (12, .int r.len), (13, .bool r.op), (14, .bool r.cl), (15, .int r.orig), (16, .int k)]
def boxO (scr : Addr) (p m : Int) : AO := .list [.ref scr, .int p, .int m]
def BoxOk (c : Cx) (H : AH) (B : Addr) : Prop := B ≠ c.scr ∧ ∃ p m : Int, 0 ≤ p ∧ 0 ≤ m ∧ H B = some (boxO c.scr p m)
def ScrOk (c : Cx) (H : AH) : Prop := ∃ xs : List Int, H c.scr = some (.list (xs.map .int)) ∧ xs.length ≤ 100
def canP (a b : Row) : Bool := if a.cl || b.op then (a.orig + b.orig) % 3 != 0 || (a.orig % 3 == 0 && b.orig % 3 == 0) else true
section
variable {H : AH} {a dd : Addr} {raw : Str} {r : Row} {i k : Int}
theorem text0 (h : H a = some (textO raw)) : getK H (.ref a) 0 = some (.str "text") := by rw [getK_ref h]; rfl
theorem text1 (h : H a = some (textO raw)) : getK H (.ref a) 1 = some (.str raw) := by rw [getK_ref h]; rfl
theorem row5 (h : H a = some (rowO r)) : getK H (.ref a) 5 = some (.str r.sign) := by rw [getK_ref h]; rfl
theorem row6 (h : H a = some (rowO r)) : getK H (.ref a) 6 = some (.int r.len) := by rw [getK_ref h]; rfl
theorem row7 (h : H a = some (rowO r)) : getK H (.ref a) 7 = some (.bool r.op) := by rw [getK_ref h]; rfl
theorem row8 (h : H a = some (rowO r)) : getK H (.ref a) 8 = some (.bool r.cl) := by rw [getK_ref h]; rfl
theorem row9 (h : H a = some (rowO r)) : getK H (.ref a) 9 = some (.int r.orig) := by rw [getK_ref h]; rfl
theorem del10 (h : H a = some (delO dd r i k)) : getA H (.ref a) 10 = some (.int i) := by rw [getA_ref h]; rfl
theorem del11 (h : H a = some (delO dd r i k)) : getA H (.ref a) 11 = some (.str r.sign) := by rw [getA_ref h]; rfl
theorem del12 (h : H a = some (delO dd r i k)) : getA H (.ref a) 12 = some (.int r.len) := by rw [getA_ref h]; rfl
theorem del13 (h : H a = some (delO dd r i k)) : getA H (.ref a) 13 = some (.bool r.op) := by rw [getA_ref h]; rfl
theorem del14 (h : H a = some (delO dd r i k)) : getA H (.ref a) 14 = some (.bool r.cl) := by rw [getA_ref h]; rfl
theorem del15 (h : H a = some (delO dd r i k)) : getA H (.ref a) 15 = some (.int r.orig) := by rw [getA_ref h]; rfl
theorem del16 (h : H a = some (delO dd r i k)) : getA H (.ref a) 16 = some (.int k) := by rw [getA_ref h]; rfl
end

def okP (rows : Nat → Row) (cp k : Nat) : Bool := decide ((rows k).sign = (rows cp).sign) && ((rows k).op && (decide (0 < (rows k).len) && canP (rows k) (rows cp)))
def lastIn (p : Nat → Bool) (b : Nat) : Nat → Option Nat
  | 0 => none
  | m + 1 => if m < b then none else if p m = true then some m else lastIn p b m
theorem lastIn_succ {p : Nat → Bool} {b m : Nat} : lastIn p b (m + 1) = if m < b then none else if p m = true then some m else lastIn p b m := rfl
theorem lastIn_le {p : Nat → Bool} {b : Nat} : ∀ {m : Nat}, m ≤ b → lastIn p b m = none
  | 0, _ => rfl
  | m + 1, h => by unfold lastIn; rw [if_pos (by omega)]
theorem lastIn_some {p : Nat → Bool} {b : Nat} : ∀ {m k : Nat}, lastIn p b m = some k → b ≤ k ∧ k < m ∧ p k = true
  | 0, k, h => by cases h
  | m + 1, k, h => by
    unfold lastIn at h
    split at h
    · cases h
    · split at h
      · cases h; exact ⟨by omega, by omega, by assumption⟩
      · obtain ⟨h1, h2, h3⟩ := lastIn_some h; exact ⟨h1, by omega, h3⟩
structure Dels (H : AH) (ld : Addr) (N : Nat) (ds dds : Nat → Addr) (rows : Nat → Row) (idx : Nat → Int) : Prop where
  l : H ld = some (.list ((List.range N).map fun k => .ref (ds k)))
  at' : ∀ k, k < N → H (ds k) = some (delO (dds k) (rows k) (idx k) k)
  inj : ∀ j k, j < N → k < N → ds j = ds k → j = k
  small : N ≤ 1000
structure Rows (H : AH) (lr : Addr) (N : Nat) (rs : Nat → Addr) (rows : Nat → Row) : Prop where
  l : H lr = some (.list ((List.range N).map fun k => .ref (rs k)))
  at' : ∀ k, k < N → H (rs k) = some (rowO (rows k))
  inj : ∀ j k, j < N → k < N → rs j = rs k → j = k
  small : N ≤ 1000
theorem getI_fun {H : AH} {a : Addr} {N : Nat} {g : Nat → AV} {k : Nat} (h : H a = some (.list ((List.range N).map g))) (hk : k < N) (hN : N ≤ 10000) : getI H (.ref a) (.int (k : Nat)) = some (g k) := by
  rw [getI_list h (by omega) (by omega), Int.toNat_natCast, List.getElem?_map, List.getElem?_range hk]; rfl
theorem getI_funI {H : AH} {a : Addr} {N : Nat} {g : Nat → AV} {j : Int} (h : H a = some (.list ((List.range N).map g))) (h0 : 0 ≤ j) (hk : j < N) (hN : N ≤ 10000) : getI H (.ref a) (.int j) = some (g j.toNat) := by
  obtain ⟨k, rfl⟩ := Int.eq_ofNat_of_zero_le h0
  exact getI_fun h (by omega) hN
def ExtB (B : Addr) (H H' : AH) : Prop := ∀ a o, a ≠ B → H a = some o → H' a = some o
theorem ExtB.refl {B : Addr} {H : AH} : ExtB B H H := fun _ _ _ h => h
theorem ExtB.trans {B : Addr} {H H' H'' : AH} (h : ExtB B H H') (h' : ExtB B H' H'') : ExtB B H H'' := fun a o n e => h' a o n (h a o n e)
theorem ExtB.new {B : Addr} {H : AH} {d : Addr} {o : AO} (h : H d = none) : ExtB B H (upd H d o) := fun a o' _ e => by
  rw [upd_other (fun q => by rw [q, h] at e; cases e)]; exact e
theorem ExtB.box {B : Addr} {H : AH} {o : AO} : ExtB B H (upd H B o) := fun a o' n e => by rw [upd_other n]; exact e
theorem BoxOk.new {c : Cx} {H : AH} {B d : Addr} {o : AO} (h : BoxOk c H B) (hd : H d = none) : BoxOk c (upd H d o) B := by
  obtain ⟨h1, p, m, h2, h3, h4⟩ := h
  exact ⟨h1, p, m, h2, h3, by rw [upd_other (fun q => by rw [q, hd] at h4; cases h4)]; exact h4⟩
theorem BoxOk.set {c : Cx} {H : AH} {B : Addr} {p m : Int} (h : B ≠ c.scr) (h1 : 0 ≤ p) (h2 : 0 ≤ m) : BoxOk c (upd H B (boxO c.scr p m)) B := ⟨h, p, m, h1, h2, upd_same _ _ _⟩
theorem BoxOk.keep {c : Cx} {H H' : AH} {B : Addr} (h : BoxOk c H B) (e : H' B = H B) : BoxOk c H' B := by
  obtain ⟨h1, p, m, h2, h3, h4⟩ := h
  exact ⟨h1, p, m, h2, h3, e.trans h4⟩
theorem ScrOk.ext {c : Cx} {H H' : AH} {B : Addr} (h : ScrOk c H) (hB : B ≠ c.scr) (e : ExtB B H H') : ScrOk c H' := by
  obtain ⟨xs, h1, h2⟩ := h
  exact ⟨xs, e _ _ (Ne.symm hB) h1, h2⟩

local macro_rules | `(tactic| walk_at "w*") => `(tactic| simp only [wSs, wS, wE, wT, wEs, fnAt, List.length_cons, List.length_nil, List.replicate, List.cons_append, List.nil_append, List.getElem?_cons_zero, List.getElem?_cons_succ, Ok_some, List.set_cons_zero, List.set_cons_succ,
  ne_eq, reduceCtorEq, not_false_eq_true, true_and, and_true, intOf, strOf, partV, wBin_add, wBin_sub, wBin_mul, wBin_mod, wBin_fdiv, wBin_and, wCmp_eqI, wCmp_neI, wCmp_eqS, wCmp_neS, wCmp_neB, wCmp_neN, wCmp_lt, wCmp_le, wCmp_gt, wCmp_ge, wCmp_isN, wCmp_notN, wCmp_notB, wCmp_notR, wTr_bool, wTr_int, wTr_none, wTr_str, *])
local macro_rules | `(tactic| walk_at "w") => `(tactic| simp only [wSs, wS, wE, wT, wEs, fnAt, List.length_cons, List.length_nil, List.replicate, List.cons_append, List.nil_append, List.getElem?_cons_zero, List.getElem?_cons_succ, Ok_some, List.set_cons_zero, List.set_cons_succ,
  ne_eq, reduceCtorEq, not_false_eq_true, true_and, and_true, intOf, strOf, partV, wBin_add, wBin_sub, wBin_mul, wBin_mod, wBin_fdiv, wBin_and, wCmp_eqI, wCmp_neI, wCmp_eqS, wCmp_neS, wCmp_neB, wCmp_neN, wCmp_lt, wCmp_le, wCmp_gt, wCmp_ge, wCmp_isN, wCmp_notN, wCmp_notB, wCmp_notR, wTr_bool, wTr_int, wTr_none, wTr_str])
section
variable {c : Cx} {P : Params} {n : Nat} {H : AH} {Q : AV → AH → Prop}

theorem c_textRaw (hK : c.K = hd.heap_39 P) {a : Addr} {raw : Str} (h : H a = some (textO raw)) (hq : Q (.str raw) H) : Calls c (n + 1) 186 [.ref a] H Q := by
  refine calls_fn ok_textRaw (in_textRaw hK) (snd_textRaw hK) rfl ?_
  simp only [S_textRaw, n_textRaw, S_textRaw_149, S_textRaw_150]
  walk_at "w"
  simp only [text0 h, text1 h, Ok_some, wCmp_eqS, decide_true, wTr_bool, if_true]
  exact hq
theorem c_lword (hK : c.K = hd.heap_39 P) {raw : Str} (hq : ∀ d, H d = none → d ≠ c.scr → Q (.ref d) (upd H d (textO raw))) : Calls c (n + 1) 214 [.str raw] H Q := by
  refine calls_fn ok_lword (in_lword hK) (snd_lword hK) rfl ?_
  simp only [S_lword, n_lword]
  walk_at "w"
  intro d hd hs
  exact hq d hd hs
theorem c_draw (hK : c.K = hd.heap_39 P) {B : Addr} {k : Int} (hs : ScrOk c H) (hb : BoxOk c H B) (hk : 0 < k) (hq : ∀ r p m, 0 ≤ r → r < k → 0 ≤ p → 0 ≤ m → Q (.int r) (upd H B (boxO c.scr p m))) : Calls c (n + 1) 207 [.ref B, .int k] H Q := by
  obtain ⟨xs, hxs, hlen⟩ := hs
  obtain ⟨hne, p, m, hp, hm, hB⟩ := hb
  refine calls_fn ok_ldraw (in_ldraw hK) (snd_ldraw hK) rfl ?_
  have hscr : ∀ o, upd H B o c.scr = some (.list (xs.map .int)) := fun o => by rw [upd_other (Ne.symm hne)]; exact hxs
  have hBe : H B = some (.list [.ref c.scr, .int p, .int m]) := hB
  simp only [S_ldraw, n_ldraw, S_ldraw_165]
  walk_at "w"
  simp only [getI_l0 hBe, getI_l1 hBe, Ok_some]
  simp only [S_ldraw_166]
  walk_at "w"
  simp only [listAt_ref hBe, Ok_some, Int.toNat_one, List.set_cons_zero, List.set_cons_succ]
  refine ⟨hne, by decide, by simp, by simp, ?_⟩
  have hB2 : (upd H B (.list [.ref c.scr, .int (p + 1), .int m])) B = some (.list [.ref c.scr, .int (p + 1), .int m]) := upd_same _ _ _
  have hS2 := hscr (.list [.ref c.scr, .int (p + 1), .int m])
  have fin : ∀ num : Int, 0 ≤ num → wSs c n S_ldraw_168 [.ref B, .int k, .ref c.scr, .int p, .int num] (upd H B (.list [.ref c.scr, .int (p + 1), .int m])) (fun fl l H' => match fl with | .next => Q .none H' | .ret v => Q v H') := by
    intro num hnum
    simp only [S_ldraw_168]
    walk_at "w"
    simp only [getI_l2 hB2, Ok_some, wBin_mul, wBin_add, wBin_mod, listAt_ref hB2]
    have h1 := Int.emod_nonneg (m * 48271 + num + p + 1) (b := 2147483647) (by decide)
    refine ⟨by decide, by decide, by decide, hne, by decide, by simp, by simp, ?_⟩
    simp only [S_ldraw_169]
    have e2 : Int.toNat 2 = 2 := rfl
    have hB3 : ∀ z, (upd H B (.list [.ref c.scr, .int (p + 1), .int z])) B = some (.list [.ref c.scr, .int (p + 1), .int z]) := fun z => upd_same _ _ _
    walk_at "w"
    simp only [upd_upd, e2, List.set_cons_succ, List.set_cons_zero, getI_l2 (hB3 _), Ok_some, wBin_fdiv, wBin_mod]
    refine ⟨by decide, by decide, hk, ?_⟩
    exact hq _ _ _ (Int.emod_nonneg _ (by omega)) (Int.emod_lt_of_pos _ hk) (by omega) h1
  simp only [S_ldraw_167]
  walk_at "w"
  simp only [wTr_list hS2, listAt_ref hS2, Ok_some, List.length_map]
  refine ⟨by omega, ?_⟩
  cases xs with
  | nil =>
    simp only [List.map_nil, List.isEmpty_nil, Bool.not_true, Bool.false_eq_true, if_false]
    exact fin 0 (by decide)
  | cons x xs =>
    simp only [List.map_cons, List.isEmpty_cons, Bool.not_false, if_true]
    have hl : 0 < (((x :: xs).length : Nat) : Int) := by have : 0 < (x :: xs).length := Nat.succ_pos _; omega
    have e1 := Int.emod_nonneg p (b := (((x :: xs).length : Nat) : Int)) (by omega)
    have e2 := Int.emod_lt_of_pos p hl
    refine ⟨by omega, ?_⟩
    refine ⟨hl, ?_⟩
    rw [getI_list hS2 e1 (by omega)]
    have hlt : (p % (((x :: xs).length : Nat) : Int)).toNat < (x :: xs).length := by omega
    rw [List.getElem?_map, List.getElem?_eq_getElem hlt]
    show 0 < 65537 ∧ _
    exact ⟨by decide, fin _ (Int.emod_nonneg _ (by decide))⟩

theorem c_canMatch (hK : c.K = hd.heap_39 P) {a b da db : Addr} {r q : Row} {i j x y : Int} (ha : H a = some (delO da r i x)) (hb : H b = some (delO db q j y)) (hq : Q (.bool (canP r q)) H) : Calls c (n + 1) 200 [.ref a, .ref b] H Q := by
  refine calls_fn ok_canMatch (in_canMatch hK) (snd_canMatch hK) rfl ?_
  simp only [S_canMatch, n_canMatch, S_canMatch_158, S_canMatch_159, S_canMatch_160, S_canMatch_161]
  walk_at "w"
  simp only [del13 hb, del14 ha, del15 ha, del15 hb, Ok_some, wTr_bool]
  unfold canP at hq
  cases h1 : r.cl <;> cases h2 : q.op <;> simp only [h1, h2, Bool.false_or, Bool.true_or, Bool.or_false, Bool.or_true, Bool.false_eq_true, if_false, if_true] at hq ⊢
  · simpa using hq
  all_goals
    walk_at "w"
    refine ⟨by decide, ?_⟩
    by_cases e : (r.orig + q.orig) % 3 = 0
    · simp only [e, decide_true, not_true_eq_false, decide_false, Bool.false_eq_true, if_false, bne_self_eq_false, Bool.false_or] at hq ⊢
      refine ⟨by decide, ?_⟩
      by_cases e2 : r.orig % 3 = 0
      · simp only [e2, decide_true, if_true, beq_self_eq_true, Bool.true_and] at hq ⊢
        refine ⟨by decide, ?_⟩
        have : (q.orig % 3 == 0) = decide (q.orig % 3 = 0) := rfl
        rwa [this] at hq
      · simp only [e2, decide_false, Bool.false_eq_true, if_false] at hq ⊢
        have : (r.orig % 3 == 0) = false := by simp [e2]
        rw [this, Bool.false_and] at hq; exact hq
    · simp only [e, not_false_eq_true, decide_true, if_true] at hq ⊢
      have : ((r.orig + q.orig) % 3 != 0) = true := by simp [e]
      rw [this, Bool.true_or] at hq; exact hq
theorem c_lcan (hK : c.K = hd.heap_39 P) {a b : Addr} {r q : Row} (ha : H a = some (rowO r)) (hb : H b = some (rowO q)) (hq : Q (.bool (canP r q)) H) : Calls c (n + 1) 235 [.ref a, .ref b] H Q := by
  refine calls_fn ok_lcan (in_lcan hK) (snd_lcan hK) rfl ?_
  simp only [S_lcan, n_lcan, S_lcan_204, S_lcan_205, S_lcan_206, S_lcan_207]
  walk_at "w"
  simp only [row8 ha, row7 hb, row9 ha, row9 hb, Ok_some, wTr_bool]
  unfold canP at hq
  cases h1 : r.cl <;> cases h2 : q.op <;> simp only [h1, h2, Bool.false_or, Bool.true_or, Bool.or_false, Bool.or_true, Bool.false_eq_true, if_false, if_true] at hq ⊢
  · simpa using hq
  all_goals
    have f1 := row9 ha
    have f2 := row9 hb
    walk_at "w*"
    refine ⟨by decide, ?_⟩
    by_cases e : (r.orig + q.orig) % 3 = 0
    · simp only [e, decide_true, if_true, bne_self_eq_false, Bool.false_or] at hq ⊢
      refine ⟨by decide, ?_⟩
      by_cases e2 : r.orig % 3 = 0
      · simp only [e2, not_true_eq_false, decide_false, Bool.false_eq_true, if_false, beq_self_eq_true, Bool.true_and] at hq ⊢
        refine ⟨by decide, ?_⟩
        by_cases e3 : q.orig % 3 = 0
        · simp only [e3, not_true_eq_false, decide_false, Bool.false_eq_true, if_false, beq_self_eq_true] at hq ⊢; exact hq
        · have : (q.orig % 3 == 0) = false := by simp [e3]
          simp only [e3, not_false_eq_true, decide_true, if_true, this] at hq ⊢; exact hq
      · have : (r.orig % 3 == 0) = false := by simp [e2]
        simp only [e2, not_false_eq_true, decide_true, if_true, this, Bool.false_and] at hq ⊢; exact hq
    · have : ((r.orig + q.orig) % 3 != 0) = true := by simp [e]
      simp only [e, decide_false, Bool.false_eq_true, if_false, this, Bool.true_or] at hq ⊢; exact hq

/-- two texts of a list -/
structure Two (H : AH) (lp : Addr) (xs : List AV) (i j : Int) (a b : Addr) (x y : Str) : Prop where
  l : H lp = some (.list xs)
  i0 : 0 ≤ i
  j0 : 0 ≤ j
  ib : i < 10000
  jb : j < 10000
  hi : xs[i.toNat]? = some (.ref a)
  hj : xs[j.toNat]? = some (.ref b)
  ha : H a = some (textO x)
  hb : H b = some (textO y)
  hx : x.length ≤ 100
  hy : y.length ≤ 100
theorem c_hasStrong (hK : c.K = hd.heap_39 P) {lp : Addr} {xs : List AV} {i j : Int} {a b : Addr} {x y : Str} (T : Two H lp xs i j a b x y) (hq : Q (.bool (decide (2 ≤ x.length ∧ 2 ≤ y.length))) H) : Calls c (n + 2) 172 [.ref lp, .int i, .int j] H Q := by
  refine calls_fn ok_hasStrong (in_hasStrong hK) (snd_hasStrong hK) rfl ?_
  have h1 := T.ib; have h2 := T.jb
  simp only [S_hasStrong, n_hasStrong]
  walk_at "w"
  rw [getI_list T.l T.i0 (by omega), T.hi]
  simp only [Ok_some]
  refine c_textRaw hK T.ha ⟨by have := T.hx; omega, ?_⟩
  by_cases e : (2 : Int) ≤ x.length
  · simp only [e, decide_true, if_true]
    rw [getI_list T.l T.j0 (by omega), T.hj]
    simp only [Ok_some]
    refine c_textRaw hK T.hb ⟨by have := T.hy; omega, ?_⟩
    have : decide (2 ≤ x.length ∧ 2 ≤ y.length) = decide ((2 : Int) ≤ y.length) := by simp only [decide_eq_decide]; omega
    rw [← this]; exact hq
  · simp only [e, decide_false, Bool.false_eq_true, if_false]
    have : decide (2 ≤ x.length ∧ 2 ≤ y.length) = false := by simp only [decide_eq_false_iff_not]; omega
    rw [← this]; exact hq
theorem c_hasEmph (hK : c.K = hd.heap_39 P) {lp : Addr} {xs : List AV} {i j : Int} {a b : Addr} {x y : Str} (T : Two H lp xs i j a b x y) (hq : Q (.bool (decide (x.length ≠ 0 ∧ y.length ≠ 0))) H) : Calls c (n + 2) 179 [.ref lp, .int i, .int j] H Q := by
  refine calls_fn ok_hasEmph (in_hasEmph hK) (snd_hasEmph hK) rfl ?_
  have h1 := T.ib; have h2 := T.jb; have h3 := T.hx; have h4 := T.hy
  simp only [S_hasEmph, n_hasEmph]
  walk_at "w"
  rw [getI_list T.l T.i0 (by omega), T.hi]
  simp only [Ok_some]
  refine c_textRaw hK T.ha ?_
  walk_at "w"
  refine ⟨by omega, ?_⟩
  by_cases e : x.length = 0
  · simp only [e, not_true_eq_false, decide_false, Bool.false_eq_true, if_false, false_and] at hq ⊢
    exact ⟨by omega, hq⟩
  · simp only [e, not_false_eq_true, decide_true, if_true]
    rw [getI_list T.l T.j0 (by omega), T.hj]
    simp only [Ok_some]
    refine c_textRaw hK T.hb ?_
    walk_at "w"
    refine ⟨by omega, ?_⟩
    have : decide (x.length ≠ 0 ∧ y.length ≠ 0) = decide (y.length ≠ 0) := by simp [e]
    rw [this] at hq; exact hq

def useP (r q : Row) (x y : Str) : AV := if x.length = 0 ∨ y.length = 0 then .none else if 2 ≤ r.len ∧ 2 ≤ q.len ∧ 2 ≤ x.length ∧ 2 ≤ y.length then .int 2 else .int 1
theorem c_luse (hK : c.K = hd.heap_39 P) {lp : Addr} {xs : List AV} {i j : Int} {a b ra rb : Addr} {x y : Str} {r q : Row} (T : Two H lp xs i j a b x y) (hr : H ra = some (rowO r)) (hs : H rb = some (rowO q)) (hq : Q (useP r q x y) H) : Calls c (n + 1) 249 [.ref lp, .ref ra, .ref rb, .int i, .int j] H Q := by
  refine calls_fn ok_luse (in_luse hK) (snd_luse hK) rfl ?_
  have h1 := T.ib; have h2 := T.jb; have h3 := T.hx; have h4 := T.hy
  simp only [S_luse, n_luse]
  walk_at "w"
  rw [getI_list T.l T.i0 (by omega), T.hi]
  simp only [Ok_some, text1 T.ha]
  refine ⟨by omega, ?_⟩
  simp only [S_luse_217]
  walk_at "w"
  rw [getI_list T.l T.j0 (by omega), T.hj]
  simp only [Ok_some, text1 T.hb]
  refine ⟨by omega, ?_⟩
  simp only [S_luse_218, S_luse_219, S_luse_220]
  walk_at "w"
  unfold useP at hq
  by_cases e : x.length = 0
  · simp only [e, true_or, if_true, Int.natCast_zero, decide_true] at hq ⊢; exact hq
  · have e' : ¬ ((x.length : Int) = 0) := by omega
    simp only [e, e', false_or, decide_false, Bool.false_eq_true, if_false] at hq ⊢
    by_cases f : y.length = 0
    · simp only [f, if_true, Int.natCast_zero, decide_true] at hq ⊢; exact hq
    · have f' : ¬ ((y.length : Int) = 0) := by omega
      simp only [f, f', decide_false, Bool.false_eq_true, if_false] at hq ⊢
      have f1 := row6 hr
      have f2 := row6 hs
      walk_at "w*"
      have a1 : decide ((2 : Int) ≤ x.length) = decide (2 ≤ x.length) := by simp only [decide_eq_decide]; omega
      have a2 : decide ((2 : Int) ≤ y.length) = decide (2 ≤ y.length) := by simp only [decide_eq_decide]; omega
      rw [a1, a2]
      by_cases g1 : 2 ≤ r.len <;> by_cases g2 : 2 ≤ q.len <;> by_cases g3 : 2 ≤ x.length <;> by_cases g4 : 2 ≤ y.length <;>
        simp only [g1, g2, g3, g4, decide_true, decide_false, if_true, if_false, Bool.false_eq_true, true_and, false_and, and_true, and_false] at hq ⊢ <;> exact hq
theorem c_useLen (hK : c.K = hd.heap_39 P) {lp : Addr} {xs : List AV} {i j ii ij ki kj : Int} {a b da db ea eb : Addr} {x y : Str} {r q : Row} (T : Two H lp xs i j a b x y) (hr : H da = some (delO ea r ii ki)) (hs : H db = some (delO eb q ij kj)) (hq : Q (useP r q x y) H) : Calls c (n + 3) 151 [.ref lp, .ref da, .ref db, .int i, .int j] H Q := by
  refine calls_fn ok_useLen (in_useLen hK) (snd_useLen hK) rfl ?_
  have h1 := T.ib; have h2 := T.jb; have h3 := T.hx; have h4 := T.hy
  unfold useP at hq
  simp only [S_useLen, n_useLen]
  walk_at "w"
  have f1 := del12 hr
  have f2 := del12 hs
  walk_at "w*"
  have fin : ∀ u : Int, (u = 1 ∨ u = 2) → (u = 2 → 2 ≤ x.length ∧ 2 ≤ y.length) → (u = 1 → ¬ (2 ≤ r.len ∧ 2 ≤ q.len ∧ 2 ≤ x.length ∧ 2 ≤ y.length)) → (u = 2 → 2 ≤ r.len ∧ 2 ≤ q.len) → wSs c (n + 2) S_useLen_110 [.ref lp, .ref da, .ref db, .int i, .int j, .int u] H (fun fl l H' => match fl with | .next => Q .none H' | .ret v => Q v H') := by
    intro u hu hu2 hu1 hu3
    simp only [S_useLen_110, S_useLen_111, S_useLen_112]
    walk_at "w"
    rcases hu with rfl | rfl
    · simp only [decide_true, if_true]
      refine c_hasEmph hK T ?_
      walk_at "w"
      have n2 := hu1 rfl
      by_cases e : x.length = 0 ∨ y.length = 0
      · rw [if_pos e] at hq
        have : decide (¬x.length = 0 ∧ ¬y.length = 0) = false := by simp only [decide_eq_false_iff_not]; omega
        simp only [this, Bool.not_false, if_true]; exact hq
      · rw [if_neg e, if_neg n2] at hq
        have : decide (¬x.length = 0 ∧ ¬y.length = 0) = true := by simp only [decide_eq_true_eq]; omega
        simp only [this, Bool.not_true, Bool.false_eq_true, if_false]; exact hq
    · have d : decide ((2 : Int) = 1) = false := by decide
      simp only [d, Bool.false_eq_true, if_false]
      have n2 := hu2 rfl
      have n3 := hu3 rfl
      rw [if_neg (by omega), if_pos (by omega)] at hq; exact hq
  have mid : ∀ u : Int, (u = 1 ∨ u = 2) → (u = 2 ↔ (2 ≤ r.len ∧ 2 ≤ q.len)) → wSs c (n + 2) S_useLen_108 [.ref lp, .ref da, .ref db, .int i, .int j, .int u] H (fun fl l H' => match fl with | .next => Q .none H' | .ret v => Q v H') := by
    intro u hu hu2
    simp only [S_useLen_108, S_useLen_109]
    walk_at "w"
    rcases hu with rfl | rfl
    · have d : decide ((1 : Int) = 2) = false := by decide
      simp only [d, Bool.false_eq_true, if_false]
      exact fin 1 (.inl rfl) (by omega) (fun _ => by omega) (by omega)
    · simp only [decide_true, if_true]
      refine c_hasStrong hK T ?_
      walk_at "w"
      by_cases e : 2 ≤ x.length ∧ 2 ≤ y.length
      · simp only [e, and_self, decide_true, Bool.not_true, Bool.false_eq_true, if_false]
        exact fin 2 (.inr rfl) (fun _ => e) (by omega) (fun _ => hu2.mp rfl)
      · simp only [e, decide_false, Bool.not_false, if_true]
        exact fin 1 (.inl rfl) (by omega) (fun _ => by omega) (by omega)
  by_cases g1 : 2 ≤ r.len <;> by_cases g2 : 2 ≤ q.len <;> simp only [g1, g2, decide_true, decide_false, if_true, if_false, Bool.false_eq_true, reduceCtorEq, not_false_eq_true, true_and]
  · exact mid 2 (.inr rfl) (by omega)
  · exact mid 1 (.inl rfl) (by omega)
  · exact mid 1 (.inl rfl) (by omega)
  · exact mid 1 (.inl rfl) (by omega)
end

section
variable {c : Cx} {P : Params} {n : Nat} {H : AH} {Q : AV → AH → Prop}

theorem c_find (hK : c.K = hd.heap_39 P) {ld : Addr} {N : Nat} {ds dds : Nat → Addr} {rows : Nat → Row} {idx : Nat → Int} {cp b : Nat} (D : Dels H ld N ds dds rows idx) (hcp : cp < N)
    (hq : match lastIn (okP rows cp) b cp with
      | none => Q .none H
      | some k => ∀ d, H d = none → d ≠ c.scr → Q (.ref d) (upd H d (.tup [.int (k : Nat), .ref (ds k)]))) : Calls c (n + 2) 144 [.ref ld, .int (cp : Nat), .ref (ds cp), .int (b : Nat)] H Q := by
  refine calls_fn ok_find (in_find hK) (snd_find hK) rfl ?_
  have hN := D.small
  simp only [S_find, n_find]
  walk_at "w"
  simp only [S_find_100]
  walk_at "w"
  refine ⟨fun m l H' => H' = H ∧ m ≤ cp ∧ lastIn (okP rows cp) b cp = lastIn (okP rows cp) b m ∧ ∃ v, l = [.ref ld, .int cp, .ref (ds cp), .int b, .int ((m : Int) - 1), v], ⟨cp, rfl, Nat.le_refl _, rfl, _, rfl⟩, ?_⟩
  rintro m l H' ⟨rfl, hm, heq, v, rfl⟩
  rw [heq] at hq
  walk_at "w"
  cases m with
  | zero =>
    have : decide ((b : Int) ≤ ((0 : Nat) : Int) - 1) = false := by simp only [decide_eq_false_iff_not]; omega
    simp only [this, Bool.false_eq_true, if_false, S_find_105]
    walk_at "w"
    exact hq
  | succ m =>
    have e1 : ((m + 1 : Nat) : Int) - 1 = (m : Nat) := by omega
    rw [e1]
    rw [lastIn_succ] at hq heq
    by_cases hb : m < b
    · rw [if_pos hb] at hq
      have : decide ((b : Int) ≤ (m : Nat)) = false := by simp only [decide_eq_false_iff_not]; omega
      simp only [this, Bool.false_eq_true, if_false, S_find_105]
      walk_at "w"
      exact hq
    · rw [if_neg hb] at hq heq
      have : decide ((b : Int) ≤ (m : Nat)) = true := by simp only [decide_eq_true_eq]; omega
      simp only [this, if_true, S_find_101]
      walk_at "w"
      rw [getI_fun D.l (by omega) (by omega)]
      simp only [Ok_some, S_find_102]
      have a := D.at' m (by omega)
      have a' := D.at' cp hcp
      have f1 := del11 a; have f2 := del11 a'; have f3 := del13 a; have f4 := del12 a
      have nxt : (okP rows cp m = false) → wSs c (n + 1) S_find_104 [.ref ld, .int cp, .ref (ds cp), .int b, .int (m : Nat), .ref (ds m)] H' (fun fl l H => match fl with
          | .next => ∃ m', m' < m + 1 ∧ H = H' ∧ m' ≤ cp ∧ lastIn (okP rows cp) b cp = lastIn (okP rows cp) b m' ∧ ∃ v, l = [.ref ld, .int cp, .ref (ds cp), .int b, .int ((m' : Int) - 1), v]
          | .ret v => Q v H) := by
        intro hf
        simp only [S_find_104]
        walk_at "w"
        rw [if_neg (by rw [hf]; exact Bool.false_ne_true)] at heq
        exact ⟨m, by omega, by omega, heq, _, rfl⟩
      have hok : okP rows cp m = (decide ((rows m).sign = (rows cp).sign) && ((rows m).op && (decide (0 < (rows m).len) && canP (rows m) (rows cp)))) := rfl
      simp only [wSs, wS, wT, wE, List.getElem?_cons_zero, List.getElem?_cons_succ, Ok_some, f1, f2, f3, f4, ne_eq, reduceCtorEq, not_false_eq_true, true_and, wCmp_eqS, wTr_bool, wCmp_gt, wEs]
      by_cases g1 : (rows m).sign = (rows cp).sign
      · by_cases g2 : (rows m).op = true
        · by_cases g3 : 0 < (rows m).len
          · simp only [g1, g2, g3, decide_true, if_true]
            refine c_canMatch hK a a' ?_
            rw [wTr_bool]
            rw [g2] at hok
            simp only [g1, g3, decide_true, Bool.true_and] at hok
            cases g4 : canP (rows m) (rows cp) with
            | true =>
              rw [g4] at hok
              rw [if_pos hok] at hq
              simp only [if_true, S_find_103]
              walk_at "w"
              exact hq
            | false =>
              rw [g4] at hok
              simp only [Bool.false_eq_true, if_false]
              exact nxt hok
          · simp only [g1, g2, g3, decide_true, decide_false, if_true, Bool.false_eq_true, if_false]
            exact nxt (by rw [hok]; simp [g3])
        · simp only [g1, g2, decide_true, if_true, Bool.false_eq_true, if_false]
          exact nxt (by rw [hok]; simp [g2])
      · simp only [g1, decide_false, Bool.false_eq_true, if_false]
        exact nxt (by rw [hok]; simp [g1])

def optI : Option Nat → Int
  | none => -1
  | some k => k
theorem c_lfind (hK : c.K = hd.heap_39 P) {lr : Addr} {N : Nat} {rs : Nat → Addr} {rows : Nat → Row} {cp b : Nat} (D : Rows H lr N rs rows) (hcp : cp < N) (hb : b ≤ cp) (hq : Q (.int (optI (lastIn (okP rows cp) b cp))) H) : Calls c (n + 2) 242 [.ref lr, .int (cp : Nat), .int (b : Nat)] H Q := by
  refine calls_fn ok_lfind (in_lfind hK) (snd_lfind hK) rfl ?_
  have hN := D.small
  simp only [S_lfind, n_lfind]
  walk_at "w"
  simp only [S_lfind_210]
  walk_at "w"
  refine ⟨by omega, by omega, by omega, by omega, fun i l H' => H' = H ∧ ∃ v w, l = [.ref lr, .int cp, .int b, .int (optI (lastIn (okP rows cp) b (b + i))), v, w], ⟨rfl, _, _, by rw [Nat.add_zero, lastIn_le (Nat.le_refl b)]; rfl⟩, ?_, ?_⟩
  · rintro i l H' hi ⟨rfl, v, w, rfl⟩
    have e1 : (b : Int) + (i : Nat) = ((b + i : Nat) : Int) := by omega
    rw [e1]
    simp only [S_lfind_211]
    walk_at "w"
    rw [getI_fun D.l (by omega) (by omega)]
    simp only [Ok_some, S_lfind_212]
    have a := D.at' (b + i) (by omega)
    have a' := D.at' cp hcp
    have f1 := row5 a; have f2 := row5 a'; have f3 := row7 a; have f4 := row6 a
    have f5 := getI_fun D.l hcp (by omega)
    have step : lastIn (okP rows cp) b (b + (i + 1)) = if okP rows cp (b + i) = true then some (b + i) else lastIn (okP rows cp) b (b + i) := by
      rw [show b + (i + 1) = (b + i) + 1 by omega]
      conv => lhs; unfold lastIn
      rw [if_neg (by omega)]
    have hok : okP rows cp (b + i) = (decide ((rows (b + i)).sign = (rows cp).sign) && ((rows (b + i)).op && (decide (0 < (rows (b + i)).len) && canP (rows (b + i)) (rows cp)))) := rfl
    simp only [wSs, wS, wT, wE, List.getElem?_cons_zero, List.getElem?_cons_succ, Ok_some, f1, f2, f3, f4, f5, ne_eq, reduceCtorEq, not_false_eq_true, true_and, wCmp_eqS, wTr_bool, wCmp_gt, wEs]
    have no : (okP rows cp (b + i) = false) → ∃ v w', [AV.ref lr, .int cp, .int b, .int (optI (lastIn (okP rows cp) b (b + i))), .int ((b + i : Nat) : Int), .ref (rs (b + i))] = [.ref lr, .int cp, .int b, .int (optI (lastIn (okP rows cp) b (b + (i + 1)))), v, w'] := by
      intro hf
      rw [step, if_neg (by rw [hf]; exact Bool.false_ne_true)]
      exact ⟨_, _, rfl⟩
    by_cases g1 : (rows (b + i)).sign = (rows cp).sign
    · by_cases g2 : (rows (b + i)).op = true
      · by_cases g3 : 0 < (rows (b + i)).len
        · simp only [g1, g2, g3, decide_true, if_true]
          refine c_lcan hK a a' ?_
          rw [wTr_bool]
          rw [g2] at hok
          simp only [g1, g3, decide_true, Bool.true_and] at hok
          cases g4 : canP (rows (b + i)) (rows cp) with
          | true =>
            rw [g4] at hok
            simp only [if_true, S_lfind_213]
            walk_at "w"
            rw [step, if_pos hok]
            exact ⟨_, _, rfl⟩
          | false =>
            rw [g4] at hok
            simp only [Bool.false_eq_true, if_false, List.set_cons_zero, List.set_cons_succ]
            first | exact no hok | exact ⟨trivial, no hok⟩ | exact ⟨rfl, no hok⟩
        · simp only [g1, g2, g3, decide_true, decide_false, if_true, Bool.false_eq_true, if_false, List.set_cons_zero, List.set_cons_succ]
          have z := no (by rw [hok]; simp [g3]); first | exact z | exact ⟨trivial, z⟩ | exact ⟨rfl, z⟩
      · simp only [g1, g2, decide_true, if_true, Bool.false_eq_true, if_false, List.set_cons_zero, List.set_cons_succ]
        have z := no (by rw [hok]; simp [g2]); first | exact z | exact ⟨trivial, z⟩ | exact ⟨rfl, z⟩
    · simp only [g1, decide_false, Bool.false_eq_true, if_false, List.set_cons_zero, List.set_cons_succ]
      have z := no (by rw [hok]; simp [g1]); first | exact z | exact ⟨trivial, z⟩ | exact ⟨rfl, z⟩
  · rintro l H' ⟨rfl, v, w, rfl⟩
    simp only [S_lfind_214]
    walk_at "w"
    have e2 : b + ((cp : Int) - b).toNat = cp := by omega
    rw [e2]; exact hq

theorem c_lat (hK : c.K = hd.heap_39 P) {lo : Addr} {ow : List Int} {k : Int} {i0 : Nat} (h : H lo = some (.list (ow.map .int))) (hz : ow.length ≤ 1000) (hi : ow[i0]? = some k) (hu : ∀ i, i < i0 → ow[i]? ≠ some k) (hq : Q (.int (i0 : Nat)) H) : Calls c (n + 1) 284 [.ref lo, .int k] H Q := by
  refine calls_fn ok_lat (in_lat hK) (snd_lat hK) rfl ?_
  simp only [S_lat, n_lat]
  walk_at "w"
  have hlt := (List.getElem?_eq_some_iff.mp hi).1
  simp only [listAt_ref h, Ok_some, List.length_map]
  refine ⟨by omega, by omega, by omega, by omega, by omega, fun i l H' => H' = H ∧ i ≤ i0 ∧ ∃ v, l = [.ref lo, .int k, v], ⟨rfl, by omega, _, rfl⟩, ?_, ?_⟩
  · rintro i l H' hi' ⟨rfl, hle, v, rfl⟩
    simp only [S_lat_274]
    walk_at "w"
    rw [getI_list h (by omega) (by omega)]
    rw [show ((0 : Int) + (i : Nat)).toNat = i by omega, List.getElem?_map]
    by_cases e : i = i0
    · subst e
      rw [hi]
      simp only [Option.map_some, Ok_some, wCmp_eqI, decide_true, wTr_bool, if_true, S_lat_275]
      walk_at "w"
      rw [Int.zero_add]; exact hq
    · have hne := hu i (by omega)
      obtain ⟨z, hz'⟩ : ∃ z, ow[i]? = some z := ⟨_, List.getElem?_eq_getElem (by omega)⟩
      have : ¬ z = k := fun q => hne (by rw [hz', q])
      rw [hz']
      simp only [Option.map_some, Ok_some, wCmp_eqI, this, decide_false, wTr_bool, Bool.false_eq_true, if_false]
      first | exact ⟨rfl, by omega, _, rfl⟩ | exact ⟨by omega, _, rfl⟩ | exact ⟨trivial, by omega, _, rfl⟩
  · rintro l H' ⟨rfl, hle, v, rfl⟩
    omega
end

section
variable {c : Cx} {P : Params} {n : Nat} {H : AH} {Q : AV → AH → Prop}

end
/-! the tree of sums -/
def lb (c : Nat) : Nat := if c % 2 = 1 then 1 else if c % 4 = 2 then 2 else if c % 8 = 4 then 4 else if c % 16 = 8 then 8 else 16
theorem lb_and : ∀ k, k < 32 → 0 < k → Builtin.bitAnd (k : Nat) (-((k : Nat) : Int)) = (lb k : Nat) := by decide +kernel
theorem lb_le : ∀ k, k < 32 → 0 < k → 0 < lb k ∧ lb k ≤ k := by decide +kernel
def pre (tv : Nat → Int) : Nat → Nat → Int
  | 0, _ => 0
  | f + 1, k => if k = 0 then 0 else tv k + pre tv f (k - lb k)
def finD : Nat → Nat → Bool
  | 0, k => k == 0
  | f + 1, k => k == 0 || finD f (k - lb k)
theorem finD_ok : ∀ k, k < 32 → finD 6 k = true := by decide +kernel
def addUp (r : Int) : Nat → (Nat → Int) → Nat → Nat → Int
  | 0, tv, _ => tv
  | f + 1, tv, k => if 32 ≤ k then tv else addUp r f (fun j => if j = k then tv j + r else tv j) (k + lb k)
def cnt : Nat → Nat → Nat → Int
  | 0, _, _ => 0
  | f + 1, k, j => if 32 ≤ k then 0 else (if j = k then 1 else 0) + cnt f (k + lb k) j
theorem addUp_cnt (r : Int) : ∀ (f : Nat) (tv : Nat → Int) (k j : Nat), addUp r f tv k j = tv j + cnt f k j * r
  | 0, tv, k, j => by simp [addUp, cnt]
  | f + 1, tv, k, j => by
    unfold addUp cnt
    split
    · simp
    · rw [addUp_cnt r f]
      by_cases e : j = k
      · simp only [e, if_true]; rw [Int.add_mul, Int.one_mul, Int.add_assoc]
      · simp only [e, if_false]; rw [Int.zero_add]
theorem pre_lin (tv g : Nat → Int) (r : Int) : ∀ (f k : Nat), pre (fun j => tv j + g j * r) f k = pre tv f k + pre g f k * r
  | 0, k => by simp [pre]
  | f + 1, k => by
    unfold pre
    split
    · simp
    · rw [pre_lin tv g r f, Int.add_mul]; omega
theorem cnt_ok : ∀ p, p < 32 → 0 < p → ∀ k, k < 32 → pre (cnt 6 p) 6 k = if p ≤ k then 1 else 0 := by decide +kernel
def finU : Nat → Nat → Bool
  | 0, k => decide (32 ≤ k)
  | f + 1, k => decide (32 ≤ k) || finU f (k + lb k)
theorem finU_ok : ∀ k, k < 32 → 0 < k → finU 6 k = true := by decide +kernel
theorem pre_addUp {tv : Nat → Int} {r : Int} {p k : Nat} (hp : p < 32) (h0 : 0 < p) (hk : k < 32) : pre (addUp r 6 tv p) 6 k = pre tv 6 k + if p ≤ k then r else 0 := by
  have : addUp r 6 tv p = fun j => tv j + cnt 6 p j * r := by funext j; exact addUp_cnt r 6 tv p j
  rw [this, pre_lin, cnt_ok p hp h0 k hk]
  split <;> simp
theorem addUp_low (r : Int) : ∀ (f : Nat) (tv : Nat → Int) (k j : Nat), j < k → addUp r f tv k j = tv j
  | 0, tv, k, j, _ => rfl
  | f + 1, tv, k, j, h => by
    unfold addUp
    split
    · rfl
    · rw [addUp_low r f _ _ _ (by omega)]
      simp only [show ¬ j = k by omega, if_false]
theorem pre_congr {tv tv' : Nat → Int} {S : Nat} (h : ∀ k, k < S → tv k = tv' k) : ∀ (f k : Nat), k < S → pre tv f k = pre tv' f k
  | 0, k, _ => rfl
  | f + 1, k, hk => by
    unfold pre
    split
    · rfl
    · rw [h k hk, pre_congr h f _ (by omega)]

/-! the next ones -/
def UF (N : Nat) (nv : Nat → Nat) : Prop := ∀ k, k ≤ N → k ≤ nv k ∧ nv k ≤ N ∧ ∀ j, k ≤ j → j < nv k → nv j ≠ j
structure Ix (c : Cx) (H : AH) (X dX tr nx : Addr) (S N : Nat) (tv : Nat → Int) (nv : Nat → Nat) : Prop where
  x : H X = some (.inst 133 dX [(17, .ref tr), (18, .ref nx)])
  t : H tr = some (.list ((List.range S).map fun k => .int (tv k)))
  n : H nx = some (.list ((List.range (N + 1)).map fun k => .int (nv k : Nat)))
  ts : tr ≠ c.scr
  ns : nx ≠ c.scr
  tn : tr ≠ nx
  S32 : S ≤ 32
  small : N ≤ 1000
theorem Ix.xn {c : Cx} {H : AH} {X dX tr nx : Addr} {S N : Nat} {tv : Nat → Int} {nv : Nat → Nat} (I : Ix c H X dX tr nx S N tv nv) : X ≠ nx ∧ X ≠ tr := by
  constructor
  · rintro rfl; have := I.x; rw [I.n] at this; cases this
  · rintro rfl; have := I.x; rw [I.t] at this; cases this
theorem Ix.setN {c : Cx} {H : AH} {X dX tr nx : Addr} {S N : Nat} {tv : Nat → Int} {nv nv' : Nat → Nat} (I : Ix c H X dX tr nx S N tv nv) : Ix c (upd H nx (.list ((List.range (N + 1)).map fun k => .int (nv' k : Nat)))) X dX tr nx S N tv nv' :=
  ⟨by rw [upd_other I.xn.1]; exact I.x, by rw [upd_other I.tn]; exact I.t, upd_same _ _ _, I.ts, I.ns, I.tn, I.S32, I.small⟩
theorem Ix.setT {c : Cx} {H : AH} {X dX tr nx : Addr} {S N : Nat} {tv tv' : Nat → Int} {nv : Nat → Nat} (I : Ix c H X dX tr nx S N tv nv) : Ix c (upd H tr (.list ((List.range S).map fun k => .int (tv' k)))) X dX tr nx S N tv' nv :=
  ⟨by rw [upd_other I.xn.2]; exact I.x, upd_same _ _ _, by rw [upd_other I.tn.symm]; exact I.n, I.ts, I.ns, I.tn, I.S32, I.small⟩
theorem range_set {α : Type} {n k : Nat} {g : Nat → α} {v : α} : ((List.range n).map g).set k v = (List.range n).map fun j => if j = k then v else g j := by
  apply List.ext_getElem?
  intro i
  rw [List.getElem?_set, List.getElem?_map, List.getElem?_map]
  by_cases e : k = i
  · subst e
    simp only [List.length_map, List.length_range, if_true]
    split
    · rename_i h; rw [List.getElem?_range h]; simp
    · rename_i h; rw [List.getElem?_eq_none (by simpa using h)]; rfl
  · rw [if_neg e]
    cases h : (List.range n)[i]? with
    | none => rfl
    | some z =>
      have : z = i := by
        obtain ⟨h1, h2⟩ := List.getElem?_eq_some_iff.mp h
        rw [List.getElem_range] at h2; exact h2.symm
      subst this
      simp only [Option.map_some]
      rw [if_neg (fun q => e q.symm)]

section
variable {c : Cx} {P : Params} {n : Nat} {H : AH} {Q : AV → AH → Prop}
theorem c_current (hK : c.K = hd.heap_39 P) {X dX tr nx d dd : Addr} {S N : Nat} {tv : Nat → Int} {nv : Nat → Nat} {r : Row} {i : Nat} {k : Int} (I : Ix c H X dX tr nx S N tv nv) (hd' : H d = some (delO dd r (i : Nat) k)) (hi : i + 1 < S) (hq : Q (.int ((i : Int) - pre tv 6 (i + 1))) H) : Calls c (n + 1) 102 [.ref X, .ref d] H Q := by
  have hS := I.S32
  refine calls_fn ok_current (in_current hK) (snd_current hK) rfl ?_
  have f1 := del10 hd'
  have f2 : getA H (.ref X) 17 = some (.ref tr) := by rw [getA_ref I.x]; rfl
  simp only [S_current, n_current, S_current_64, S_current_65]
  walk_at "w*"
  simp only [S_current_66]
  walk_at "w"
  refine ⟨fun m l H' => H' = H ∧ m < S ∧ ∃ f tot, finD f m = true ∧ l = [.ref X, .ref d, .int i, .int tot, .int m] ∧ tot + pre tv f m = pre tv 6 (i + 1), ⟨i + 1, rfl, hi, 6, 0, finD_ok _ (by omega), by simp, by simp⟩, ?_⟩
  rintro m l H' ⟨rfl, hm, f, tot, hf, rfl, hs⟩
  walk_at "w"
  by_cases e : m = 0
  · subst e
    simp only [Int.natCast_zero, not_true_eq_false, decide_false, Bool.false_eq_true, if_false, S_current_69]
    walk_at "w"
    have : pre tv f 0 = 0 := by cases f <;> simp [pre]
    rw [this] at hs
    rw [show tot = pre tv 6 (i + 1) by omega]; exact hq
  · have e' : ¬ ((m : Int) = 0) := by omega
    simp only [e', not_false_eq_true, decide_true, if_true, S_current_67]
    walk_at "w*"
    rw [getI_fun I.t hm (by omega)]
    have hb := lb_and m (by omega) (by omega)
    have hl := lb_le m (by omega) (by omega)
    cases f with
    | zero => simp [finD, e] at hf
    | succ f =>
      have hf' : finD f (m - lb m) = true := by simpa [finD, e] using hf
      have hp : pre tv (f + 1) m = tv m + pre tv f (m - lb m) := by conv => lhs; unfold pre; rw [if_neg e]
      rw [hp] at hs
      simp only [Ok_some, wAug, S_current_68]
      walk_at "w"
      simp only [wAug, hb]
      refine ⟨m - lb m, by omega, by omega, f, tot + tv m, hf', ?_, by omega⟩
      rw [show (m : Int) - (lb m : Nat) = ((m - lb m : Nat) : Int) by omega]

theorem c_collapse (hK : c.K = hd.heap_39 P) {X dX tr nx d dd : Addr} {S N : Nat} {tv : Nat → Int} {nv : Nat → Nat} {r : Row} {i : Nat} {k rem : Int} (I : Ix c H X dX tr nx S N tv nv) (hd' : H d = some (delO dd r (i : Nat) k)) (hi : i + 1 < S) (h0 : rem ≠ 0)
    (hq : Q .none (upd H tr (.list ((List.range S).map fun k => .int (addUp rem 6 tv (i + 1) k))))) : Calls c (n + 1) 109 [.ref X, .ref d, .int rem] H Q := by
  have hS := I.S32
  refine calls_fn ok_collapse (in_collapse hK) (snd_collapse hK) rfl ?_
  have f1 := del10 hd'
  simp only [S_collapse, n_collapse, S_collapse_74]
  walk_at "w"
  simp only [h0, not_false_eq_true, decide_true, Bool.not_true, Bool.false_eq_true, if_false]
  walk_at "w*"
  simp only [S_collapse_75]
  walk_at "w"
  refine ⟨fun m l H' => ∃ f cur, finU f cur = true ∧ 0 < cur ∧ m = 32 - cur ∧ l = [.ref X, .ref d, .int rem, .int (cur : Nat)] ∧ ∃ tv', H' = upd H tr (.list ((List.range S).map fun k => .int (tv' k))) ∧ ∀ j, j < S → addUp rem f tv' cur j = addUp rem 6 tv (i + 1) j, ⟨31 - i, 6, i + 1, finU_ok _ (by omega) (by omega), by omega, by omega, by simp, tv, (upd_self I.t).symm, fun _ _ => rfl⟩, ?_⟩
  rintro m l H' ⟨f, cur, hf, hc, rfl, rfl, tv', rfl, hs⟩
  have I' := I.setT (tv' := tv')
  have f2 : getA (upd H tr (.list ((List.range S).map fun k => .int (tv' k)))) (.ref X) 17 = some (.ref tr) := by rw [getA_ref I'.x]; rfl
  walk_at "w*"
  simp only [listAt_ref I'.t, Ok_some, List.length_map, List.length_range]
  refine ⟨by omega, ?_⟩
  by_cases e : cur < S
  · have e' : decide ((cur : Int) < (S : Nat)) = true := by simp only [decide_eq_true_eq]; omega
    have hb := lb_and cur (by omega) hc
    have hl := lb_le cur (by omega) hc
    simp only [e', if_true, S_collapse_76]
    walk_at "w*"
    rw [getI_fun I'.t e (by omega)]
    simp only [Ok_some, wAug, listAt_ref I'.t, List.length_map, List.length_range, Int.toNat_natCast, upd_upd]
    refine ⟨I.ts, by omega, by omega, by omega, ?_⟩
    simp only [S_collapse_77]
    walk_at "w"
    simp only [wAug, hb]
    cases f with
    | zero => simp [finU] at hf; omega
    | succ f =>
      have hf' : finU f (cur + lb cur) = true := by
        simp only [finU, Bool.or_eq_true, decide_eq_true_eq] at hf
        rcases hf with hf | hf
        · omega
        · exact hf
      refine ⟨32 - (cur + lb cur), by omega, f, cur + lb cur, hf', by omega, rfl, ?_, fun j => if j = cur then tv' j + rem else tv' j, ?_, ?_⟩
      · rw [show (cur : Int) + (lb cur : Nat) = ((cur + lb cur : Nat) : Int) by omega]
      · congr 2
        rw [range_set]
        apply List.map_congr_left
        intro j _
        by_cases q : j = cur
        · subst q; simp
        · simp [q]
      · intro j hj
        have := hs j hj
        unfold addUp at this
        rw [if_neg (by omega)] at this
        exact this
  · have e' : decide ((cur : Int) < (S : Nat)) = false := by simp only [decide_eq_false_iff_not]; omega
    simp only [e', Bool.false_eq_true, if_false]
    have : (List.range S).map (fun k => AV.int (tv' k)) = (List.range S).map fun k => .int (addUp rem 6 tv (i + 1) k) := by
      apply List.map_congr_left
      intro j hj
      have hj := List.mem_range.mp hj
      rw [← hs j hj, addUp_low _ _ _ _ _ (by omega)]
    rw [this]; exact hq

def IsRoot (nv : Nat → Nat) (o r : Nat) : Prop := o ≤ r ∧ nv r = r ∧ ∀ j, o ≤ j → j < r → nv j ≠ j
def SameAct (N : Nat) (nv nv' : Nat → Nat) : Prop := ∀ j, j ≤ N → (nv' j = j ↔ nv j = j)
def nxO (N : Nat) (nv : Nat → Nat) : AO := .list ((List.range (N + 1)).map fun k => .int (nv k : Nat))
theorem nxO_congr {N : Nat} {nv nv' : Nat → Nat} (h : ∀ k, k ≤ N → nv k = nv' k) : nxO N nv = nxO N nv' := by
  unfold nxO
  congr 1
  apply List.map_congr_left
  intro j hj
  rw [h j (by have := List.mem_range.mp hj; omega)]
theorem nx_set {N : Nat} {nv : Nat → Nat} {k v : Nat} : AO.list (((List.range (N + 1)).map fun k => AV.int (nv k : Nat)).set k (.int (v : Nat))) = nxO N (fun j => if j = k then v else nv j) := by
  unfold nxO
  rw [range_set]
  congr 1
  apply List.map_congr_left
  intro j _
  by_cases q : j = k <;> simp [q]

theorem c_ufind (hK : c.K = hd.heap_39 P) {X dX tr nx : Addr} {S N : Nat} {tv : Nat → Int} {nv : Nat → Nat} {o : Nat} (I : Ix c H X dX tr nx S N tv nv) (hu : UF N nv) (ho : o ≤ N)
    (hq : ∀ r nv', IsRoot nv o r → r ≤ N → UF N nv' → SameAct N nv nv' → Q (.int (r : Nat)) (upd H nx (nxO N nv'))) : Calls c (n + 1) 130 [.ref X, .int (o : Nat)] H Q := by
  have hN := I.small
  refine calls_fn ok_ufind (in_ufind hK) (snd_ufind hK) rfl ?_
  have f2 : getA H (.ref X) 18 = some (.ref nx) := by rw [getA_ref I.x]; rfl
  simp only [S_ufind, n_ufind]
  walk_at "w"
  simp only [S_ufind_91]
  walk_at "w"
  refine ⟨fun m l H' => H' = H ∧ ∃ rt, m = N - rt ∧ o ≤ rt ∧ rt ≤ N ∧ (∀ j, o ≤ j → j < rt → nv j ≠ j) ∧ l = [.ref X, .int o, .int (rt : Nat), .bad], ⟨N - o, rfl, o, rfl, Nat.le_refl _, ho, fun j h1 h2 => by omega, rfl⟩, ?_⟩
  rintro m l H' ⟨rfl, rt, rfl, h1, h2, h3, rfl⟩
  walk_at "w*"
  rw [getI_fun I.n (by omega) (by omega)]
  walk_at "w"
  obtain ⟨u1, u2, u3⟩ := hu rt h2
  by_cases e : nv rt = rt
  · simp only [e, not_true_eq_false, decide_false, Bool.false_eq_true, if_false, S_ufind_93]
    walk_at "w"
    refine ⟨fun m l H'' => ∃ od nv', m = rt - od ∧ o ≤ od ∧ od ≤ rt ∧ UF N nv' ∧ SameAct N nv nv' ∧ H'' = upd H' nx (nxO N nv') ∧ ∃ v, l = [.ref X, .int (od : Nat), .int (rt : Nat), v], ⟨rt - o, o, nv, rfl, Nat.le_refl _, h1, hu, fun _ _ => Iff.rfl, (upd_self I.n).symm, _, rfl⟩, ?_⟩
    rintro m l H'' ⟨od, nv', rfl, g1, g2, g3, g4, rfl, v, rfl⟩
    have I' : Ix c (upd H' nx (nxO N nv')) X dX tr nx S N tv nv' := I.setN
    have f3 : getA (upd H' nx (nxO N nv')) (.ref X) 18 = some (.ref nx) := by rw [getA_ref I'.x]; rfl
    have hact : nv' rt = rt := (g4 rt h2).mpr e
    walk_at "w*"
    rw [getI_fun I'.n (by omega) (by omega)]
    walk_at "w"
    by_cases e2 : nv' od = od
    · simp only [e2, not_true_eq_false, decide_false, Bool.false_eq_true, if_false, S_ufind_97]
      walk_at "w"
      have : od = rt := by
        refine Nat.le_antisymm g2 (Nat.le_of_not_lt fun h => ?_)
        exact h3 od g1 h ((g4 od (by omega)).mp e2)
      exact hq rt nv' ⟨h1, e, h3⟩ h2 g3 g4
    · have e2' : ¬ ((nv' od : Int) = (od : Nat)) := by omega
      obtain ⟨w1, w2, w3⟩ := g3 od (by omega)
      have hlt : od < rt := by
        refine Nat.lt_of_le_of_ne g2 ?_
        rintro rfl; exact e2 hact
      have hle : nv' od ≤ rt := by
        refine Nat.le_of_not_lt fun h => ?_
        exact w3 rt g2 h hact
      simp only [e2', not_false_eq_true, decide_true, if_true, S_ufind_94]
      walk_at "w*"
      rw [getI_fun I'.n (by omega) (by omega)]
      simp only [Ok_some, S_ufind_95]
      walk_at "w*"
      simp only [listAt_ref I'.n, Ok_some, List.length_map, List.length_range, Int.toNat_natCast, upd_upd]
      refine ⟨I.ns, by omega, by omega, by omega, ?_⟩
      rw [nx_set]
      simp only [S_ufind_96]
      walk_at "w"
      refine ⟨rt - nv' od, by omega, nv' od, fun j => if j = od then rt else nv' j, rfl, by omega, hle, ?_, ?_, rfl, _, rfl⟩
      · intro k hk
        dsimp only
        by_cases q : k = od
        · subst q
          rw [if_pos rfl]
          refine ⟨by omega, h2, fun j hj1 hj2 => ?_⟩
          by_cases q : j = k
          · rw [if_pos q]; omega
          · rw [if_neg q]
            intro z
            exact h3 j (by omega) hj2 ((g4 j (by omega)).mp z)
        · rw [if_neg q]
          obtain ⟨x1, x2, x3⟩ := g3 k hk
          refine ⟨x1, x2, fun j hj1 hj2 => ?_⟩
          by_cases q : j = od
          · rw [if_pos q]; omega
          · rw [if_neg q]; exact x3 j hj1 hj2
      · intro j hj
        dsimp only
        by_cases q : j = od
        · subst q
          rw [if_pos rfl]
          constructor
          · intro z; omega
          · intro z; exact absurd z (h3 j g1 hlt)
        · rw [if_neg q]; exact g4 j hj
  · have e' : ¬ ((nv rt : Int) = (rt : Nat)) := by omega
    simp only [e', not_false_eq_true, decide_true, if_true, S_ufind_92]
    walk_at "w*"
    rw [getI_fun I.n (by omega) (by omega)]
    simp only [Ok_some]
    refine ⟨N - nv rt, by omega, nv rt, rfl, by omega, u2, fun j hj1 hj2 => ?_, rfl⟩
    by_cases q : j < rt
    · exact h3 j hj1 q
    · exact u3 j (by omega) hj2
theorem UF.off {N : Nat} {nv : Nat → Nat} (h : UF N nv) {o r : Nat} (ho : o < N) (hr : IsRoot nv (o + 1) r) (hr' : r ≤ N) : UF N (fun j => if j = o then r else nv j) := by
  obtain ⟨r1, r2, r3⟩ := hr
  intro k hk
  dsimp only
  by_cases q : k = o
  · subst q
    rw [if_pos rfl]
    refine ⟨by omega, hr', fun j h1 h2 => ?_⟩
    by_cases q : j = k
    · rw [if_pos q]; omega
    · rw [if_neg q]; exact r3 j (by omega) h2
  · rw [if_neg q]
    obtain ⟨x1, x2, x3⟩ := h k hk
    refine ⟨x1, x2, fun j h1 h2 => ?_⟩
    by_cases q : j = o
    · rw [if_pos q]; omega
    · rw [if_neg q]; exact x3 j h1 h2
theorem IsRoot.same {N : Nat} {nv nv' : Nat → Nat} {o r : Nat} (h : IsRoot nv o r) (s : SameAct N nv nv') (hr : r ≤ N) : IsRoot nv' o r :=
  ⟨h.1, (s r hr).mpr h.2.1, fun j h1 h2 e => h.2.2 j h1 h2 ((s j (by omega)).mp e)⟩
def OffAct (N : Nat) (nv nv' : Nat → Nat) (o : Nat) : Prop := ∀ j, j ≤ N → (nv' j = j ↔ nv j = j ∧ j ≠ o)
theorem off_act {N : Nat} {nv nv' : Nat → Nat} (s : SameAct N nv nv') {o r : Nat} (h : o < r) : OffAct N nv (fun j => if j = o then r else nv' j) o := by
  intro j hj
  dsimp only
  by_cases q : j = o
  · subst q; rw [if_pos rfl]; constructor
    · intro z; omega
    · intro z; exact absurd rfl z.2
  · rw [if_neg q]; constructor
    · intro z; exact ⟨(s j hj).mp z, q⟩
    · intro z; exact (s j hj).mpr z.1
theorem c_deactivate (hK : c.K = hd.heap_39 P) {X dX tr nx : Addr} {S N : Nat} {tv : Nat → Int} {nv : Nat → Nat} {o : Nat} (I : Ix c H X dX tr nx S N tv nv) (hu : UF N nv) (ho : o < N)
    (hq : ∀ nv', UF N nv' → OffAct N nv nv' o → Q .none (upd H nx (nxO N nv'))) : Calls c (n + 2) 116 [.ref X, .int (o : Nat)] H Q := by
  have hN := I.small
  refine calls_fn ok_deactivate (in_deactivate hK) (snd_deactivate hK) rfl ?_
  simp only [S_deactivate, n_deactivate]
  walk_at "w"
  simp only [instAt_ref I.x, Ok_some]
  refine ⟨trivial, ?_⟩
  rw [show (o : Int) + 1 = ((o + 1 : Nat) : Int) by omega]
  refine c_ufind hK I hu (by omega) fun r nv' h1 h2 h3 h4 => ?_
  have I' : Ix c (upd H nx (nxO N nv')) X dX tr nx S N tv nv' := I.setN
  have f3 : getA (upd H nx (nxO N nv')) (.ref X) 18 = some (.ref nx) := by rw [getA_ref I'.x]; rfl
  walk_at "w*"
  simp only [listAt_ref I'.n, Ok_some, List.length_map, List.length_range, Int.toNat_natCast, upd_upd]
  refine ⟨I.ns, by omega, by omega, by omega, ?_⟩
  rw [nx_set]
  exact hq _ (h3.off ho (h1.same h4 h2) h2) (off_act h4 h1.1)

/-- all but the next ones and the delimiters stands -/
def FrD (nx : Addr) (N : Nat) (ds : Nat → Addr) (H H' : AH) : Prop := ∀ a, a ≠ nx → (∀ k, k < N → a ≠ ds k) → H' a = H a
def zeroed (rows : Nat → Row) (a b k : Nat) : Row := if a ≤ k ∧ k < b then { rows k with len := 0 } else rows k
theorem c_deactRange (hK : c.K = hd.heap_39 P) {X dX tr nx ld : Addr} {S N : Nat} {tv : Nat → Int} {nv : Nat → Nat} {ds dds : Nat → Addr} {rows : Nat → Row} {idx : Nat → Int} {a b : Nat} (I : Ix c H X dX tr nx S N tv nv) (D : Dels H ld N ds dds rows idx) (hu : UF N nv) (hs : ScrOk c H)
    (hl : ld ≠ nx) (ha : a ≤ N) (hb : b ≤ N) (hz : ∀ k, k < N → nv k ≠ k → (rows k).len = 0)
    (hq : ∀ nv' H', UF N nv' → Ix c H' X dX tr nx S N tv nv' → Dels H' ld N ds dds (zeroed rows a b) idx → FrD nx N ds H H' → (∀ k, k < N → nv' k ≠ k → (zeroed rows a b k).len = 0) → Q .none H') : Calls c (n + 2) 123 [.ref X, .ref ld, .int (a : Nat), .int (b : Nat)] H Q := by
  have hN := I.small
  obtain ⟨xs, hscr, _⟩ := hs
  refine calls_fn ok_deactRange (in_deactRange hK) (snd_deactRange hK) rfl ?_
  simp only [S_deactRange, n_deactRange]
  walk_at "w"
  simp only [instAt_ref I.x, Ok_some]
  refine ⟨trivial, ?_⟩
  refine c_ufind hK I hu ha fun r nv1 h1 h2 h3 h4 => ?_
  simp only [S_deactRange_84]
  walk_at "w"
  have dne : ∀ k, k < N → ds k ≠ nx ∧ ds k ≠ X ∧ ds k ≠ tr ∧ ds k ≠ ld ∧ ds k ≠ c.scr := by
    intro k hk
    have e := D.at' k hk
    refine ⟨?_, ?_, ?_, ?_, ?_⟩ <;> intro q <;> rw [q] at e
    · rw [I.n] at e; cases e
    · rw [I.x] at e; simp [delO] at e
    · rw [I.t] at e; cases e
    · rw [D.l] at e; cases e
    · rw [hscr] at e; cases e
  refine ⟨fun m l H' => ∃ od nv', m = N - od ∧ a ≤ od ∧ od ≤ N ∧ UF N nv' ∧ nv' od = od ∧ (∀ j, j ≤ N → (nv' j = j ↔ nv j = j ∧ ¬ (a ≤ j ∧ j < od))) ∧ (∀ j, j ≤ N → a ≤ j → b ≤ j → j < od → nv j ≠ j) ∧ Ix c H' X dX tr nx S N tv nv' ∧ Dels H' ld N ds dds (zeroed rows a od) idx ∧ FrD nx N ds H H' ∧ l = [.ref X, .ref ld, .int (a : Nat), .int (b : Nat), .int (od : Nat)], ⟨N - r, r, nv1, rfl, h1.1, h2, h3, (h4 r h2).mpr h1.2.1, ?_, fun j _ j1 _ j2 => h1.2.2 j j1 j2, I.setN, ?_, ?_, rfl⟩, ?_⟩
  · intro j hj
    rw [h4 j hj]
    constructor
    · intro z; exact ⟨z, fun q => h1.2.2 j q.1 q.2 z⟩
    · intro z; exact z.1
  · refine ⟨by rw [upd_other hl]; exact D.l, fun k hk => ?_, D.inj, D.small⟩
    rw [upd_other (dne k hk).1, D.at' k hk]
    unfold zeroed
    split
    · rename_i q
      have := hz k hk (h1.2.2 k q.1 q.2)
      simp only [delO, this]
    · rfl
  · intro x hx _; rw [upd_other hx]
  · rintro m l H' ⟨od, nv', rfl, g1, g2, g3, g4, g5, g9, g6, g7, g8, rfl⟩
    walk_at "w"
    by_cases e : od < b
    · have e' : decide ((od : Int) < (b : Nat)) = true := by simp only [decide_eq_true_eq]; omega
      simp only [e', if_true, S_deactRange_85]
      walk_at "w"
      rw [getI_fun g7.l (by omega) (by omega)]
      have dat := g7.at' od (by omega)
      simp only [Ok_some, instAt_ref dat]
      refine ⟨(dne od (by omega)).2.2.2.2, by simp, by omega, ?_⟩
      have new : AO.inst 77 (dds od) (putA [(10, .int (idx od)), (11, .str (zeroed rows a od od).sign), (12, .int (zeroed rows a od od).len), (13, .bool (zeroed rows a od od).op), (14, .bool (zeroed rows a od od).cl), (15, .int (zeroed rows a od od).orig), (16, .int (od : Nat))] 12 (.int 0)) = delO (dds od) (zeroed rows a (od + 1) od) (idx od) (od : Nat) := by
        have e1 : zeroed rows a (od + 1) od = { rows od with len := 0 } := by unfold zeroed; rw [if_pos ⟨g1, by omega⟩]
        have e2 : zeroed rows a od od = rows od := by unfold zeroed; rw [if_neg (by omega)]
        rw [e1, e2]; rfl
      rw [new]
      have I1 : Ix c (upd H' (ds od) (delO (dds od) (zeroed rows a (od + 1) od) (idx od) (od : Nat))) X dX tr nx S N tv nv' := by
        obtain ⟨d1, d2, d3, _⟩ := dne od (by omega)
        exact ⟨by rw [upd_other d2.symm]; exact g6.x, by rw [upd_other d3.symm]; exact g6.t, by rw [upd_other d1.symm]; exact g6.n, g6.ts, g6.ns, g6.tn, g6.S32, g6.small⟩
      have D1 : Dels (upd H' (ds od) (delO (dds od) (zeroed rows a (od + 1) od) (idx od) (od : Nat))) ld N ds dds (zeroed rows a (od + 1)) idx := by
        refine ⟨by rw [upd_other (dne od (by omega)).2.2.2.1.symm]; exact g7.l, fun k hk => ?_, D.inj, D.small⟩
        by_cases q : k = od
        · subst q; exact upd_same _ _ _
        · rw [upd_other (fun z => q (D.inj _ _ hk (by omega) z)), g7.at' k hk]
          have : zeroed rows a (od + 1) k = zeroed rows a od k := by
            unfold zeroed
            by_cases z : a ≤ k ∧ k < od
            · rw [if_pos z, if_pos (by omega)]
            · rw [if_neg z, if_neg (by omega)]
          rw [this]
      simp only [S_deactRange_86]
      walk_at "w"
      simp only [instAt_ref I1.x, Ok_some]
      refine ⟨trivial, ?_⟩
      rw [show (od : Int) + 1 = ((od + 1 : Nat) : Int) by omega]
      refine c_ufind hK I1 g3 (by omega) fun r nv2 k1 k2 k3 k4 => ?_
      have I2 : Ix c (upd (upd H' (ds od) (delO (dds od) (zeroed rows a (od + 1) od) (idx od) (od : Nat))) nx (nxO N nv2)) X dX tr nx S N tv nv2 := I1.setN
      have f3 : getA (upd (upd H' (ds od) (delO (dds od) (zeroed rows a (od + 1) od) (idx od) (od : Nat))) nx (nxO N nv2)) (.ref X) 18 = some (.ref nx) := by rw [getA_ref I2.x]; rfl
      walk_at "w*"
      simp only [listAt_ref I2.n, Ok_some, List.length_map, List.length_range, Int.toNat_natCast, upd_upd]
      refine ⟨I.ns, by omega, by omega, by omega, ?_⟩
      rw [nx_set]
      have u3 := k3.off (o := od) (by omega) (k1.same k4 k2) k2
      have a3 := off_act (o := od) k4 k1.1
      generalize (fun j => if j = od then r else nv2 j) = nv3 at u3 a3
      have I3 : Ix c (upd (upd H' (ds od) (delO (dds od) (zeroed rows a (od + 1) od) (idx od) (od : Nat))) nx (nxO N nv3)) X dX tr nx S N tv nv3 := I1.setN
      simp only [S_deactRange_87]
      walk_at "w"
      simp only [instAt_ref I3.x, Ok_some]
      refine ⟨trivial, ?_⟩
      refine c_ufind hK I3 u3 (by omega) fun r4 nv4 l1 l2 l3 l4 => ?_
      rw [upd_upd]
      have hr4 : od < r4 := by
        refine Nat.lt_of_le_of_ne l1.1 ?_
        rintro rfl
        exact ((a3 od (by omega)).mp l1.2.1).2 rfl
      have act4 : ∀ j, j ≤ N → (nv4 j = j ↔ nv j = j ∧ ¬ (a ≤ j ∧ j < r4)) := by
        intro j hj
        rw [l4 j hj, a3 j hj, g5 j hj]
        constructor
        · rintro ⟨⟨z1, z2⟩, z3⟩
          refine ⟨z1, fun q => ?_⟩
          by_cases w : j < od
          · exact z2 ⟨q.1, w⟩
          · exact l1.2.2 j (by omega) q.2 ((a3 j hj).mpr ⟨(g5 j hj).mpr ⟨z1, z2⟩, z3⟩)
        · rintro ⟨z1, z2⟩
          refine ⟨⟨z1, fun q => z2 ⟨q.1, by omega⟩⟩, ?_⟩
          rintro rfl
          exact z2 ⟨g1, hr4⟩
      refine ⟨N - r4, by omega, r4, nv4, rfl, by omega, l2, l3, (l4 r4 l2).mpr l1.2.1, act4, ?_, I1.setN, ?_, ?_, rfl⟩
      · intro j hj j1 j2 j3 q
        exact l1.2.2 j (by omega) j3 ((a3 j hj).mpr ⟨(g5 j hj).mpr ⟨q, by omega⟩, by omega⟩)
      · refine ⟨by rw [upd_other hl]; exact D1.l, fun k hk => ?_, D.inj, D.small⟩
        rw [upd_other (dne k hk).1, D1.at' k hk]
        have : zeroed rows a (od + 1) k = zeroed rows a r4 k := by
          unfold zeroed
          by_cases z : a ≤ k ∧ k < od + 1
          · rw [if_pos z, if_pos (by omega)]
          · rw [if_neg z]
            split
            · rename_i w
              have hin : nv k ≠ k := by
                intro q
                have := (a3 k (by omega)).mpr ⟨(g5 k (by omega)).mpr ⟨q, fun t => z ⟨t.1, by omega⟩⟩, by omega⟩
                exact l1.2.2 k (by omega) w.2 this
              have := hz k hk hin
              rw [← this]
            · rfl
        rw [this]
      · intro x hx hx'
        rw [upd_other hx, upd_other (hx' od (by omega))]
        exact g8 x hx hx'
    · have e' : decide ((od : Int) < (b : Nat)) = false := by simp only [decide_eq_false_iff_not]; omega
      simp only [e', Bool.false_eq_true, if_false]
      have same : ∀ k, k < N → zeroed rows a od k = zeroed rows a b k := by
        intro k hk
        unfold zeroed
        by_cases z : a ≤ k ∧ k < b
        · rw [if_pos z, if_pos (by omega)]
        · rw [if_neg z]
          split
          · rename_i w
            have := hz k hk (g9 k (by omega) w.1 (by omega) w.2)
            rw [← this]
          · rfl
      refine hq nv' H' g3 g6 ⟨g7.l, fun k hk => by rw [g7.at' k hk, same k hk], D.inj, D.small⟩ g8 ?_
      intro k hk hk'
      unfold zeroed
      split
      · rfl
      · rename_i z
        refine hz k hk fun q => hk' ((g5 k (by omega)).mpr ⟨q, fun t => ?_⟩)
        exact g9 k (by omega) t.1 (by omega) t.2 q
end

/-! tokens as trees -/
mutual
inductive T where
  | text (raw : Str)
  | node (ty : Str) (ks : Ts) (at' : Option Addr)
inductive Ts where
  | nil
  | cons (t : T) (ts : Ts)
end
def Ts.toL : Ts → List T
  | .nil => []
  | .cons t ts => t :: ts.toL
def Ts.ofL : List T → Ts
  | [] => .nil
  | t :: ts => .cons t (Ts.ofL ts)
theorem Ts.toL_ofL : ∀ ts : List T, (Ts.ofL ts).toL = ts
  | [] => rfl
  | t :: ts => by simp [Ts.ofL, Ts.toL, Ts.toL_ofL ts]
mutual
def T.deep : T → Nat
  | .text _ => 0
  | .node _ ks _ => 1 + ks.deep
def Ts.deep : Ts → Nat
  | .nil => 0
  | .cons t ts => max t.deep ts.deep
end
mutual
def T.size : T → Nat
  | .text _ => 1
  | .node _ ks _ => 1 + ks.size
def Ts.size : Ts → Nat
  | .nil => 0
  | .cons t ts => t.size + ts.size
end
def deepL : List T → Nat
  | [] => 0
  | t :: ts => max t.deep (deepL ts)
def sizeL : List T → Nat
  | [] => 0
  | t :: ts => t.size + sizeL ts
theorem Ts.deep_toL : ∀ ks : Ts, deepL ks.toL = ks.deep
  | .nil => rfl
  | .cons t ts => by simp [Ts.toL, deepL, Ts.deep, Ts.deep_toL ts]
theorem Ts.size_toL : ∀ ks : Ts, sizeL ks.toL = ks.size
  | .nil => rfl
  | .cons t ts => by simp [Ts.toL, sizeL, Ts.size, Ts.size_toL ts]
theorem T.size_pos (t : T) : 0 < t.size := by
  cases t with
  | text r => simp [T.size]
  | node ty ks a => simp only [T.size]; omega
theorem sizeL_len : ∀ ts : List T, ts.length ≤ sizeL ts
  | [] => Nat.le_refl _
  | t :: ts => by have := sizeL_len ts; have := t.size_pos; simp [sizeL]; omega
theorem sizeL_mem {t : T} : ∀ {ts : List T}, t ∈ ts → t.size ≤ sizeL ts
  | _ :: ts, .head _ => by simp [sizeL]
  | _ :: ts, .tail _ h => by have := sizeL_mem h; simp [sizeL]; omega
theorem deepL_mem {t : T} : ∀ {ts : List T}, t ∈ ts → t.deep ≤ deepL ts
  | _ :: ts, .head _ => Nat.le_max_left _ _
  | _ :: ts, .tail _ h => by have := deepL_mem h; simp [deepL]; omega
theorem deepL_append : ∀ (a b : List T), deepL (a ++ b) = max (deepL a) (deepL b)
  | [], b => by simp [deepL]
  | t :: a, b => by simp only [List.cons_append, deepL, deepL_append a b]; omega
theorem sizeL_append : ∀ (a b : List T), sizeL (a ++ b) = sizeL a + sizeL b
  | [], b => by simp [sizeL]
  | t :: a, b => by simp [sizeL, sizeL_append a b]; omega
def nodeO (ty : Str) (k : Addr) : Option Addr → AO
  | none => .dict [(0, .str ty), (2, .ref k)]
  | some x => .dict [(0, .str ty), (2, .ref k), (3, .ref x)]
mutual
def IsT (H : AH) : T → AV → Prop
  | .text raw, v => ∃ a, v = .ref a ∧ H a = some (textO raw)
  | .node ty ks at', v => ty ≠ "text" ∧ ∃ a k vs, v = .ref a ∧ H a = some (nodeO ty k at') ∧ H k = some (.list vs) ∧ IsTs H ks vs
def IsTs (H : AH) : Ts → List AV → Prop
  | .nil, vs => vs = []
  | .cons t ts, vs => ∃ v vs', vs = v :: vs' ∧ IsT H t v ∧ IsTs H ts vs'
end
def ExtH (H H' : AH) : Prop := ∀ a o, H a = some o → H' a = some o
theorem ExtH.refl {H : AH} : ExtH H H := fun _ _ h => h
theorem ExtH.trans {H H' H'' : AH} (h : ExtH H H') (h' : ExtH H' H'') : ExtH H H'' := fun a o e => h' a o (h a o e)
theorem ExtH.new {H : AH} {d : Addr} {o : AO} (h : H d = none) : ExtH H (upd H d o) := fun a o' e => by
  rw [upd_other (fun q => by rw [q, h] at e; cases e)]; exact e
mutual
theorem IsT.ext {H H' : AH} (h : ExtH H H') : ∀ {t : T} {v : AV}, IsT H t v → IsT H' t v
  | .text raw, v, ⟨a, e, ha⟩ => ⟨a, e, h _ _ ha⟩
  | .node ty ks at', v, ⟨h0, a, k, vs, e, ha, hk, hs⟩ => ⟨h0, a, k, vs, e, h _ _ ha, h _ _ hk, IsTs.ext h hs⟩
theorem IsTs.ext {H H' : AH} (h : ExtH H H') : ∀ {ts : Ts} {vs : List AV}, IsTs H ts vs → IsTs H' ts vs
  | .nil, vs, e => e
  | .cons t ts, vs, ⟨v, vs', e, h1, h2⟩ => ⟨v, vs', e, IsT.ext h h1, IsTs.ext h h2⟩
end
inductive IsL (H : AH) : List T → List AV → Prop
  | nil : IsL H [] []
  | cons {t : T} {v : AV} {ts : List T} {vs : List AV} : IsT H t v → IsL H ts vs → IsL H (t :: ts) (v :: vs)
theorem IsL.of : ∀ {ks : Ts} {H : AH} {vs : List AV}, IsTs H ks vs → IsL H ks.toL vs
  | .nil, H, vs, e => by cases e; exact .nil
  | .cons t ts, H, vs, ⟨v, vs', e, h1, h2⟩ => by subst e; exact .cons h1 (IsL.of h2)
theorem IsL.to : ∀ {ts : List T} {H : AH} {vs : List AV}, IsL H ts vs → IsTs H (Ts.ofL ts) vs
  | _, H, _, .nil => rfl
  | _, H, _, .cons h1 h2 => ⟨_, _, rfl, h1, IsL.to h2⟩
theorem IsL.length {H : AH} {ts : List T} {vs : List AV} (h : IsL H ts vs) : ts.length = vs.length := by
  induction h with
  | nil => rfl
  | cons _ _ ih => simp [ih]
theorem IsL.get {H : AH} {ts : List T} {vs : List AV} (h : IsL H ts vs) : ∀ {i : Nat} {t : T} {v : AV}, ts[i]? = some t → vs[i]? = some v → IsT H t v := by
  induction h with
  | nil => intro i t v h; cases h
  | cons h1 _ ih =>
    intro i t v ht hv
    cases i with
    | zero => cases ht; cases hv; exact h1
    | succ i => exact ih ht hv
theorem IsL.mk {H : AH} : ∀ {ts : List T} {vs : List AV}, ts.length = vs.length → (∀ (i : Nat) (t : T) (v : AV), ts[i]? = some t → vs[i]? = some v → IsT H t v) → IsL H ts vs
  | [], [], _, _ => .nil
  | t :: ts, v :: vs, hl, h => .cons (h 0 t v rfl rfl) (IsL.mk (by simpa using hl) fun i t v a b => h (i + 1) t v a b)
theorem IsL.ext {H H' : AH} (e : ExtH H H') {ts : List T} {vs : List AV} (h : IsL H ts vs) : IsL H' ts vs := by
  induction h with
  | nil => exact .nil
  | cons h1 _ ih => exact .cons (IsT.ext e h1) ih

/-! equal trees are equal in the heap -/
mutual
theorem de_tree {H : AH} : ∀ {t : T} {v w : AV} {m : Nat}, IsT H t v → IsT H t w → 2 * t.deep + 1 ≤ m → DE H m v w
  | .text raw, v, w, m, ⟨a, e, ha⟩, ⟨b, e', hb⟩, hm => by
    subst e e'
    obtain ⟨m, rfl⟩ : ∃ k, m = k + 1 := ⟨m - 1, by omega⟩
    refine .dict ha hb rfl fun i x y hx hy => ?_
    have : x = y := by rw [hx] at hy; exact Option.some.inj hy
    subst this
    rcases i with _ | _ | i
    · cases hx; exact .str _
    · cases hx; exact .str _
    · cases hx
  | .node ty ks at', v, w, m, ⟨h0, a, k, vs, e, ha, hk, hs⟩, ⟨_, b, k', vs', e', hb, hk', hs'⟩, hm => by
    subst e e'
    simp only [T.deep] at hm
    obtain ⟨m, rfl⟩ : ∃ k, m = k + 2 := ⟨m - 2, by omega⟩
    have kids : DE H (m + 1) (.ref k) (.ref k') := by
      have hl := (IsL.of hs).length.symm.trans (IsL.of hs').length
      exact .list hk hk' hl fun i x y hx hy => de_trees hs hs' (by omega) hx hy
    cases at' with
    | none =>
      refine .dict ha hb rfl fun i x y hx hy => ?_
      rcases i with _ | _ | i
      · cases hx; cases hy; exact .str _
      · cases hx; cases hy; exact kids
      · cases hx
    | some z =>
      refine .dict ha hb rfl fun i x y hx hy => ?_
      rcases i with _ | _ | _ | i
      · cases hx; cases hy; exact .str _
      · cases hx; cases hy; exact kids
      · cases hx; cases hy; exact .same _
      · cases hx
theorem de_trees {H : AH} : ∀ {ks : Ts} {vs ws : List AV} {m i : Nat} {x y : AV}, IsTs H ks vs → IsTs H ks ws → 2 * ks.deep + 1 ≤ m → vs[i]? = some x → ws[i]? = some y → DE H m x y
  | .nil, vs, ws, m, i, x, y, e, _, _, hx, _ => by cases e; cases hx
  | .cons t ts, vs, ws, m, i, x, y, ⟨v, vs', e, h1, h2⟩, ⟨w, ws', e', h1', h2'⟩, hm, hx, hy => by
    subst e e'
    simp only [Ts.deep] at hm
    cases i with
    | zero => cases hx; cases hy; exact de_tree h1 h1' (by omega)
    | succ i => exact de_trees h2 h2' (by omega) hx hy
end
theorem de_list {H : AH} {ts : List T} {vs ws : List AV} (h : IsL H ts vs) (h' : IsL H ts ws) (hd : deepL ts ≤ 20) {i : Nat} {x y : AV} (hx : vs[i]? = some x) (hy : ws[i]? = some y) : DE H 50 x y := by
  have hi : i < ts.length := by rw [h.length]; exact (List.getElem?_eq_some_iff.mp hx).1
  have ht : ts[i]? = some ts[i] := List.getElem?_eq_getElem hi
  have := deepL_mem (List.getElem_mem hi)
  exact de_tree (h.get ht hx) (h'.get ht hy) (by omega)

def fullT : T → Bool
  | .text raw => decide (raw ≠ "")
  | .node .. => true
theorem cut_get {α : Type} {xs : List α} {s e i : Nat} : (cutL xs (some (s : Int)) (some (e : Int)))[i]? = if s + i < e then xs[s + i]? else none := by
  simp only [cutL, Option.getD_some, Int.toNat_natCast, List.getElem?_drop, List.getElem?_take]
theorem cut_map {α β : Type} {f : α → β} {xs : List α} {s e : Option Int} : (cutL xs s e).map f = cutL (xs.map f) s e := by
  cases e <;> simp [cutL, List.map_drop, List.map_take]
theorem IsL.cut {H : AH} {ts : List T} {vs : List AV} (h : IsL H ts vs) {s e : Nat} : IsL H (cutL ts (some (s : Int)) (some (e : Int))) (cutL vs (some (s : Int)) (some (e : Int))) := by
  refine IsL.mk ?_ fun i t v ht hv => ?_
  · simp [cutL, h.length]
  · rw [cut_get] at ht hv
    split at ht
    · rename_i q; rw [if_pos q] at hv; exact h.get ht hv
    · cases ht

section
variable {c : Cx} {P : Params} {n : Nat} {H : AH} {Q : AV → AH → Prop}
theorem tok0 {t : T} {v : AV} (h : IsT H t v) : ∃ x, getK H v 0 = some (.str x) ∧ (x ≠ "text" → fullT t = true) ∧ (x = "text" → ∃ raw, t = .text raw ∧ getK H v 1 = some (.str raw)) := by
  cases t with
  | text raw =>
    obtain ⟨a, e, ha⟩ := h
    subst e
    exact ⟨_, text0 ha, fun q => absurd rfl q, fun _ => ⟨raw, rfl, text1 ha⟩⟩
  | node ty ks at' =>
    obtain ⟨h0, a, k, vs, e, ha, hk, hs⟩ := h
    subst e
    refine ⟨ty, ?_, fun _ => rfl, fun q => absurd q h0⟩
    cases at' <;> (rw [getK_ref ha]; rfl)
theorem c_hasContent (hK : c.K = hd.heap_39 P) {lp : Addr} {ts : List T} {vs : List AV} {s e : Nat} (h : H lp = some (.list vs)) (hl : IsL H ts vs) (hz : vs.length ≤ 1000)
    (hq : ∀ d, H d = none → d ≠ c.scr → Q (.bool ((cutL ts (some (s : Int)) (some (e : Int))).any fullT)) (upd H d (.list (cutL vs (some (s : Int)) (some (e : Int)))))) : Calls c (n + 1) 193 [.ref lp, .int (s : Nat), .int (e : Nat)] H Q := by
  refine calls_fn ok_hasContent (in_hasContent hK) (snd_hasContent hK) rfl ?_
  simp only [S_hasContent, n_hasContent]
  walk_at "w"
  simp only [wSlice, partV, Ok_some, h]
  refine ⟨by omega, fun i q => by cases q; omega, fun i q => by cases q; omega, fun d hd hs => ?_⟩
  have hcut := (hl.ext (ExtH.new (o := .list (cutL vs (some (s : Int)) (some (e : Int)))) hd)).cut (s := s) (e := e)
  have hlen : (cutL vs (some (s : Int)) (some (e : Int))).length ≤ vs.length := by simp [cutL]; omega
  simp only [listAt_ref (upd_same H d _), Ok_some]
  refine ⟨by omega, fun i l H' => H' = upd H d (.list (cutL vs (some (s : Int)) (some (e : Int)))) ∧ ((cutL ts (some (s : Int)) (some (e : Int))).take i).any fullT = false ∧ ∃ v, l = [.ref lp, .int s, .int e, v], ⟨rfl, by simp, _, rfl⟩, ?_, ?_, ?_⟩
  · rintro i l H' ⟨rfl, _⟩; exact upd_same _ _ _
  · rintro i l H' w hw ⟨rfl, hf, v, rfl⟩
    obtain ⟨t, ht⟩ : ∃ t, (cutL ts (some (s : Int)) (some (e : Int)))[i]? = some t := ⟨_, List.getElem?_eq_getElem (by rw [hcut.length]; exact (List.getElem?_eq_some_iff.mp hw).1)⟩
    obtain ⟨x, hx, hx1, hx2⟩ := tok0 (hcut.get ht hw)
    have hw' : w ≠ .bad := by rintro rfl; cases hx
    have hany : ∀ b, fullT t = b → ((cutL ts (some (s : Int)) (some (e : Int))).take (i + 1)).any fullT = b := by
      intro b hb
      rw [List.take_add_one, ht, List.any_append, hf]; simp [hb]
    have full : fullT t = true → (cutL ts (some (s : Int)) (some (e : Int))).any fullT = true := by
      intro hb
      exact List.any_eq_true.mpr ⟨t, List.mem_of_getElem? ht, hb⟩
    simp only [S_hasContent_153]
    walk_at "w"
    simp only [hx, Ok_some, wCmp_neS, wTr_bool]
    refine ⟨hw', ?_⟩
    by_cases g : x = "text"
    · obtain ⟨raw, rfl, hraw⟩ := hx2 g
      simp only [g, ne_eq, not_true_eq_false, decide_false, Bool.false_eq_true, if_false, hraw, Ok_some, wCmp_neS, wTr_bool]
      refine ⟨hw', ?_⟩
      by_cases g2 : raw = ""
      · simp only [g2, not_true_eq_false, decide_false, Bool.false_eq_true, if_false]
        first | exact ⟨rfl, hany false (by simp [fullT, g2]), _, rfl⟩ | exact ⟨hany false (by simp [fullT, g2]), _, rfl⟩ | exact ⟨trivial, hany false (by simp [fullT, g2]), _, rfl⟩
      · simp only [g2, not_false_eq_true, decide_true, if_true, S_hasContent_154]
        walk_at "w"
        have := hq d hd hs
        rw [full (by simp [fullT, g2])] at this; exact this
    · simp only [g, ne_eq, not_false_eq_true, decide_true, if_true, S_hasContent_154]
      walk_at "w"
      have := hq d hd hs
      rw [full (hx1 g)] at this; exact this
  · rintro l H' ⟨rfl, hf, v, rfl⟩
    simp only [S_hasContent_155]
    walk_at "w"
    have := hq d hd hs
    rw [List.take_of_length_le (by rw [hcut.length]; exact Nat.le_refl _)] at hf
    rw [hf] at this; exact this

theorem deepL_take {ts : List T} {i : Nat} {t : T} (h : ts[i]? = some t) : deepL (ts.take (i + 1)) = max (deepL (ts.take i)) t.deep := by
  rw [List.take_add_one, h, deepL_append]; simp [deepL]
theorem ldeep_step (hK : c.K = hd.heap_39 P) {n : Nat} {ts : List T} {k : Addr} {vs : List AV} (hz : sizeL ts ≤ 1000) (hk : H k = some (.list vs)) (hl : IsL H ts vs)
    (rec : ∀ (ks : Ts) (ty : Str) (at' : Option Addr) (k' : Addr) (vs' : List AV) (Q' : AV → AH → Prop), T.node ty ks at' ∈ ts → H k' = some (.list vs') → IsTs H ks vs' → Q' (.int (ks.deep : Nat)) H → Calls c n 228 [.ref k'] H Q')
    (hq : Q (.int (deepL ts : Nat)) H) : Calls c (n + 1) 228 [.ref k] H Q := by
  refine calls_fn ok_ldeep (in_ldeep hK) (snd_ldeep hK) rfl ?_
  have hvl := hl.length
  have hlen := sizeL_len ts
  simp only [S_ldeep, n_ldeep]
  walk_at "w"
  simp only [S_ldeep_198]
  walk_at "w"
  simp only [listAt_ref hk, Ok_some]
  refine ⟨by omega, fun i l H' => H' = H ∧ ∃ v, l = [.ref k, .int (deepL (ts.take i) : Nat), v], ⟨rfl, _, rfl⟩, ?_, ?_, ?_⟩
  · rintro i l H' ⟨rfl, _⟩; exact hk
  · rintro i l H' w hw ⟨rfl, v, rfl⟩
    obtain ⟨t, ht⟩ : ∃ t, ts[i]? = some t := ⟨_, List.getElem?_eq_getElem (by rw [hvl]; exact (List.getElem?_eq_some_iff.mp hw).1)⟩
    have hT := hl.get ht hw
    have hdeep := deepL_take ht
    simp only [S_ldeep_199]
    walk_at "w"
    cases t with
    | text raw =>
      obtain ⟨a, rfl, ha⟩ := hT
      simp only [dictAt_ref ha, Ok_some, ne_eq, reduceCtorEq, not_false_eq_true, true_and]
      rw [hdeep]
      simp only [T.deep, Nat.max_zero]
      exact ⟨_, rfl⟩
    | node ty ks at' =>
      obtain ⟨h0, a, k', vs', rfl, ha, hk', hs⟩ := hT
      have hd2 : ∃ kvs, H' a = some (.dict kvs) ∧ kvs.lookup 2 = some (.ref k') := by
        cases at' <;> exact ⟨_, ha, rfl⟩
      obtain ⟨kvs, hkvs, hlook⟩ := hd2
      simp only [dictAt_ref hkvs, Ok_some, ne_eq, reduceCtorEq, not_false_eq_true, true_and, hlook, Option.isSome_some, if_true, S_ldeep_200]
      walk_at "w"
      simp only [getK_ref hkvs, hlook, Ok_some]
      refine rec ks ty at' k' vs' _ (List.mem_of_getElem? ht) hk' hs ?_
      simp only [wBin_add, intOf, Ok_some]
      have e9 : max ((deepL (ts.take i) : Nat) : Int) (1 + (ks.deep : Nat)) = ((deepL (ts.take (i + 1)) : Nat) : Int) := by
        rw [hdeep]; simp only [T.deep]; omega
      rw [e9]
      first | exact ⟨_, rfl⟩ | exact ⟨trivial, _, rfl⟩ | exact ⟨rfl, _, rfl⟩
  · rintro l H' ⟨rfl, v, rfl⟩
    simp only [S_ldeep_201]
    walk_at "w"
    rw [List.take_of_length_le (by omega)]
    exact hq
theorem c_ldeep (hK : c.K = hd.heap_39 P) : ∀ (n : Nat) (ts : List T) (k : Addr) (vs : List AV) (Q : AV → AH → Prop), deepL ts ≤ n → sizeL ts ≤ 1000 → H k = some (.list vs) → IsL H ts vs → Q (.int (deepL ts : Nat)) H → Calls c (n + 1) 228 [.ref k] H Q := by
  intro n
  induction n with
  | zero =>
    intro ts k vs Q hd hz hk hl hq
    refine ldeep_step hK hz hk hl (fun ks ty at' k' vs' Q' hm _ _ _ => ?_) hq
    have := deepL_mem hm
    simp only [T.deep] at this; omega
  | succ n ih =>
    intro ts k vs Q hd hz hk hl hq
    refine ldeep_step hK hz hk hl (fun ks ty at' k' vs' Q' hm h1 h2 h3 => ?_) hq
    have e1 := deepL_mem hm
    have e2 := sizeL_mem hm
    simp only [T.deep] at e1
    simp only [T.size] at e2
    refine ih ks.toL k' vs' Q' (by rw [Ts.deep_toL]; omega) (by rw [Ts.size_toL]; omega) h1 (IsL.of h2) (by rw [Ts.deep_toL]; exact h3)

def fullL (ts : List T) : Bool := ts.any fullT
theorem sizeL_cut {ts : List T} {s e : Nat} : sizeL (cutL ts (some (s : Int)) (some (e : Int))) ≤ sizeL ts := by
  simp only [cutL, Option.getD_some, Int.toNat_natCast]
  have h1 : ∀ (xs : List T) (k : Nat), sizeL (xs.take k) ≤ sizeL xs := fun xs k => by
    conv => rhs; rw [← List.take_append_drop k xs, sizeL_append]
    omega
  have h2 : ∀ (xs : List T) (k : Nat), sizeL (xs.drop k) ≤ sizeL xs := fun xs k => by
    conv => rhs; rw [← List.take_append_drop k xs, sizeL_append]
    omega
  exact Nat.le_trans (h2 _ _) (h1 _ _)
theorem deepL_cut {ts : List T} {s e : Nat} : deepL (cutL ts (some (s : Int)) (some (e : Int))) ≤ deepL ts := by
  simp only [cutL, Option.getD_some, Int.toNat_natCast]
  have h1 : ∀ (xs : List T) (k : Nat), deepL (xs.take k) ≤ deepL xs := fun xs k => by
    conv => rhs; rw [← List.take_append_drop k xs, deepL_append]
    omega
  have h2 : ∀ (xs : List T) (k : Nat), deepL (xs.drop k) ≤ deepL xs := fun xs k => by
    conv => rhs; rw [← List.take_append_drop k xs, deepL_append]
    omega
  exact Nat.le_trans (h2 _ _) (h1 _ _)
theorem c_lkids (hK : c.K = hd.heap_39 P) {lp : Addr} {ts : List T} {vs : List AV} {s e b : Nat} (h : H lp = some (.list vs)) (hl : IsL H ts vs) (hz : sizeL ts ≤ 1000) (hd20 : deepL ts ≤ 20)
    (hq : ∀ d, H d = none → d ≠ c.scr → Q (if fullL (cutL ts (some ((s + 1 : Nat) : Int)) (some (e : Int))) = true ∧ deepL (cutL ts (some ((s + 1 : Nat) : Int)) (some (e : Int))) < b then .ref d else .none) (upd H d (.list (cutL vs (some ((s + 1 : Nat) : Int)) (some (e : Int)))))) : Calls c (n + 22) 256 [.ref lp, .int (s : Nat), .int (e : Nat), .int (b : Nat)] H Q := by
  refine calls_fn (n := n + 21) ok_lkids (in_lkids hK) (snd_lkids hK) rfl ?_
  have hvl := hl.length
  have hlen0 := sizeL_len ts
  simp only [S_lkids, n_lkids]
  walk_at "w"
  rw [show (s : Int) + 1 = ((s + 1 : Nat) : Int) by omega]
  simp only [wSlice, partV, Ok_some, h]
  refine ⟨by omega, fun i q => by cases q; omega, fun i q => by cases q; omega, fun d hd hs => ?_⟩
  replace hq := hq d hd hs
  have hcut := (hl.ext (ExtH.new (o := .list (cutL vs (some ((s + 1 : Nat) : Int)) (some (e : Int)))) hd)).cut (s := s + 1) (e := e)
  have hsz := sizeL_cut (ts := ts) (s := s + 1) (e := e)
  have hdp := deepL_cut (ts := ts) (s := s + 1) (e := e)
  have hHd := upd_same H d (.list (cutL vs (some ((s + 1 : Nat) : Int)) (some (e : Int))))
  have hlen : (cutL vs (some ((s + 1 : Nat) : Int)) (some (e : Int))).length ≤ vs.length := by simp [cutL]; omega
  generalize upd H d (.list (cutL vs (some ((s + 1 : Nat) : Int)) (some (e : Int)))) = H1 at *
  generalize cutL vs (some ((s + 1 : Nat) : Int)) (some (e : Int)) = cv at *
  generalize cutL ts (some ((s + 1 : Nat) : Int)) (some (e : Int)) = ct at *
  have hcl := hcut.length
  simp only [S_lkids_223]
  walk_at "w"
  simp only [S_lkids_224]
  walk_at "w"
  simp only [listAt_ref hHd, Ok_some]
  refine ⟨by omega, fun i l H' => H' = H1 ∧ ∃ v, l = [.ref lp, .int s, .int e, .int b, .ref d, .bool ((ct.take i).any fullT), v], ⟨rfl, .bad, by simp⟩, ?_, ?_, ?_⟩
  · rintro i l H' ⟨rfl, _⟩; exact hHd
  · rintro i l H' w hw ⟨rfl, v, rfl⟩
    obtain ⟨t, ht⟩ : ∃ t, ct[i]? = some t := ⟨_, List.getElem?_eq_getElem (by rw [hcl]; exact (List.getElem?_eq_some_iff.mp hw).1)⟩
    obtain ⟨x, hx, hx1, hx2⟩ := tok0 (hcut.get ht hw)
    have hw' : w ≠ .bad := by rintro rfl; cases hx
    have hany : (ct.take (i + 1)).any fullT = ((ct.take i).any fullT || fullT t) := by
      rw [List.take_add_one, ht, List.any_append]; simp
    simp only [S_lkids_225]
    walk_at "w"
    simp only [hx, Ok_some, wCmp_neS, wTr_bool]
    refine ⟨hw', ?_⟩
    by_cases g : x = "text"
    · obtain ⟨raw, rfl, hraw⟩ := hx2 g
      simp only [g, ne_eq, not_true_eq_false, decide_false, Bool.false_eq_true, if_false, hraw, Ok_some, wCmp_neS, wTr_bool]
      refine ⟨hw', ?_⟩
      by_cases g2 : raw = ""
      · simp only [g2, not_true_eq_false, decide_false, Bool.false_eq_true, if_false]
        rw [hany]
        have : fullT (.text raw) = false := by simp [fullT, g2]
        rw [this, Bool.or_false]
        first | exact ⟨_, rfl⟩ | exact ⟨trivial, _, rfl⟩
      · simp only [g2, not_false_eq_true, decide_true, if_true, S_lkids_226]
        walk_at "w"
        rw [hany, show fullT (.text raw) = true by simp [fullT, g2], Bool.or_true]
        exact ⟨_, rfl⟩
    · simp only [g, ne_eq, not_false_eq_true, decide_true, if_true, S_lkids_226]
      walk_at "w"
      rw [hany, hx1 g, Bool.or_true]
      exact ⟨_, rfl⟩
  · rintro l H' ⟨rfl, v, rfl⟩
    rw [List.take_of_length_le (by rw [hcl]; exact Nat.le_refl _)]
    have hfl : fullL ct = ct.any fullT := rfl
    simp only [S_lkids_227]
    walk_at "w"
    cases hf : ct.any fullT with
    | false =>
      rw [hf] at hfl
      simp only [Bool.not_false, if_true, S_lkids_228]
      walk_at "w"
      rw [if_neg (by rw [hfl]; simp)] at hq
      exact hq
    | true =>
      rw [hf] at hfl
      simp only [Bool.not_true, Bool.false_eq_true, if_false]
      refine c_ldeep hK (n + 20) ct d cv _ (by omega) (by omega) hHd hcut ?_
      walk_at "w"
      by_cases g : deepL ct < b
      · have : decide ((b : Int) ≤ (deepL ct : Nat)) = false := by simp only [decide_eq_false_iff_not]; omega
        simp only [this, Bool.false_eq_true, if_false, S_lkids_229]
        walk_at "w"
        rw [if_pos ⟨hfl, g⟩] at hq; exact hq
      · have : decide ((b : Int) ≤ (deepL ct : Nat)) = true := by simp only [decide_eq_true_eq]; omega
        simp only [this, if_true, S_lkids_228]
        walk_at "w"
        rw [if_neg (fun z => g z.2)] at hq; exact hq

/-- what the iterating depth counter tells -/
def TDok (c : Cx) : Prop := ∀ (n : Nat) (H : AH) (Q : AV → AH → Prop) (k : Addr) (vs : List AV) (ts : List T), H k = some (.list vs) → IsL H ts vs → sizeL ts ≤ 300 → deepL ts ≤ 30 → k ≠ c.scr → ScrOk c H → (∀ H', ExtH H H' → Q (.int (deepL ts : Nat)) H') → Calls c (n + 3) 26 [.ref k] H Q
theorem c_children (hK : c.K = hd.heap_39 P) (TD : TDok c) {lp a1 a2 : Addr} {ts : List T} {vs : List AV} {s e b : Nat} {x y : Str} (hscr : ScrOk c H) (h : H lp = some (.list vs)) (hl : IsL H ts vs) (hz : sizeL ts ≤ 300) (hd20 : deepL ts ≤ 20) (hb : 0 < b)
    (h1 : vs[s]? = some (.ref a1)) (h2 : vs[e]? = some (.ref a2)) (t1 : H a1 = some (textO x)) (t2 : H a2 = some (textO y))
    (hq : ∀ H' v, ExtH H H' → (if fullL (cutL ts (some ((s + 1 : Nat) : Int)) (some (e : Int))) = true ∧ deepL (cutL ts (some ((s + 1 : Nat) : Int)) (some (e : Int))) < b then ∃ d, v = .ref d ∧ H d = none ∧ d ≠ c.scr ∧ H' d = some (.list (cutL vs (some ((s + 1 : Nat) : Int)) (some (e : Int)))) else v = .none) → Q v H') : Calls c (n + 4) 158 [.ref lp, .int (s : Nat), .int (e : Nat), .int (b : Nat)] H Q := by
  refine calls_fn (n := n + 3) ok_children (in_children hK) (snd_children hK) rfl ?_
  have hvl := hl.length
  have hlen0 := sizeL_len ts
  have hs' := (List.getElem?_eq_some_iff.mp h1).1
  have he' := (List.getElem?_eq_some_iff.mp h2).1
  simp only [S_children, n_children]
  walk_at "w"
  rw [show (s : Int) + 1 = ((s + 1 : Nat) : Int) by omega]
  refine c_hasContent hK h hl (by omega) fun d1 hd1 hs1 => ?_
  have E1 := ExtH.new (o := .list (cutL vs (some ((s + 1 : Nat) : Int)) (some (e : Int)))) hd1
  generalize upd H d1 (.list (cutL vs (some ((s + 1 : Nat) : Int)) (some (e : Int)))) = H1 at *
  walk_at "w"
  have hfl : fullL (cutL ts (some ((s + 1 : Nat) : Int)) (some (e : Int))) = (cutL ts (some ((s + 1 : Nat) : Int)) (some (e : Int))).any fullT := rfl
  cases hf : (cutL ts (some ((s + 1 : Nat) : Int)) (some (e : Int))).any fullT with
  | false =>
    rw [hf] at hfl
    simp only [Bool.not_false, if_true, S_children_115]
    walk_at "w"
    exact hq H1 .none E1 (by rw [if_neg (by rw [hfl]; simp)])
  | true =>
    rw [hf] at hfl
    simp only [Bool.not_true, Bool.false_eq_true, if_false, S_children_116]
    walk_at "w"
    rw [getI_list (E1 _ _ h) (by omega) (by omega), Int.toNat_natCast, h1]
    simp only [Ok_some, S_children_117]
    walk_at "w"
    rw [getI_list (E1 _ _ h) (by omega) (by omega), Int.toNat_natCast, h2]
    simp only [Ok_some, S_children_118]
    walk_at "w"
    simp only [text0 (E1 _ _ t1), text0 (E1 _ _ t2), Ok_some, wCmp_neS, wTr_bool, ne_eq, not_true_eq_false, decide_false, Bool.false_eq_true, if_false, reduceCtorEq, not_false_eq_true, true_and, S_children_120]
    walk_at "w"
    rw [show (s : Int) + 1 = ((s + 1 : Nat) : Int) by omega]
    simp only [wSlice, partV, Ok_some, E1 _ _ h]
    refine ⟨by omega, fun i q => by cases q; omega, fun i q => by cases q; omega, fun d hd hs => ?_⟩
    have E2 := ExtH.new (o := .list (cutL vs (some ((s + 1 : Nat) : Int)) (some (e : Int)))) hd
    have hHd := upd_same H1 d (.list (cutL vs (some ((s + 1 : Nat) : Int)) (some (e : Int))))
    generalize upd H1 d (.list (cutL vs (some ((s + 1 : Nat) : Int)) (some (e : Int)))) = H2 at *
    have hHn : H d = none := by
      cases q : H d with
      | none => rfl
      | some o => rw [E1 _ _ q] at hd; cases hd
    have hcut := (hl.ext (E1.trans E2)).cut (s := s + 1) (e := e)
    have hsz := sizeL_cut (ts := ts) (s := s + 1) (e := e)
    have hdp := deepL_cut (ts := ts) (s := s + 1) (e := e)
    simp only [S_children_121]
    walk_at "w"
    have : decide ((0 : Int) < (b : Nat)) = true := by simp only [decide_eq_true_eq]; omega
    simp only [this, if_true]
    have scr2 : ScrOk c H2 := by obtain ⟨xs, z1, z2⟩ := hscr; exact ⟨xs, (E1.trans E2) _ _ z1, z2⟩
    refine TD n H2 _ d _ _ hHd hcut (by omega) (by omega) hs scr2 fun H3 E3 => ?_
    walk_at "w"
    by_cases g : deepL (cutL ts (some ((s + 1 : Nat) : Int)) (some (e : Int))) < b
    · have : decide ((b : Int) ≤ (deepL (cutL ts (some ((s + 1 : Nat) : Int)) (some (e : Int))) : Nat)) = false := by simp only [decide_eq_false_iff_not]; omega
      simp only [this, Bool.false_eq_true, if_false, S_children_123]
      walk_at "w"
      exact hq H3 (.ref d) ((E1.trans E2).trans E3) (by rw [if_pos ⟨hfl, g⟩]; exact ⟨d, rfl, hHn, hs, E3 _ _ hHd⟩)
    · have : decide ((b : Int) ≤ (deepL (cutL ts (some ((s + 1 : Nat) : Int)) (some (e : Int))) : Nat)) = true := by simp only [decide_eq_true_eq]; omega
      simp only [this, if_true, S_children_122]
      walk_at "w"
      exact hq H3 .none ((E1.trans E2).trans E3) (by rw [if_neg (fun z => g z.2)])
end

theorem slice_neg {x : Str} {u : Int} (h0 : 0 < u) (h1 : u ≤ x.length) : sCut x none (some (-u)) = sCut x none (some ((x.length : Int) - u)) := by
  unfold sCut PySem.Txt.slice
  rw [PySem.StrLaws.sliceIdx_neg_hi none x.length (by omega) (by omega), show -u + (x.length : Int) = (x.length : Int) - u by omega]
theorem sCut_le {x : Str} {l u : Option Int} : (sCut x l u).length ≤ x.length := PySem.Txt.slice_le x l u
def oneR (r : Row) (u : Int) : Row := if r.len - u = 0 then { r with len := r.len - u, op := false } else { r with len := r.len - u }
def twoR (r : Row) (u : Int) : Row := if r.len - u = 0 then { r with len := r.len - u, cl := false } else { r with len := r.len - u }
def applyRows (rows : Nat → Row) (fo co : Nat) (u : Int) (far : Prop) [Decidable far] (k : Nat) : Row :=
  if k = fo then oneR (rows fo) u else if k = co then twoR (rows co) u else if far then zeroed rows (fo + 1) co k else rows k
/-- a part of a list put out for one thing -/
def splice {α : Type} (xs : List α) (f s : Nat) (x : α) : List α := xs.take (f + 1) ++ x :: xs.drop s
theorem splice_map {α β : Type} {g : α → β} {xs : List α} {f s : Nat} {x : α} : (splice xs f s x).map g = splice (xs.map g) f s (g x) := by
  simp [splice, List.map_take, List.map_drop]
theorem cut_lo {α : Type} {xs : List α} {k : Nat} : cutL xs none (some (k : Int)) = xs.take k := by simp [cutL]
theorem cut_hi {α : Type} {xs : List α} {k : Nat} : cutL xs (some (k : Int)) none = xs.drop k := by simp [cutL]
section
variable {c : Cx} {H : AH} {Q : AV → AH → Prop}
theorem wSlice_list {a : Addr} {xs : List AV} {lo hi : AV} {l h : Option Int} (hx : H a = some (.list xs)) (hl : partV lo = some l) (hh : partV hi = some h) : wSlice c (.ref a) lo hi H Q = (xs.length ≤ 10000 ∧ okPart l ∧ okPart h ∧ ∀ d, H d = none → d ≠ c.scr → Q (.ref d) (upd H d (.list (cutL xs l h)))) := by
  simp only [wSlice, hl, hh, Ok_some, hx]
theorem wSlice_str {x : Str} {lo hi : AV} {l h : Option Int} (hl : partV lo = some l) (hh : partV hi = some h) : wSlice c (.str x) lo hi H Q = (x.length ≤ 1000 ∧ Q (.str (sCut x l h)) H) := by
  simp only [wSlice, hl, hh, Ok_some]
theorem wBin_addL {a b : Addr} {xs ys : List AV} (h1 : H a = some (.list xs)) (h2 : H b = some (.list ys)) : wBin c .Add (.ref a) (.ref b) H Q = (xs.length + ys.length ≤ 10000 ∧ ∀ d, H d = none → d ≠ c.scr → Q (.ref d) (upd H d (.list (xs ++ ys)))) := by
  simp only [wBin, h1, h2, Ok_some]
end
theorem okN {k : Nat} : okPart (some (k : Int)) := fun i q => by cases q; omega
theorem okNo : okPart none := fun i q => by cases q

/-- what stands but for some -/
def ExtX (A : Addr → Prop) (H H' : AH) : Prop := ∀ a o, ¬ A a → H a = some o → H' a = some o
theorem ExtX.refl {A : Addr → Prop} {H : AH} : ExtX A H H := fun _ _ _ h => h
theorem ExtX.trans {A : Addr → Prop} {H H' H'' : AH} (h : ExtX A H H') (h' : ExtX A H' H'') : ExtX A H H'' := fun a o n e => h' a o n (h a o n e)
theorem ExtX.new {A : Addr → Prop} {H : AH} {d : Addr} {o : AO} (h : H d = none) : ExtX A H (upd H d o) := fun a o' _ e => ExtH.new h a o' e
theorem ExtX.set {A : Addr → Prop} {H : AH} {d : Addr} {o : AO} (h : A d) : ExtX A H (upd H d o) := fun a o' n e => by rw [upd_other (by rintro rfl; exact n h)]; exact e
theorem ExtX.of {A : Addr → Prop} {H H' : AH} (h : ExtH H H') : ExtX A H H' := fun a o _ e => h a o e
/-- what is live stays live -/
def Live (H H' : AH) : Prop := ∀ a, H' a = none → H a = none
theorem Live.refl {H : AH} : Live H H := fun _ h => h
theorem Live.trans {H H' H'' : AH} (h : Live H H') (h' : Live H' H'') : Live H H'' := fun a e => h a (h' a e)
theorem Live.upd {H : AH} {d : Addr} {o : AO} : Live H (upd H d o) := fun a e => by
  by_cases q : a = d
  · subst q; rw [upd_same] at e; cases e
  · rwa [upd_other q] at e
theorem Live.ext {H H' : AH} (h : ExtH H H') : Live H H' := fun a e => by
  cases q : H a with
  | none => rfl
  | some o => rw [h _ _ q] at e; cases e

theorem Rows.keep {H H' : AH} {lr : Addr} {N : Nat} {rs : Nat → Addr} {rows : Nat → Row} (R : Rows H lr N rs rows) (hl : H' lr = H lr) (hk : ∀ k, k < N → H' (rs k) = H (rs k)) : Rows H' lr N rs rows :=
  ⟨hl.trans R.l, fun k h => (hk k h).trans (R.at' k h), R.inj, R.small⟩
theorem Rows.put {H : AH} {lr : Addr} {N : Nat} {rs : Nat → Addr} {rows : Nat → Row} (R : Rows H lr N rs rows) {j : Nat} (hj : j < N) (r : Row) : Rows (upd H (rs j) (rowO r)) lr N rs (fun k => if k = j then r else rows k) := by
  have hne : lr ≠ rs j := by
    intro q; have e := R.at' j hj; rw [← q, R.l] at e; cases e
  refine ⟨by rw [upd_other hne]; exact R.l, fun k hk => ?_, R.inj, R.small⟩
  by_cases q : k = j
  · subst q; simp only [if_true]; exact upd_same _ _ _
  · simp only [q, if_false]; rw [upd_other (fun z => q (R.inj _ _ hk hj z))]; exact R.at' k hk
theorem Rows.congr {H : AH} {lr : Addr} {N : Nat} {rs : Nat → Addr} {rows rows' : Nat → Row} (R : Rows H lr N rs rows) (h : ∀ k, k < N → rows k = rows' k) : Rows H lr N rs rows' :=
  ⟨R.l, fun k hk => by rw [← h k hk]; exact R.at' k hk, R.inj, R.small⟩

section
variable {c : Cx} {P : Params} {n : Nat} {H : AH} {Q : AV → AH → Prop}
theorem w_splice {l : List AV} {v f s : Nat} {ex : E} {w : AV} {lp : Addr} {vs : List AV} (hv : l[v]? = some (.ref lp)) (h5 : l[5]? = some (.int (f : Nat))) (h6 : l[6]? = some (.int (s : Nat))) (hx : ∀ H Q, Q w H → wE c n ex l H Q) (hl : H lp = some (.list vs)) (hz : vs.length ≤ 1000)
    (hq : ∀ H' d, H' d = some (.list (splice vs f s w)) → H d = none → d ≠ c.scr → ExtH H H' → Q (.ref d) H') :
    wE c n (.bin .Add (.bin .Add (.slice (.var v) .none (.bin .Add (.var 5) (.int 1))) (.list (.cons ex .nil))) (.slice (.var v) (.var 6) .none)) l H Q := by
  simp only [wE, wEs, hv, h5, h6, Ok_some, ne_eq, reduceCtorEq, not_false_eq_true, true_and, wBin_add]
  rw [show (f : Int) + 1 = ((f + 1 : Nat) : Int) by omega]
  rw [wSlice_list hl rfl rfl]
  refine ⟨by omega, okNo, okN, fun d1 hd1 _ => ?_⟩
  have E1 := ExtH.new (o := .list (cutL vs none (some ((f + 1 : Nat) : Int)))) hd1
  have g1 := upd_same H d1 (.list (cutL vs none (some ((f + 1 : Nat) : Int))))
  generalize upd H d1 (.list (cutL vs none (some ((f + 1 : Nat) : Int)))) = H1 at *
  refine hx _ _ fun d2 hd2 _ => ?_
  have E2 := ExtH.new (o := .list [w]) hd2
  have g2 := upd_same H1 d2 (.list [w])
  generalize upd H1 d2 (.list [w]) = H2 at *
  rw [wBin_addL (E2 _ _ g1) g2]
  refine ⟨by simp [cutL]; omega, fun d3 hd3 _ => ?_⟩
  have E3 := ExtH.new (o := .list (cutL vs none (some ((f + 1 : Nat) : Int)) ++ [w])) hd3
  have g3 := upd_same H2 d3 (.list (cutL vs none (some ((f + 1 : Nat) : Int)) ++ [w]))
  generalize upd H2 d3 (.list (cutL vs none (some ((f + 1 : Nat) : Int)) ++ [w])) = H3 at *
  have E03 := (E1.trans E2).trans E3
  rw [wSlice_list (E03 _ _ hl) rfl rfl]
  refine ⟨by omega, okN, okNo, fun d4 hd4 _ => ?_⟩
  have E4 := ExtH.new (o := .list (cutL vs (some (s : Int)) none)) hd4
  have g4 := upd_same H3 d4 (.list (cutL vs (some (s : Int)) none))
  generalize upd H3 d4 (.list (cutL vs (some (s : Int)) none)) = H4 at *
  rw [wBin_addL (E4 _ _ g3) g4]
  refine ⟨by simp [cutL]; omega, fun d5 hd5 hs5 => ?_⟩
  refine hq _ d5 ?_ ((Live.ext (E03.trans E4)) _ hd5) hs5 ((E03.trans E4).trans (ExtH.new hd5))
  rw [upd_same]
  congr 2
  rw [cut_lo, cut_hi]; simp [splice]
/-- what holds while the law's own move is made -/
structure LaF (H : AH) (lm lo lr kd b1 b2 : Addr) (N : Nat) (ms cut : List AV) (ow : List Int) (rs : Nat → Addr) (x y : Str) (Hx : AH) (rx : Nat → Row) : Prop where
  hm : Hx lm = some (.list ms)
  ho : Hx lo = some (.list (ow.map .int))
  hk : Hx kd = some (.list cut)
  h1 : Hx b1 = some (textO x)
  h2 : Hx b2 = some (textO y)
  R : Rows Hx lr N rs rx
  E : ExtX (fun a => a = b1 ∨ a = b2 ∨ ∃ k, k < N ∧ a = rs k) H Hx
  L : Live H Hx
theorem LaF.put {H : AH} {lm lo lr kd b1 b2 : Addr} {N : Nat} {ms cut : List AV} {ow : List Int} {rs : Nat → Addr} {x y : Str} {Hx : AH} {rx : Nat → Row} (F : LaF H lm lo lr kd b1 b2 N ms cut ow rs x y Hx rx) {j : Nat} (hj : j < N) (r : Row) :
    LaF H lm lo lr kd b1 b2 N ms cut ow rs x y (upd Hx (rs j) (rowO r)) (fun k => if k = j then r else rx k) := by
  have e := F.R.at' j hj
  have n1 : ∀ {a : Addr} {xs : List AV}, Hx a = some (.list xs) → a ≠ rs j := by rintro a xs h rfl; rw [e] at h; cases h
  have n2 : ∀ {a : Addr} {z : Str}, Hx a = some (textO z) → a ≠ rs j := by rintro a z h rfl; rw [e] at h; simp [textO, rowO] at h
  exact ⟨by rw [upd_other (n1 F.hm)]; exact F.hm, by rw [upd_other (n1 F.ho)]; exact F.ho, by rw [upd_other (n1 F.hk)]; exact F.hk, by rw [upd_other (n2 F.h1)]; exact F.h1, by rw [upd_other (n2 F.h2)]; exact F.h2, F.R.put hj r,
    F.E.trans (ExtX.set (.inr (.inr ⟨j, hj, rfl⟩))), F.L.trans Live.upd⟩
theorem rowput6 {r : Row} {z : Int} : AO.dict (putA [(5, .str r.sign), (6, .int r.len), (7, .bool r.op), (8, .bool r.cl), (9, .int r.orig)] 6 (.int z)) = rowO { r with len := z } := rfl
theorem rowput7 {r : Row} {z : Bool} : AO.dict (putA [(5, .str r.sign), (6, .int r.len), (7, .bool r.op), (8, .bool r.cl), (9, .int r.orig)] 7 (.bool z)) = rowO { r with op := z } := rfl
theorem rowput8 {r : Row} {z : Bool} : AO.dict (putA [(5, .str r.sign), (6, .int r.len), (7, .bool r.op), (8, .bool r.cl), (9, .int r.orig)] 8 (.bool z)) = rowO { r with cl := z } := rfl
theorem textput {x z : Str} : AO.dict (putA [(0, .str "text"), (1, .str x)] 1 (.str z)) = textO z := rfl
theorem c_lapply (hK : c.K = hd.heap_39 P) {lm lo lr b1 b2 : Addr} {N : Nat} {ms : List AV} {ow : List Int} {rs : Nat → Addr} {rows : Nat → Row} {fo co f s : Nat} {u : Int} {x y : Str} (hscr : ScrOk c H)
    (hm : H lm = some (.list ms)) (ho : H lo = some (.list (ow.map .int))) (R : Rows H lr N rs rows) (hfo : fo < co) (hco : co < N) (hfs : f + 2 ≤ s) (hs : s < ms.length) (hlen : ow.length = ms.length) (hz : ms.length ≤ 1000)
    (h1 : ms[f]? = some (.ref b1)) (h2 : ms[s]? = some (.ref b2)) (t1 : H b1 = some (textO x)) (t2 : H b2 = some (textO y)) (hne : b1 ≠ b2) (hu : u = 1 ∨ u = 2) (hx : u ≤ x.length) (hx1 : x.length ≤ 100) (hy1 : y.length ≤ 100)
    (hq : ∀ H' t nd lm' lo' kd, H' t = some (.tup [.ref lm', .ref lo', .bool (decide (s = f + 2) && decide (0 ≤ (ow[f + 1]?.getD 0)))]) → H' lm' = some (.list (splice ms f s (.ref nd))) → H' lo' = some (.list ((splice ow f s (-1)).map .int)) →
      H' nd = some (nodeO (if u = 2 then "strong" else "emphasis") kd none) → H' kd = some (.list (cutL ms (some ((f + 1 : Nat) : Int)) (some (s : Int)))) → H nd = none → H lm' = none → H lo' = none → H kd = none → nd ≠ kd → lm' ≠ lo' →
      H' b1 = some (textO (sCut x none (some ((x.length : Int) - u)))) → H' b2 = some (textO (sCut y (some u) none)) → Rows H' lr N rs (applyRows rows fo co u (f + 2 < s)) → ExtX (fun a => a = b1 ∨ a = b2 ∨ ∃ k, k < N ∧ a = rs k) H H' → Live H H' → Q (.ref t) H') :
    Calls c (n + 1) 263 [.ref lm, .ref lo, .ref lr, .int (fo : Nat), .int (co : Nat), .int (f : Nat), .int (s : Nat), .int u] H Q := by
  obtain ⟨xs, hxs, _⟩ := hscr
  refine calls_fn ok_lapply (in_lapply hK) (snd_lapply hK) rfl ?_
  have hN := R.small
  have bne : b1 ≠ c.scr ∧ b2 ≠ c.scr := by
    constructor <;> rintro rfl
    · rw [hxs] at t1; cases t1
    · rw [hxs] at t2; cases t2
  have rne : ∀ k, k < N → rs k ≠ c.scr ∧ rs k ≠ b1 ∧ rs k ≠ b2 ∧ rs k ≠ lr := by
    intro k hk
    have e := R.at' k hk
    refine ⟨?_, ?_, ?_, ?_⟩ <;> intro q <;> rw [q] at e
    · rw [hxs] at e; cases e
    · rw [t1] at e; simp [textO, rowO] at e
    · rw [t2] at e; simp [textO, rowO] at e
    · rw [R.l] at e; cases e
  have lne : lr ≠ b1 ∧ lr ≠ b2 := by
    constructor <;> rintro rfl
    · rw [R.l] at t1; cases t1
    · rw [R.l] at t2; cases t2
  -- the end: the node and the lists
  have D : ∀ (Hd : AH) (kd : Addr) (lone : Bool) (v15 v16 : AV) (rows' : Nat → Row), lone = (decide (s = f + 2) && decide (0 ≤ (ow[f + 1]?.getD 0))) → (∀ k, k < N → rows' k = applyRows rows fo co u (f + 2 < s) k) → H kd = none → LaF H lm lo lr kd b1 b2 N ms (cutL ms (some ((f + 1 : Nat) : Int)) (some (s : Int))) ow rs (sCut x none (some ((x.length : Int) - u))) (sCut y (some u) none) Hd rows' →
      wSs c n S_lapply_249 [.ref lm, .ref lo, .ref lr, .int (fo : Nat), .int (co : Nat), .int (f : Nat), .int (s : Nat), .int u, .ref kd, .bool lone, .ref b1, .ref b2, .ref (rs fo), .ref (rs co), .bad, v15, v16] Hd (fun fl l H' => match fl with | .next => Q .none H' | .ret v => Q v H') := by
    intro Hd kd lone v15 v16 rows' hlone hrows hkd0 ⟨hm', ho', hkd, hb1, hb2, hR, hE, hL⟩
    have fin : ∀ (nd : Addr), Hd nd = none → wSs c n S_lapply_250 [.ref lm, .ref lo, .ref lr, .int (fo : Nat), .int (co : Nat), .int (f : Nat), .int (s : Nat), .int u, .ref kd, .bool lone, .ref b1, .ref b2, .ref (rs fo), .ref (rs co), .ref nd, v15, v16] (upd Hd nd (nodeO (if u = 2 then "strong" else "emphasis") kd none)) (fun fl l H' => match fl with | .next => Q .none H' | .ret v => Q v H') := by
      intro nd hnd
      have E0 := ExtH.new (o := nodeO (if u = 2 then "strong" else "emphasis") kd none) hnd
      have g0 := upd_same Hd nd (nodeO (if u = 2 then "strong" else "emphasis") kd none)
      have L0 := Live.ext E0
      have nk : nd ≠ kd := by rintro rfl; rw [hnd] at hkd; cases hkd
      generalize upd Hd nd (nodeO (if u = 2 then "strong" else "emphasis") kd none) = H0 at *
      rw [S_lapply_250, wSs, wS, wE, wEs]
      refine w_splice (w := .ref nd) (by rfl) (by rfl) (by rfl) (by intro H Q q; simpa [wE, Ok_some] using q) (E0 _ _ hm') hz fun H1 lm' k1 k2 k3 E1 => ?_
      show wEs c n (.cons _ _) _ _ _
      rw [wEs]
      refine w_splice (w := .int (-1)) (by rfl) (by rfl) (by rfl) (by intro H Q q; simpa [wE, intOf, Ok_some] using q) (E1 _ _ (E0 _ _ ho')) (by simp; omega) fun H2 lo' k4 k5 k6 E2 => ?_
      simp only [wEs, wE, List.getElem?_cons_zero, List.getElem?_cons_succ, Ok_some, ne_eq, reduceCtorEq, not_false_eq_true, true_and]
      intro t ht hts
      have E3 := ExtH.new (o := .tup [.ref lm', .ref lo', .bool lone]) ht
      have E02 := (E0.trans E1).trans E2
      have E03 := E02.trans E3
      rw [← hlone] at hq
      refine hq _ t nd lm' lo' kd (upd_same _ _ _) (E3 _ _ (E2 _ _ k1)) (by rw [splice_map]; exact E3 _ _ k4) (E3 _ _ (E2 _ _ (E1 _ _ g0))) (E03 _ _ hkd) (hL _ hnd) (hL _ (L0 _ k2)) (hL _ (L0 _ (Live.ext E1 _ k5))) hkd0 nk ?_ (E03 _ _ hb1) (E03 _ _ hb2) ?_ (hE.trans (ExtX.of E03)) (hL.trans (Live.ext E03))
      · rintro rfl; rw [k5] at k1; cases k1
      · refine Rows.congr (rows := rows') ?_ hrows
        refine hR.keep (by rw [hR.l]; exact E03 _ _ hR.l) fun k hk => by rw [hR.at' k hk]; exact E03 _ _ (hR.at' k hk)
    simp only [S_lapply_249]
    walk_at "w"
    by_cases e : u = 2
    · simp only [e, decide_true, if_true] at fin ⊢
      intro nd hnd _
      exact fin nd hnd
    · simp only [e, decide_false, Bool.false_eq_true, if_false] at fin ⊢
      intro nd hnd _
      exact fin nd hnd
  
  have C : ∀ (Hc : AH) (kd : Addr) (lone : Bool) (v15 v16 : AV) (r1 : Nat → Row), lone = (decide (s = f + 2) && decide (0 ≤ (ow[f + 1]?.getD 0))) → (∀ k, k < N → r1 k = if f + 2 < s then zeroed rows (fo + 1) co k else rows k) → H kd = none →
      LaF H lm lo lr kd b1 b2 N ms (cutL ms (some ((f + 1 : Nat) : Int)) (some (s : Int))) ow rs (sCut x none (some ((x.length : Int) - u))) (sCut y (some u) none) Hc r1 →
      wSs c n S_lapply_241 [.ref lm, .ref lo, .ref lr, .int (fo : Nat), .int (co : Nat), .int (f : Nat), .int (s : Nat), .int u, .ref kd, .bool lone, .ref b1, .ref b2, .bad, .bad, .bad, v15, v16] Hc (fun fl l H' => match fl with | .next => Q .none H' | .ret v => Q v H') := by
    intro Hc kd lone v15 v16 r1 hlone hr1 hkd0 F
    have r1fo : r1 fo = rows fo := by
      rw [hr1 fo (by omega)]; split
      · unfold zeroed; rw [if_neg (by omega)]
      · rfl
    have r1co : r1 co = rows co := by
      rw [hr1 co (by omega)]; split
      · unfold zeroed; rw [if_neg (by omega)]
      · rfl
    simp only [S_lapply_241]
    walk_at "w"
    rw [getI_fun F.R.l (show fo < N by omega) (by omega)]
    simp only [Ok_some, S_lapply_242]
    walk_at "w"
    rw [getI_fun F.R.l hco (by omega)]
    simp only [Ok_some, S_lapply_243]
    walk_at "w"
    have a1 := F.R.at' fo (by omega)
    simp only [row6 a1, Ok_some, wBin_sub, dictAt_ref a1, rowput6]
    refine ⟨(rne fo (by omega)).1, by simp, by omega, ?_⟩
    have F1 := F.put (j := fo) (by omega) { r1 fo with len := (r1 fo).len - u }
    generalize upd Hc (rs fo) (rowO { r1 fo with len := (r1 fo).len - u }) = H1 at *
    simp only [S_lapply_244]
    walk_at "w"
    have a2 := F1.R.at' co hco
    simp only [row6 a2, Ok_some, wBin_sub, dictAt_ref a2, rowput6]
    refine ⟨(rne co (by omega)).1, by simp, by omega, ?_⟩
    have F2 := F1.put (j := co) hco { (if co = fo then { r1 fo with len := (r1 fo).len - u } else r1 co) with len := (if co = fo then { r1 fo with len := (r1 fo).len - u } else r1 co).len - u }
    generalize upd H1 (rs co) (rowO { (if co = fo then { r1 fo with len := (r1 fo).len - u } else r1 co) with len := (if co = fo then { r1 fo with len := (r1 fo).len - u } else r1 co).len - u }) = H2 at *
    simp only [show ¬ co = fo by omega, if_false, r1fo, r1co] at F2
    have a3 := F2.R.at' fo (by omega)
    simp only [show ¬ fo = co by omega, if_false, if_true] at a3
    have tail : ∀ (H3 : AH) (r3 : Nat → Row), LaF H lm lo lr kd b1 b2 N ms (cutL ms (some ((f + 1 : Nat) : Int)) (some (s : Int))) ow rs (sCut x none (some ((x.length : Int) - u))) (sCut y (some u) none) H3 r3 →
        (∀ k, r3 k = if k = co then { rows co with len := (rows co).len - u } else if k = fo then oneR (rows fo) u else r1 k) →
        wSs c n S_lapply_247 [.ref lm, .ref lo, .ref lr, .int (fo : Nat), .int (co : Nat), .int (f : Nat), .int (s : Nat), .int u, .ref kd, .bool lone, .ref b1, .ref b2, .ref (rs fo), .ref (rs co), .bad, v15, v16] H3 (fun fl l H' => match fl with | .next => Q .none H' | .ret v => Q v H') := by
      intro H3 r3 F3 hr3
      have a4 := F3.R.at' co hco
      have e4 : r3 co = { rows co with len := (rows co).len - u } := by rw [hr3, if_pos rfl]
      rw [e4] at a4
      simp only [S_lapply_247]
      walk_at "w"
      simp only [row6 a4, Ok_some, wCmp_eqI, wTr_bool]
      by_cases g : (rows co).len - u = 0
      · simp only [g, decide_true, if_true, S_lapply_248]
        walk_at "w"
        simp only [dictAt_ref a4, Ok_some, rowput8]
        refine ⟨(rne co hco).1, by simp, by omega, ?_⟩
        have F4 := F3.put (j := co) hco { rows co with len := (rows co).len - u, cl := false }
        refine D _ kd lone v15 v16 _ hlone ?_ hkd0 F4
        intro k hk
        dsimp only
        unfold applyRows
        by_cases q : k = fo
        · subst q; rw [if_neg (by omega), hr3, if_neg (by omega), if_pos rfl, if_pos rfl]
        · by_cases q2 : k = co
          · subst q2; rw [if_pos rfl, if_neg q, if_pos rfl]; unfold twoR; rw [if_pos g]
          · rw [if_neg q2, hr3, if_neg q2, if_neg q, if_neg q, if_neg q2, hr1 k hk]
      · simp only [g, decide_false, Bool.false_eq_true, if_false]
        refine D _ kd lone v15 v16 _ hlone ?_ hkd0 F3
        intro k hk
        unfold applyRows
        by_cases q : k = fo
        · subst q; rw [hr3, if_neg (by omega), if_pos rfl, if_pos rfl]
        · by_cases q2 : k = co
          · subst q2; rw [hr3, if_pos rfl, if_neg q, if_pos rfl]; unfold twoR; rw [if_neg g]
          · rw [hr3, if_neg q2, if_neg q, if_neg q, if_neg q2, hr1 k hk]
    simp only [S_lapply_245]
    walk_at "w"
    simp only [row6 a3, Ok_some, wCmp_eqI, wTr_bool]
    by_cases g : (rows fo).len - u = 0
    · simp only [g, decide_true, if_true, S_lapply_246]
      walk_at "w"
      simp only [dictAt_ref a3, Ok_some, rowput7]
      refine ⟨(rne fo (by omega)).1, by simp, by omega, ?_⟩
      have F3 := F2.put (j := fo) (by omega) { rows fo with len := (rows fo).len - u, op := false }
      refine tail _ _ F3 fun k => ?_
      dsimp only
      by_cases q : k = fo
      · subst q; rw [if_pos rfl, if_neg (by omega), if_pos rfl]; unfold oneR; rw [if_pos g]
      · rw [if_neg q]
        by_cases q2 : k = co
        · rw [if_pos q2, if_pos q2]
        · rw [if_neg q2, if_neg q2, if_neg q, if_neg q]
    · simp only [g, decide_false, Bool.false_eq_true, if_false]
      refine tail _ _ F2 fun k => ?_
      dsimp only
      by_cases q2 : k = co
      · rw [if_pos q2, if_pos q2]
      · rw [if_neg q2, if_neg q2]
        by_cases q : k = fo
        · rw [if_pos q, if_pos q]; unfold oneR; rw [if_neg g]
        · rw [if_neg q, if_neg q]
  have B : ∀ (Hc : AH) (kd : Addr) (lone : Bool), lone = (decide (s = f + 2) && decide (0 ≤ (ow[f + 1]?.getD 0))) → H kd = none →
      LaF H lm lo lr kd b1 b2 N ms (cutL ms (some ((f + 1 : Nat) : Int)) (some (s : Int))) ow rs (sCut x none (some ((x.length : Int) - u))) (sCut y (some u) none) Hc rows →
      wSs c n S_lapply_237 [.ref lm, .ref lo, .ref lr, .int (fo : Nat), .int (co : Nat), .int (f : Nat), .int (s : Nat), .int u, .ref kd, .bool lone, .ref b1, .ref b2, .bad, .bad, .bad, .bad, .bad] Hc (fun fl l H' => match fl with | .next => Q .none H' | .ret v => Q v H') := by
    intro Hc kd lone hlone hkd0 F
    simp only [S_lapply_237]
    walk_at "w"
    by_cases g : f + 2 < s
    · have : decide ((2 : Int) < (s : Int) - (f : Nat)) = true := by simp only [decide_eq_true_eq]; omega
      simp only [this, if_true, S_lapply_238]
      walk_at "w"
      refine ⟨by omega, by omega, by omega, by omega, fun i l H' => i ≤ co - (fo + 1) ∧ ∃ v15 v16 r1, l = [.ref lm, .ref lo, .ref lr, .int (fo : Nat), .int (co : Nat), .int (f : Nat), .int (s : Nat), .int u, .ref kd, .bool lone, .ref b1, .ref b2, .bad, .bad, .bad, v15, v16] ∧ (∀ k, k < N → r1 k = zeroed rows (fo + 1) (fo + 1 + i) k) ∧
        LaF H lm lo lr kd b1 b2 N ms (cutL ms (some ((f + 1 : Nat) : Int)) (some (s : Int))) ow rs (sCut x none (some ((x.length : Int) - u))) (sCut y (some u) none) H' r1, ⟨Nat.zero_le _, _, _, rows, rfl, fun k _ => by unfold zeroed; rw [if_neg (by omega)], F⟩, ?_, ?_⟩
      · rintro i l H' hi ⟨hi', v15, v16, r1, rfl, hr1, F1⟩
        simp only [S_lapply_239]
        walk_at "w"
        have e1 : (fo : Int) + 1 + (i : Nat) = ((fo + 1 + i : Nat) : Int) := by omega
        rw [e1, getI_fun F1.R.l (show fo + 1 + i < N by omega) (by omega)]
        simp only [Ok_some, S_lapply_240]
        walk_at "w"
        have a1 := F1.R.at' (fo + 1 + i) (by omega)
        simp only [dictAt_ref a1, Ok_some, rowput6]
        refine ⟨(rne (fo + 1 + i) (by omega)).1, by simp, by omega, by omega, _, _, _, rfl, ?_, F1.put (j := fo + 1 + i) (by omega) _⟩
        intro k hk
        by_cases q : k = fo + 1 + i
        · subst q
          rw [if_pos rfl, hr1 _ hk]
          unfold zeroed
          rw [if_neg (by omega), if_pos (by omega)]
        · rw [if_neg q, hr1 k hk]
          unfold zeroed
          by_cases z : fo + 1 ≤ k ∧ k < fo + 1 + i
          · rw [if_pos z, if_pos (by omega)]
          · rw [if_neg z, if_neg (by omega)]
      · rintro l H' ⟨hi', v15, v16, r1, rfl, hr1, F1⟩
        refine C H' kd lone v15 v16 r1 hlone ?_ hkd0 F1
        intro k hk
        rw [if_pos g, hr1 k hk]
        rw [show fo + 1 + ((co : Int) - ((fo : Int) + 1)).toNat = co by omega]
    · have : decide ((2 : Int) < (s : Int) - (f : Nat)) = false := by simp only [decide_eq_false_iff_not]; omega
      simp only [this, Bool.false_eq_true, if_false]
      exact C Hc kd lone _ _ rows hlone (fun k _ => by rw [if_neg g]) hkd0 F
  simp only [S_lapply, n_lapply]
  walk_at "w"
  rw [show (f : Int) + 1 = ((f + 1 : Nat) : Int) by omega]
  rw [wSlice_list hm rfl rfl]
  refine ⟨by omega, okN, okN, fun kd hkd hkds => ?_⟩
  have E1 := ExtH.new (o := .list (cutL ms (some ((f + 1 : Nat) : Int)) (some (s : Int)))) hkd
  have hkd1 := upd_same H kd (.list (cutL ms (some ((f + 1 : Nat) : Int)) (some (s : Int))))
  generalize upd H kd (.list (cutL ms (some ((f + 1 : Nat) : Int)) (some (s : Int)))) = H1 at *
  have mid : ∀ lone, lone = (decide (s = f + 2) && decide (0 ≤ (ow[f + 1]?.getD 0))) → wSs c n S_lapply_233 [.ref lm, .ref lo, .ref lr, .int (fo : Nat), .int (co : Nat), .int (f : Nat), .int (s : Nat), .int u, .ref kd, .bool lone, .bad, .bad, .bad, .bad, .bad, .bad, .bad] H1 (fun fl l H' => match fl with | .next => Q .none H' | .ret v => Q v H') := by
    intro lone hlone
    simp only [S_lapply_233]
    walk_at "w"
    rw [getI_list (E1 _ _ hm) (by omega) (by omega), Int.toNat_natCast, h1]
    simp only [Ok_some, S_lapply_234]
    walk_at "w"
    rw [getI_list (E1 _ _ hm) (by omega) (by omega), Int.toNat_natCast, h2]
    simp only [Ok_some, S_lapply_235]
    walk_at "w"
    have s1 := E1 _ _ t1
    have s2 := E1 _ _ t2
    replace B := B
    generalize hX : sCut x none (some ((x.length : Int) - u)) = x' at B
    generalize hY : sCut y (some u) none = y' at B
    simp only [text1 s1, Ok_some]
    refine ⟨by omega, ?_⟩
    rw [wSlice_str rfl rfl, hX]
    simp only [dictAt_ref s1, Ok_some, textput]
    refine ⟨by omega, bne.1, by simp, by omega, ?_⟩
    have s2' : upd H1 b1 (textO x') b2 = some (textO y) := by rw [upd_other (Ne.symm hne)]; exact s2
    have s1' : upd H1 b1 (textO x') b1 = some (textO x') := upd_same _ _ _
    have s3' : ∀ a, a ≠ b1 → upd H1 b1 (textO x') a = H1 a := fun a ha => upd_other ha
    have L3 : Live H1 (upd H1 b1 (textO x')) := Live.upd
    have X3 : ExtX (fun a => a = b1 ∨ a = b2 ∨ ∃ k, k < N ∧ a = rs k) H1 (upd H1 b1 (textO x')) := ExtX.set (.inl rfl)
    generalize upd H1 b1 (textO x') = H3 at *
    simp only [S_lapply_236]
    walk_at "w"
    rw [text1 s2', Ok_some]
    rw [wSlice_str rfl rfl, hY]
    simp only [dictAt_ref s2', Ok_some, textput]
    refine ⟨by omega, bne.2, by simp, by omega, ?_⟩
    refine B _ kd lone hlone hkd ?_
    have n1 : ∀ {a : Addr} {xs : List AV}, H1 a = some (.list xs) → a ≠ b1 ∧ a ≠ b2 := by
      intro a xs h
      constructor <;> rintro rfl
      · rw [s1] at h; cases h
      · rw [s2] at h; cases h
    have go : ∀ {a : Addr} {xs : List AV}, H1 a = some (.list xs) → upd H3 b2 (textO y') a = some (.list xs) := by
      intro a xs h
      rw [upd_other (n1 h).2, s3' _ (n1 h).1]; exact h
    refine ⟨go (E1 _ _ hm), go (E1 _ _ ho), go hkd1, by rw [upd_other hne]; exact s1', upd_same _ _ _, ⟨go (E1 _ _ R.l), fun k hk => ?_, R.inj, R.small⟩, ?_, ?_⟩
    · rw [upd_other (rne k hk).2.2.1, s3' _ (rne k hk).2.1]; exact E1 _ _ (R.at' k hk)
    · exact ((ExtX.of E1).trans X3).trans (ExtX.set (.inr (.inl rfl)))
    · exact ((Live.ext E1).trans L3).trans Live.upd
  simp only [S_lapply_232]
  walk_at "w"
  by_cases g : s = f + 2
  · have : decide ((s : Int) - (f : Nat) = 2) = true := by simp only [decide_eq_true_eq]; omega
    simp only [this, if_true]
    rw [show (f : Int) + 1 = ((f + 1 : Nat) : Int) by omega]
    rw [getI_list (E1 _ _ ho) (by omega) (by omega), Int.toNat_natCast, List.getElem?_map]
    have hlt : f + 1 < ow.length := by omega
    rw [List.getElem?_eq_getElem hlt]
    simp only [Option.map_some, Ok_some, wCmp_ge]
    refine mid _ ?_
    rw [List.getElem?_eq_getElem hlt]
    simp [g]
  · have : decide ((s : Int) - (f : Nat) = 2) = false := by simp only [decide_eq_false_iff_not]; omega
    simp only [this, Bool.false_eq_true, if_false]
    refine mid _ ?_
    simp [g]
end

theorem Dels.put {H : AH} {ld : Addr} {N : Nat} {ds dds : Nat → Addr} {rows : Nat → Row} {idx : Nat → Int} (D : Dels H ld N ds dds rows idx) {j : Nat} (hj : j < N) (r : Row) : Dels (upd H (ds j) (delO (dds j) r (idx j) (j : Nat))) ld N ds dds (fun k => if k = j then r else rows k) idx := by
  have hne : ld ≠ ds j := by
    intro q; have e := D.at' j hj; rw [← q, D.l] at e; cases e
  refine ⟨by rw [upd_other hne]; exact D.l, fun k hk => ?_, D.inj, D.small⟩
  by_cases q : k = j
  · subst q; simp only [if_true]; exact upd_same _ _ _
  · simp only [q, if_false]; rw [upd_other (fun z => q (D.inj _ _ hk hj z))]; exact D.at' k hk
theorem Dels.congr {H : AH} {ld : Addr} {N : Nat} {ds dds : Nat → Addr} {rows rows' : Nat → Row} {idx : Nat → Int} (D : Dels H ld N ds dds rows idx) (h : ∀ k, k < N → rows k = rows' k) : Dels H ld N ds dds rows' idx :=
  ⟨D.l, fun k hk => by rw [← h k hk]; exact D.at' k hk, D.inj, D.small⟩
theorem Dels.keep {H H' : AH} {ld : Addr} {N : Nat} {ds dds : Nat → Addr} {rows : Nat → Row} {idx : Nat → Int} (D : Dels H ld N ds dds rows idx) (hl : H' ld = H ld) (hk : ∀ k, k < N → H' (ds k) = H (ds k)) : Dels H' ld N ds dds rows idx :=
  ⟨hl.trans D.l, fun k h => (hk k h).trans (D.at' k h), D.inj, D.small⟩
theorem Ix.keep {c : Cx} {H H' : AH} {X dX tr nx : Addr} {S N : Nat} {tv : Nat → Int} {nv : Nat → Nat} (I : Ix c H X dX tr nx S N tv nv) (h1 : H' X = H X) (h2 : H' tr = H tr) (h3 : H' nx = H nx) : Ix c H' X dX tr nx S N tv nv :=
  ⟨h1.trans I.x, h2.trans I.t, h3.trans I.n, I.ts, I.ns, I.tn, I.S32, I.small⟩
def ApA (lp a1 a2 tr nx : Addr) (N : Nat) (ds : Nat → Addr) (a : Addr) : Prop := a = lp ∨ a = a1 ∨ a = a2 ∨ a = tr ∨ a = nx ∨ ∃ k, k < N ∧ a = ds k
structure PaF (c : Cx) (H : AH) (lp ld X dX tr nx a1 a2 nd kk : Addr) (ty : Str) (N S : Nat) (ps : List AV) (ds dds : Nat → Addr) (idx : Nat → Int) (x y : Str) (Hx : AH) (rx : Nat → Row) (tv : Nat → Int) (nv : Nat → Nat) : Prop where
  hp : Hx lp = some (.list ps)
  hn : Hx nd = some (nodeO ty kk none)
  h1 : Hx a1 = some (textO x)
  h2 : Hx a2 = some (textO y)
  D : Dels Hx ld N ds dds rx idx
  I : Ix c Hx X dX tr nx S N tv nv
  E : ExtX (ApA lp a1 a2 tr nx N ds) H Hx
  L : Live H Hx
  uf : UF N nv
  scr : ScrOk c Hx
  sep : lp ≠ tr ∧ lp ≠ nx ∧ ld ≠ nx ∧ ld ≠ tr
theorem nodeO_list {ty : Str} {k : Addr} {z : Option Addr} {xs : List AV} (h : nodeO ty k z = .list xs) : False := by cases z <;> cases h
theorem PaF.ne {c : Cx} {H : AH} {lp ld X dX tr nx a1 a2 nd kk : Addr} {ty : Str} {N S : Nat} {ps : List AV} {ds dds : Nat → Addr} {idx : Nat → Int} {x y : Str} {Hx : AH} {rx : Nat → Row} {tv : Nat → Int} {nv : Nat → Nat} (F : PaF c H lp ld X dX tr nx a1 a2 nd kk ty N S ps ds dds idx x y Hx rx tv nv) {j : Nat} (hj : j < N) :
    ds j ≠ lp ∧ ds j ≠ nd ∧ ds j ≠ a1 ∧ ds j ≠ a2 ∧ ds j ≠ X ∧ ds j ≠ tr ∧ ds j ≠ nx ∧ ds j ≠ c.scr := by
  have e := F.D.at' j hj
  obtain ⟨xs, hs, _⟩ := F.scr
  refine ⟨?_, ?_, ?_, ?_, ?_, ?_, ?_, ?_⟩ <;> intro q <;> rw [q] at e
  · rw [F.hp] at e; cases e
  · rw [F.hn] at e; cases e
  · rw [F.h1] at e; cases e
  · rw [F.h2] at e; cases e
  · rw [F.I.x] at e; simp [delO] at e
  · rw [F.I.t] at e; cases e
  · rw [F.I.n] at e; cases e
  · rw [hs] at e; cases e
theorem PaF.put {c : Cx} {H : AH} {lp ld X dX tr nx a1 a2 nd kk : Addr} {ty : Str} {N S : Nat} {ps : List AV} {ds dds : Nat → Addr} {idx : Nat → Int} {x y : Str} {Hx : AH} {rx : Nat → Row} {tv : Nat → Int} {nv : Nat → Nat} (F : PaF c H lp ld X dX tr nx a1 a2 nd kk ty N S ps ds dds idx x y Hx rx tv nv) {j : Nat} (hj : j < N) (r : Row) :
    PaF c H lp ld X dX tr nx a1 a2 nd kk ty N S ps ds dds idx x y (upd Hx (ds j) (delO (dds j) r (idx j) (j : Nat))) (fun k => if k = j then r else rx k) tv nv := by
  obtain ⟨n1, n2, n3, n4, n5, n6, n7, n8⟩ := F.ne hj
  obtain ⟨xs, hs, hs2⟩ := F.scr
  exact ⟨by rw [upd_other n1.symm]; exact F.hp, by rw [upd_other n2.symm]; exact F.hn, by rw [upd_other n3.symm]; exact F.h1, by rw [upd_other n4.symm]; exact F.h2, F.D.put hj r,
    F.I.keep (upd_other n5.symm) (upd_other n6.symm) (upd_other n7.symm), F.E.trans (ExtX.set (.inr (.inr (.inr (.inr (.inr ⟨j, hj, rfl⟩)))))), F.L.trans Live.upd, F.uf, ⟨xs, by rw [upd_other n8.symm]; exact hs, hs2⟩, F.sep⟩
theorem PaF.setN {c : Cx} {H : AH} {lp ld X dX tr nx a1 a2 nd kk : Addr} {ty : Str} {N S : Nat} {ps : List AV} {ds dds : Nat → Addr} {idx : Nat → Int} {x y : Str} {Hx : AH} {rx : Nat → Row} {tv : Nat → Int} {nv nv' : Nat → Nat} (F : PaF c H lp ld X dX tr nx a1 a2 nd kk ty N S ps ds dds idx x y Hx rx tv nv) (hu : UF N nv') :
    PaF c H lp ld X dX tr nx a1 a2 nd kk ty N S ps ds dds idx x y (upd Hx nx (nxO N nv')) rx tv nv' := by
  obtain ⟨xs, hs, hs2⟩ := F.scr
  have nn : ∀ {a : Addr} {o : AO}, Hx a = some o → (∀ zs, o ≠ .list zs) → a ≠ nx := by rintro a o h hz rfl; rw [F.I.n] at h; cases h; exact hz _ rfl
  refine ⟨by rw [upd_other F.sep.2.1]; exact F.hp, by rw [upd_other (nn F.hn (fun zs q => nodeO_list q))]; exact F.hn, by rw [upd_other (nn F.h1 (by intro zs q; cases q))]; exact F.h1, by rw [upd_other (nn F.h2 (by intro zs q; cases q))]; exact F.h2,
    F.D.keep (upd_other F.sep.2.2.1) (fun k hk => upd_other (F.ne hk).2.2.2.2.2.2.1), F.I.setN, F.E.trans (ExtX.set (.inr (.inr (.inr (.inr (.inl rfl)))))), F.L.trans Live.upd, hu, ⟨xs, ?_, hs2⟩, F.sep⟩
  rw [upd_other F.I.ns.symm]; exact hs
theorem PaF.setT {c : Cx} {H : AH} {lp ld X dX tr nx a1 a2 nd kk : Addr} {ty : Str} {N S : Nat} {ps : List AV} {ds dds : Nat → Addr} {idx : Nat → Int} {x y : Str} {Hx : AH} {rx : Nat → Row} {tv tv' : Nat → Int} {nv : Nat → Nat} (F : PaF c H lp ld X dX tr nx a1 a2 nd kk ty N S ps ds dds idx x y Hx rx tv nv) :
    PaF c H lp ld X dX tr nx a1 a2 nd kk ty N S ps ds dds idx x y (upd Hx tr (.list ((List.range S).map fun k => .int (tv' k)))) rx tv' nv := by
  obtain ⟨xs, hs, hs2⟩ := F.scr
  have nn : ∀ {a : Addr} {o : AO}, Hx a = some o → (∀ zs, o ≠ .list zs) → a ≠ tr := by rintro a o h hz rfl; rw [F.I.t] at h; cases h; exact hz _ rfl
  refine ⟨by rw [upd_other F.sep.1]; exact F.hp, by rw [upd_other (nn F.hn (fun zs q => nodeO_list q))]; exact F.hn, by rw [upd_other (nn F.h1 (by intro zs q; cases q))]; exact F.h1, by rw [upd_other (nn F.h2 (by intro zs q; cases q))]; exact F.h2,
    F.D.keep (upd_other F.sep.2.2.2) (fun k hk => upd_other (F.ne hk).2.2.2.2.2.1), F.I.setT, F.E.trans (ExtX.set (.inr (.inr (.inr (.inl rfl))))), F.L.trans Live.upd, F.uf, ⟨xs, ?_, hs2⟩, F.sep⟩
  rw [upd_other F.I.ts.symm]; exact hs
theorem delput12 {dd : Addr} {r : Row} {i k z : Int} : AO.inst 77 dd (putA [(10, .int i), (11, .str r.sign), (12, .int r.len), (13, .bool r.op), (14, .bool r.cl), (15, .int r.orig), (16, .int k)] 12 (.int z)) = delO dd { r with len := z } i k := rfl
theorem delput13 {dd : Addr} {r : Row} {i k : Int} {z : Bool} : AO.inst 77 dd (putA [(10, .int i), (11, .str r.sign), (12, .int r.len), (13, .bool r.op), (14, .bool r.cl), (15, .int r.orig), (16, .int k)] 13 (.bool z)) = delO dd { r with op := z } i k := rfl
theorem delput14 {dd : Addr} {r : Row} {i k : Int} {z : Bool} : AO.inst 77 dd (putA [(10, .int i), (11, .str r.sign), (12, .int r.len), (13, .bool r.op), (14, .bool r.cl), (15, .int r.orig), (16, .int k)] 14 (.bool z)) = delO dd { r with cl := z } i k := rfl

section
variable {c : Cx} {P : Params} {n : Nat} {H : AH} {Q : AV → AH → Prop}

theorem c_apply (hK : c.K = hd.heap_39 P) {lp ld X dX tr nx a1 a2 kk : Addr} {N S : Nat} {ps : List AV} {ds dds : Nat → Addr} {rows : Nat → Row} {idx : Nat → Nat} {tv : Nat → Int} {nv : Nat → Nat} {fo co f s : Nat} {u : Int} {x y : Str} (hscr : ScrOk c H)
    (hp : H lp = some (.list ps)) (D : Dels H ld N ds dds rows (fun k => (idx k : Int))) (I : Ix c H X dX tr nx S N tv nv) (hu0 : UF N nv) (hz0 : ∀ k, k < N → nv k ≠ k → (rows k).len = 0) (hlp : lp ≠ c.scr) (hsep : lp ≠ tr ∧ lp ≠ nx ∧ ld ≠ nx ∧ ld ≠ tr) (hld : ld ≠ lp)
    (hfo : fo < co) (hco : co < N) (hfs : f + 2 ≤ s) (hs : s < ps.length) (hz : ps.length ≤ 1000) (h1 : ps[f]? = some (.ref a1)) (h2 : ps[s]? = some (.ref a2)) (t1 : H a1 = some (textO x)) (t2 : H a2 = some (textO y)) (hne : a1 ≠ a2)
    (hu : u = 1 ∨ u = 2) (hx : u ≤ x.length) (hx1 : x.length ≤ 100) (hy1 : y.length ≤ 100) (hi : idx co + 1 < S) (l1 : u ≤ (rows fo).len) (l2 : u ≤ (rows co).len)
    (hq : ∀ H' nd rx nv', PaF c H lp ld X dX tr nx a1 a2 nd kk (if u = 2 then "strong" else "emphasis") N S (splice ps f s (.ref nd)) ds dds (fun k => (idx k : Int)) (sCut x none (some ((x.length : Int) - u))) (sCut y (some u) none) H' rx (if f + 2 < s then addUp ((s - f - 2 : Nat) : Int) 6 tv (idx co + 1) else tv) nv' →
      H nd = none → (∀ k, k < N → rx k = applyRows rows fo co u (f + 2 < s) k) → (∀ k, k < N → nv' k ≠ k → (rx k).len = 0) → Q .none H') :
    Calls c (n + 3) 165 [.ref lp, .ref ld, .ref X, .ref (ds fo), .ref (ds co), .int (fo : Nat), .int (co : Nat), .int (f : Nat), .int (s : Nat), .int u, .ref kk] H Q := by
  obtain ⟨xs, hxs, hxs2⟩ := hscr
  refine calls_fn (n := n + 2) ok_apply (in_apply hK) (snd_apply hK) rfl ?_
  have hN := D.small
  have ane : a1 ≠ c.scr ∧ a2 ≠ c.scr ∧ a1 ≠ lp ∧ a2 ≠ lp := by
    refine ⟨?_, ?_, ?_, ?_⟩ <;> rintro rfl
    · rw [hxs] at t1; cases t1
    · rw [hxs] at t2; cases t2
    · rw [hp] at t1; cases t1
    · rw [hp] at t2; cases t2
  generalize hX' : sCut x none (some ((x.length : Int) - u)) = x' at hq
  generalize hY' : sCut y (some u) none = y' at hq
  generalize hty : (if u = 2 then ("strong" : Str) else "emphasis") = ty at hq
  generalize htv : (if f + 2 < s then addUp ((s - f - 2 : Nat) : Int) 6 tv (idx co + 1) else tv) = tv' at hq
  -- the last part: the closer's flags
  have Z : ∀ (Hx : AH) (nd : Addr) (v : AV) (rx : Nat → Row) (nvx : Nat → Nat), PaF c H lp ld X dX tr nx a1 a2 nd kk ty N S (splice ps f s (.ref nd)) ds dds (fun k => (idx k : Int)) x' y' Hx rx tv' nvx → H nd = none →
      (∀ k, k < N → rx k = if k = co then { rows co with len := (rows co).len - u } else applyRows rows fo co u (f + 2 < s) k) → (∀ k, k < N → nvx k ≠ k → (rx k).len = 0) →
      wSs c (n + 2) S_apply_140 [.ref lp, .ref ld, .ref X, .ref (ds fo), .ref (ds co), .int (fo : Nat), .int (co : Nat), .int (f : Nat), .int (s : Nat), .int u, .ref kk, .ref a1, .ref a2, .str ty, v] Hx (fun fl l H' => match fl with | .next => Q .none H' | .ret v => Q v H') := by
    intro Hx nd v rx nvx F hnd hrx hoff
    have a := F.D.at' co hco
    have eco : rx co = { rows co with len := (rows co).len - u } := by rw [hrx co hco, if_pos rfl]
    rw [eco] at a
    simp only [S_apply_140]
    walk_at "w"
    rw [del12 a, Ok_some]
    walk_at "w"
    by_cases g : (rows co).len - u = 0
    · simp only [g, decide_true, if_true, S_apply_141]
      walk_at "w"
      rw [instAt_ref a, Ok_some]
      have F1 := F.put (j := co) hco { rows co with len := (rows co).len - u, cl := false }
      refine ⟨(F.ne hco).2.2.2.2.2.2.2, by simp, by omega, ?_⟩
      rw [delput14]
      dsimp only
      generalize upd Hx (ds co) (delO (dds co) { rows co with len := (rows co).len - u, cl := false } (idx co : Int) (co : Nat)) = H1 at *
      have b := F1.D.at' co hco
      simp only [if_true] at b
      simp only [S_apply_142]
      walk_at "w"
      rw [instAt_ref F1.I.x, Ok_some]
      refine ⟨rfl, ?_⟩
      rw [del16 b, Ok_some]
      refine ⟨by simp, ?_⟩
      refine c_deactivate hK F1.I F1.uf hco fun nv' hu' hact => ?_
      refine ⟨rfl, hq _ nd _ nv' (F1.setN hu') hnd ?_ ?_⟩
      · intro k hk
        dsimp only
        by_cases q : k = co
        · subst q; rw [if_pos rfl]; unfold applyRows; rw [if_neg (by omega), if_pos rfl]; unfold twoR; rw [if_pos g]
        · rw [if_neg q, hrx k hk, if_neg q]
      · intro k hk hk'
        dsimp only
        by_cases q : k = co
        · subst q; rw [if_pos rfl]; exact g
        · rw [if_neg q]
          exact hoff k hk fun z => hk' ((hact k (by omega)).mpr ⟨z, q⟩)
    · simp only [g, decide_false, Bool.false_eq_true, if_false]
      refine hq _ nd rx nvx F hnd ?_ hoff
      intro k hk
      rw [hrx k hk]
      by_cases q : k = co
      · subst q; rw [if_pos rfl]; unfold applyRows; rw [if_neg (by omega), if_pos rfl]; unfold twoR; rw [if_neg g]
      · rw [if_neg q]
  -- the opener's flags
  have Y : ∀ (Hx : AH) (nd : Addr) (v : AV) (rx : Nat → Row) (nvx : Nat → Nat), PaF c H lp ld X dX tr nx a1 a2 nd kk ty N S (splice ps f s (.ref nd)) ds dds (fun k => (idx k : Int)) x' y' Hx rx tv' nvx → H nd = none →
      (∀ k, k < N → rx k = if k = co then { rows co with len := (rows co).len - u } else if k = fo then { rows fo with len := (rows fo).len - u } else applyRows rows fo co u (f + 2 < s) k) → (∀ k, k < N → nvx k ≠ k → (rx k).len = 0) →
      wSs c (n + 2) S_apply_137 [.ref lp, .ref ld, .ref X, .ref (ds fo), .ref (ds co), .int (fo : Nat), .int (co : Nat), .int (f : Nat), .int (s : Nat), .int u, .ref kk, .ref a1, .ref a2, .str ty, v] Hx (fun fl l H' => match fl with | .next => Q .none H' | .ret v => Q v H') := by
    intro Hx nd v rx nvx F hnd hrx hoff
    have a := F.D.at' fo (by omega)
    have eco : rx fo = { rows fo with len := (rows fo).len - u } := by rw [hrx fo (by omega), if_neg (by omega), if_pos rfl]
    rw [eco] at a
    simp only [S_apply_137]
    walk_at "w"
    rw [del12 a, Ok_some]
    walk_at "w"
    by_cases g : (rows fo).len - u = 0
    · simp only [g, decide_true, if_true, S_apply_138]
      walk_at "w"
      rw [instAt_ref a, Ok_some]
      have F1 := F.put (j := fo) (by omega) { rows fo with len := (rows fo).len - u, op := false }
      refine ⟨(F.ne (show fo < N by omega)).2.2.2.2.2.2.2, by simp, by omega, ?_⟩
      rw [delput13]
      dsimp only
      generalize upd Hx (ds fo) (delO (dds fo) { rows fo with len := (rows fo).len - u, op := false } (idx fo : Int) (fo : Nat)) = H1 at *
      have b := F1.D.at' fo (by omega)
      simp only [if_true] at b
      simp only [S_apply_139]
      walk_at "w"
      rw [instAt_ref F1.I.x, Ok_some]
      refine ⟨rfl, ?_⟩
      rw [del16 b, Ok_some]
      refine ⟨by simp, ?_⟩
      refine c_deactivate hK F1.I F1.uf (show fo < N by omega) fun nv' hu' hact => ?_
      refine ⟨rfl, Z _ nd v _ nv' (F1.setN hu') hnd ?_ ?_⟩
      · intro k hk
        dsimp only
        by_cases q : k = fo
        · subst q; rw [if_pos rfl, if_neg (by omega)]; unfold applyRows; rw [if_pos rfl]; unfold oneR; rw [if_pos g]
        · rw [if_neg q, hrx k hk, if_neg q]
      · intro k hk hk'
        dsimp only
        by_cases q : k = fo
        · subst q; rw [if_pos rfl]; exact g
        · rw [if_neg q]
          exact hoff k hk fun z => hk' ((hact k (by omega)).mpr ⟨z, q⟩)
    · simp only [g, decide_false, Bool.false_eq_true, if_false]
      refine Z _ nd v rx nvx F hnd ?_ hoff
      intro k hk
      rw [hrx k hk]
      by_cases q2 : k = co
      · rw [if_pos q2, if_pos q2]
      · rw [if_neg q2, if_neg q2]
        by_cases q : k = fo
        · subst q; rw [if_pos rfl]; unfold applyRows; rw [if_pos rfl]; unfold oneR; rw [if_neg g]
        · rw [if_neg q]
  -- the lengths
  have W : ∀ (Hx : AH) (nd : Addr) (v : AV) (rx : Nat → Row) (nvx : Nat → Nat), PaF c H lp ld X dX tr nx a1 a2 nd kk ty N S (splice ps f s (.ref nd)) ds dds (fun k => (idx k : Int)) x' y' Hx rx tv' nvx → H nd = none →
      (∀ k, k < N → rx k = if f + 2 < s then zeroed rows (fo + 1) co k else rows k) → (∀ k, k < N → nvx k ≠ k → (rx k).len = 0) →
      wSs c (n + 2) S_apply_135 [.ref lp, .ref ld, .ref X, .ref (ds fo), .ref (ds co), .int (fo : Nat), .int (co : Nat), .int (f : Nat), .int (s : Nat), .int u, .ref kk, .ref a1, .ref a2, .str ty, v] Hx (fun fl l H' => match fl with | .next => Q .none H' | .ret v => Q v H') := by
    intro Hx nd v rx nvx F hnd hrx hoff
    have rfo : rx fo = rows fo := by
      rw [hrx fo (by omega)]; split
      · unfold zeroed; rw [if_neg (by omega)]
      · rfl
    have rco : rx co = rows co := by
      rw [hrx co hco]; split
      · unfold zeroed; rw [if_neg (by omega)]
      · rfl
    have actf : nvx fo = fo := by
      refine Classical.byContradiction fun q => ?_
      have := hoff fo (by omega) q; rw [rfo] at this; omega
    have actc : nvx co = co := by
      refine Classical.byContradiction fun q => ?_
      have := hoff co hco q; rw [rco] at this; omega
    have a := F.D.at' fo (by omega)
    rw [rfo] at a
    simp only [S_apply_135]
    walk_at "w"
    rw [del12 a, Ok_some]
    refine ⟨by simp, ?_⟩
    simp only [wAug]
    rw [instAt_ref a, Ok_some]
    refine ⟨(F.ne (show fo < N by omega)).2.2.2.2.2.2.2, by simp, by omega, ?_⟩
    rw [delput12]
    dsimp only
    have F1 := F.put (j := fo) (by omega) { rows fo with len := (rows fo).len - u }
    generalize upd Hx (ds fo) (delO (dds fo) { rows fo with len := (rows fo).len - u } (idx fo : Int) (fo : Nat)) = H1 at *
    have b := F1.D.at' co hco
    dsimp only at b
    rw [if_neg (by omega), rco] at b
    simp only [S_apply_136]
    walk_at "w"
    rw [del12 b, Ok_some]
    refine ⟨by simp, ?_⟩
    simp only [wAug]
    rw [instAt_ref b, Ok_some]
    refine ⟨(F1.ne hco).2.2.2.2.2.2.2, by simp, by omega, ?_⟩
    rw [delput12]
    dsimp only
    have F2 := F1.put (j := co) hco { rows co with len := (rows co).len - u }
    refine Y _ nd v _ nvx F2 hnd ?_ ?_
    · intro k hk
      dsimp only
      by_cases q2 : k = co
      · rw [if_pos q2, if_pos q2]
      · rw [if_neg q2, if_neg q2]
        by_cases q : k = fo
        · rw [if_pos q, if_pos q]
        · rw [if_neg q, if_neg q, hrx k hk]; unfold applyRows; rw [if_neg q, if_neg q2]
    · intro k hk hk'
      dsimp only
      by_cases q2 : k = co
      · subst q2; exact absurd actc hk'
      · rw [if_neg q2]
        by_cases q : k = fo
        · subst q; exact absurd actf hk'
        · rw [if_neg q]; exact hoff k hk hk'
  -- what is put out
  have V : ∀ (Hx : AH) (nd : Addr), PaF c H lp ld X dX tr nx a1 a2 nd kk ty N S (splice ps f s (.ref nd)) ds dds (fun k => (idx k : Int)) x' y' Hx rows tv nv → H nd = none →
      wSs c (n + 2) S_apply_131 [.ref lp, .ref ld, .ref X, .ref (ds fo), .ref (ds co), .int (fo : Nat), .int (co : Nat), .int (f : Nat), .int (s : Nat), .int u, .ref kk, .ref a1, .ref a2, .str ty, .bad] Hx (fun fl l H' => match fl with | .next => Q .none H' | .ret v => Q v H') := by
    intro Hx nd F hnd
    simp only [S_apply_131]
    walk_at "w"
    rw [show (s : Int) - (f : Nat) - 2 = ((s - f - 2 : Nat) : Int) by omega]
    simp only [S_apply_132]
    walk_at "w"
    by_cases g : f + 2 < s
    · have e1 : ¬ (((s - f - 2 : Nat) : Int) = 0) := by omega
      simp only [e1, not_false_eq_true, decide_true, if_true, S_apply_133]
      walk_at "w"
      rw [instAt_ref F.I.x, Ok_some]
      refine ⟨rfl, ?_⟩
      rw [show (fo : Int) + 1 = ((fo + 1 : Nat) : Int) by omega]
      refine c_deactRange hK F.I F.D F.uf F.scr F.sep.2.2.1 (by omega) (by omega) hz0 fun nv1 H1 hu1 I1 D1 fr1 hz1 => ?_
      have keep : ∀ {a : Addr} {o : AO}, Hx a = some o → (∀ zs, o ≠ .list zs) → (∀ dd r i k, o ≠ delO dd r i k) → H1 a = some o := by
        intro a o h1 h2 h3
        rw [fr1 a (by rintro rfl; rw [F.I.n] at h1; cases h1; exact h2 _ rfl) (by rintro k hk rfl; rw [F.D.at' k hk] at h1; cases h1; exact h3 _ _ _ _ rfl)]
        exact h1
      have F1 : PaF c H lp ld X dX tr nx a1 a2 nd kk ty N S (splice ps f s (.ref nd)) ds dds (fun k => (idx k : Int)) x' y' H1 (zeroed rows (fo + 1) co) tv nv1 := by
        obtain ⟨zs, q1, q2⟩ := F.scr
        refine ⟨?_, keep F.hn (fun zs q => nodeO_list q) ?_, keep F.h1 (by intro zs q; cases q) (by intro dd r i k q; cases q), keep F.h2 (by intro zs q; cases q) (by intro dd r i k q; cases q), D1, I1, ?_, ?_, hu1, ⟨zs, ?_, q2⟩, F.sep⟩
        · rw [fr1 lp F.sep.2.1 (fun k hk => (F.ne hk).1.symm)]; exact F.hp
        · intro dd r i k q
          simp [nodeO, delO] at q
        · refine F.E.trans fun a o ha ho => ?_
          rw [fr1 a (fun q => ha (.inr (.inr (.inr (.inr (.inl q)))))) (fun k hk q => ha (.inr (.inr (.inr (.inr (.inr ⟨k, hk, q⟩))))))]; exact ho
        · refine F.L.trans fun a ha => ?_
          by_cases q : a = nx
          · subst q; rw [I1.n] at ha; cases ha
          · by_cases q2 : ∃ k, k < N ∧ a = ds k
            · obtain ⟨k, hk, rfl⟩ := q2; rw [D1.at' k hk] at ha; cases ha
            · rw [fr1 a q (fun k hk z => q2 ⟨k, hk, z⟩)] at ha; exact ha
        · rw [fr1 c.scr I.ns.symm (fun k hk => (F.ne hk).2.2.2.2.2.2.2.symm)]; exact q1
      refine ⟨rfl, ?_⟩
      simp only [S_apply_134]
      walk_at "w"
      rw [instAt_ref F1.I.x, Ok_some]
      refine ⟨rfl, ?_⟩
      have b := F1.D.at' co hco
      refine c_collapse (hK := hK) F1.I b hi e1 ?_
      refine ⟨rfl, ?_⟩
      have F2 := F1.setT (tv' := addUp ((s - f - 2 : Nat) : Int) 6 tv (idx co + 1))
      rw [if_pos g] at htv
      rw [htv] at F2
      rw [htv]
      exact W _ nd _ _ nv1 F2 hnd (fun k _ => by rw [if_pos g]) hz1
    · have e1 : ((s - f - 2 : Nat) : Int) = 0 := by omega
      simp only [e1, not_true_eq_false, decide_false, Bool.false_eq_true, if_false]
      rw [if_neg g] at htv
      rw [htv] at F
      exact W _ nd _ rows nv F hnd (fun k _ => by rw [if_neg g]) hz0
  have U : ∀ Hx, Hx lp = some (.list ps) → Hx a1 = some (textO x') → Hx a2 = some (textO y') → Dels Hx ld N ds dds rows (fun k => (idx k : Int)) → Ix c Hx X dX tr nx S N tv nv → ExtX (ApA lp a1 a2 tr nx N ds) H Hx → Live H Hx → ScrOk c Hx →
      wSs c (n + 2) S_apply_130 [.ref lp, .ref ld, .ref X, .ref (ds fo), .ref (ds co), .int (fo : Nat), .int (co : Nat), .int (f : Nat), .int (s : Nat), .int u, .ref kk, .ref a1, .ref a2, .str ty, .bad] Hx (fun fl l H' => match fl with | .next => Q .none H' | .ret v => Q v H') := by
    intro Hx e1 e2 e3 D' I' E' L' sc'
    simp only [S_apply_130]
    walk_at "w"
    intro nd hnd _ d2 hd2 _
    replace hd2 : upd Hx nd (nodeO ty kk none) d2 = none := hd2
    have nk : nd ≠ d2 := by rintro rfl; rw [upd_same] at hd2; cases hd2
    have E1 := ExtH.new (o := nodeO ty kk none) hnd
    have E2 := ExtH.new (o := .list [.ref nd]) hd2
    have g1 : upd Hx nd (nodeO ty kk none) nd = some (nodeO ty kk none) := upd_same _ _ _
    have g2 := upd_same (upd Hx nd (nodeO ty kk none)) d2 (.list [.ref nd])
    have eH : (upd (upd Hx nd (.dict ([0, 2].zip [.str ty, .ref kk]))) d2 (.list [.ref nd])) = upd (upd Hx nd (nodeO ty kk none)) d2 (.list [.ref nd]) := rfl
    rw [eH]
    have E12 := E1.trans E2
    have g1' := E2 _ _ g1
    have nlp : nd ≠ lp := by rintro rfl; rw [e1] at hnd; cases hnd
    have d2lp : lp ≠ d2 := by rintro rfl; rw [E1 _ _ e1] at hd2; cases hd2
    generalize upd (upd Hx nd (nodeO ty kk none)) d2 (.list [.ref nd]) = H2 at *
    rw [listAt_ref (E12 _ _ e1), Ok_some, listAt_ref g2, Ok_some]
    rw [show (f : Int) + 1 = ((f + 1 : Nat) : Int) by omega]
    simp only [Int.toNat_natCast]
    refine ⟨hlp, d2lp, by omega, by omega, by omega, by omega, by simp, ?_⟩
    have hsp : ps.take (f + 1) ++ [AV.ref nd] ++ ps.drop s = splice ps f s (.ref nd) := by simp [splice]
    rw [hsp]
    have kp : ∀ {a : Addr} {o : AO}, Hx a = some o → a ≠ lp → upd H2 lp (.list (splice ps f s (.ref nd))) a = some o := by
      intro a o h hn; rw [upd_other hn]; exact E12 _ _ h
    refine V _ nd ⟨upd_same _ _ _, by rw [upd_other nlp]; exact g1', kp e2 ane.2.2.1, kp e3 ane.2.2.2, ⟨kp D'.l hld, fun k hk => kp (D'.at' k hk) ?_, D'.inj, D'.small⟩, ⟨kp I'.x ?_, kp I'.t hsep.1.symm, kp I'.n hsep.2.1.symm, I'.ts, I'.ns, I'.tn, I'.S32, I'.small⟩, (E'.trans (ExtX.of E12)).trans (ExtX.set (.inl rfl)), (L'.trans (Live.ext E12)).trans Live.upd, hu0, ?_, hsep⟩ (L' _ hnd)
    · intro q; have := D'.at' k hk; rw [q, e1] at this; cases this
    · intro q; have := I'.x; rw [q, e1] at this; cases this
    · obtain ⟨zs, q1, q2⟩ := sc'
      exact ⟨zs, kp q1 (Ne.symm hlp), q2⟩
  simp only [S_apply, n_apply]
  walk_at "w"
  rw [getI_list hp (by omega) (by omega), Int.toNat_natCast, h1, Ok_some]
  simp only [S_apply_126]
  walk_at "w"
  rw [getI_list hp (by omega) (by omega), Int.toNat_natCast, h2, Ok_some]
  simp only [S_apply_127]
  simp only [wSs, wS, wE, List.getElem?_cons_zero, List.getElem?_cons_succ, Ok_some]
  simp only [ne_eq, reduceCtorEq, not_false_eq_true, true_and]
  rw [text1 t1, Ok_some]
  rw [show intOf (AV.int u) = some u from rfl, Ok_some, wSlice_str rfl rfl, slice_neg (by omega) hx, hX', dictAt_ref t1, Ok_some]
  refine ⟨by omega, ane.1, by simp, by omega, ?_⟩
  rw [textput]
  have s2' : upd H a1 (textO x') a2 = some (textO y) := by rw [upd_other (Ne.symm hne)]; exact t2
  have s1' : upd H a1 (textO x') a1 = some (textO x') := upd_same _ _ _
  have s3' : ∀ a, a ≠ a1 → upd H a1 (textO x') a = H a := fun a ha => upd_other ha
  have L3 : Live H (upd H a1 (textO x')) := Live.upd
  have X3 : ExtX (ApA lp a1 a2 tr nx N ds) H (upd H a1 (textO x')) := ExtX.set (.inr (.inl rfl))
  generalize upd H a1 (textO x') = H3 at *
  simp only [S_apply_128]
  walk_at "w"
  rw [text1 s2', Ok_some, wSlice_str rfl rfl, hY', dictAt_ref s2', Ok_some]
  refine ⟨by omega, ane.2.1, by simp, by omega, ?_⟩
  rw [textput]
  have n1 : ∀ {a : Addr} {o : AO}, H a = some o → (∀ z, o ≠ textO z) → upd H3 a2 (textO y') a = some o := by
    intro a o h hz
    rw [upd_other (by rintro rfl; rw [t2] at h; cases h; exact hz _ rfl), s3' _ (by rintro rfl; rw [t1] at h; cases h; exact hz _ rfl)]
    exact h
  have fin := U (upd H3 a2 (textO y')) (n1 hp (by intro z q; cases q)) (by rw [upd_other hne]; exact s1') (upd_same _ _ _) ⟨n1 D.l (by intro z q; cases q), fun k hk => n1 (D.at' k hk) (by intro z q; cases q), D.inj, D.small⟩
    ⟨n1 I.x (by intro z q; cases q), n1 I.t (by intro z q; cases q), n1 I.n (by intro z q; cases q), I.ts, I.ns, I.tn, I.S32, I.small⟩ (X3.trans (ExtX.set (.inr (.inr (.inl rfl))))) (L3.trans Live.upd) ⟨xs, n1 hxs (by intro z q; cases q), hxs2⟩
  generalize upd H3 a2 (textO y') = H4 at *
  simp only [S_apply_129]
  walk_at "w"
  by_cases e : u = 2
  · rw [if_pos e] at hty
    simp only [e, decide_true, if_true]
    rw [hty]
    rw [e] at fin
    exact fin
  · rw [if_neg e] at hty
    simp only [e, decide_false, Bool.false_eq_true, if_false]
    rw [hty]
    exact fin
end

section
variable {c : Cx} {P : Params} {n : Nat} {H : AH} {Q : AV → AH → Prop}

theorem c_lsame (hK : c.K = hd.heap_39 P) {lp lm ld lr X dX tr nx lo : Addr} {N S : Nat} {vs ws : List AV} {ts : List T} {rs ds dds : Nat → Addr} {rows : Nat → Row} {idx : Nat → Nat} {tv : Nat → Int} {nv : Nat → Nat} {ow : List Int}
    (hp : H lp = some (.list vs)) (hm : H lm = some (.list ws)) (h1 : IsL H ts vs) (h2 : IsL H ts ws) (hd20 : deepL ts ≤ 20) (R : Rows H lr N rs rows) (D : Dels H ld N ds dds rows (fun k => (idx k : Int))) (I : Ix c H X dX tr nx S N tv nv)
    (ho : H lo = some (.list (ow.map .int))) (hz : ow.length ≤ 1000) (hcur : ∀ (i k : Nat), ow[i]? = some (k : Int) → k < N ∧ idx k + 1 < S ∧ (idx k : Int) - pre tv 6 (idx k + 1) = (i : Nat)) (hq : Q (.bool true) H) :
    Calls c (n + 2) 270 [.ref lp, .ref lm, .ref ld, .ref lr, .ref X, .ref lo] H Q := by
  refine calls_fn (n := n + 1) ok_lsame (in_lsame hK) (snd_lsame hK) rfl ?_
  have hN := D.small
  have hne : wCmp .NotEq (.ref lp) (.ref lm) H fun r H' => wTr H' r fun t => if t = true then wSs c (n + 1) S_lsame_253 [.ref lp, .ref lm, .ref ld, .ref lr, .ref X, .ref lo, .bad, .bad, .bad] H' (fun fl l H' => match fl with | .next => Q .none H' | .ret v => Q v H') else wSs c (n + 1) S_lsame_254 [.ref lp, .ref lm, .ref ld, .ref lr, .ref X, .ref lo, .bad, .bad, .bad] H' (fun fl l H' => match fl with | .next => Q .none H' | .ret v => Q v H') := by
    have hf : flat2 (.ref lp) (.ref lm) = false := rfl
    simp only [wCmp, hf, Bool.false_eq_true, if_false, deepEq, listAt_ref hp, listAt_ref hm, Ok_some, wTr_bool]
    refine ⟨⟨by rw [← h1.length, h2.length], fun i x y hx hy => de_list h1 h2 hd20 hx hy⟩, ?_⟩
    simp only [S_lsame_254]
    walk_at "w"
    simp only [listAt_ref R.l, Ok_some, List.length_map, List.length_range]
    refine ⟨by omega, by omega, by omega, by omega, by omega, fun i l H' => H' = H ∧ ∃ v w z, l = [.ref lp, .ref lm, .ref ld, .ref lr, .ref X, .ref lo, v, w, z], ⟨rfl, _, _, _, rfl⟩, ?_, ?_⟩
    · rintro i l H' hi ⟨rfl, v, w, z, rfl⟩
      rw [Int.zero_add]
      simp only [S_lsame_255]
      walk_at "w"
      rw [getI_fun D.l (show i < N by omega) (by omega), Ok_some]
      simp only [S_lsame_256]
      walk_at "w"
      rw [getI_fun R.l (show i < N by omega) (by omega), Ok_some]
      have a := D.at' i (by omega)
      have b := R.at' i (by omega)
      have f1 := del12 a; have f2 := del13 a; have f3 := del14 a; have g1 := row6 b; have g2 := row7 b; have g3 := row8 b
      simp only [S_lsame_257]
      simp only [wSs, wS, wT, wE, List.getElem?_cons_zero, List.getElem?_cons_succ, Ok_some, f1, f2, f3, g1, g2, g3, ne_eq, reduceCtorEq, not_false_eq_true, true_and, wCmp_neI, wCmp_neB, wTr_bool, not_true_eq_false, decide_false, Bool.false_eq_true, if_false, List.set_cons_zero, List.set_cons_succ]
      exact ⟨_, _, _, rfl⟩
    · rintro l H' ⟨rfl, v, w, z, rfl⟩
      simp only [S_lsame_259]
      walk_at "w"
      simp only [listAt_ref ho, Ok_some, List.length_map]
      refine ⟨by omega, by omega, by omega, by omega, by omega, fun i l H'' => H'' = H' ∧ ∃ v w z, l = [.ref lp, .ref lm, .ref ld, .ref lr, .ref X, .ref lo, v, w, z], ⟨rfl, _, _, _, rfl⟩, ?_, ?_⟩
      · rintro i l H'' hi ⟨rfl, v, w, z, rfl⟩
        rw [Int.zero_add]
        have hlt : i < ow.length := by omega
        have fo : getI H'' (.ref lo) (.int (i : Nat)) = some (.int ow[i]) := by
          rw [getI_list ho (by omega) (by omega), Int.toNat_natCast, List.getElem?_map, List.getElem?_eq_getElem hlt]; rfl
        simp only [S_lsame_260]
        simp only [wSs, wS, wT, wE, wEs, List.getElem?_cons_zero, List.getElem?_cons_succ, Ok_some, fo, ne_eq, reduceCtorEq, not_false_eq_true, true_and, wCmp_ge, wTr_bool, List.set_cons_zero, List.set_cons_succ]
        by_cases g : 0 ≤ ow[i]
        · obtain ⟨k, hk⟩ := Int.eq_ofNat_of_zero_le g
          obtain ⟨c1, c2, c3⟩ := hcur i k (by rw [List.getElem?_eq_getElem hlt, hk])
          simp only [g, decide_true, if_true, instAt_ref I.x, Ok_some, true_and]
          rw [hk, getI_fun D.l c1 (by omega), Ok_some]
          refine c_current hK I (D.at' k c1) c2 ?_
          rw [c3]
          simp only [wCmp_neI, ne_eq, not_true_eq_false, decide_false, wTr_bool, Bool.false_eq_true, if_false]
          first | exact ⟨_, _, _, rfl⟩ | exact ⟨trivial, _, _, _, rfl⟩ | exact ⟨rfl, _, _, _, rfl⟩
        · simp only [g, decide_false, Bool.false_eq_true, if_false]
          first | exact ⟨_, _, _, rfl⟩ | exact ⟨trivial, _, _, _, rfl⟩ | exact ⟨rfl, _, _, _, rfl⟩
      · rintro l H'' ⟨rfl, v, w, z, rfl⟩
        simp only [S_lsame_262]
        walk_at "w"
        exact hq
  simp only [S_lsame, n_lsame]
  walk_at "w"
  exact hne

def closes (rows : Nat → Row) (k : Nat) : Bool := (rows k).cl && decide (0 < (rows k).len)
theorem c_lsteps (hK : c.K = hd.heap_39 P) {B lr : Addr} {N : Nat} {rs : Nat → Addr} {rows : Nat → Row} (hs : ScrOk c H) (hb : BoxOk c H B) (R : Rows H lr N rs rows) (hlB : lr ≠ B)
    (hq : ∀ (H' : AH) (t : Addr) (cl bo ot : Int), H' t = some (.tup [.int cl, .int bo, .int ot]) → ExtB B H H' → BoxOk c H' B → Live H H' →
      (cl = -1 ∨ ∃ k b o : Nat, cl = k ∧ bo = b ∧ ot = o ∧ k < N ∧ closes rows k = true ∧ b ≤ k ∧ o < N) → Q (.ref t) H') : Calls c (n + 2) 277 [.ref B, .ref lr] H Q := by
  refine calls_fn (n := n + 1) ok_lsteps (in_lsteps hK) (snd_lsteps hK) rfl ?_
  have hN := R.small
  obtain ⟨hBs, bp, bm, hb1, hb2, hb3⟩ := id hb
  simp only [S_lsteps, n_lsteps]
  walk_at "w"
  intro d hd hds
  have dB : d ≠ B := by rintro rfl; rw [hb3] at hd; cases hd
  have dk : ∀ {a : Addr} {o o' : AO}, H a = some o → upd H d o' a = some o := fun h => ExtH.new hd _ _ h
  have Rk : ∀ o, Rows (upd H d o) lr N rs rows := fun o => ⟨dk R.l, fun k hk => dk (R.at' k hk), R.inj, R.small⟩
  simp only [S_lsteps_265]
  walk_at "w"
  simp only [listAt_ref (Rk (.list [])).l, Ok_some, List.length_map, List.length_range]
  refine ⟨by omega, by omega, by omega, by omega, by omega, fun i l H' => H' = upd H d (.list (((List.range i).filter (closes rows)).map fun k => .int (k : Nat))) ∧ i ≤ N ∧ ∃ v, l = [.ref B, .ref lr, .ref d, v, .bad], ⟨rfl, by omega, _, rfl⟩, ?_, ?_⟩
  · rintro i l H' hi ⟨rfl, hle, v, rfl⟩
    rw [Int.zero_add]
    have R' := Rk (.list (((List.range i).filter (closes rows)).map fun k => .int (k : Nat)))
    have hd' := upd_same H d (.list (((List.range i).filter (closes rows)).map fun k => .int (k : Nat)))
    have hlen : ((List.range i).filter (closes rows)).length ≤ i := by
      have := List.length_filter_le (closes rows) (List.range i); simpa using this
    have fg := getI_fun R'.l (show i < N by omega) (by omega)
    have a := R'.at' i (by omega)
    have g1 := row8 a; have g2 := row6 a
    have rng : List.range (i + 1) = List.range i ++ [i] := List.range_succ
    simp only [S_lsteps_266, wSs, wS, wT, wE, List.getElem?_cons_zero, List.getElem?_cons_succ, Ok_some, fg, g1, g2, ne_eq, reduceCtorEq, not_false_eq_true, true_and, wCmp_gt, wTr_bool, List.set_cons_zero, List.set_cons_succ]
    by_cases e1 : (rows i).cl = true
    · simp only [e1, if_true]
      by_cases e2 : 0 < (rows i).len
      · simp only [e2, decide_true, if_true, S_lsteps_267]
        walk_at "w"
        simp only [listAt_ref hd', Ok_some, List.length_map]
        refine ⟨hds, hds, by omega, ?_, by omega, _, rfl⟩
        rw [upd_upd, rng, List.filter_append, List.map_append]
        have : closes rows i = true := by simp [closes, e1, e2]
        simp [List.filter_cons, this]
      · simp only [e2, decide_false, Bool.false_eq_true, if_false]
        refine ⟨?_, by omega, _, rfl⟩
        rw [rng, List.filter_append, List.map_append]
        have : closes rows i = false := by simp [closes, e2]
        simp [List.filter_cons, this]
    · simp only [e1, Bool.false_eq_true, if_false]
      refine ⟨?_, by omega, _, rfl⟩
      rw [rng, List.filter_append, List.map_append]
      have : closes rows i = false := by simp [closes, e1]
      simp [List.filter_cons, this]
  · rintro l H' ⟨rfl, hle, v, rfl⟩
    rw [show ((N : Int) - 0).toNat = N by omega]
    have R' := Rk (.list (((List.range N).filter (closes rows)).map fun k => .int (k : Nat)))
    have hd' := upd_same H d (.list (((List.range N).filter (closes rows)).map fun k => .int (k : Nat)))
    have E1 : ExtH H (upd H d (.list (((List.range N).filter (closes rows)).map fun k => .int (k : Nat)))) := ExtH.new hd
    have B1 : BoxOk c (upd H d (.list (((List.range N).filter (closes rows)).map fun k => .int (k : Nat)))) B := hb.new hd
    have S1 : ScrOk c (upd H d (.list (((List.range N).filter (closes rows)).map fun k => .int (k : Nat)))) := by obtain ⟨xs, z1, z2⟩ := hs; exact ⟨xs, E1 _ _ z1, z2⟩
    have hmem : ∀ k ∈ (List.range N).filter (closes rows), k < N ∧ closes rows k = true := fun k hk => by
      have := List.mem_filter.mp hk; exact ⟨List.mem_range.mp this.1, this.2⟩
    have hlen : ((List.range N).filter (closes rows)).length ≤ N := by
      have := List.length_filter_le (closes rows) (List.range N); simpa using this
    generalize (List.range N).filter (closes rows) = cs at *
    generalize upd H d (.list (cs.map fun k => .int (k : Nat))) = H1 at *
    simp only [S_lsteps_268]
    walk_at "w"
    simp only [wTr_list hd', List.length_map]
    refine ⟨by omega, ?_⟩
    cases cs with
    | nil =>
      simp only [List.map_nil, List.isEmpty_nil, Bool.not_true, Bool.not_false, if_true, S_lsteps_269]
      walk_at "w"
      intro t ht _
      exact hq _ t (-1) 0 0 (upd_same _ _ _) (fun a o _ e => (E1.trans (ExtH.new ht)) a o e) (B1.new ht) ((Live.ext E1).trans Live.upd) (.inl rfl)
    | cons c0 cs =>
      simp only [List.map_cons, List.isEmpty_cons, Bool.not_false, Bool.not_true, Bool.false_eq_true, if_false, S_lsteps_270]
      walk_at "w"
      simp only [listAt_ref hd', Ok_some, List.map_cons, List.length_cons, List.length_map]
      simp only [List.length_cons] at hlen
      refine ⟨by omega, ?_⟩
      refine c_draw hK S1 B1 (by omega) fun r p m r0 r1 p0 m0 => ?_
      have E2 : ExtB B H1 (upd H1 B (boxO c.scr p m)) := ExtB.box
      have B2 : BoxOk c (upd H1 B (boxO c.scr p m)) B := BoxOk.set hBs p0 m0
      have S2 := S1.ext hBs E2
      have hd2 := E2 _ _ dB hd'
      have L2 : Live H1 (upd H1 B (boxO c.scr p m)) := Live.upd
      have R2l := E2 _ _ hlB R'.l
      generalize upd H1 B (boxO c.scr p m) = H2 at *
      rw [getI_list hd2 r0 (by omega)]
      have hr : r.toNat < (c0 :: cs).length := by simp; omega
      rw [List.getElem?_map, List.getElem?_eq_getElem hr]
      have hm := hmem _ (List.getElem_mem hr)
      generalize (c0 :: cs)[r.toNat] = k at *
      simp only [Option.map_some, Ok_some, S_lsteps_271]
      walk_at "w"
      refine c_draw hK S2 B2 (by omega) fun b p m b0 b1 p0 m0 => ?_
      have E3 : ExtB B H2 (upd H2 B (boxO c.scr p m)) := ExtB.box
      have B3 : BoxOk c (upd H2 B (boxO c.scr p m)) B := BoxOk.set hBs p0 m0
      have S3 := S2.ext hBs E3
      have L3 : Live H2 (upd H2 B (boxO c.scr p m)) := Live.upd
      have R3l := E3 _ _ hlB R2l
      generalize upd H2 B (boxO c.scr p m) = H3 at *
      simp only [listAt_ref R3l, Ok_some, List.length_map, List.length_range]
      refine ⟨by omega, ?_⟩
      refine c_draw hK S3 B3 (by omega) fun o p m o0 o1 p0 m0 => ?_
      have E4 : ExtB B H3 (upd H3 B (boxO c.scr p m)) := ExtB.box
      have B4 : BoxOk c (upd H3 B (boxO c.scr p m)) B := BoxOk.set hBs p0 m0
      have L4 : Live H3 (upd H3 B (boxO c.scr p m)) := Live.upd
      generalize upd H3 B (boxO c.scr p m) = H4 at *
      intro t ht _
      refine hq _ t k b o (upd_same _ _ _) (fun a x n e => (((ExtB.trans (fun a o _ e => E1 a o e) E2).trans E3).trans E4).trans (ExtB.new ht) a x n e) (B4.new ht) ((((Live.ext E1).trans L2).trans (L3.trans L4)).trans Live.upd) (.inr ⟨k, b.toNat, o.toNat, rfl, by omega, by omega, hm.1, hm.2, by omega, by omega⟩)
end

theorem binds_step {s : Shared} {fd : FuncData} {vs : List Value} {T : Addr} {o : Obj} {items : Array Value} {n : Nat} {binds : List (Str × Value)} {k : FuncData → List Value → Option (Array Value) → Sem (List (Str × Value))}
    (hk : ∀ fd vs, bindArgs fd ⟨vs, []⟩ = seqItems? fd.defaults >>= k fd vs) (hd : fd.defaults = .ref T) (ho : s.heap.get? T = some o) (hs : o.data = .seq items n) (h₂ : k fd vs (some items) = pure binds) : BindsTo s fd ⟨vs, []⟩ binds :=
  BindsTo.of_defaults hd ho hs (hk fd vs) h₂
theorem in_initD {c : Cx} {P : Params} (hK : c.K = hd.heap_39 P) : FnIn c (fnAt (hd.heap_39 P) 42 n_initD) (fdAt (hd.heap_39 P) 42) (bodyAt (hd.heap_39 P) 42) 8 := by
  refine fnIn_of hK (by kernel_rfl) (fun L => by kernel_rfl) ?_
  intro s cvs h0 hk
  obtain ⟨a0, t0, rfl, h1⟩ := len_succ h0
  obtain ⟨a1, t1, rfl, h2⟩ := len_succ h1
  obtain ⟨a2, t2, rfl, h3⟩ := len_succ h2
  obtain ⟨a3, t3, rfl, h4⟩ := len_succ h3
  obtain ⟨a4, t4, rfl, h5⟩ := len_succ h4
  obtain ⟨a5, t5, rfl, h6⟩ := len_succ h5
  obtain ⟨a6, t6, rfl, h7⟩ := len_succ h6
  obtain ⟨a7, t7, rfl, h8⟩ := len_succ h7
  obtain rfl := len_zero h8
  have ho : (hd.heap_39 P).lookup 35 = some { cls := .type "tuple", data := .seq #[.int 0 220, .int 0 221] } := by kernel_rfl
  have hdf : (fdAt (hd.heap_39 P) 42).defaults = .ref 35 := by kernel_rfl
  have g := hk _ _ ho
  generalize hfd : fdAt (hd.heap_39 P) 42 = fd at hdf ⊢
  refine binds_step (fun fd vs => rfl) hdf g rfl ?_
  rw [← hfd]
  kernel_rfl
section
variable {c : Cx} {P : Params} {n : Nat} {H : AH} {Q : AV → AH → Prop}
theorem c_newD (hK : c.K = hd.heap_39 P) (hC : c.cls 77 = true) {r : Row} {i k : Int} (hq : ∀ a dd, H a = none → a ≠ c.scr → H dd = none → Q (.ref a) (upd H a (delO dd r i k))) :
    Calls c (n + 2) 77 [.int i, .str r.sign, .int r.len, .bool r.op, .bool r.cl, .int r.orig, .int k] H Q := by
  refine calls_new (n := n + 1) (fI := 42) (by rw [hK]; kernel_rfl) (by rw [hK]; kernel_rfl) (by rw [hK]; kernel_rfl) hC fun a dd ha hs hdd => ?_
  refine calls_fn (n := n) ok_initD (in_initD hK) (snd_initD hK) rfl ?_
  have st : ∀ kvs, instAt (upd H a (.inst 77 dd kvs)) (.ref a) = some (a, 77, dd, kvs) := fun kvs => instAt_ref (upd_same _ _ _)
  simp only [S_initD, S_initD_22, S_initD_23, S_initD_24, S_initD_25, S_initD_26, S_initD_27, n_initD]
  walk_at "w"
  simp only [st, Ok_some, upd_upd, putA, List.length_nil, List.length_cons]
  simp [hs]
  exact ⟨Nat.le_of_ble_eq_true rfl, Nat.le_of_ble_eq_true rfl, Nat.le_of_ble_eq_true rfl, Nat.le_of_ble_eq_true rfl, hq a dd ha hs hdd⟩
theorem c_newX (hK : c.K = hd.heap_39 P) (hC : c.cls 133 = true) {dl : Addr} {xs : List AV} {M : Nat} (hdl : H dl = some (.list xs)) (hM : M ≤ 30) (hx : xs.length ≤ 100)
    (hq : ∀ (H' : AH) (X dX tr nx : Addr), Ix c H' X dX tr nx (M + 1) xs.length (fun _ => 0) (fun k => k) → H X = none → H tr = none → H nx = none → X ≠ c.scr → ExtH H H' → Q (.ref X) H') :
    Calls c (n + 2) 133 [.ref dl, .int (M : Nat)] H Q := by
  refine calls_new (n := n + 1) (fI := 95) (by rw [hK]; kernel_rfl) (by rw [hK]; kernel_rfl) (by rw [hK]; kernel_rfl) hC fun a dd ha hs hdd => ?_
  refine calls_fn (n := n) ok_initX (in_initX hK) (snd_initX hK) rfl ?_
  have hi0 := upd_same H a (.inst 133 dd [])
  have E0 := ExtH.new (o := .inst 133 dd []) ha
  generalize upd H a (.inst 133 dd []) = H0 at *
  simp only [S_initX, n_initX]
  walk_at "w"
  intro d0 hd0 _
  simp only [wBin, upd_same, Ok_some]
  refine ⟨by omega, by omega, ?_, fun tr htr hts => ?_⟩
  · simp; omega
  have hrep : (List.replicate ((M : Int) + 1).toNat [AV.int 0]).flatten = (List.range (M + 1)).map fun _ => AV.int 0 := by
    rw [show ((M : Int) + 1).toNat = M + 1 by omega]
    apply List.ext_getElem?
    intro j
    have : (List.replicate (M + 1) [AV.int 0]).flatten = List.replicate (M + 1) (AV.int 0) := by
      induction M + 1 with
      | zero => rfl
      | succ m ih => rw [List.replicate_succ, List.flatten_cons, ih, List.replicate_succ]; rfl
    rw [this, List.map_const', List.length_range]
  rw [hrep]
  have E1 := ExtH.new (o := .list [.int 0]) hd0
  have E2 := ExtH.new (o := .list ((List.range (M + 1)).map fun _ => AV.int 0)) htr
  have g1 := upd_same (upd H0 d0 (.list [.int 0])) tr (.list ((List.range (M + 1)).map fun _ => AV.int 0))
  have E02 := E0.trans (E1.trans E2)
  have i1 := (E1.trans E2) _ _ hi0
  have trn : H tr = none := Live.ext E0 _ (Live.ext E1 _ htr)
  have tra : tr ≠ a := by rintro rfl; rw [Live.ext E1 _ htr] at hi0; cases hi0
  generalize upd (upd H0 d0 (.list [.int 0])) tr (.list ((List.range (M + 1)).map fun _ => AV.int 0)) = H1 at *
  rw [instAt_ref i1, Ok_some]
  refine ⟨hs, by simp, by omega, ?_⟩
  have k1 : ∀ b o, H b = some o → upd H1 a (.inst 133 dd (putA [] 17 (.ref tr))) b = some o := by
    intro b o h
    rw [upd_other (by rintro rfl; rw [ha] at h; cases h)]; exact E02 _ _ h
  have g1' : upd H1 a (.inst 133 dd (putA [] 17 (.ref tr))) tr = some (.list ((List.range (M + 1)).map fun _ => AV.int 0)) := by rw [upd_other tra]; exact g1
  have i2 : upd H1 a (.inst 133 dd (putA [] 17 (.ref tr))) a = some (.inst 133 dd [(17, .ref tr)]) := upd_same _ _ _
  have hdl2 := k1 _ _ hdl
  generalize upd H1 a (.inst 133 dd (putA [] 17 (.ref tr))) = H2 at *
  simp only [S_initX_60]
  walk_at "w"
  simp only [listAt_ref hdl2, Ok_some]
  refine ⟨by omega, by omega, by omega, fun nx hnx hnxs => ?_⟩
  have hrg : ((List.range ((xs.length : Int) + 1).toNat).map fun k => AV.int (k : Nat)) = (List.range (xs.length + 1)).map fun k => AV.int ((fun k => k) k : Nat) := by
    rw [show ((xs.length : Int) + 1).toNat = xs.length + 1 by omega]
  rw [hrg]
  have E3 := ExtH.new (o := .list ((List.range (xs.length + 1)).map fun k => AV.int ((fun k => k) k : Nat))) hnx
  have g2 := upd_same H2 nx (.list ((List.range (xs.length + 1)).map fun k => AV.int ((fun k => k) k : Nat)))
  have g1'' := E3 _ _ g1'
  have i3 := E3 _ _ i2
  have nxa : nx ≠ a := by rintro rfl; rw [hnx] at i2; cases i2
  have nxt : tr ≠ nx := by rintro rfl; rw [hnx] at g1'; cases g1'
  have nxn : H nx = none := by
    cases q : H nx with
    | none => rfl
    | some o => rw [k1 _ _ q] at hnx; cases hnx
  generalize upd H2 nx (.list ((List.range (xs.length + 1)).map fun k => AV.int ((fun k => k) k : Nat))) = H3 at *
  rw [instAt_ref i3, Ok_some]
  refine ⟨hs, by simp, by omega, ?_⟩
  have fin : upd H3 a (.inst 133 dd (putA [(17, .ref tr)] 18 (.ref nx))) a = some (.inst 133 dd [(17, .ref tr), (18, .ref nx)]) := upd_same _ _ _
  refine hq _ a dd tr nx ⟨fin, by rw [upd_other tra]; exact g1'', by rw [upd_other nxa]; exact g2, hts, hnxs, nxt, by omega, by omega⟩ ha trn nxn hs ?_
  intro b o h
  rw [upd_other (by rintro rfl; rw [ha] at h; cases h)]; exact E3 _ _ (k1 _ _ h)
end

def TokAt (H G : AH) (a : Addr) : T → Prop
  | .text raw => H a = some (textO raw) ∧ G a = none
  | .node ty ks x => IsT G (.node ty ks x) (.ref a)
theorem TokAt.isT {H G : AH} {a : Addr} {t : T} (h : TokAt H G a t) (g : ExtH G H) : IsT H t (.ref a) := by
  cases t with
  | text raw => exact ⟨a, rfl, h.1⟩
  | node ty ks x => exact IsT.ext g h
/-- the law's own lists in the heap -/
structure ShH (c : Cx) (H G : AH) (B lm lo lr : Addr) (N : Nat) (ms : List Addr) (ts : List T) (ow : List Int) (rs : Nat → Addr) (rows : Nat → Row) : Prop where
  g : ExtH G H
  hm : H lm = some (.list (ms.map .ref))
  ho : H lo = some (.list (ow.map .int))
  R : Rows H lr N rs rows
  lenm : ms.length = ts.length
  tok : ∀ (i : Nat) (a : Addr) (t : T), ms[i]? = some a → ts[i]? = some t → TokAt H G a t
  nd : ms.Nodup
  box : BoxOk c H B
  scr : ScrOk c H
  gn : G lm = none ∧ G lo = none ∧ G lr = none ∧ G B = none
  gr : ∀ k, k < N → G (rs k) = none
  sep : lm ≠ lo ∧ lm ≠ lr ∧ lo ≠ lr ∧ B ≠ lm ∧ B ≠ lo ∧ B ≠ lr ∧ lm ≠ c.scr ∧ lo ≠ c.scr ∧ lr ≠ c.scr
theorem ShH.draw {c : Cx} {H G : AH} {B lm lo lr : Addr} {N : Nat} {ms : List Addr} {ts : List T} {ow : List Int} {rs : Nat → Addr} {rows : Nat → Row} (F : ShH c H G B lm lo lr N ms ts ow rs rows) {p m : Int} (hp : 0 ≤ p) (hm : 0 ≤ m) :
    ShH c (upd H B (boxO c.scr p m)) G B lm lo lr N ms ts ow rs rows := by
  obtain ⟨hB, q, r, _, _, hb⟩ := F.box
  obtain ⟨s1, s2, s3, s4, s5, s6, s7, s8, s9⟩ := F.sep
  have k : ∀ {a : Addr} {o : AO}, H a = some o → a ≠ B → upd H B (boxO c.scr p m) a = some o := fun h n => by rw [upd_other n]; exact h
  have dict : ∀ {a : Addr} {o : AO}, H a = some o → (∀ xs, o ≠ .list xs) → a ≠ B := by
    rintro a o h n rfl; rw [hb] at h; cases h; exact n _ rfl
  refine ⟨fun a o h => k (F.g _ _ h) (by rintro rfl; rw [F.gn.2.2.2] at h; cases h), k F.hm s4.symm, k F.ho s5.symm, ⟨k F.R.l s6.symm, fun j hj => k (F.R.at' j hj) (dict (F.R.at' j hj) (by intro xs z; cases z)), F.R.inj, F.R.small⟩, F.lenm, ?_, F.nd, BoxOk.set hB hp hm, ?_, F.gn, F.gr, F.sep⟩
  · intro i a t ha ht
    have := F.tok i a t ha ht
    cases t with
    | text raw => exact ⟨k this.1 (dict this.1 (by intro xs z; cases z)), this.2⟩
    | node ty ks x => exact this
  · obtain ⟨xs, h1, h2⟩ := F.scr
    exact ⟨xs, k h1 (Ne.symm hB), h2⟩
theorem ShH.ext {c : Cx} {H H' G : AH} {B lm lo lr : Addr} {N : Nat} {ms : List Addr} {ts : List T} {ow : List Int} {rs : Nat → Addr} {rows : Nat → Row} (F : ShH c H G B lm lo lr N ms ts ow rs rows) (e : ExtH H H') : ShH c H' G B lm lo lr N ms ts ow rs rows := by
  obtain ⟨hB, q, r, q1, q2, hb⟩ := F.box
  obtain ⟨xs, h1, h2⟩ := F.scr
  refine ⟨F.g.trans e, e _ _ F.hm, e _ _ F.ho, ⟨e _ _ F.R.l, fun j hj => e _ _ (F.R.at' j hj), F.R.inj, F.R.small⟩, F.lenm, ?_, F.nd, ⟨hB, q, r, q1, q2, e _ _ hb⟩, ⟨xs, e _ _ h1, h2⟩, F.gn, F.gr, F.sep⟩
  intro i a t ha ht
  have := F.tok i a t ha ht
  cases t with
  | text raw => exact ⟨e _ _ this.1, this.2⟩
  | node ty ks x => exact this
theorem ShH.addOw {c : Cx} {H G : AH} {B lm lo lr : Addr} {N : Nat} {ms : List Addr} {ts : List T} {ow : List Int} {rs : Nat → Addr} {rows : Nat → Row} (F : ShH c H G B lm lo lr N ms ts ow rs rows) (z : Int) :
    ShH c (upd H lo (.list ((ow ++ [z]).map .int))) G B lm lo lr N ms ts (ow ++ [z]) rs rows := by
  obtain ⟨s1, s2, s3, s4, s5, s6, s7, s8, s9⟩ := F.sep
  have k : ∀ {a : Addr} {o : AO}, H a = some o → a ≠ lo → upd H lo (.list ((ow ++ [z]).map .int)) a = some o := fun h n => by rw [upd_other n]; exact h
  have dict : ∀ {a : Addr} {o : AO}, H a = some o → (∀ xs, o ≠ .list xs) → a ≠ lo := by
    rintro a o h n rfl; rw [F.ho] at h; cases h; exact n _ rfl
  refine ⟨fun a o h => k (F.g _ _ h) (by rintro rfl; rw [F.gn.2.1] at h; cases h), k F.hm s1, upd_same _ _ _, ⟨k F.R.l s3.symm, fun j hj => k (F.R.at' j hj) (dict (F.R.at' j hj) (by intro xs z; cases z)), F.R.inj, F.R.small⟩, F.lenm, ?_, F.nd, F.box.keep (upd_other s5), ?_, F.gn, F.gr, F.sep⟩
  · intro i a t ha ht
    have := F.tok i a t ha ht
    cases t with
    | text raw => exact ⟨k this.1 (dict this.1 (by intro xs z; cases z)), this.2⟩
    | node ty ks x => exact this
  · obtain ⟨xs, h1, h2⟩ := F.scr
    exact ⟨xs, k h1 s8.symm, h2⟩
theorem ShH.scrl {c : Cx} {H G : AH} {B lm lo lr : Addr} {N : Nat} {ms : List Addr} {ts : List T} {ow : List Int} {rs : Nat → Addr} {rows : Nat → Row} (F : ShH c H G B lm lo lr N ms ts ow rs rows) : ∃ xs, H c.scr = some (.list xs) := by
  obtain ⟨xs, h, _⟩ := F.scr; exact ⟨_, h⟩
theorem TokAt.live {H G : AH} {a : Addr} {t : T} (h : TokAt H G a t) (g : ExtH G H) : ∃ o, H a = some o ∧ ∀ xs, o ≠ .list xs := by
  cases t with
  | text raw => exact ⟨_, h.1, by intro xs z; cases z⟩
  | node ty ks x =>
    obtain ⟨_, b, k, vs, e, hb, _⟩ := h
    cases e
    exact ⟨_, g _ _ hb, by intro xs z; cases x <;> cases z⟩
theorem ShH.mlive {c : Cx} {H G : AH} {B lm lo lr : Addr} {N : Nat} {ms : List Addr} {ts : List T} {ow : List Int} {rs : Nat → Addr} {rows : Nat → Row} (F : ShH c H G B lm lo lr N ms ts ow rs rows) {a : Addr} (ha : a ∈ ms) : ∃ o, H a = some o ∧ ∀ xs, o ≠ .list xs := by
  obtain ⟨i, hi⟩ := List.getElem?_of_mem ha
  obtain ⟨h1, h2⟩ := List.getElem?_eq_some_iff.mp hi
  have ht : ts[i]? = some (ts[i]'(by rw [← F.lenm]; exact h1)) := List.getElem?_eq_getElem _
  exact (F.tok i a _ hi ht).live F.g
/-- the new object is frozen -/
theorem ShH.newG {c : Cx} {H G : AH} {B lm lo lr : Addr} {N : Nat} {ms : List Addr} {ts : List T} {ow : List Int} {rs : Nat → Addr} {rows : Nat → Row} (F : ShH c H G B lm lo lr N ms ts ow rs rows) {d : Addr} {o : AO} (hd : H d = none) :
    ShH c (upd H d o) (upd G d o) B lm lo lr N ms ts ow rs rows := by
  have e : ExtH H (upd H d o) := ExtH.new hd
  have F' := F.ext e
  have nd : ∀ {a : Addr} {x : AO}, H a = some x → a ≠ d := by rintro a x h rfl; rw [hd] at h; cases h
  have Gd : G d = none := by
    cases q : G d with
    | none => rfl
    | some x => rw [F.g _ _ q] at hd; cases hd
  have eG : ExtH G (upd G d o) := ExtH.new Gd
  obtain ⟨hB, q, r, _, _, hb⟩ := F.box
  refine ⟨?_, F'.hm, F'.ho, F'.R, F'.lenm, ?_, F'.nd, F'.box, F'.scr, ?_, ?_, F'.sep⟩
  · intro a x h
    by_cases z : a = d
    · subst z; rw [upd_same] at h ⊢; exact h
    · rw [upd_other z] at h; exact F'.g _ _ h
  · intro i a t ha ht
    have h := F.tok i a t ha ht
    cases t with
    | text raw => exact ⟨e _ _ h.1, by rw [upd_other (nd h.1)]; exact h.2⟩
    | node ty ks x => exact IsT.ext eG h
  · rw [upd_other (nd F.hm), upd_other (nd F.ho), upd_other (nd F.R.l), upd_other (nd hb)]; exact F.gn
  · intro k hk; rw [upd_other (nd (F.R.at' k hk))]; exact F.gr k hk
theorem getElem?_snoc {α : Type} {xs : List α} {x y : α} {i : Nat} (h : (xs ++ [x])[i]? = some y) : xs[i]? = some y ∨ (i = xs.length ∧ x = y) := by
  rw [List.getElem?_append] at h
  split at h
  · exact .inl h
  · rename_i q
    rw [List.getElem?_singleton] at h
    split at h
    · cases h; exact .inr ⟨by omega, rfl⟩
    · cases h
theorem snoc_get {α : Type} {xs : List α} {x : α} : (xs ++ [x])[xs.length]? = some x := by simp
theorem snoc_old {α : Type} {xs : List α} {x y : α} {i : Nat} (h : xs[i]? = some y) : (xs ++ [x])[i]? = some y := by
  rw [List.getElem?_append_left (List.getElem?_eq_some_iff.mp h).1]; exact h
/-- a token is put at the end -/
theorem ShH.addTok {c : Cx} {H G : AH} {B lm lo lr : Addr} {N : Nat} {ms : List Addr} {ts : List T} {ow : List Int} {rs : Nat → Addr} {rows : Nat → Row} (F : ShH c H G B lm lo lr N ms ts ow rs rows) {a : Addr} {t : T} (hn : a ∉ ms) (ht : TokAt H G a t) :
    ShH c (upd H lm (.list ((ms ++ [a]).map .ref))) G B lm lo lr N (ms ++ [a]) (ts ++ [t]) ow rs rows := by
  obtain ⟨s1, s2, s3, s4, s5, s6, s7, s8, s9⟩ := F.sep
  have k : ∀ {a' : Addr} {o : AO}, H a' = some o → a' ≠ lm → upd H lm (.list ((ms ++ [a]).map .ref)) a' = some o := fun h n => by rw [upd_other n]; exact h
  have dict : ∀ {a : Addr} {o : AO}, H a = some o → (∀ xs, o ≠ .list xs) → a ≠ lm := by
    rintro a o h n rfl; rw [F.hm] at h; cases h; exact n _ rfl
  have tk : ∀ {b : Addr} {u : T}, TokAt H G b u → TokAt (upd H lm (.list ((ms ++ [a]).map .ref))) G b u := by
    intro b u h
    cases u with
    | text raw => exact ⟨k h.1 (dict h.1 (by intro xs z; cases z)), h.2⟩
    | node ty ks x => exact h
  refine ⟨fun a o h => k (F.g _ _ h) (by rintro rfl; rw [F.gn.1] at h; cases h), upd_same _ _ _, k F.ho s1.symm, ⟨k F.R.l s2.symm, fun j hj => k (F.R.at' j hj) (dict (F.R.at' j hj) (by intro xs z; cases z)), F.R.inj, F.R.small⟩, by simp [F.lenm], ?_, ?_, F.box.keep (upd_other s4), ?_, F.gn, F.gr, F.sep⟩
  · intro i b u hb hu
    rcases getElem?_snoc hb with hb | ⟨rfl, rfl⟩
    · rcases getElem?_snoc hu with hu | ⟨q, _⟩
      · exact tk (F.tok i b u hb hu)
      · have := (List.getElem?_eq_some_iff.mp hb).1; rw [F.lenm] at this; omega
    · rw [F.lenm] at hu
      rw [snoc_get] at hu; cases hu
      exact tk ht
  · refine List.nodup_append.mpr ⟨F.nd, by simp, ?_⟩
    intro x hx y hy
    rw [List.mem_singleton] at hy; subst hy
    rintro rfl; exact hn hx
  · obtain ⟨xs, h1, h2⟩ := F.scr
    exact ⟨xs, k h1 s7.symm, h2⟩
theorem ShH.addText {c : Cx} {H G : AH} {B lm lo lr : Addr} {N : Nat} {ms : List Addr} {ts : List T} {ow : List Int} {rs : Nat → Addr} {rows : Nat → Row} (F : ShH c H G B lm lo lr N ms ts ow rs rows) {a : Addr} (raw : Str) (ha : H a = none) :
    ShH c (upd (upd H a (textO raw)) lm (.list ((ms ++ [a]).map .ref))) G B lm lo lr N (ms ++ [a]) (ts ++ [.text raw]) ow rs rows := by
  refine (F.ext (ExtH.new ha)).addTok (fun h => ?_) ⟨upd_same _ _ _, ?_⟩
  · obtain ⟨o, h, _⟩ := F.mlive h; rw [ha] at h; cases h
  · cases q : G a with
    | none => rfl
    | some x => rw [F.g _ _ q] at ha; cases ha
theorem ShH.addRow {c : Cx} {H G : AH} {B lm lo lr : Addr} {N : Nat} {ms : List Addr} {ts : List T} {ow : List Int} {rs : Nat → Addr} {rows : Nat → Row} (F : ShH c H G B lm lo lr N ms ts ow rs rows) {a : Addr} (r : Row) (ha : H a = none) (hN : N < 1000) :
    ShH c (upd (upd H a (rowO r)) lr (.list (((List.range N).map fun k => .ref (rs k)) ++ [.ref a]))) G B lm lo lr (N + 1) ms ts ow (fun k => if k = N then a else rs k) (fun k => if k = N then r else rows k) := by
  have Ga : G a = none := by
    cases q : G a with
    | none => rfl
    | some x => rw [F.g _ _ q] at ha; cases ha
  have F1 := F.ext (ExtH.new (o := rowO r) ha)
  have h1 := upd_same H a (rowO r)
  have ra : ∀ k, k < N → rs k ≠ a := by rintro k hk e; have := F.R.at' k hk; rw [e, ha] at this; cases this
  generalize upd H a (rowO r) = H1 at *
  obtain ⟨s1, s2, s3, s4, s5, s6, s7, s8, s9⟩ := F.sep
  have k : ∀ {a' : Addr} {o : AO}, H1 a' = some o → a' ≠ lr → upd H1 lr (.list (((List.range N).map fun k => .ref (rs k)) ++ [.ref a])) a' = some o := fun h n => by rw [upd_other n]; exact h
  have dict : ∀ {a : Addr} {o : AO}, H1 a = some o → (∀ xs, o ≠ .list xs) → a ≠ lr := by
    rintro a o h n rfl; rw [F1.R.l] at h; cases h; exact n _ rfl
  refine ⟨fun a o h => k (F1.g _ _ h) (by rintro rfl; rw [F1.gn.2.2.1] at h; cases h), k F1.hm s2, k F1.ho s3, ⟨?_, ?_, ?_, by omega⟩, F1.lenm, ?_, F1.nd, F1.box.keep (upd_other s6), ?_, F1.gn, ?_, F.sep⟩
  · rw [upd_same, List.range_succ, List.map_append]
    congr 2
    congr 1
    · apply List.map_congr_left
      intro j hj
      rw [if_neg (by have := List.mem_range.mp hj; omega)]
    · simp
  · intro j hj
    show upd H1 lr _ (if j = N then a else rs j) = some (rowO (if j = N then r else rows j))
    by_cases q : j = N
    · rw [if_pos q, if_pos q]; exact k h1 (dict h1 (by intro xs z; cases z))
    · rw [if_neg q, if_neg q]
      have := F1.R.at' j (by omega)
      exact k this (dict this (by intro xs z; cases z))
  · intro i j hi hj e
    replace e : (if i = N then a else rs i) = (if j = N then a else rs j) := e
    by_cases p : i = N <;> by_cases q : j = N
    · omega
    · rw [if_pos p, if_neg q] at e; exact absurd e.symm (ra j (by omega))
    · rw [if_neg p, if_pos q] at e; exact absurd e (ra i (by omega))
    · rw [if_neg p, if_neg q] at e; exact F.R.inj i j (by omega) (by omega) e
  · intro i b t hb ht
    have h := F1.tok i b t hb ht
    cases t with
    | text raw => exact ⟨k h.1 (dict h.1 (by intro xs z; cases z)), h.2⟩
    | node ty ks x => exact h
  · obtain ⟨xs, h1, h2⟩ := F1.scr
    exact ⟨xs, k h1 s9.symm, h2⟩
  · intro j hj
    show G (if j = N then a else rs j) = none
    split
    · exact Ga
    · exact F1.gr j (by omega)
structure ShP (a N : Nat) (ts : List T) (ow : List Int) : Prop where
  leno : ow.length = ts.length
  len : ts.length ≤ a
  dp : deepL ts ≤ 2
  sz : sizeL ts ≤ 3 * a
  nle : N ≤ a
  raw : ∀ raw, T.text raw ∈ ts → raw.length ≤ 10
  own : ∀ (i : Nat) (k : Int), ow[i]? = some k → k = -1 ∨ ∃ j : Nat, k = j ∧ j < N ∧ ∃ raw, ts[i]? = some (T.text raw)
  inc : ∀ (i j : Nat) (a b : Nat), i < j → ow[i]? = some (a : Int) → ow[j]? = some (b : Int) → a < b
  all : ∀ k, k < N → ∃ i : Nat, ow[i]? = some (k : Int)
theorem ShP.mono {a b N : Nat} {ts : List T} {ow : List Int} (P : ShP a N ts ow) (h : a ≤ b) : ShP b N ts ow :=
  ⟨P.leno, by have := P.len; omega, P.dp, by have := P.sz; omega, by have := P.nle; omega, P.raw, P.own, P.inc, P.all⟩
theorem ShP.add {a N : Nat} {ts : List T} {ow : List Int} (P : ShP a N ts ow) {t : T} (hd : t.deep ≤ 2) (hs : t.size ≤ 3) (hr : ∀ raw, t = .text raw → raw.length ≤ 10) : ShP (a + 1) N (ts ++ [t]) (ow ++ [-1]) := by
  have hle := P.leno
  refine ⟨by simp [P.leno], by have := P.len; simp; omega, ?_, ?_, by have := P.nle; omega, ?_, ?_, ?_, ?_⟩
  · rw [deepL_append]; have := P.dp; simp [deepL]; omega
  · rw [sizeL_append]; have := P.sz; simp [sizeL]; omega
  · intro raw h
    rcases List.mem_append.mp h with h | h
    · exact P.raw _ h
    · rw [List.mem_singleton] at h; exact hr _ h.symm
  · intro i k h
    rcases getElem?_snoc h with h | ⟨_, h⟩
    · rcases P.own i k h with q | ⟨j, e, hj, raw, q⟩
      · exact .inl q
      · exact .inr ⟨j, e, hj, raw, snoc_old q⟩
    · exact .inl h.symm
  · intro i j x y hij hi hj
    rcases getElem?_snoc hi with hi | ⟨_, hi⟩
    · rcases getElem?_snoc hj with hj | ⟨_, hj⟩
      · exact P.inc i j x y hij hi hj
      · omega
    · omega
  · intro k hk
    obtain ⟨i, hi⟩ := P.all k hk
    exact ⟨i, snoc_old hi⟩
theorem ShP.addD {a N : Nat} {ts : List T} {ow : List Int} (P : ShP a N ts ow) {raw : Str} (hr : raw.length ≤ 10) : ShP (a + 1) (N + 1) (ts ++ [.text raw]) (ow ++ [(N : Int)]) := by
  have hle := P.leno
  have lt : ∀ (i x : Nat), ow[i]? = some (x : Int) → x < N := by
    intro i x h
    rcases P.own i x h with q | ⟨j, e, hj, _⟩ <;> omega
  refine ⟨by simp [P.leno], by have := P.len; simp; omega, ?_, ?_, by have := P.nle; omega, ?_, ?_, ?_, ?_⟩
  · rw [deepL_append]; have := P.dp; simp [deepL, T.deep]; omega
  · rw [sizeL_append]; have := P.sz; simp [sizeL, T.size]; omega
  · intro raw' h
    rcases List.mem_append.mp h with h | h
    · exact P.raw _ h
    · rw [List.mem_singleton] at h; cases h; exact hr
  · intro i k h
    rcases getElem?_snoc h with h | ⟨hi, h⟩
    · rcases P.own i k h with q | ⟨j, e, hj, raw, q⟩
      · exact .inl q
      · exact .inr ⟨j, e, by omega, raw, snoc_old q⟩
    · refine .inr ⟨N, h.symm, by omega, raw, ?_⟩
      rw [hi, hle]; exact snoc_get
  · intro i j x y hij hi hj
    rcases getElem?_snoc hi with hi | ⟨hi1, hi⟩
    · rcases getElem?_snoc hj with hj | ⟨_, hj⟩
      · exact P.inc i j x y hij hi hj
      · have := lt i x hi; omega
    · have := (List.getElem?_eq_some_iff.mp hj).1; simp at this; omega
  · intro k hk
    by_cases q : k = N
    · subst q; exact ⟨ow.length, snoc_get⟩
    · obtain ⟨i, hi⟩ := P.all k (by omega)
      exact ⟨i, snoc_old hi⟩

section
variable {c : Cx} {P : Params} {n : Nat} {H G : AH} {B lm lo lr : Addr} {N : Nat} {ms : List Addr} {ts : List T} {ow : List Int} {rs : Nat → Addr} {rows : Nat → Row} {Q : AV → AH → Prop}
theorem sh_draw (hK : c.K = hd.heap_39 P) (F : ShH c H G B lm lo lr N ms ts ow rs rows) {k : Int} (hk : 0 < k) (hq : ∀ (r : Int) (H' : AH), 0 ≤ r → r < k → ShH c H' G B lm lo lr N ms ts ow rs rows → ExtB B H H' → Live H H' → Q (.int r) H') : Calls c (n + 1) 207 [.ref B, .int k] H Q :=
  c_draw hK F.scr F.box hk fun r p m r0 r1 p0 m0 => hq r _ r0 r1 (F.draw p0 m0) ExtB.box Live.upd
theorem w_pick (hK : c.K = hd.heap_39 P) (F : ShH c H G B lm lo lr N ms ts ow rs rows) {l vs : List AV} {es : Es} {k : Int} {b : Nat} (h0 : l[b]? = some (.ref B)) (hes : ∀ H Q, Q vs H → wEs c (n + 1) es l H Q) (hk : 0 < k) (hv : vs.length = k) (hv2 : vs.length ≤ 100)
    (hq : ∀ (i : Nat) (v : AV) (H' : AH), vs[i]? = some v → ShH c H' G B lm lo lr N ms ts ow rs rows → Live H H' → Q v H') : wE c (n + 1) (.sub (.list es) (.call 207 (.cons (.var b) (.cons (.int k) .nil)))) l H Q := by
  simp only [wE, wEs, h0, Ok_some]
  refine hes _ _ fun d hd hs => ?_
  have F1 := F.ext (ExtH.new (o := .list vs) hd)
  obtain ⟨hB, q, r, _, _, hb⟩ := F.box
  have dB : d ≠ B := by rintro rfl; rw [hb] at hd; cases hd
  refine ⟨by simp, ?_⟩
  refine sh_draw hK F1 hk fun r H' r0 r1 F2 e L => ?_
  rw [getI_list (e _ _ dB (upd_same _ _ _)) r0 (by omega)]
  have hlt : r.toNat < vs.length := by omega
  rw [List.getElem?_eq_getElem hlt, Ok_some]
  exact hq r.toNat _ H' (List.getElem?_eq_getElem hlt) F2 (Live.upd.trans L)
end
section
variable {c : Cx} {P : Params} {n : Nat} {H G : AH} {B lm lo lr : Addr} {N : Nat} {ms : List Addr} {ts : List T} {ow : List Int} {rs : Nat → Addr} {rows : Nat → Row} {Q : AFl → List AV → AH → Prop}
def shL (B lm lo lr : Addr) (v4 v5 v6 v7 v8 v9 : AV) : List AV := [.ref B, .ref lm, .ref lo, .ref lr, v4, v5, v6, v7, v8, v9]
theorem sh_word (hK : c.K = hd.heap_39 P) (F : ShH c H G B lm lo lr N ms ts ow rs rows) (hl : ms.length ≤ 17) {l : List AV} {e : E} (h1 : l[1]? = some (.ref lm)) {ss : Ss}
    (he : ∀ (Q : AV → AH → Prop), (∀ raw H', raw.length ≤ 10 → ShH c H' G B lm lo lr N ms ts ow rs rows → Q (.str raw) H') → wE c (n + 2) e l H Q)
    (hq : ∀ H' ms' raw, raw.length ≤ 10 → ShH c H' G B lm lo lr N ms' (ts ++ [.text raw]) ow rs rows → wSs c (n + 2) ss l H' Q) :
    wSs c (n + 2) (.cons (.expr (.append 1 (.call 214 (.cons e .nil)))) ss) l H Q := by
  simp only [wSs, wS, wE, wEs, h1, Ok_some, listAt_ref F.hm]
  refine ⟨by simp, F.sep.2.2.2.2.2.2.1, ?_⟩
  refine he _ fun raw H' hr F' => ?_
  refine c_lword hK fun d hd hs => ?_
  have F2 := F'.addText raw hd
  have hm2 : upd H' d (textO raw) lm = some (.list (ms.map .ref)) := ExtH.new hd _ _ F'.hm
  simp only [listAt_ref hm2, Ok_some, List.length_map, true_and]
  refine ⟨F.sep.2.2.2.2.2.2.1, by omega, ?_⟩
  rw [List.map_append] at F2
  exact hq _ _ raw hr F2
theorem sh_own (hK : c.K = hd.heap_39 P) {z : Int} (F : ShH c H G B lm lo lr N ms ts ow rs rows) {l : List AV} {e : E} (h2 : l[2]? = some (.ref lo)) {ss : Ss} (hl9 : ow.length ≤ 20)
    (he : ∀ (Q : AV → AH → Prop), Q (.int z) H → wE c n e l H Q)
    (hq : ∀ H', ShH c H' G B lm lo lr N ms ts (ow ++ [z]) rs rows → wSs c n ss l H' Q) :
    wSs c n (.cons (.expr (.append 2 e)) ss) l H Q := by
  simp only [wSs, wS, wE, wEs, h2, Ok_some, listAt_ref F.ho]
  refine ⟨by simp, F.sep.2.2.2.2.2.2.2.1, ?_⟩
  refine he _ ?_
  have F2 := F.addOw z
  simp only [listAt_ref F.ho, Ok_some, List.length_map, true_and]
  refine ⟨F.sep.2.2.2.2.2.2.2.1, by omega, ?_⟩
  rw [List.map_append] at F2
  exact hq _ F2
theorem ShH.newG2 (F : ShH c H G B lm lo lr N ms ts ow rs rows) {d : Addr} {o : AO} (hd : H d = none) : ∃ G', ShH c (upd H d o) G' B lm lo lr N ms ts ow rs rows ∧ ExtH G G' ∧ G' d = some o ∧ d ∉ ms := by
  refine ⟨_, F.newG hd, ExtH.new ?_, upd_same _ _ _, fun h => ?_⟩
  · cases q : G d with
    | none => rfl
    | some x => rw [F.g _ _ q] at hd; cases hd
  · obtain ⟨o, h, _⟩ := F.mlive h; rw [hd] at h; cases h
theorem sh_node (hK : c.K = hd.heap_39 P) (F : ShH c H G B lm lo lr N ms ts ow rs rows) (hz : ms.length ≤ 17) {v4 v5 v6 v7 v8 v9 : AV}
    (hq : ∀ H' G' ms' t x9, (∀ raw, t ≠ .text raw) → t.deep ≤ 2 → t.size ≤ 3 → ShH c H' G' B lm lo lr N ms' (ts ++ [t]) ow rs rows → Q .next (shL B lm lo lr v4 v5 v6 v7 v8 x9) H') :
    wSs c (n + 2) S_lshape_193 (shL B lm lo lr v4 v5 v6 v7 v8 v9) H Q := by
  simp only [S_lshape_193, shL]
  walk_at "w"
  refine c_lword hK fun d1 h1 _ => ?_
  obtain ⟨G1, F1, e1, g1, _⟩ := F.newG2 (o := textO "d") h1
  generalize upd H d1 (textO "d") = H1 at *
  intro d2 h2 _
  obtain ⟨G2, F2, e2, g2, _⟩ := F1.newG2 (o := .list [.ref d1]) h2
  generalize upd H1 d2 (.list [.ref d1]) = H2 at *
  intro d3 h3 _
  obtain ⟨G3, F3, e3, g3, _⟩ := F2.newG2 (o := nodeO "emphasis" d2 none) h3
  have z3 : AO.dict (List.zip [0, 2] [AV.str "emphasis", .ref d2]) = nodeO "emphasis" d2 none := rfl
  rw [z3]
  generalize upd H2 d3 (nodeO "emphasis" d2 none) = H3 at *
  intro d4 h4 _
  obtain ⟨G4, F4, e4, g4, _⟩ := F3.newG2 (o := .list [.ref d3]) h4
  generalize upd H3 d4 (.list [.ref d3]) = H4 at *
  intro d5 h5 _
  obtain ⟨G5, F5, e5, g5, n5⟩ := F4.newG2 (o := nodeO "strong" d4 none) h5
  have z5 : AO.dict (List.zip [0, 2] [AV.str "strong", .ref d4]) = nodeO "strong" d4 none := rfl
  rw [z5]
  generalize upd H4 d5 (nodeO "strong" d4 none) = H5 at *
  have isA : IsT G5 (.node "strong" (.cons (.node "emphasis" (.cons (.text "d") .nil) none) .nil) none) (.ref d5) :=
    ⟨by decide, _, _, _, rfl, g5, e5 _ _ g4, _, _, rfl, ⟨by decide, _, _, _, rfl, e5 _ _ (e4 _ _ g3), e5 _ _ (e4 _ _ (e3 _ _ g2)), _, _, rfl, ⟨_, rfl, e5 _ _ (e4 _ _ (e3 _ _ (e2 _ _ g1)))⟩, rfl⟩, rfl⟩
  simp only [S_lshape_194]
  walk_at "w"
  simp only [listAt_ref F5.hm, Ok_some]
  refine ⟨F.sep.2.2.2.2.2.2.1, ?_⟩
  refine c_lword hK fun d6 h6 _ => ?_
  obtain ⟨G6, F6, e6, g6, _⟩ := F5.newG2 (o := textO "e") h6
  generalize upd H5 d6 (textO "e") = H6 at *
  intro d7 h7 _
  obtain ⟨G7, F7, e7, g7, _⟩ := F6.newG2 (o := .list [.ref d6]) h7
  generalize upd H6 d7 (.list [.ref d6]) = H7 at *
  intro d8 h8 _
  obtain ⟨G8, F8, e8, g8, _⟩ := F7.newG2 (o := .dict (List.zip [4] [AV.str "/u"])) h8
  generalize upd H7 d8 (.dict (List.zip [4] [AV.str "/u"])) = H8 at *
  intro d9 h9 _
  obtain ⟨G9, F9, e9, g9, n9⟩ := F8.newG2 (o := nodeO "link" d7 (some d8)) h9
  have z9 : AO.dict (List.zip [0, 2, 3] [AV.str "link", .ref d7, .ref d8]) = nodeO "link" d7 (some d8) := rfl
  rw [z9]
  generalize upd H8 d9 (nodeO "link" d7 (some d8)) = H9 at *
  have isB : IsT G9 (.node "link" (.cons (.text "e") .nil) (some d8)) (.ref d9) :=
    ⟨by decide, _, _, _, rfl, g9, e9 _ _ (e8 _ _ g7), _, _, rfl, ⟨_, rfl, e9 _ _ (e8 _ _ (e7 _ _ g6))⟩, rfl⟩
  have isA' : IsT G9 (.node "strong" (.cons (.node "emphasis" (.cons (.text "d") .nil) none) .nil) none) (.ref d5) := IsT.ext (((e6.trans e7).trans e8).trans e9) isA
  intro d10 h10 _
  have F10 := F9.ext (ExtH.new (o := .list [.ref d9, .ref d5]) h10)
  have g10 := upd_same H9 d10 (.list [.ref d9, .ref d5])
  have nB : d10 ≠ B := by
    obtain ⟨hB, q, r, _, _, hb⟩ := F9.box
    rintro rfl; rw [hb] at h10; cases h10
  generalize upd H9 d10 (.list [.ref d9, .ref d5]) = H10 at *
  refine sh_draw hK F10 (by decide) fun r H11 r0 r1 F11 ex _ => ?_
  rw [getI_list (ex _ _ nB g10) r0 (by omega)]
  have fin : ∀ (d : Addr) (t : T), IsT G9 t (.ref d) → (∀ raw, t ≠ .text raw) → t.deep ≤ 2 → t.size ≤ 3 → d ∉ ms → ∀ Qx : AH → Prop, (∀ H', ShH c H' G9 B lm lo lr N (ms ++ [d]) (ts ++ [t]) ow rs rows → H' = upd H11 lm (.list ((ms ++ [d]).map .ref)) → Qx H') → Qx (upd H11 lm (.list (ms.map .ref ++ [.ref d]))) := by
    intro d t ht hr h1 h2 h3 Qx hQ
    have := F11.addTok h3 (show TokAt H11 G9 d t by cases t with
      | text raw => exact absurd rfl (hr raw)
      | node ty ks x => exact ht)
    rw [show (ms.map AV.ref ++ [.ref d]) = (ms ++ [d]).map .ref by simp]
    exact hQ _ this rfl
  have hr : r = 0 ∨ r = 1 := by omega
  have hlm := listAt_ref F11.hm
  rcases hr with rfl | rfl
  · show Ok (listAt H11 (.ref lm)) _
    rw [hlm, Ok_some]
    refine ⟨F.sep.2.2.2.2.2.2.1, by simp; omega, ?_⟩
    refine fin d9 _ isB (by intro raw z; cases z) (by simp [T.deep, Ts.deep]) (by simp [T.size, Ts.size]) n9 (fun H' => Q .next _ H') fun H' F' _ => ?_
    exact hq _ _ _ _ _ (by intro raw z; cases z) (by simp [T.deep, Ts.deep]) (by simp [T.size, Ts.size]) F'
  · show Ok (listAt H11 (.ref lm)) _
    rw [hlm, Ok_some]
    refine ⟨F.sep.2.2.2.2.2.2.1, by simp; omega, ?_⟩
    refine fin d5 _ isA' (by intro raw z; cases z) (by decide) (by decide) n5 (fun H' => Q .next _ H') fun H' F' _ => ?_
    exact hq _ _ _ _ _ (by intro raw z; cases z) (by decide) (by decide) F'

end
theorem c_lshape {c : Cx} {P : Params} {n : Nat} {H : AH} {B : Addr} {Q : AV → AH → Prop} (hK : c.K = hd.heap_39 P) (hs : ScrOk c H) (hb : BoxOk c H B)
    (hq : ∀ (H' G : AH) (t lm lo lr : Addr) (N : Nat) (ms : List Addr) (ts : List T) (ow : List Int) (rs : Nat → Addr) (rows : Nat → Row), H' t = some (.tup [.ref lm, .ref lo, .ref lr]) → ShH c H' G B lm lo lr N ms ts ow rs rows → ShP 18 N ts ow → Q (.ref t) H') :
    Calls c (n + 3) 221 [.ref B] H Q := by
  refine calls_fn (n := n + 2) ok_lshape (in_lshape hK) (snd_lshape hK) rfl ?_
  simp only [S_lshape, S_lshape_174, S_lshape_175, n_lshape]
  walk_at "w"
  intro lm hm hms lo ho hos lr hr hrs
  have F0 : ShH c (upd (upd (upd H lm (.list [])) lo (.list [])) lr (.list [])) (fun _ => none) B lm lo lr 0 [] [] [] (fun k => k) (fun _ => ⟨"", 0, false, false, 0⟩) := by
    have e1 : ExtH H (upd H lm (.list [])) := ExtH.new hm
    have e2 : ExtH (upd H lm (.list [])) _ := ExtH.new (o := .list []) ho
    have e3 : ExtH (upd (upd H lm (.list [])) lo (.list [])) _ := ExtH.new (o := .list []) hr
    have g1 := upd_same H lm (.list [])
    have g2 := upd_same (upd H lm (.list [])) lo (.list [])
    have g3 := upd_same (upd (upd H lm (.list [])) lo (.list [])) lr (.list [])
    have g1' := e2 _ _ g1
    obtain ⟨xs, hx, hx2⟩ := hs
    obtain ⟨b1, p, m, b2, b3, b4⟩ := hb
    have b5 := e1 _ _ b4
    have b6 := e2 _ _ b5
    generalize upd H lm (.list []) = H1 at *
    generalize upd H1 lo (.list []) = H2 at *
    generalize upd H2 lr (.list []) = H3 at *
    refine ⟨fun a o h => (by cases h), e3 _ _ g1', e3 _ _ g2, ⟨g3, fun k hk => (by omega), fun i j h => (by omega), (by omega)⟩, rfl, fun i a t h => (by simp at h), List.nodup_nil, ⟨b1, p, m, b2, b3, e3 _ _ b6⟩, ⟨xs, e3 _ _ (e2 _ _ (e1 _ _ hx)), hx2⟩, ⟨rfl, rfl, rfl, rfl⟩, fun _ _ => rfl, ?_, ?_, ?_, ?_, ?_, ?_, hms, hos, hrs⟩
    · rintro rfl; rw [ho] at g1; cases g1
    · rintro rfl; rw [hr] at g1'; cases g1'
    · rintro rfl; rw [hr] at g2; cases g2
    · rintro rfl; rw [hm] at b4; cases b4
    · rintro rfl; rw [ho] at b5; cases b5
    · rintro rfl; rw [hr] at b6; cases b6
  generalize upd (upd (upd H lm (.list [])) lo (.list [])) lr (.list []) = H0 at *
  simp only [S_lshape_176]
  walk_at "w"
  refine sh_draw hK F0 (by decide) fun tn H1 t0 t1 F1 _ _ => ?_
  walk_at "w"
  refine ⟨by omega, by omega, by omega, by omega, fun i l H' => ∃ G N ms ts ow rs rows v4 v5 v6 v7 v8 v9, l = shL B lm lo lr v4 v5 v6 v7 v8 v9 ∧ ShH c H' G B lm lo lr N ms ts ow rs rows ∧ ShP (2 * i) N ts ow, ?_, ?_, ?_⟩
  · refine ⟨_, _, _, _, _, _, _, _, _, _, _, _, _, rfl, F1, rfl, Nat.le_refl _, Nat.zero_le _, Nat.le_refl _, Nat.le_refl _, ?_, ?_, ?_, ?_⟩
    · intro raw h; cases h
    · intro i k h; simp at h
    · intro i j a b _ h; simp at h
    · intro k hk; omega
  · rintro i l H2 hi ⟨G, N, ms, ts, ow, rs, rows, v4, v5, v6, v7, v8, v9, rfl, F, Z⟩
    have hi9 : 2 * i ≤ 16 := by omega
    have hml : ms.length ≤ 16 := by have := Z.len; have := F.lenm; omega
    have hol : ow.length ≤ 16 := by have := Z.len; have := Z.leno; omega
    have hN : N ≤ 16 := by have := Z.nle; omega
    simp only [S_lshape_177, shL]
    walk_at "w"
    refine sh_draw hK F (by decide) fun kd H3 k0 k1 F _ _ => ?_
    simp only [S_lshape_178]
    walk_at "w"
    by_cases hk4 : kd < 4
    · simp only [hk4, decide_true, if_true]
      simp only [S_lshape_179]
      walk_at "w"
      intro d hd _
      have F4 := F.ext (ExtH.new (o := .list [.str "*", .str "_"]) hd)
      have g4 := upd_same H3 d (.list [.str "*", .str "_"])
      have nB : d ≠ B := by
        obtain ⟨hB, q, r, _, _, hb⟩ := F.box
        rintro rfl; rw [hb] at hd; cases hd
      generalize upd H3 d (.list [.str "*", .str "_"]) = H4 at *
      refine sh_draw hK F4 (by decide) fun r H5 r0 r1 F5 ex _ => ?_
      walk_at "w"
      refine ⟨by decide, by decide, ?_⟩
      have hq2 : r / 3 = 0 ∨ r / 3 = 1 := by omega
      have fin : ∀ sg : Str, sg.length = 1 → wSs c (n + 2) S_lshape_180 [.ref B, .ref lm, .ref lo, .ref lr, .int (0 + (i : Int)), .int kd, .str sg, v7, v8, v9] H5 (fun fl l H => match fl with
          | .next => ∃ G N ms ts ow rs rows v4 v5 v6 v7 v8 v9, l = shL B lm lo lr v4 v5 v6 v7 v8 v9 ∧ ShH c H G B lm lo lr N ms ts ow rs rows ∧ ShP (2 * (i + 1)) N ts ow
          | .ret v => Q v H) := by
        intro sg hsg
        simp only [S_lshape_180]
        walk_at "w"
        refine sh_draw hK F5 (by decide) fun sz H6 z0 z1 F6 _ _ => ?_
        walk_at "w"
        simp only [S_lshape_181]
        simp only [wSs, wS]
        refine w_pick hK F6 (vs := [.int 0, .int 0, .int 0, .int 0, .int 0, .int 0, .int 0, .int 0, .int 0, .int 0, .int 0, .int 0, .int 0, .int 0, .int 1, .int (1 + sz)]) rfl (by intro H Q hQ; walk_at "w"; exact hQ) (by decide) rfl (Nat.le_of_ble_eq_true rfl) fun j v H7 hv F7 _ => ?_
        obtain ⟨less, rfl, l0, l1⟩ : ∃ less, v = .int less ∧ 0 ≤ less ∧ less ≤ 1 + sz := by
          have := List.mem_of_getElem? hv
          simp only [List.mem_cons, List.not_mem_nil, or_false] at this
          rcases this with h | h | h | h | h | h | h | h | h | h | h | h | h | h | h | h <;> exact ⟨_, h, by omega, by omega⟩
        simp only [S_lshape_182]
        walk_at "w"
        simp only [listAt_ref F7.R.l, Ok_some]
        refine ⟨F.sep.2.2.2.2.2.2.2.2, ?_⟩
        refine sh_draw hK F7 (by decide) fun o1 H8 _ _ F8 _ _ => ?_
        walk_at "w"
        refine sh_draw hK F8 (by decide) fun o2 H9 _ _ F9 _ _ => ?_
        walk_at "w"
        intro rd hrd _
        have Fa := F9.addRow (a := rd) ⟨sg, 1 + sz, decide (¬ o1 = 0), decide (¬ o2 = 0), 1 + sz⟩ hrd (by omega)
        have er : AO.dict (List.zip [5, 6, 7, 8, 9] [AV.str sg, .int (1 + sz), .bool (decide (¬ o1 = 0)), .bool (decide (¬ o2 = 0)), .int (1 + sz)]) = rowO ⟨sg, 1 + sz, decide (¬ o1 = 0), decide (¬ o2 = 0), 1 + sz⟩ := rfl
        rw [er]
        have gl := ExtH.new (o := rowO ⟨sg, 1 + sz, decide (¬ o1 = 0), decide (¬ o2 = 0), 1 + sz⟩) hrd _ _ F9.R.l
        simp only [listAt_ref gl, Ok_some, List.length_map, List.length_range]
        refine ⟨F.sep.2.2.2.2.2.2.2.2, by omega, ?_⟩
        generalize upd (upd H9 rd (rowO ⟨sg, 1 + sz, decide (¬ o1 = 0), decide (¬ o2 = 0), 1 + sz⟩)) lr _ = H10 at *
        simp only [S_lshape_183]
        refine sh_own hK (z := (N : Int)) Fa rfl (by omega) ?_ ?_
        · intro Q hQ
          walk_at "w"
          simp only [listAt_ref Fa.R.l, Ok_some, List.length_map, List.length_range]
          refine ⟨by omega, ?_⟩
          rw [show ((N + 1 : Nat) : Int) - 1 = (N : Int) by omega]
          exact hQ
        · intro H11 F11
          simp only [S_lshape_184]
          refine sh_word hK F11 (by omega) rfl ?_ ?_
          · intro Q hQ
            walk_at "w"
            simp only [wBin]
            refine ⟨by omega, by omega, by omega, ?_⟩
            refine hQ _ _ ?_ F11
            have h9 := len_mul_k1 (x := sg) (n := 1 + sz - less) hsg
            split at h9 <;> omega
          · intro H12 ms' raw hraw F12
            have Zd := Z.addD hraw
            simp only [S_lshape_185]
            walk_at "w"
            refine sh_draw hK F12 (by decide) fun o5 H13 _ _ F13 _ _ => ?_
            walk_at "w"
            by_cases ho5 : o5 = 0
            · simp only [ho5, not_true_eq_false, decide_false, Bool.false_eq_true, if_false]
              exact ⟨_, _, _, _, _, _, _, _, _, _, _, _, _, rfl, F13, Zd.mono (by omega)⟩
            · simp only [ho5, not_false_eq_true, decide_true, if_true]
              simp only [S_lshape_186]
              refine sh_own hK (z := -1) F13 rfl (by simp; omega) (fun Q hQ => by walk_at "w"; exact hQ) fun H14 F14 => ?_
              simp only [S_lshape_187]
              have hml2 : ms'.length ≤ 17 := by have h1 := F12.lenm; have h2 := F.lenm; rw [List.length_append, List.length_singleton] at h1; omega
              refine sh_word hK F14 hml2 rfl ?_ ?_
              · intro Q hQ
                refine w_pick (n := n + 1) hK F14 (vs := [.str "a", .str "b c", .str "d", .str "e", .str ""]) rfl (by intro H Q hQ; walk_at "w"; exact hQ) (by decide) rfl (Nat.le_of_ble_eq_true rfl) fun j v H7 hv F7 _ => ?_
                obtain ⟨raw, rfl, hr⟩ : ∃ raw : Str, v = .str raw ∧ raw.length ≤ 10 := by
                  have := List.mem_of_getElem? hv
                  simp only [List.mem_cons, List.not_mem_nil, or_false] at this
                  rcases this with h | h | h | h | h <;> exact ⟨_, h, by decide⟩
                exact hQ _ _ hr F7
              · intro H15 ms'' raw' hraw' F15
                simp only [wSs]
                exact ⟨_, _, _, _, _, _, _, _, _, _, _, _, _, rfl, F15, (Zd.add (t := .text raw') (by simp [T.deep]) (by simp [T.size]) (by intro r h; cases h; exact hraw')).mono (by omega)⟩
      rcases hq2 with e | e
      · rw [e, getI_l0 (ex _ _ nB g4), Ok_some]
        exact fin _ rfl
      · rw [e, getI_l1 (ex _ _ nB g4), Ok_some]
        exact fin _ rfl
    · simp only [hk4, decide_false, Bool.false_eq_true, if_false]
      simp only [S_lshape_189]
      refine sh_own hK (z := -1) F rfl (by omega) (fun Q hQ => by walk_at "w"; exact hQ) fun H4 F4 => ?_
      simp only [S_lshape_190]
      walk_at "w"
      by_cases hk5 : kd = 4
      · simp only [hk5, decide_true, if_true]
        simp only [S_lshape_191]
        refine sh_word hK F4 (by omega) rfl ?_ ?_
        · intro Q hQ
          refine w_pick (n := n + 1) hK F4 (vs := [.str "a", .str "", .str "b c"]) rfl (by intro H Q hQ; walk_at "w"; exact hQ) (by decide) rfl (Nat.le_of_ble_eq_true rfl) fun j v H7 hv F7 _ => ?_
          obtain ⟨raw, rfl, hr⟩ : ∃ raw : Str, v = .str raw ∧ raw.length ≤ 10 := by
            have := List.mem_of_getElem? hv
            simp only [List.mem_cons, List.not_mem_nil, or_false] at this
            rcases this with h | h | h <;> exact ⟨_, h, by decide⟩
          exact hQ _ _ hr F7
        · intro H15 ms'' raw' hraw' F15
          simp only [wSs]
          exact ⟨_, _, _, _, _, _, _, _, _, _, _, _, _, rfl, F15, (Z.add (t := .text raw') (by simp [T.deep]) (by simp [T.size]) (by intro r h; cases h; exact hraw')).mono (by omega)⟩
      · simp only [hk5, decide_false, Bool.false_eq_true, if_false]
        refine sh_node hK F4 (by omega) fun H5 G' ms' t x9 h1 h2 h3 F5 => ?_
        exact ⟨_, _, _, _, _, _, _, _, _, _, _, _, _, rfl, F5, (Z.add h2 h3 (fun raw h => absurd h (h1 raw))).mono (by omega)⟩
  · rintro l H2 ⟨G, N, ms, ts, ow, rs, rows, v4, v5, v6, v7, v8, v9, rfl, F, Z⟩
    simp only [S_lshape_195, shL]
    walk_at "w"
    intro t ht _
    exact hq _ _ _ _ _ _ _ _ _ _ _ _ (upd_same _ _ _) (F.ext (ExtH.new ht)) (Z.mono (by omega))

def kindO : AO → Nat
  | .list _ => 0
  | .tup _ => 1
  | .dict _ => 2
  | .inst .. => 3
  | .cell _ => 4
  | .tab => 5
theorem neK {H : AH} {a b : Addr} {o o' : AO} (h : H a = some o) (h' : H b = some o') (n : decide (kindO o ≠ kindO o') = true) : a ≠ b := by
  rintro rfl; rw [h] at h'; cases h'; simp at n
theorem neF {H : AH} {a b : Addr} {o : AO} (h : H a = some o) (h' : H b = none) : a ≠ b := by
  rintro rfl; rw [h] at h'; cases h'
theorem neV {H : AH} {a b : Addr} {o o' : AO} (h : H a = some o) (h' : H b = some o') (n : o ≠ o') : a ≠ b := by
  rintro rfl; rw [h] at h'; cases h'; exact n rfl
theorem text_row {x : Str} {r : Row} : textO x ≠ rowO r := by intro z; simp [textO, rowO] at z
theorem node_row {ty : Str} {k : Addr} {z : Option Addr} {r : Row} : nodeO ty k z ≠ rowO r := by
  cases z <;> (intro z; simp [nodeO, rowO] at z)
theorem text_node {x ty : Str} {k : Addr} {z : Option Addr} : textO x ≠ nodeO ty k z := by
  cases z <;> (intro z; simp [nodeO, textO] at z)
/-- the whole state of the law's lists -/
structure St where
  (lm lo lr lp ld X dX tr nx : Addr)
  (N S : Nat)
  (ps ms : List Addr)
  (ts : List T)
  (ow : List Int)
  (rs ds dds : Nat → Addr)
  (rows : Nat → Row)
  (idx : Nat → Nat)
  (tv : Nat → Int)
  (nv : Nat → Nat)
  (G : AH)
structure LS (c : Cx) (H : AH) (B : Addr) (σ : St) : Prop where
  g : ExtH σ.G H
  hm : H σ.lm = some (.list (σ.ms.map .ref))
  hp : H σ.lp = some (.list (σ.ps.map .ref))
  ho : H σ.lo = some (.list (σ.ow.map .int))
  R : Rows H σ.lr σ.N σ.rs σ.rows
  D : Dels H σ.ld σ.N σ.ds σ.dds σ.rows (fun k => (σ.idx k : Int))
  I : Ix c H σ.X σ.dX σ.tr σ.nx σ.S σ.N σ.tv σ.nv
  uf : UF σ.N σ.nv
  off : ∀ k, k < σ.N → σ.nv k ≠ k → (σ.rows k).len = 0
  lenm : σ.ms.length = σ.ts.length
  lenp : σ.ps.length = σ.ts.length
  tokm : ∀ (i : Nat) (a : Addr) (t : T), σ.ms[i]? = some a → σ.ts[i]? = some t → TokAt H σ.G a t
  tokp : ∀ (i : Nat) (a : Addr) (t : T), σ.ps[i]? = some a → σ.ts[i]? = some t → TokAt H σ.G a t
  nd : (σ.ps ++ σ.ms).Nodup
  box : BoxOk c H B
  scr : ScrOk c H
  gp : σ.G σ.lp = none ∧ σ.G σ.tr = none ∧ σ.G σ.nx = none ∧ σ.G B = none
  gr : ∀ k, k < σ.N → σ.G (σ.rs k) = none ∧ σ.G (σ.ds k) = none
  fix : ∀ a ∈ [σ.lp, σ.tr, σ.nx, B], ∀ b ∈ [σ.lm, σ.lo, σ.lr, σ.ld], a ≠ b
  mv : σ.lp ≠ σ.tr ∧ σ.lp ≠ σ.nx ∧ B ≠ σ.lp ∧ B ≠ σ.tr ∧ B ≠ σ.nx ∧ σ.lp ≠ c.scr
structure LP (n : Nat) (σ : St) : Prop where
  leno : σ.ow.length = σ.ts.length
  len : σ.ts.length ≤ 18
  sz : sizeL σ.ts ≤ 60 + n
  dp : deepL σ.ts ≤ 2 + n
  raw : ∀ raw, T.text raw ∈ σ.ts → raw.length ≤ 10
  own : ∀ (i : Nat) (k : Int), σ.ow[i]? = some k → k = -1 ∨ ∃ j : Nat, k = j ∧ j < σ.N ∧ ∃ raw, σ.ts[i]? = some (T.text raw)
  inc : ∀ (i j : Nat) (a b : Nat), i < j → σ.ow[i]? = some (a : Int) → σ.ow[j]? = some (b : Int) → a < b
  cur : ∀ i k : Nat, σ.ow[i]? = some (k : Int) → (σ.idx k : Int) - pre σ.tv 6 (σ.idx k + 1) = (i : Nat)
  idi : ∀ j k, j < k → k < σ.N → σ.idx j < σ.idx k
  ids : ∀ k, k < σ.N → σ.idx k + 1 < σ.S
/-- every row with something left stands in the list -/
def Pl (σ : St) : Prop := ∀ k, k < σ.N → 0 < (σ.rows k).len → ∃ i : Nat, σ.ow[i]? = some (k : Int)
section
variable {c : Cx} {H H' : AH} {B : Addr} {σ : St}
theorem TokAt.ext {G : AH} {a : Addr} {t : T} (h : TokAt H G a t) (e : ExtH H H') : TokAt H' G a t := by
  cases t with
  | text raw => exact ⟨e _ _ h.1, h.2⟩
  | node ty ks x => exact h
theorem Rows.ext {lr : Addr} {N : Nat} {rs : Nat → Addr} {rows : Nat → Row} (R : Rows H lr N rs rows) (e : ExtH H H') : Rows H' lr N rs rows := ⟨e _ _ R.l, fun k hk => e _ _ (R.at' k hk), R.inj, R.small⟩
theorem Dels.ext {ld : Addr} {N : Nat} {ds dds : Nat → Addr} {rows : Nat → Row} {idx : Nat → Int} (D : Dels H ld N ds dds rows idx) (e : ExtH H H') : Dels H' ld N ds dds rows idx := ⟨e _ _ D.l, fun k hk => e _ _ (D.at' k hk), D.inj, D.small⟩
theorem Ix.ext {X dX tr nx : Addr} {S N : Nat} {tv : Nat → Int} {nv : Nat → Nat} (I : Ix c H X dX tr nx S N tv nv) (e : ExtH H H') : Ix c H' X dX tr nx S N tv nv := ⟨e _ _ I.x, e _ _ I.t, e _ _ I.n, I.ts, I.ns, I.tn, I.S32, I.small⟩
theorem BoxOk.ext (b : BoxOk c H B) (e : ExtH H H') : BoxOk c H' B := by
  obtain ⟨h1, p, m, h2, h3, h4⟩ := b; exact ⟨h1, p, m, h2, h3, e _ _ h4⟩
theorem ScrOk.extH (b : ScrOk c H) (e : ExtH H H') : ScrOk c H' := by
  obtain ⟨xs, h4, h5⟩ := b; exact ⟨xs, e _ _ h4, h5⟩
theorem LS.ext (F : LS c H B σ) (e : ExtH H H') : LS c H' B σ :=
  ⟨F.g.trans e, e _ _ F.hm, e _ _ F.hp, e _ _ F.ho, F.R.ext e, F.D.ext e, F.I.ext e, F.uf, F.off, F.lenm, F.lenp, fun i a t h1 h2 => (F.tokm i a t h1 h2).ext e, fun i a t h1 h2 => (F.tokp i a t h1 h2).ext e, F.nd, F.box.ext e, F.scr.extH e, F.gp, F.gr, F.fix, F.mv⟩
theorem LS.nB (F : LS c H B σ) {a : Addr} {o : AO} (h : H a = some o) (n : decide (kindO o ≠ 0) = true) : a ≠ B := by
  obtain ⟨_, p, m, _, _, hb⟩ := F.box; exact neK h hb n
theorem LS.extB (F : LS c H B σ) (e : ExtB B H H') (b : BoxOk c H' B) : LS c H' B σ := by
  have f := F.fix
  obtain ⟨m1, m2, m3, m4, m5, m6⟩ := F.mv
  have fx : ∀ b ∈ [σ.lm, σ.lo, σ.lr, σ.ld], b ≠ B := fun b hb => (F.fix B (by simp) b hb).symm
  have tk : ∀ {a : Addr} {t : T}, TokAt H σ.G a t → TokAt H' σ.G a t := by
    intro a t h
    cases t with
    | text raw => exact ⟨e _ _ (F.nB h.1 rfl) h.1, h.2⟩
    | node ty ks x => exact h
  have R := F.R; have D := F.D; have I := F.I
  exact ⟨fun a o h => e _ _ (by rintro rfl; rw [F.gp.2.2.2] at h; cases h) (F.g _ _ h), e _ _ (fx _ (by simp)) F.hm, e _ _ m3.symm F.hp, e _ _ (fx _ (by simp)) F.ho,
    ⟨e _ _ (fx _ (by simp)) R.l, fun k hk => e _ _ (F.nB (R.at' k hk) rfl) (R.at' k hk), R.inj, R.small⟩, ⟨e _ _ (fx _ (by simp)) D.l, fun k hk => e _ _ (F.nB (D.at' k hk) rfl) (D.at' k hk), D.inj, D.small⟩,
    ⟨e _ _ (F.nB I.x rfl) I.x, e _ _ m4.symm I.t, e _ _ m5.symm I.n, I.ts, I.ns, I.tn, I.S32, I.small⟩, F.uf, F.off, F.lenm, F.lenp, fun i a t h1 h2 => tk (F.tokm i a t h1 h2), fun i a t h1 h2 => tk (F.tokp i a t h1 h2), F.nd, b, F.scr.ext F.box.1 e, F.gp, F.gr, F.fix, F.mv⟩
theorem LS.isP (F : LS c H B σ) : IsL H σ.ts (σ.ps.map .ref) := by
  refine IsL.mk (by rw [List.length_map, F.lenp]) fun i t v ht hv => ?_
  rw [List.getElem?_map] at hv
  cases q : σ.ps[i]? with
  | none => rw [q] at hv; cases hv
  | some a => rw [q] at hv; cases hv; exact (F.tokp i a t q ht).isT F.g
theorem LS.isM (F : LS c H B σ) : IsL H σ.ts (σ.ms.map .ref) := by
  refine IsL.mk (by rw [List.length_map, F.lenm]) fun i t v ht hv => ?_
  rw [List.getElem?_map] at hv
  cases q : σ.ms[i]? with
  | none => rw [q] at hv; cases hv
  | some a => rw [q] at hv; cases hv; exact (F.tokm i a t q ht).isT F.g
end
theorem splice_get {α : Type} {xs : List α} {f s i : Nat} {x : α} (hfs : f + 2 ≤ s) (hs : s < xs.length) : (splice xs f s x)[i]? = if i ≤ f then xs[i]? else if i = f + 1 then some x else xs[i + (s - f - 2)]? := by
  unfold splice
  have hl : (xs.take (f + 1)).length = f + 1 := by rw [List.length_take]; omega
  rw [List.getElem?_append]
  split
  · rename_i q
    rw [hl] at q
    rw [if_pos (by omega), List.getElem?_take, if_pos q]
  · rename_i q
    rw [hl] at q ⊢
    rw [if_neg (by omega)]
    by_cases z : i = f + 1
    · subst z; simp
    · rw [if_neg z, show i - (f + 1) = (i - (f + 2)) + 1 by omega, List.getElem?_cons_succ, List.getElem?_drop]
      congr 1; omega
theorem splice_len {α : Type} {xs : List α} {f s : Nat} {x : α} (hfs : f + 2 ≤ s) (hs : s < xs.length) : (splice xs f s x).length = xs.length - (s - f - 2) := by
  unfold splice
  rw [List.length_append, List.length_take, List.length_cons, List.length_drop]; omega
theorem splice_cases {α : Type} {xs : List α} {f s i : Nat} {x v : α} (hfs : f + 2 ≤ s) (hs : s < xs.length) (h : (splice xs f s x)[i]? = some v) : (i ≤ f ∧ xs[i]? = some v) ∨ (i = f + 1 ∧ v = x) ∨ (f + 2 ≤ i ∧ xs[i + (s - f - 2)]? = some v) := by
  rw [splice_get hfs hs] at h
  split at h
  · exact .inl ⟨by assumption, h⟩
  · split at h
    · cases h; exact .inr (.inl ⟨by assumption, rfl⟩)
    · exact .inr (.inr ⟨by omega, h⟩)
theorem splice_lo {α : Type} {xs : List α} {f s i : Nat} {x v : α} (hfs : f + 2 ≤ s) (hs : s < xs.length) (hi : i ≤ f) (h : xs[i]? = some v) : (splice xs f s x)[i]? = some v := by
  rw [splice_get hfs hs, if_pos hi]; exact h
theorem splice_hi {α : Type} {xs : List α} {f s i : Nat} {x v : α} (hfs : f + 2 ≤ s) (hs : s < xs.length) (hi : s ≤ i) (h : xs[i]? = some v) : (splice xs f s x)[i - (s - f - 2)]? = some v := by
  rw [splice_get hfs hs, if_neg (by omega), if_neg (by omega), show i - (s - f - 2) + (s - f - 2) = i by omega]; exact h
theorem splice_mid {α : Type} {xs : List α} {f s : Nat} {x : α} (hfs : f + 2 ≤ s) (hs : s < xs.length) : (splice xs f s x)[f + 1]? = some x := by
  rw [splice_get hfs hs, if_neg (by omega), if_pos rfl]
def txt2 (ts : List T) (f s : Nat) (x y : Str) : List T := (ts.set f (.text x)).set s (.text y)
theorem txt2_len {ts : List T} {f s : Nat} {x y : Str} : (txt2 ts f s x y).length = ts.length := by simp [txt2]
theorem txt2_get {ts : List T} {f s i : Nat} {x y : Str} (hf : f < ts.length) (hs : s < ts.length) : (txt2 ts f s x y)[i]? = if i = s then some (.text y) else if i = f then some (.text x) else ts[i]? := by
  unfold txt2
  rw [List.getElem?_set]
  by_cases a : s = i
  · subst a; simp [hs]
  · rw [if_neg a, if_neg (Ne.symm a), List.getElem?_set]
    by_cases b : f = i
    · subst b; simp [hf]
    · rw [if_neg b, if_neg (Ne.symm b)]
theorem sizeL_set {t u : T} : ∀ {ts : List T} {i : Nat}, ts[i]? = some u → sizeL (ts.set i t) + u.size = sizeL ts + t.size
  | [], i, h => by cases h
  | x :: ts, 0, h => by cases h; simp [sizeL]; omega
  | x :: ts, i + 1, h => by
    have := sizeL_set (t := t) (ts := ts) (i := i) (u := u) h
    simp [sizeL]; omega
theorem deepL_le {k : Nat} : ∀ {ts : List T}, (∀ t ∈ ts, t.deep ≤ k) → deepL ts ≤ k
  | [], _ => Nat.zero_le _
  | t :: ts, h => Nat.max_le.mpr ⟨h t (.head _), deepL_le fun u hu => h u (.tail _ hu)⟩
theorem cut_split {α : Type} {xs : List α} {f s : Nat} (hfs : f + 2 ≤ s) : xs = xs.take (f + 1) ++ (cutL xs (some ((f + 1 : Nat) : Int)) (some (s : Int)) ++ xs.drop s) := by
  have : xs.take (f + 1) = (xs.take s).take (f + 1) := by rw [List.take_take, Nat.min_eq_left (by omega)]
  rw [this]
  simp only [cutL, Option.getD_some, Int.toNat_natCast]
  rw [← List.append_assoc, List.take_append_drop, List.take_append_drop]
theorem sizeL_splice {xs : List T} {f s : Nat} {t : T} (hfs : f + 2 ≤ s) : sizeL (splice xs f s t) + sizeL (cutL xs (some ((f + 1 : Nat) : Int)) (some (s : Int))) = sizeL xs + t.size := by
  have h := congrArg sizeL (cut_split (xs := xs) (f := f) (s := s) hfs)
  rw [sizeL_append, sizeL_append] at h
  unfold splice
  rw [sizeL_append]
  simp only [sizeL]; omega
theorem txt2_cut {ts : List T} {f s : Nat} {x y : Str} (hf : f < ts.length) (hs : s < ts.length) : cutL (txt2 ts f s x y) (some ((f + 1 : Nat) : Int)) (some (s : Int)) = cutL ts (some ((f + 1 : Nat) : Int)) (some (s : Int)) := by
  apply List.ext_getElem?
  intro i
  rw [cut_get, cut_get]
  split
  · rw [txt2_get hf hs, if_neg (by omega), if_neg (by omega)]
  · rfl
def mvSt (σ : St) (f s : Nat) (lm' lo' nd nd' : Addr) (x' y' ty : Str) (rx : Nat → Row) (tv' : Nat → Int) (nv' : Nat → Nat) (G' : AH) : St :=
  { σ with lm := lm', lo := lo', ps := splice σ.ps f s nd, ms := splice σ.ms f s nd', ts := splice (txt2 σ.ts f s x' y') f s (.node ty (Ts.ofL (cutL σ.ts (some ((f + 1 : Nat) : Int)) (some (s : Int)))) none), ow := splice σ.ow f s (-1), rows := rx, tv := tv', nv := nv', G := G' }
theorem LP.move {n : Nat} {σ : St} (P : LP n σ) {fo co f s : Nat} {x y x' y' ty : Str} {lm' lo' nd nd' : Addr} {rx : Nat → Row} {tv' : Nat → Int} {nv' : Nat → Nat} {G' : AH} (hfs : f + 2 ≤ s) (hs : s < σ.ts.length)
    (hf : σ.ow[f]? = some (fo : Int)) (hc : σ.ow[s]? = some (co : Int)) (hco : co < σ.N) (h1 : σ.ts[f]? = some (.text x)) (h2 : σ.ts[s]? = some (.text y)) (hx : x'.length ≤ x.length) (hy : y'.length ≤ y.length) (hS : σ.S ≤ 32)
    (htv : tv' = if f + 2 < s then addUp ((s - f - 2 : Nat) : Int) 6 σ.tv (σ.idx co + 1) else σ.tv) : LP (n + 1) (mvSt σ f s lm' lo' nd nd' x' y' ty rx tv' nv' G') := by
  have hls : s < (txt2 σ.ts f s x' y').length := by rw [txt2_len]; exact hs
  have hfl : f < σ.ts.length := by omega
  have how : s < σ.ow.length := by rw [P.leno]; exact hs
  have nat : ∀ {i j : Nat} {a b : Nat}, σ.ow[i]? = some (a : Int) → σ.ow[j]? = some (b : Int) → (i < j → a < b) ∧ (i = j → a = b) ∧ (j < i → b < a) := by
    intro i j a b hi hj
    refine ⟨fun q => P.inc i j a b q hi hj, ?_, fun q => P.inc j i b a q hj hi⟩
    rintro rfl; rw [hi] at hj
    have := Option.some.inj hj; omega
  refine ⟨?_, ?_, ?_, ?_, ?_, ?_, ?_, ?_, P.idi, P.ids⟩
  · show (splice σ.ow f s (-1)).length = (splice (txt2 σ.ts f s x' y') f s _).length
    rw [splice_len hfs how, splice_len hfs hls, txt2_len, P.leno]
  · show (splice (txt2 σ.ts f s x' y') f s _).length ≤ 18
    rw [splice_len hfs hls, txt2_len]; have := P.len; omega
  · show sizeL (splice (txt2 σ.ts f s x' y') f s _) ≤ 60 + (n + 1)
    have a := sizeL_splice (xs := txt2 σ.ts f s x' y') (t := T.node ty (Ts.ofL (cutL σ.ts (some ((f + 1 : Nat) : Int)) (some (s : Int)))) none) hfs
    rw [txt2_cut hfl hs] at a
    have b : (T.node ty (Ts.ofL (cutL σ.ts (some ((f + 1 : Nat) : Int)) (some (s : Int)))) none).size = 1 + sizeL (cutL σ.ts (some ((f + 1 : Nat) : Int)) (some (s : Int))) := by
      rw [T.size, ← Ts.size_toL, Ts.toL_ofL]
    have d : sizeL (txt2 σ.ts f s x' y') = sizeL σ.ts := by
      unfold txt2
      have e1 := sizeL_set (t := T.text x') h1
      have e2 := sizeL_set (ts := σ.ts.set f (.text x')) (i := s) (t := T.text y') (u := T.text y) (by rw [List.getElem?_set_ne (by omega)]; exact h2)
      simp only [T.size] at e1 e2; omega
    have := P.sz; omega
  · show deepL (splice (txt2 σ.ts f s x' y') f s _) ≤ 2 + (n + 1)
    refine deepL_le fun t ht => ?_
    obtain ⟨i, hi⟩ := List.getElem?_of_mem ht
    have old : ∀ {j : Nat}, (txt2 σ.ts f s x' y')[j]? = some t → t.deep ≤ 2 + (n + 1) := by
      intro j hj
      rw [txt2_get hfl hs] at hj
      split at hj
      · cases hj; simp [T.deep]
      · split at hj
        · cases hj; simp [T.deep]
        · have := deepL_mem (List.mem_of_getElem? hj); have := P.dp; omega
    rcases splice_cases hfs hls hi with ⟨_, h⟩ | ⟨_, h⟩ | ⟨_, h⟩
    · exact old h
    · subst h
      have := P.dp
      have d := deepL_cut (ts := σ.ts) (s := f + 1) (e := s)
      rw [T.deep, ← Ts.deep_toL, Ts.toL_ofL]; omega
    · exact old h
  · show ∀ raw, T.text raw ∈ splice (txt2 σ.ts f s x' y') f s _ → raw.length ≤ 10
    intro raw ht
    obtain ⟨i, hi⟩ := List.getElem?_of_mem ht
    have r1 := P.raw x (List.mem_of_getElem? h1)
    have r2 := P.raw y (List.mem_of_getElem? h2)
    have old : ∀ {j : Nat}, (txt2 σ.ts f s x' y')[j]? = some (.text raw) → raw.length ≤ 10 := by
      intro j hj
      rw [txt2_get hfl hs] at hj
      split at hj
      · cases hj; omega
      · split at hj
        · cases hj; omega
        · exact P.raw _ (List.mem_of_getElem? hj)
    rcases splice_cases hfs hls hi with ⟨_, h⟩ | ⟨_, h⟩ | ⟨_, h⟩
    · exact old h
    · cases h
    · exact old h
  · show ∀ (i : Nat) (k : Int), (splice σ.ow f s (-1))[i]? = some k → k = -1 ∨ ∃ j : Nat, k = j ∧ j < σ.N ∧ ∃ raw, (splice (txt2 σ.ts f s x' y') f s _)[i]? = some (T.text raw)
    intro i k hk
    have tt : ∀ {j : Nat} {raw : Str}, σ.ts[j]? = some (.text raw) → ∃ raw, (txt2 σ.ts f s x' y')[j]? = some (.text raw) := by
      intro j raw hj
      rw [txt2_get hfl hs]
      split
      · exact ⟨_, rfl⟩
      · split
        · exact ⟨_, rfl⟩
        · exact ⟨_, hj⟩
    rcases splice_cases hfs how hk with ⟨hi, h⟩ | ⟨_, h⟩ | ⟨hi, h⟩
    · rcases P.own _ _ h with q | ⟨j, e, hj, raw, q⟩
      · exact .inl q
      · obtain ⟨raw', q'⟩ := tt q
        exact .inr ⟨j, e, hj, raw', splice_lo hfs hls hi q'⟩
    · exact .inl h
    · rcases P.own _ _ h with q | ⟨j, e, hj, raw, q⟩
      · exact .inl q
      · obtain ⟨raw', q'⟩ := tt q
        refine .inr ⟨j, e, hj, raw', ?_⟩
        rw [splice_get hfs hls, if_neg (by omega), if_neg (by omega)]; exact q'
  · show ∀ (i j : Nat) (a b : Nat), i < j → (splice σ.ow f s (-1))[i]? = some (a : Int) → (splice σ.ow f s (-1))[j]? = some (b : Int) → a < b
    intro i j a b hij hi hj
    rcases splice_cases hfs how hi with ⟨hi', h⟩ | ⟨_, h⟩ | ⟨hi', h⟩
    · rcases splice_cases hfs how hj with ⟨hj', h'⟩ | ⟨_, h'⟩ | ⟨hj', h'⟩
      · exact (nat h h').1 hij
      · omega
      · exact (nat h h').1 (by omega)
    · omega
    · rcases splice_cases hfs how hj with ⟨hj', h'⟩ | ⟨_, h'⟩ | ⟨hj', h'⟩
      · omega
      · omega
      · exact (nat h h').1 (by omega)
  · show ∀ i k : Nat, (splice σ.ow f s (-1))[i]? = some (k : Int) → (σ.idx k : Int) - pre tv' 6 (σ.idx k + 1) = (i : Nat)
    intro i k hk
    have kN : ∀ {i : Nat}, σ.ow[i]? = some (k : Int) → k < σ.N := by
      intro i h
      rcases P.own _ _ h with q | ⟨j, e, hj, _⟩ <;> omega
    have co32 := P.ids co hco
    have shift : ∀ {i : Nat}, σ.ow[i]? = some (k : Int) → pre tv' 6 (σ.idx k + 1) = pre σ.tv 6 (σ.idx k + 1) + if co ≤ k then ((s - f - 2 : Nat) : Int) else 0 := by
      intro i h
      have k32 := P.ids k (kN h)
      rw [htv]
      split
      · rw [pre_addUp (by omega) (by omega) (by omega)]
        have : σ.idx co + 1 ≤ σ.idx k + 1 ↔ co ≤ k := by
          constructor
          · intro q
            rcases Nat.lt_or_ge k co with z | z
            · have := P.idi k co z hco; omega
            · exact z
          · intro q
            rcases Nat.eq_or_lt_of_le q with z | z
            · rw [z]; exact Nat.le_refl _
            · have := P.idi co k z (kN h); omega
        simp only [this]
      · have : s - f - 2 = 0 := by omega
        rw [this]; simp
    rcases splice_cases hfs how hk with ⟨hi', h⟩ | ⟨_, h⟩ | ⟨hi', h⟩
    · have g := P.cur i k h
      have := (nat h hc).1 (by omega)
      rw [shift h, if_neg (by omega)]; omega
    · omega
    · have g := P.cur _ k h
      rcases Nat.eq_or_lt_of_le (show s ≤ i + (s - f - 2) by omega) with z | z
      · have := (nat hc h).2.1 z
        rw [shift h, if_pos (by omega)]; omega
      · have := (nat hc h).1 z
        rw [shift h, if_pos (by omega)]; omega
theorem Pl.move {n : Nat} {σ : St} (P : LP n σ) (hp : Pl σ) {fo co f s : Nat} {x' y' ty : Str} {lm' lo' nd nd' : Addr} {rx : Nat → Row} {tv' : Nat → Int} {nv' : Nat → Nat} {G' : AH} {u : Int} (hfs : f + 2 ≤ s) (hs : s < σ.ts.length)
    (hf : σ.ow[f]? = some (fo : Int)) (hc : σ.ow[s]? = some (co : Int)) (hrx : ∀ k, k < σ.N → rx k = applyRows σ.rows fo co u (f + 2 < s) k) (hl : (decide (s = f + 2) && decide (0 ≤ (σ.ow[f + 1]?.getD 0))) = false) :
    Pl (mvSt σ f s lm' lo' nd nd' x' y' ty rx tv' nv' G') := by
  have how : s < σ.ow.length := by rw [P.leno]; exact hs
  have nat : ∀ {i j : Nat} {a b : Nat}, σ.ow[i]? = some (a : Int) → σ.ow[j]? = some (b : Int) → (i < j → a < b) ∧ (i = j → a = b) ∧ (j < i → b < a) := by
    intro i j a b hi hj
    refine ⟨fun q => P.inc i j a b q hi hj, ?_, fun q => P.inc j i b a q hj hi⟩
    rintro rfl; rw [hi] at hj
    have := Option.some.inj hj; omega
  intro k hk hlen
  show ∃ i : Nat, (splice σ.ow f s (-1))[i]? = some (k : Int)
  replace hlen : 0 < (rx k).len := hlen
  replace hk : k < σ.N := hk
  rw [hrx k hk] at hlen
  have hfc := (nat hf hc).1 (by omega)
  by_cases e1 : k = fo
  · subst e1; exact ⟨f, splice_lo hfs how (Nat.le_refl _) hf⟩
  by_cases e2 : k = co
  · subst e2; exact ⟨_, splice_hi hfs how (Nat.le_refl _) hc⟩
  unfold applyRows at hlen
  rw [if_neg e1, if_neg e2] at hlen
  have fin : 0 < (σ.rows k).len → ¬ (fo < k ∧ k < co) → ∃ i : Nat, (splice σ.ow f s (-1))[i]? = some (k : Int) := by
    intro h1 h2
    obtain ⟨i, hi⟩ := hp k hk h1
    rcases Nat.lt_or_ge k fo with q | q
    · have : i ≤ f := by
        rcases Nat.lt_or_ge f i with z | z
        · have := (nat hf hi).1 z; omega
        · exact z
      exact ⟨i, splice_lo hfs how this hi⟩
    · have : s ≤ i := by
        rcases Nat.lt_or_ge i s with z | z
        · have := (nat hi hc).1 z; omega
        · exact z
      exact ⟨_, splice_hi hfs how this hi⟩
  by_cases far : f + 2 < s
  · rw [if_pos far] at hlen
    unfold zeroed at hlen
    by_cases q : fo + 1 ≤ k ∧ k < co
    · rw [if_pos q] at hlen; simp at hlen
    · rw [if_neg q] at hlen; exact fin hlen (by omega)
  · rw [if_neg far] at hlen
    refine fin hlen fun q => ?_
    obtain ⟨i, hi⟩ := hp k hk hlen
    have a : f < i := by
      rcases Nat.lt_or_ge f i with z | z
      · exact z
      · rcases Nat.eq_or_lt_of_le z with z | z
        · have := (nat hi hf).2.1 z; omega
        · have := (nat hi hf).1 z; omega
    have b : i < s := by
      rcases Nat.lt_or_ge i s with z | z
      · exact z
      · rcases Nat.eq_or_lt_of_le z with z | z
        · have := (nat hc hi).2.1 z; omega
        · have := (nat hc hi).1 z; omega
    have e : i = f + 1 := by omega
    subst e
    rw [hi] at hl
    have : s = f + 2 := by omega
    simp [this] at hl

theorem splice_nodup {xs ys : List Addr} {f s : Nat} {x y : Addr} (hfs : f + 2 ≤ s) (h : (xs ++ ys).Nodup) (h1 : x ∉ xs) (h2 : x ∉ ys) (h3 : y ∉ xs) (h4 : y ∉ ys) (h5 : x ≠ y) : (splice xs f s x ++ splice ys f s y).Nodup := by
  have sub : ∀ zs : List Addr, List.Sublist (zs.take (f + 1) ++ zs.drop s) zs := by
    intro zs
    have := cut_split (xs := zs) (f := f) (s := s) hfs
    conv => rhs; rw [this]
    exact List.Sublist.append (List.Sublist.refl _) (List.sublist_append_right _ _)
  have p1 : (splice xs f s x).Perm (x :: (xs.take (f + 1) ++ xs.drop s)) := List.perm_middle
  have p2 : (splice ys f s y).Perm (y :: (ys.take (f + 1) ++ ys.drop s)) := List.perm_middle
  have p3 := p1.append p2
  rw [p3.nodup_iff]
  have p4 : (x :: (xs.take (f + 1) ++ xs.drop s) ++ y :: (ys.take (f + 1) ++ ys.drop s)).Perm (y :: (x :: (xs.take (f + 1) ++ xs.drop s) ++ (ys.take (f + 1) ++ ys.drop s))) := List.perm_middle
  rw [p4.nodup_iff, List.cons_append, List.nodup_cons, List.nodup_cons]
  have sb := List.Sublist.append (sub xs) (sub ys)
  refine ⟨?_, ?_, h.sublist sb⟩
  · intro q
    rcases List.mem_cons.mp q with q | q
    · exact h5 q.symm
    · rcases List.mem_append.mp (sb.subset q) with q | q
      · exact h3 q
      · exact h4 q
  · intro q
    rcases List.mem_append.mp (sb.subset q) with q | q
    · exact h1 q
    · exact h2 q
theorem TokAt.kind {H G : AH} {a : Addr} {t : T} (h : TokAt H G a t) (g : ExtH G H) : ∃ o, H a = some o ∧ ((∃ r, o = textO r) ∨ ∃ ty k z, o = nodeO ty k z) := by
  cases t with
  | text raw => exact ⟨_, h.1, .inl ⟨_, rfl⟩⟩
  | node ty ks x =>
    obtain ⟨_, b, k, vs, e, hb, _⟩ := h
    cases e
    exact ⟨_, g _ _ hb, .inr ⟨_, _, _, rfl⟩⟩
theorem cut_mem {α : Type} {xs : List α} {f s : Nat} {x : α} (h : x ∈ cutL xs (some ((f + 1 : Nat) : Int)) (some (s : Int))) : ∃ i, f < i ∧ i < s ∧ xs[i]? = some x := by
  obtain ⟨i, hi⟩ := List.getElem?_of_mem h
  rw [cut_get] at hi
  split at hi
  · exact ⟨_, by omega, by assumption, hi⟩
  · cases hi
section
variable {c : Cx} {H0 H H1 H2 : AH} {B : Addr} {σ : St}
theorem LS.uniq (F : LS c H B σ) : (∀ (i j : Nat) (a : Addr), σ.ps[i]? = some a → σ.ps[j]? = some a → i = j) ∧ (∀ (i j : Nat) (a : Addr), σ.ms[i]? = some a → σ.ms[j]? = some a → i = j) ∧ (∀ (i j : Nat) (a : Addr), σ.ps[i]? = some a → σ.ms[j]? = some a → False) := by
  obtain ⟨n1, n2, n3⟩ := List.nodup_append.mp F.nd
  have one : ∀ {xs : List Addr}, xs.Nodup → ∀ (i j : Nat) (a : Addr), xs[i]? = some a → xs[j]? = some a → i = j := by
    intro xs nd i j a hi hj
    obtain ⟨q1, q2⟩ := List.getElem?_eq_some_iff.mp hi
    obtain ⟨q3, q4⟩ := List.getElem?_eq_some_iff.mp hj
    exact (List.getElem_inj nd).mp (q2.trans q4.symm)
  exact ⟨one n1, one n2, fun i j a hi hj => n3 a (List.mem_of_getElem? hi) a (List.mem_of_getElem? hj) rfl⟩
theorem LS.move (F0 : LS c H0 B σ) {kk a1 a2 b1 b2 nd nd' kd lm' lo' : Addr} {f s : Nat} {x y x' y' ty : Str} {rx : Nat → Row} {tv' : Nat → Int} {nv' : Nat → Nat}
    (hfs : f + 2 ≤ s) (hs : s < σ.ts.length) (hty : ty ≠ "text") (lo : σ.ow.length = σ.ts.length)
    (p1 : σ.ps[f]? = some a1) (p2 : σ.ps[s]? = some a2) (q1 : σ.ms[f]? = some b1) (q2 : σ.ms[s]? = some b2) (t1 : σ.ts[f]? = some (.text x)) (t2 : σ.ts[s]? = some (.text y))
    (hkk0 : H0 kk = none) (e : ExtH H0 H) (hkk : H kk = some (.list (cutL (σ.ps.map .ref) (some ((f + 1 : Nat) : Int)) (some (s : Int)))))
    (A : PaF c H σ.lp σ.ld σ.X σ.dX σ.tr σ.nx a1 a2 nd kk ty σ.N σ.S ((splice σ.ps f s nd).map .ref) σ.ds σ.dds (fun k => (σ.idx k : Int)) x' y' H1 rx tv' nv') (hnd : H nd = none) (hoff : ∀ k, k < σ.N → nv' k ≠ k → (rx k).len = 0)
    (m1 : H2 lm' = some (.list ((splice σ.ms f s nd').map .ref))) (m2 : H2 lo' = some (.list ((splice σ.ow f s (-1)).map .int))) (m3 : H2 nd' = some (nodeO ty kd none)) (m4 : H2 kd = some (.list (cutL (σ.ms.map .ref) (some ((f + 1 : Nat) : Int)) (some (s : Int)))))
    (n1 : H1 nd' = none) (n2 : H1 lm' = none) (n3 : H1 lo' = none) (n4 : H1 kd = none)
    (u1 : H2 b1 = some (textO x')) (u2 : H2 b2 = some (textO y')) (R2 : Rows H2 σ.lr σ.N σ.rs rx) (E2 : ExtX (fun a => a = b1 ∨ a = b2 ∨ ∃ k, k < σ.N ∧ a = σ.rs k) H1 H2) :
    ∃ G', LS c H2 B (mvSt σ f s lm' lo' nd nd' x' y' ty rx tv' nv' G') := by
  have F := F0.ext e
  obtain ⟨uq1, uq2, uq3⟩ := F.uniq
  have R := F.R
  have D := F.D
  have I := F.I
  obtain ⟨m1', m2', m3', m4', m5', m6'⟩ := F.mv
  obtain ⟨gp1, gp2, gp3, gp4⟩ := F.gp
  have T1 := F.tokp _ _ _ p1 t1
  have T2 := F.tokp _ _ _ p2 t2
  have U1 := F.tokm _ _ _ q1 t1
  have U2 := F.tokm _ _ _ q2 t2
  obtain ⟨T1h, T1g⟩ := T1
  obtain ⟨T2h, T2g⟩ := T2
  obtain ⟨U1h, U1g⟩ := U1
  obtain ⟨U2h, U2g⟩ := U2
  have kA : ∀ {a : Addr} {o : AO}, H a = some o → a ≠ σ.lp → a ≠ a1 → a ≠ a2 → a ≠ σ.tr → a ≠ σ.nx → (∀ k, k < σ.N → a ≠ σ.ds k) → H1 a = some o := by
    intro a o h h1 h2 h3 h4 h5 h6
    refine A.E a o ?_ h
    rintro (z | z | z | z | z | ⟨k, hk, z⟩)
    · exact h1 z
    · exact h2 z
    · exact h3 z
    · exact h4 z
    · exact h5 z
    · exact h6 k hk z
  have kB : ∀ {a : Addr} {o : AO}, H1 a = some o → a ≠ b1 → a ≠ b2 → (∀ k, k < σ.N → a ≠ σ.rs k) → H2 a = some o := by
    intro a o h h1 h2 h3
    refine E2 a o ?_ h
    rintro (z | z | ⟨k, hk, z⟩)
    · exact h1 z
    · exact h2 z
    · exact h3 k hk z
  -- things that are no text and no row keep
  have keepL : ∀ {a : Addr} {o : AO}, H a = some o → kindO o = 0 → a ≠ σ.lp → a ≠ σ.tr → a ≠ σ.nx → H1 a = some o := by
    intro a o h k0 h1 h4 h5
    have w : ∀ {b : Addr} {o' : AO}, H b = some o' → kindO o' ≠ 0 → a ≠ b := fun h' z => neV h h' (by rintro rfl; exact z k0)
    exact kA h h1 (w T1h (of_decide_eq_true rfl)) (w T2h (of_decide_eq_true rfl)) h4 h5 (fun k hk => w (D.at' k hk) (of_decide_eq_true rfl))
  have keepB : ∀ {a : Addr} {o o' : AO}, H a = some o' → kindO o' ≠ 2 → H1 a = some o → H2 a = some o := by
    intro a o o' h k0 h1
    have w : ∀ {b : Addr} {o'' : AO}, H b = some o'' → kindO o'' = 2 → a ≠ b := fun h' z => neV h h' (by rintro rfl; exact k0 z)
    exact kB h1 (w U1h rfl) (w U2h rfl) (fun k hk => w (R.at' k hk) rfl)
  have fx : ∀ a ∈ [σ.lm, σ.lo, σ.lr, σ.ld], a ≠ σ.lp ∧ a ≠ σ.tr ∧ a ≠ σ.nx ∧ a ≠ B := fun a ha =>
    ⟨(F.fix σ.lp (by simp) a ha).symm, (F.fix σ.tr (by simp) a ha).symm, (F.fix σ.nx (by simp) a ha).symm, (F.fix B (by simp) a ha).symm⟩
  -- other texts keep
  have txt : ∀ {a : Addr} {i : Nat} {raw : Str}, (σ.ps[i]? = some a ∨ σ.ms[i]? = some a) → i ≠ f → i ≠ s → H a = some (textO raw) → H2 a = some (textO raw) := by
    intro a i raw hi h1 h2 h
    have z1 : a ≠ a1 ∧ a ≠ a2 ∧ a ≠ b1 ∧ a ≠ b2 := by
      refine ⟨?_, ?_, ?_, ?_⟩ <;> rintro rfl <;> rcases hi with hi | hi
      · exact h1 (uq1 _ _ _ hi p1)
      · exact uq3 _ _ _ p1 hi
      · exact h2 (uq1 _ _ _ hi p2)
      · exact uq3 _ _ _ p2 hi
      · exact uq3 _ _ _ hi q1
      · exact h1 (uq2 _ _ _ hi q1)
      · exact uq3 _ _ _ hi q2
      · exact h2 (uq2 _ _ _ hi q2)
    refine kB (kA h (neK h F.hp rfl) z1.1 z1.2.1 (neK h I.t rfl) (neK h I.n rfl) fun k hk => neK h (D.at' k hk) rfl) z1.2.2.1 z1.2.2.2 fun k hk => neV h (R.at' k hk) text_row
  have gH2 : ∀ a o, σ.G a = some o → H2 a = some o := by
    intro a o h
    have w : ∀ {b : Addr}, σ.G b = none → a ≠ b := fun hb => neF h hb
    exact kB (kA (F.g _ _ h) (w gp1) (w T1g) (w T2g) (w gp2) (w gp3) fun k hk => w (F.gr k hk).2) (w U1g) (w U2g) fun k hk => w (F.gr k hk).1
  let W : List Addr := cutL σ.ps (some ((f + 1 : Nat) : Int)) (some (s : Int)) ++ (cutL σ.ms (some ((f + 1 : Nat) : Int)) (some (s : Int)) ++ [kk, nd, kd, nd'])
  have hW : ∀ {a : Addr}, a ∈ W → (∃ i, f < i ∧ i < s ∧ (σ.ps[i]? = some a ∨ σ.ms[i]? = some a)) ∨ a = kk ∨ a = nd ∨ a = kd ∨ a = nd' := by
    intro a h
    rcases List.mem_append.mp h with h | h
    · obtain ⟨i, i1, i2, i3⟩ := cut_mem h; exact .inl ⟨i, i1, i2, .inl i3⟩
    · rcases List.mem_append.mp h with h | h
      · obtain ⟨i, i1, i2, i3⟩ := cut_mem h; exact .inl ⟨i, i1, i2, .inr i3⟩
      · simp only [List.mem_cons, List.not_mem_nil, or_false] at h; exact .inr h
  have live1 : ∀ {a : Addr} {o : AO}, H a = some o → H1 a ≠ none := fun h z => by rw [A.L _ z] at h; cases h
  have nnew : ∀ {a : Addr} {o : AO}, H0 a = some o → a ≠ kk ∧ a ≠ nd ∧ a ≠ kd ∧ a ≠ nd' := by
    intro a o h
    have h' := e _ _ h
    refine ⟨neF h hkk0, neF h' hnd, ?_, ?_⟩
    · rintro rfl; exact live1 h' n4
    · rintro rfl; exact live1 h' n1
  have ptok : ∀ {a : Addr} {i : Nat}, (σ.ps[i]? = some a ∨ σ.ms[i]? = some a) → ∃ o, H0 a = some o ∧ ((∃ r, o = textO r) ∨ ∃ ty k z, o = nodeO ty k z) := by
    intro a i h
    rcases h with h | h
    · have hl := (List.getElem?_eq_some_iff.mp h).1
      exact (F0.tokp i a _ h (List.getElem?_eq_getElem (by rw [← F.lenp]; exact hl))).kind F0.g
    · have hl := (List.getElem?_eq_some_iff.mp h).1
      exact (F0.tokm i a _ h (List.getElem?_eq_getElem (by rw [← F.lenm]; exact hl))).kind F0.g
  have nW : ∀ {a : Addr} {i : Nat}, (σ.ps[i]? = some a ∨ σ.ms[i]? = some a) → (i ≤ f ∨ s ≤ i) → a ∉ W := by
    intro a i hi h w
    obtain ⟨o, ho, _⟩ := ptok hi
    obtain ⟨z1, z2, z3, z4⟩ := nnew ho
    rcases hW w with ⟨j, j1, j2, hj⟩ | z | z | z | z
    · rcases hi with hi | hi <;> rcases hj with hj | hj
      · have := uq1 _ _ _ hi hj; omega
      · exact uq3 _ _ _ hi hj
      · exact uq3 _ _ _ hj hi
      · have := uq2 _ _ _ hi hj; omega
    · exact z1 z
    · exact z2 z
    · exact z3 z
    · exact z4 z
  have nX : ∀ {a : Addr} {o : AO}, H0 a = some o → (∀ r, o ≠ textO r) → (∀ ty k z, o ≠ nodeO ty k z) → a ∉ W := by
    intro a o ho h1 h2 w
    obtain ⟨z1, z2, z3, z4⟩ := nnew ho
    rcases hW w with ⟨j, j1, j2, hj⟩ | z | z | z | z
    · obtain ⟨o', ho', k⟩ := ptok hj
      rw [ho] at ho'; cases ho'
      rcases k with ⟨r, k⟩ | ⟨_, _, _, k⟩
      · exact h1 _ k
      · exact h2 _ _ _ k
    · exact z1 z
    · exact z2 z
    · exact z3 z
    · exact z4 z
  let G' : AH := fun a => if a ∈ W then H2 a else σ.G a
  have G'in : ∀ {a : Addr}, a ∈ W → G' a = H2 a := fun h => if_pos h
  have G'out : ∀ {a : Addr}, a ∉ W → G' a = σ.G a := fun h => if_neg h
  have eG : ExtH σ.G G' := by
    intro a o h
    by_cases w : a ∈ W
    · rw [G'in w]; exact gH2 _ _ h
    · rw [G'out w]; exact h
  have g' : ExtH G' H2 := by
    intro a o h
    by_cases w : a ∈ W
    · rw [G'in w] at h; exact h
    · rw [G'out w] at h; exact gH2 _ _ h
  have old : ∀ {a : Addr} {i : Nat} {t : T}, (σ.ps[i]? = some a ∨ σ.ms[i]? = some a) → (i < f ∨ s < i) → σ.ts[i]? = some t → TokAt H2 G' a t := by
    intro a i t hi h ht
    have tk : TokAt H σ.G a t := by
      rcases hi with hi | hi
      · exact F.tokp i a t hi ht
      · exact F.tokm i a t hi ht
    cases t with
    | text raw => exact ⟨txt hi (by omega) (by omega) tk.1, by rw [G'out (nW hi (by omega))]; exact tk.2⟩
    | node ty ks z => exact IsT.ext eG tk
  have pk : ∀ {a : Addr} {i : Nat} {t : T}, (σ.ps[i]? = some a ∨ σ.ms[i]? = some a) → f < i → i < s → σ.ts[i]? = some t → a ∈ W → IsT G' t (.ref a) := by
    intro a i t hi h1 h2 ht w
    have tk : TokAt H σ.G a t := by
      rcases hi with hi | hi
      · exact F.tokp i a t hi ht
      · exact F.tokm i a t hi ht
    cases t with
    | text raw => exact ⟨a, rfl, by rw [G'in w]; exact txt hi (by omega) (by omega) tk.1⟩
    | node ty ks z => exact IsT.ext eG tk
  have kids : ∀ {qs : List Addr}, qs.length = σ.ts.length → (∀ {i : Nat} {a : Addr} {t : T}, qs[i]? = some a → f < i → i < s → σ.ts[i]? = some t → IsT G' t (.ref a)) → IsTs G' (Ts.ofL (cutL σ.ts (some ((f + 1 : Nat) : Int)) (some (s : Int)))) (cutL (qs.map .ref) (some ((f + 1 : Nat) : Int)) (some (s : Int))) := by
    intro qs hl hq
    refine IsL.to (IsL.mk (by simp [cutL, hl]) fun i t v ht hv => ?_)
    rw [cut_get] at ht hv
    split at ht
    · rename_i z
      rw [if_pos z, List.getElem?_map] at hv
      cases w : qs[f + 1 + i]? with
      | none => rw [w] at hv; cases hv
      | some a => rw [w] at hv; cases hv; exact hq w (by omega) z ht
    · cases ht
  have ls : s < (txt2 σ.ts f s x' y').length := by rw [txt2_len]; exact hs
  have hfl : f < σ.ts.length := by omega
  have hpl : s < σ.ps.length := by rw [F.lenp]; exact hs
  have hml : s < σ.ms.length := by rw [F.lenm]; exact hs
  -- the parted texts in the last heap
  have a1H2 : H2 a1 = some (textO x') := kB A.h1 (by rintro rfl; exact uq3 _ _ _ p1 q1) (by rintro rfl; exact uq3 _ _ _ p1 q2) fun k hk => neV T1h (R.at' k hk) text_row
  have a2H2 : H2 a2 = some (textO y') := kB A.h2 (by rintro rfl; exact uq3 _ _ _ p2 q1) (by rintro rfl; exact uq3 _ _ _ p2 q2) fun k hk => neV T2h (R.at' k hk) text_row
  have toks : ∀ {qs : List Addr} {z w nn : Addr}, qs.length = σ.ts.length → (∀ (i : Nat) (a : Addr), qs[i]? = some a → σ.ps[i]? = some a ∨ σ.ms[i]? = some a) → qs[f]? = some z → qs[s]? = some w → H2 z = some (textO x') → H2 w = some (textO y') →
      IsT G' (.node ty (Ts.ofL (cutL σ.ts (some ((f + 1 : Nat) : Int)) (some (s : Int)))) none) (.ref nn) →
      ∀ (i : Nat) (a : Addr) (t : T), (splice qs f s nn)[i]? = some a → (splice (txt2 σ.ts f s x' y') f s (.node ty (Ts.ofL (cutL σ.ts (some ((f + 1 : Nat) : Int)) (some (s : Int)))) none))[i]? = some t → TokAt H2 G' a t := by
    intro qs z w nn hl hq hz hw z2 w2 hn i a t ha ht
    rw [splice_get hfs (by omega)] at ha
    rw [splice_get hfs ls] at ht
    have at1 : ∀ {j : Nat}, (j ≤ f ∨ s ≤ j) → qs[j]? = some a → (txt2 σ.ts f s x' y')[j]? = some t → TokAt H2 G' a t := by
      intro j hj ha2 ht2
      rw [txt2_get hfl hs] at ht2
      split at ht2
      · rename_i q; subst q; cases ht2
        rw [hw] at ha2; cases ha2
        exact ⟨w2, by
          have := nW (hq _ _ hw) hj
          rw [G'out this]
          rcases hq _ _ hw with q | q
          · rw [p2] at q; cases q; exact T2g
          · rw [q2] at q; cases q; exact U2g⟩
      · split at ht2
        · rename_i q; subst q; cases ht2
          rw [hz] at ha2; cases ha2
          exact ⟨z2, by
            have := nW (hq _ _ hz) hj
            rw [G'out this]
            rcases hq _ _ hz with q | q
            · rw [p1] at q; cases q; exact T1g
            · rw [q1] at q; cases q; exact U1g⟩
        · exact old (hq _ _ ha2) (by omega) ht2
    split at ha
    · rename_i q; rw [if_pos q] at ht; exact at1 (.inl q) ha ht
    · rename_i q; rw [if_neg q] at ht
      split at ha
      · rename_i q2; rw [if_pos q2] at ht; cases ha; cases ht; exact hn
      · rename_i q2; rw [if_neg q2] at ht; exact at1 (.inr (by omega)) ha ht
  have mem1 : ∀ {i : Nat} {a : Addr}, σ.ps[i]? = some a → f < i → i < s → a ∈ W := by
    intro i a h h1 h2
    refine List.mem_append_left _ (List.mem_of_getElem? (i := i - (f + 1)) ?_)
    rw [cut_get, show f + 1 + (i - (f + 1)) = i by omega, if_pos h2]; exact h
  have mem2 : ∀ {i : Nat} {a : Addr}, σ.ms[i]? = some a → f < i → i < s → a ∈ W := by
    intro i a h h1 h2
    refine List.mem_append_right _ (List.mem_append_left _ (List.mem_of_getElem? (i := i - (f + 1)) ?_))
    rw [cut_get, show f + 1 + (i - (f + 1)) = i by omega, if_pos h2]; exact h
  have wl : ∀ {a : Addr}, a ∈ [kk, nd, kd, nd'] → a ∈ W := fun h => List.mem_append_right _ (List.mem_append_right _ h)
  have kkH1 : H1 kk = some (.list (cutL (σ.ps.map .ref) (some ((f + 1 : Nat) : Int)) (some (s : Int)))) :=
    keepL hkk rfl (neF F0.hp hkk0).symm (neF F0.I.t hkk0).symm (neF F0.I.n hkk0).symm
  have kkH2 := keepB hkk (of_decide_eq_true rfl) kkH1
  have ndb : ∀ {a : Addr} {o : AO}, H a = some o → nd ≠ a := fun h => (neF h hnd).symm
  have ndH2 : H2 nd = some (nodeO ty kk none) := kB A.hn (ndb U1h) (ndb U2h) fun k hk => ndb (R.at' k hk)
  have nodeP : IsT G' (.node ty (Ts.ofL (cutL σ.ts (some ((f + 1 : Nat) : Int)) (some (s : Int)))) none) (.ref nd) :=
    ⟨hty, nd, kk, _, rfl, by rw [G'in (wl (by simp))]; exact ndH2, by rw [G'in (wl (by simp))]; exact kkH2, kids F.lenp fun h h1 h2 h3 => pk (.inl h) h1 h2 h3 (mem1 h h1 h2)⟩
  have nodeM : IsT G' (.node ty (Ts.ofL (cutL σ.ts (some ((f + 1 : Nat) : Int)) (some (s : Int)))) none) (.ref nd') :=
    ⟨hty, nd', kd, _, rfl, by rw [G'in (wl (by simp))]; exact m3, by rw [G'in (wl (by simp))]; exact m4, kids F.lenm fun h h1 h2 h3 => pk (.inr h) h1 h2 h3 (mem2 h h1 h2)⟩
  have lpH2 : H2 σ.lp = some (.list ((splice σ.ps f s nd).map .ref)) := keepB F.hp (of_decide_eq_true rfl) A.hp
  have dH2 : ∀ k, k < σ.N → H2 (σ.ds k) = some (delO (σ.dds k) (rx k) (σ.idx k) k) := fun k hk => keepB (D.at' k hk) (of_decide_eq_true rfl) (A.D.at' k hk)
  have BH1 : H1 B = H B := by
    obtain ⟨_, p, m, _, _, hb⟩ := F.box
    rw [hb]; exact keepL hb rfl m3' m4' m5'
  have BH2 : H2 B = H B := by
    obtain ⟨_, p, m, _, _, hb⟩ := F.box
    rw [hb] at BH1 ⊢; exact keepB hb (by simp [kindO, boxO]) BH1
  have memps : ∀ {a : Addr}, a ∈ σ.ps → ∃ o, H0 a = some o := fun h => let ⟨i, hi⟩ := List.getElem?_of_mem h; let ⟨o, ho, _⟩ := ptok (.inl hi); ⟨o, ho⟩
  have memms : ∀ {a : Addr}, a ∈ σ.ms → ∃ o, H0 a = some o := fun h => let ⟨i, hi⟩ := List.getElem?_of_mem h; let ⟨o, ho, _⟩ := ptok (.inr hi); ⟨o, ho⟩
  refine ⟨G', ?_⟩
  refine { g := g', hm := m1, hp := lpH2, ho := m2, R := R2, D := ⟨?_, dH2, D.inj, D.small⟩, I := ⟨?_, ?_, ?_, I.ts, I.ns, I.tn, I.S32, I.small⟩, uf := A.uf, off := hoff, lenm := ?_, lenp := ?_, tokm := ?_, tokp := ?_, nd := ?_, box := F.box.keep BH2, scr := ?_, gp := ⟨?_, ?_, ?_, ?_⟩, gr := ?_, fix := ?_, mv := F.mv }
  · exact keepB D.l (of_decide_eq_true rfl) A.D.l
  · exact keepB I.x (of_decide_eq_true rfl) A.I.x
  · exact keepB I.t (of_decide_eq_true rfl) A.I.t
  · exact keepB I.n (of_decide_eq_true rfl) A.I.n
  · show (splice σ.ms f s nd').length = (splice (txt2 σ.ts f s x' y') f s _).length
    rw [splice_len hfs hml, splice_len hfs ls, txt2_len, F.lenm]
  · show (splice σ.ps f s nd).length = (splice (txt2 σ.ts f s x' y') f s _).length
    rw [splice_len hfs hpl, splice_len hfs ls, txt2_len, F.lenp]
  · exact toks F.lenm (fun i a h => .inr h) q1 q2 u1 u2 nodeM
  · exact toks F.lenp (fun i a h => .inl h) p1 p2 a1H2 a2H2 nodeP
  · refine splice_nodup hfs F.nd (fun h => ?_) (fun h => ?_) (fun h => ?_) (fun h => ?_) ?_
    · obtain ⟨o, ho⟩ := memps h; exact (nnew ho).2.1 rfl
    · obtain ⟨o, ho⟩ := memms h; exact (nnew ho).2.1 rfl
    · obtain ⟨o, ho⟩ := memps h; exact (nnew ho).2.2.2 rfl
    · obtain ⟨o, ho⟩ := memms h; exact (nnew ho).2.2.2 rfl
    · rintro rfl; rw [A.hn] at n1; cases n1
  · obtain ⟨xs, h1, h2⟩ := A.scr
    obtain ⟨ys, h3, h4⟩ := F.scr
    exact ⟨xs, keepB h3 (of_decide_eq_true rfl) h1, h2⟩
  · show G' σ.lp = none
    rw [G'out (nX F0.hp (by intro r z; cases z) (by intro a b z q; cases z <;> cases q))]; exact gp1
  · show G' σ.tr = none
    rw [G'out (nX F0.I.t (by intro r z; cases z) (by intro a b z q; cases z <;> cases q))]; exact gp2
  · show G' σ.nx = none
    rw [G'out (nX F0.I.n (by intro r z; cases z) (by intro a b z q; cases z <;> cases q))]; exact gp3
  · show G' B = none
    obtain ⟨_, p, m, _, _, hb⟩ := F0.box
    rw [G'out (nX hb (by intro r z; cases z) (by intro a b z q; cases z <;> cases q))]; exact gp4
  · intro k hk
    have r0 := F0.R.at' k hk
    have d0 := F0.D.at' k hk
    have gk := F.gr k hk
    refine ⟨?_, ?_⟩
    · show G' (σ.rs k) = none
      rw [G'out (nX r0 (fun r => text_row.symm) (fun a b z => node_row.symm))]; exact gk.1
    · show G' (σ.ds k) = none
      rw [G'out (nX d0 (by intro r z; cases z) (by intro a b z q; cases z <;> cases q))]; exact gk.2
  · intro a ha b hb
    have la : H1 a ≠ none := by
      simp only [mvSt, List.mem_cons, List.not_mem_nil, or_false] at ha
      rcases ha with rfl | rfl | rfl | rfl
      · exact live1 F.hp
      · exact live1 I.t
      · exact live1 I.n
      · obtain ⟨_, p, m, _, _, hb⟩ := F.box; exact live1 hb
    simp only [mvSt, List.mem_cons, List.not_mem_nil, or_false] at hb
    rcases hb with rfl | rfl | rfl | rfl
    · rintro rfl; exact la n2
    · rintro rfl; exact la n3
    · exact F.fix a ha _ (by simp)
    · exact F.fix a ha _ (by simp)
end

section
variable {c : Cx} {H G : AH} {B lm lo lr : Addr} {N : Nat} {ms : List Addr} {ts : List T} {ow : List Int} {rs : Nat → Addr} {rows : Nat → Row}
/-- a list that is none of the law's three is written anew -/
theorem ShH.other (F : ShH c H G B lm lo lr N ms ts ow rs rows) {q : Addr} {xs ys : List AV} (hq : H q = some (.list xs)) (h1 : lm ≠ q) (h2 : lo ≠ q) (h3 : lr ≠ q) (h4 : B ≠ q) (h5 : c.scr ≠ q) (hg : G q = none) :
    ShH c (upd H q (.list ys)) G B lm lo lr N ms ts ow rs rows := by
  have k : ∀ {a : Addr} {o : AO}, H a = some o → a ≠ q → upd H q (.list ys) a = some o := fun h n => by rw [upd_other n]; exact h
  have dict : ∀ {a : Addr} {o : AO}, H a = some o → (∀ xs, o ≠ .list xs) → a ≠ q := by
    rintro a o h n rfl; rw [hq] at h; cases h; exact n _ rfl
  refine ⟨fun a o h => k (F.g _ _ h) (by rintro rfl; rw [hg] at h; cases h), k F.hm h1, k F.ho h2, ⟨k F.R.l h3, fun j hj => k (F.R.at' j hj) (dict (F.R.at' j hj) (by intro xs z; cases z)), F.R.inj, F.R.small⟩, F.lenm, ?_, F.nd, F.box.keep (upd_other h4), ?_, F.gn, F.gr, F.sep⟩
  · intro i a t ha ht
    have := F.tok i a t ha ht
    cases t with
    | text raw => exact ⟨k this.1 (dict this.1 (by intro xs z; cases z)), this.2⟩
    | node ty ks x => exact this
  · obtain ⟨xs, h1, h2⟩ := F.scr
    exact ⟨xs, k h1 h5, h2⟩
theorem ShH.copy (F : ShH c H G B lm lo lr N ms ts ow rs rows) {a : Addr} {t : T} (ht : TokAt H G a t) : ∃ kvs, H a = some (.dict kvs) ∧ kvs.length ≤ 100 ∧ ∀ d, H d = none →
    ∃ G', ShH c (upd H d (.dict kvs)) G' B lm lo lr N ms ts ow rs rows ∧ ExtH G G' ∧ TokAt (upd H d (.dict kvs)) G' d t ∧ d ∉ ms ∧ ∀ b, b ≠ d → G b = none → G' b = none := by
  have nm : ∀ {d : Addr}, H d = none → d ∉ ms := fun hd h => by obtain ⟨o, h, _⟩ := F.mlive h; rw [hd] at h; cases h
  cases t with
  | text raw =>
    refine ⟨_, ht.1, by simp, fun d hd => ⟨G, F.ext (ExtH.new hd), ExtH.refl, ⟨upd_same _ _ _, ?_⟩, nm hd, fun b _ h => h⟩⟩
    cases q : G d with
    | none => rfl
    | some x => rw [F.g _ _ q] at hd; cases hd
  | node ty ks x =>
    obtain ⟨h0, b, k, vs, e, hb, hk, hs⟩ := id ht
    cases e
    have hn : ∃ kvs, nodeO ty k x = .dict kvs ∧ kvs.length ≤ 100 := by cases x <;> exact ⟨_, rfl, by simp⟩
    obtain ⟨kvs, hn, hl⟩ := hn
    refine ⟨kvs, by rw [← hn]; exact F.g _ _ hb, hl, fun d hd => ?_⟩
    rw [← hn]
    have Gd : G d = none := by
      cases q : G d with
      | none => rfl
      | some x => rw [F.g _ _ q] at hd; cases hd
    have eG : ExtH G (upd G d (nodeO ty k x)) := ExtH.new Gd
    refine ⟨upd G d (nodeO ty k x), F.newG hd, eG, ⟨h0, d, k, vs, rfl, upd_same _ _ _, eG _ _ hk, IsTs.ext eG hs⟩, nm hd, fun b hb h => by rw [upd_other hb]; exact h⟩
end
structure BI (c : Cx) (H G : AH) (B lm lo lr lp ld : Addr) (N i M : Nat) (ps ms : List Addr) (ts : List T) (ow : List Int) (rs ds dds : Nat → Addr) (rows : Nat → Row) (idx : Nat → Nat) : Prop where
  F : ShH c H G B lm lo lr N ms ts ow rs rows
  hp : H lp = some (.list (ps.map .ref))
  hd : H ld = some (.list ((List.range M).map fun k => .ref (ds k)))
  lenp : ps.length = i
  tokp : ∀ (j : Nat) (a : Addr) (t : T), ps[j]? = some a → ts[j]? = some t → TokAt H G a t
  nd : (ps ++ ms).Nodup
  at' : ∀ k, k < M → H (ds k) = some (delO (dds k) (rows k) (idx k : Int) k)
  inj : ∀ j k, j < M → k < M → ds j = ds k → j = k
  ix : ∀ k, k < M → ow[idx k]? = some (k : Int) ∧ idx k < i
  cov : ∀ (j k : Nat), j < i → ow[j]? = some (k : Int) → k < M
  gd : ∀ k, k < M → G (ds k) = none
  gl : G lp = none ∧ G ld = none
  sp : lm ≠ lp ∧ lo ≠ lp ∧ lr ≠ lp ∧ B ≠ lp ∧ c.scr ≠ lp ∧ lm ≠ ld ∧ lo ≠ ld ∧ lr ≠ ld ∧ B ≠ ld ∧ c.scr ≠ ld ∧ lp ≠ ld
section
variable {c : Cx} {H G : AH} {B lm lo lr lp ld : Addr} {N i M : Nat} {ps ms : List Addr} {ts : List T} {ow : List Int} {rs ds dds : Nat → Addr} {rows : Nat → Row} {idx : Nat → Nat}
theorem TokAt.keep {H H' G G' : AH} {a : Addr} {t : T} (h : TokAt H G a t) (e : ∀ o, H a = some o → (∀ xs, o ≠ .list xs) → H' a = some o) (eG : ExtH G G') (hg : (∃ raw, t = .text raw) → G a = none → G' a = none) : TokAt H' G' a t := by
  cases t with
  | text raw => exact ⟨e _ h.1 (by intro xs z; cases z), hg ⟨_, rfl⟩ h.2⟩
  | node ty ks x => exact IsT.ext eG h
theorem BI.lives (I : BI c H G B lm lo lr lp ld N i M ps ms ts ow rs ds dds rows idx) (hi : i ≤ ts.length) {a : Addr} (h : a ∈ ps) : ∃ o, H a = some o := by
  obtain ⟨j, hj⟩ := List.getElem?_of_mem h
  have hl := (List.getElem?_eq_some_iff.mp hj).1
  rw [I.lenp] at hl
  obtain ⟨o, ho, _⟩ := (I.tokp j a _ hj (List.getElem?_eq_getElem (by omega))).live I.F.g
  exact ⟨o, ho⟩
/-- one token copied -/
theorem BI.tok (I : BI c H G B lm lo lr lp ld N i M ps ms ts ow rs ds dds rows idx) {a : Addr} {t : T} (ha : ms[i]? = some a) (ht : ts[i]? = some t) : ∃ kvs, H a = some (.dict kvs) ∧ kvs.length ≤ 100 ∧ ∀ d, H d = none → ∃ G',
    ShH c (upd (upd H d (.dict kvs)) lp (.list ((ps ++ [d]).map .ref))) G' B lm lo lr N ms ts ow rs rows ∧ (upd H d (.dict kvs)) lp = some (.list (ps.map .ref)) ∧
    (∀ (j : Nat) (a : Addr) (t : T), (ps ++ [d])[j]? = some a → ts[j]? = some t → TokAt (upd (upd H d (.dict kvs)) lp (.list ((ps ++ [d]).map .ref))) G' a t) ∧ ((ps ++ [d]) ++ ms).Nodup ∧ (upd (upd H d (.dict kvs)) lp (.list ((ps ++ [d]).map .ref))) ld = some (.list ((List.range M).map fun k => .ref (ds k))) ∧
    (∀ k, k < M → (upd (upd H d (.dict kvs)) lp (.list ((ps ++ [d]).map .ref))) (ds k) = some (delO (dds k) (rows k) (idx k : Int) k)) ∧ (∀ k, k < M → G' (ds k) = none) ∧ G' lp = none ∧ G' ld = none := by
  obtain ⟨s1, s2, s3, s4, s5, s6, s7, s8, s9, s10, s11⟩ := I.sp
  have hti := (List.getElem?_eq_some_iff.mp ht).1
  obtain ⟨kvs, h1, h2, h3⟩ := I.F.copy (I.F.tok i a t ha ht)
  refine ⟨kvs, h1, h2, fun d hd => ?_⟩
  obtain ⟨G', F1, eG, tk, nm, gk⟩ := h3 d hd
  have e1 : ExtH H (upd H d (.dict kvs)) := ExtH.new hd
  have dne : ∀ {b : Addr} {o : AO}, H b = some o → b ≠ d := fun h => neF h hd
  have hp1 := e1 _ _ I.hp
  have g1 : G' lp = none := gk _ (dne I.hp) I.gl.1
  have g2 : G' ld = none := gk _ (dne I.hd) I.gl.2
  have F2 := F1.other (ys := (ps ++ [d]).map .ref) hp1 s1 s2 s3 s4 s5 g1
  have np : d ∉ ps := fun h => by obtain ⟨o, ho⟩ := I.lives (by omega) h; exact dne ho rfl
  refine ⟨G', F2, hp1, ?_, ?_, ?_, ?_, fun k hk => gk _ (dne (I.at' k hk)) (I.gd k hk), g1, g2⟩
  · intro j b u hb hu
    have lift : ∀ {b : Addr} {u : T} {G1 : AH}, TokAt (upd H d (.dict kvs)) G1 b u → TokAt (upd (upd H d (.dict kvs)) lp (.list ((ps ++ [d]).map .ref))) G1 b u := by
      intro b u G1 h
      refine h.keep (fun o ho nl => ?_) ExtH.refl (fun _ h => h)
      rw [upd_other]; exact ho
      rintro rfl; rw [hp1] at ho; cases ho; exact nl _ rfl
    rcases getElem?_snoc hb with hb | ⟨rfl, rfl⟩
    · refine lift ((I.tokp j b u hb hu).keep (fun o ho _ => e1 _ _ ho) eG fun _ g => ?_)
      obtain ⟨o, ho⟩ := I.lives (by omega) (List.mem_of_getElem? hb)
      exact gk _ (dne ho) g
    · rw [I.lenp, ht] at hu; cases hu
      exact lift tk
  · have : (ps ++ [d] ++ ms).Perm (d :: (ps ++ ms)) := by
      rw [List.append_assoc]; exact List.perm_middle
    rw [this.nodup_iff, List.nodup_cons]
    refine ⟨fun h => ?_, I.nd⟩
    rcases List.mem_append.mp h with h | h
    · exact np h
    · exact nm h
  · rw [upd_other s11.symm]; exact e1 _ _ I.hd
  · intro k hk
    rw [upd_other (neK (I.at' k hk) I.hp rfl)]; exact e1 _ _ (I.at' k hk)
/-- which owner comes next -/
theorem BI.next (I : BI c H G B lm lo lr lp ld N i M ps ms ts ow rs ds dds rows idx) (P : ShP 18 N ts ow) {k : Nat} (hk : ow[i]? = some (k : Int)) : k = M := by
  have hkN : k < N := by
    rcases P.own _ _ hk with q | ⟨j, e, hj, _⟩ <;> omega
  rcases Nat.lt_trichotomy k M with q | q | q
  · obtain ⟨h1, h2⟩ := I.ix k q
    have := P.inc _ _ _ _ h2 h1 hk; omega
  · exact q
  · obtain ⟨j, hj⟩ := P.all M (by omega)
    rcases Nat.lt_trichotomy j i with z | z | z
    · have := I.cov j M z hj; omega
    · subst z; rw [hk] at hj; have := Option.some.inj hj; omega
    · have := P.inc _ _ _ _ z hk hj; omega
end

def lawL (v0 : AV) (B : Addr) (v2 v3 : AV) (σ : St) (v6 v8 v12 v13 v14 v15 v16 v17 v18 v19 v20 v21 v22 v23 : AV) : List AV :=
  [v0, .ref B, v2, v3, .ref σ.lp, .ref σ.ld, v6, .ref σ.X, v8, .ref σ.lm, .ref σ.lo, .ref σ.lr, v12, v13, v14, v15, v16, v17, v18, v19, v20, v21, v22, v23]
theorem pre_zero : ∀ (f k : Nat), pre (fun _ => 0) f k = 0
  | 0, k => rfl
  | f + 1, k => by
    unfold pre
    split
    · rfl
    · rw [pre_zero f]; rfl
theorem law_build {c : Cx} {P' : Params} {n : Nat} {H G : AH} {B lm lo lr : Addr} {N : Nat} {ms : List Addr} {ts : List T} {ow : List Int} {rs : Nat → Addr} {rows : Nat → Row} {Q : AFl → List AV → AH → Prop}
    (hK : c.K = hd.heap_39 P') (C1 : c.cls 77 = true) (C2 : c.cls 133 = true) (F : ShH c H G B lm lo lr N ms ts ow rs rows) (P : ShP 18 N ts ow) {v0 v2 v3 v4 v5 v6 v7 v8 v12 v13 v14 v15 v16 v17 v18 v19 v20 v21 v22 v23 : AV}
    (hq : ∀ H' σ v6 v14, LS c H' B σ → LP 0 σ → Pl σ → wSs c (n + 30) S_law_292 (lawL v0 B v2 v3 σ v6 v8 v12 v13 v14 v15 v16 v17 v18 v19 v20 v21 v22 v23) H' Q) :
    wSs c (n + 30) S_law_284 [v0, .ref B, v2, v3, v4, v5, v6, v7, v8, .ref lm, .ref lo, .ref lr, v12, v13, v14, v15, v16, v17, v18, v19, v20, v21, v22, v23] H Q := by
  have hlen := P.len
  have hleno := P.leno
  have hN := P.nle
  have hml : ms.length ≤ 18 := by rw [F.lenm]; exact hlen
  simp only [S_law_284, S_law_285]
  walk_at "w"
  intro lp hlp hlps ld hld hlds
  have I0 : BI c (upd (upd H lp (.list [])) ld (.list [])) G B lm lo lr lp ld N 0 0 [] ms ts ow rs (fun k => k) (fun k => k) rows (fun k => k) := by
    have e1 : ExtH H (upd H lp (.list [])) := ExtH.new hlp
    have e2 : ExtH (upd H lp (.list [])) _ := ExtH.new (o := .list []) hld
    have F2 := (F.ext e1).ext e2
    have g1 := upd_same H lp (.list [])
    have g2 := upd_same (upd H lp (.list [])) ld (.list [])
    have Gn : ∀ {a : Addr}, H a = none → G a = none := by
      intro a ha
      cases q : G a with
      | none => rfl
      | some x => rw [F.g _ _ q] at ha; cases ha
    have ldH := Live.ext e1 _ hld
    obtain ⟨_, p, m, _, _, hb⟩ := F.box
    obtain ⟨xs, hx, _⟩ := F.scr
    refine ⟨F2, e2 _ _ g1, g2, rfl, fun j a t h => by simp at h, by simpa using F.nd, fun k hk => by omega, fun i j h => by omega, fun k hk => by omega, fun j k hj => by omega, fun k hk => by omega, ⟨Gn hlp, Gn ldH⟩, neF F.hm hlp, neF F.ho hlp, neF F.R.l hlp, neF hb hlp, neF hx hlp, neF F.hm ldH, neF F.ho ldH, neF F.R.l ldH, neF hb ldH, neF hx ldH, neF g1 hld⟩
  generalize upd (upd H lp (.list [])) ld (.list []) = H0 at *
  simp only [S_law_286]
  walk_at "w"
  simp only [listAt_ref I0.F.hm, Ok_some, List.length_map]
  refine ⟨by omega, by omega, by omega, by omega, by omega, fun i l H' => ∃ G M ps ds dds idx v6 v14, l = [v0, .ref B, v2, v3, .ref lp, .ref ld, v6, v7, v8, .ref lm, .ref lo, .ref lr, v12, v13, v14, v15, v16, v17, v18, v19, v20, v21, v22, v23] ∧ BI c H' G B lm lo lr lp ld N i M ps ms ts ow rs ds dds rows idx, ⟨_, _, _, _, _, _, _, _, rfl, I0⟩, ?_, ?_⟩
  · rintro i l H1 hi ⟨G, M, ps, ds, dds, idx, v6, v14, rfl, I⟩
    have him : i < ms.length := by omega
    have hit : i < ts.length := by rw [← F.lenm]; exact him
    have hio : i < ow.length := by omega
    have hma : ms[i]? = some ms[i] := List.getElem?_eq_getElem him
    have hta : ts[i]? = some ts[i] := List.getElem?_eq_getElem hit
    have hoa : ow[i]? = some ow[i] := List.getElem?_eq_getElem hio
    obtain ⟨kvs, k1, k2, k3⟩ := I.tok hma hta
    have fm : getI H1 (.ref lm) (.int (0 + (i : Nat) : Int)) = some (.ref ms[i]) := by
      rw [Int.zero_add, getI_list I.F.hm (by omega) (by omega), Int.toNat_natCast, List.getElem?_map, hma]; rfl
    simp only [S_law_287]
    walk_at "w"
    simp only [listAt_ref I.hp, Ok_some, fm, dictAt_ref k1]
    refine ⟨hlps, k2, fun d hd hds => ?_⟩
    obtain ⟨G', F2, hp1, tk, nd, hd2, at2, gd2, g1, g2⟩ := k3 d hd
    simp only [listAt_ref hp1, Ok_some, List.length_map]
    have hpl : ps.length ≤ 18 := by rw [I.lenp]; omega
    refine ⟨hlps, by omega, ?_⟩
    rw [show (ps.map AV.ref ++ [.ref d]) = (ps ++ [d]).map .ref by simp]
    have hlp2 := upd_same (upd H1 d (.dict kvs)) lp (.list ((ps ++ [d]).map .ref))
    generalize upd (upd H1 d (.dict kvs)) lp (.list ((ps ++ [d]).map .ref)) = H2 at *
    have fo : getI H2 (.ref lo) (.int (0 + (i : Nat) : Int)) = some (.int ow[i]) := by
      rw [Int.zero_add, getI_list F2.ho (by omega) (by omega), Int.toNat_natCast, List.getElem?_map, hoa]; rfl
    simp only [S_law_288]
    walk_at "w"
    simp only [fo, Ok_some, wCmp_ge, wTr_bool]
    by_cases g : 0 ≤ ow[i]
    · obtain ⟨k, hk⟩ := Int.eq_ofNat_of_zero_le g
      rw [hk] at hoa fo
      obtain rfl := I.next P hoa
      have hkN : k < N := by
        rcases P.own _ _ hoa with q | ⟨j, e, hj, _⟩ <;> omega
      simp only [g, decide_true, if_true]
      simp only [S_law_289]
      walk_at "w"
      simp only [fo, Ok_some]
      rw [getI_fun F2.R.l hkN (by omega), Ok_some]
      simp only [S_law_290]
      have rk := F2.R.at' k hkN
      have r5 := row5 rk; have r6 := row6 rk; have r7 := row7 rk; have r8 := row8 rk; have r9 := row9 rk
      walk_at "w"
      simp only [listAt_ref hd2, Ok_some, fo, r5, r6, r7, r8, r9]
      refine ⟨hlds, ?_⟩
      refine c_newD (n := n + 28) hK C1 fun a dd ha has hdd => ?_
      have e3 : ExtH H2 (upd H2 a (delO dd (rows k) (0 + (i : Nat) : Int) k)) := ExtH.new ha
      have hd3 := e3 _ _ hd2
      have a3 := upd_same H2 a (delO dd (rows k) (0 + (i : Nat) : Int) k)
      simp only [listAt_ref hd3, Ok_some, List.length_map, List.length_range]
      refine ⟨hlds, by omega, ?_⟩
      have F3 := F2.ext e3
      have ane : ∀ {b : Addr} {o : AO}, H2 b = some o → b ≠ a := fun h => neF h ha
      have Ga : G' a = none := by
        cases q : G' a with
        | none => rfl
        | some x => rw [F2.g _ _ q] at ha; cases ha
      have tk3 : ∀ (j : Nat) (b : Addr) (t : T), (ps ++ [d])[j]? = some b → ts[j]? = some t → TokAt (upd H2 a (delO dd (rows k) (0 + (i : Nat) : Int) k)) G' b t := fun j b t h1 h2 => (tk j b t h1 h2).ext e3
      have at3 : ∀ j, j < k → (upd H2 a (delO dd (rows k) (0 + (i : Nat) : Int) k)) (ds j) = some (delO (dds j) (rows j) (idx j : Int) j) := fun j hj => e3 _ _ (at2 j hj)
      have dna : ∀ j, j < k → ds j ≠ a := fun j hj => ane (at2 j hj)
      obtain ⟨s1, s2, s3, s4, s5, s6, s7, s8, s9, s10, s11⟩ := I.sp
      have hp3 := e3 _ _ hlp2
      generalize upd H2 a (delO dd (rows k) (0 + (i : Nat) : Int) k) = H3 at *
      have F4 := F3.other (ys := ((List.range k).map fun j => .ref (ds j)) ++ [.ref a]) hd3 s6 s7 s8 s9 s10 g2
      refine ⟨G', k + 1, ps ++ [d], fun j => if j = k then a else ds j, fun j => if j = k then dd else dds j, fun j => if j = k then i else idx j, _, _, rfl, ?_⟩
      refine ⟨F4, by rw [upd_other s11]; exact hp3, ?_, by simp [I.lenp], ?_, nd, ?_, ?_, ?_, ?_, ?_, ⟨g1, g2⟩, I.sp⟩
      · rw [upd_same, List.range_succ, List.map_append]
        congr 2
        congr 1
        · apply List.map_congr_left
          intro j hj
          rw [if_neg (by have := List.mem_range.mp hj; omega)]
        · simp
      · intro j b t h1 h2
        refine (tk3 j b t h1 h2).keep (fun o ho nl => ?_) ExtH.refl (fun _ h => h)
        rw [upd_other]; exact ho
        rintro rfl; rw [hd3] at ho; cases ho; exact nl _ rfl
      · intro j hj
        by_cases q : j = k
        · subst q
          simp only [↓reduceIte]
          rw [upd_other (neK a3 hd3 rfl)]
          rw [Int.zero_add] at a3; exact a3
        · simp only [if_neg q]
          have := at3 j (by omega)
          rw [upd_other (neK this hd3 rfl)]; exact this
      · intro j j' hj hj' e
        replace e : (if j = k then a else ds j) = (if j' = k then a else ds j') := e
        by_cases p : j = k <;> by_cases q : j' = k
        · omega
        · rw [if_pos p, if_neg q] at e; exact absurd e.symm (dna j' (by omega))
        · rw [if_neg p, if_pos q] at e; exact absurd e (dna j (by omega))
        · rw [if_neg p, if_neg q] at e; exact I.inj j j' (by omega) (by omega) e
      · intro j hj
        by_cases q : j = k
        · subst q
          simp only [↓reduceIte]
          exact ⟨hoa, by omega⟩
        · simp only [if_neg q]
          have := I.ix j (by omega)
          exact ⟨this.1, by omega⟩
      · intro j z hj hz
        rcases Nat.lt_or_ge j i with q | q
        · have := I.cov j z q hz; omega
        · have : j = i := by omega
          subst this
          rw [hoa] at hz; have := Option.some.inj hz; omega
      · intro j hj
        by_cases q : j = k
        · subst q
          simp only [↓reduceIte]; exact Ga
        · simp only [if_neg q]; exact gd2 j (by omega)
    · simp only [g, decide_false, Bool.false_eq_true, if_false]
      refine ⟨G', M, ps ++ [d], ds, dds, idx, _, _, rfl, ⟨F2, hlp2, hd2, by simp [I.lenp], tk, nd, at2, I.inj, fun j hj => ⟨(I.ix j hj).1, by have := (I.ix j hj).2; omega⟩, ?_, gd2, ⟨g1, g2⟩, I.sp⟩⟩
      intro j z hj hz
      rcases Nat.lt_or_ge j i with q | q
      · exact I.cov j z q hz
      · have : j = i := by omega
        subst this
        rw [hoa] at hz; have := Option.some.inj hz; omega
  · rintro l H1 ⟨G, M, ps, ds, dds, idx, v6, v14, rfl, I⟩
    rw [show ((ms.length : Int) - 0).toNat = ms.length by omega] at I
    have hMN : M = N := by
      have h1 : N ≤ M := by
        rcases Nat.lt_or_ge M N with q | q
        · obtain ⟨j, hj⟩ := P.all M q
          have hj2 := (List.getElem?_eq_some_iff.mp hj).1
          have := I.cov j M (by rw [F.lenm]; omega) hj; omega
        · exact q
      have h2 : M ≤ N := by
        rcases Nat.lt_or_ge N M with q | q
        · have := (I.ix N q).1
          rcases P.own _ _ this with z | ⟨j, e, hj, _⟩ <;> omega
        · exact q
      omega
    subst hMN
    have hpl : ps.length ≤ 18 := by rw [I.lenp]; exact hml
    simp only [S_law_291]
    walk_at "w"
    simp only [listAt_ref I.hd, Ok_some, List.length_map, List.length_range]
    refine ⟨by omega, fun dl hdl hdls => ?_⟩
    have e1 : ExtH H1 (upd H1 dl (.list ((List.range M).map fun k => .ref (ds k)))) := ExtH.new hdl
    have gdl := upd_same H1 dl (.list ((List.range M).map fun k => .ref (ds k)))
    have hp1 := e1 _ _ I.hp
    generalize upd H1 dl (.list ((List.range M).map fun k => .ref (ds k))) = H2 at *
    simp only [listAt_ref hp1, Ok_some, List.length_map]
    refine ⟨by omega, ?_⟩
    refine c_newX (n := n + 28) hK C2 gdl (by omega) (by simp; omega) fun H3 X dX tr nx I3 hX htr hnx hXs e2 => ?_
    have e12 := e1.trans e2
    have Ltr := Live.ext e1 _ htr
    have Lnx := Live.ext e1 _ hnx
    have F3 := I.F.ext e12
    obtain ⟨s1, s2, s3, s4, s5, s6, s7, s8, s9, s10, s11⟩ := I.sp
    have Gn : ∀ {a : Addr}, H1 a = none → G a = none := by
      intro a ha
      cases q : G a with
      | none => rfl
      | some x => rw [I.F.g _ _ q] at ha; cases ha
    obtain ⟨_, bp, bm, _, _, hbx⟩ := I.F.box
    have I3' : Ix c H3 X dX tr nx (ps.length + 1) M (fun _ => 0) (fun k => k) := by
      have := I3; simpa using this
    refine hq H3 ⟨lm, lo, lr, lp, ld, X, dX, tr, nx, M, ps.length + 1, ps, ms, ts, ow, rs, ds, dds, rows, idx, fun _ => 0, fun k => k, G⟩ _ _ ?_ ?_ ?_
    · refine { g := F3.g, hm := F3.hm, hp := e12 _ _ I.hp, ho := F3.ho, R := F3.R, D := ⟨e12 _ _ I.hd, fun k hk => e12 _ _ (I.at' k hk), I.inj, show M ≤ 1000 by omega⟩, I := I3', uf := ?_, off := ?_, lenm := F.lenm, lenp := ?_, tokm := F3.tok, tokp := ?_, nd := I.nd, box := F3.box, scr := F3.scr, gp := ⟨I.gl.1, Gn Ltr, Gn Lnx, I.F.gn.2.2.2⟩, gr := fun k hk => ⟨I.F.gr k hk, I.gd k hk⟩, fix := ?_, mv := ⟨neF I.hp Ltr, neF I.hp Lnx, s4, neF hbx Ltr, neF hbx Lnx, s5.symm⟩ }
      · intro k hk; exact ⟨Nat.le_refl _, hk, fun j h1 h2 => by have h3 : j < k := h2; omega⟩
      · intro k hk h; exact absurd rfl h
      · show ps.length = ts.length
        rw [I.lenp, F.lenm]
      · intro i a t h1 h2; exact (I.tokp i a t h1 h2).ext e12
      · intro a ha b hb
        replace ha : a ∈ [lp, tr, nx, B] := ha
        replace hb : b ∈ [lm, lo, lr, ld] := hb
        have lb : ∃ o, H1 b = some o := by
          simp only [List.mem_cons, List.not_mem_nil, or_false] at hb
          rcases hb with rfl | rfl | rfl | rfl
          · exact ⟨_, I.F.hm⟩
          · exact ⟨_, I.F.ho⟩
          · exact ⟨_, I.F.R.l⟩
          · exact ⟨_, I.hd⟩
        obtain ⟨o, lb⟩ := lb
        obtain ⟨z1, z2, z3, z4, z5, z6, z7, z8, z9⟩ := I.F.sep
        simp only [List.mem_cons, List.not_mem_nil, or_false] at ha hb
        rcases ha with rfl | rfl | rfl | rfl
        · rcases hb with rfl | rfl | rfl | rfl
          · exact s1.symm
          · exact s2.symm
          · exact s3.symm
          · exact s11
        · exact (neF lb Ltr).symm
        · exact (neF lb Lnx).symm
        · rcases hb with rfl | rfl | rfl | rfl
          · exact z4
          · exact z5
          · exact z6
          · exact s9
    · refine ⟨hleno, hlen, ?_, P.dp, P.raw, P.own, P.inc, ?_, ?_, ?_⟩
      · have := P.sz; show sizeL ts ≤ 60 + 0; omega
      · intro i k hk
        show (idx k : Int) - pre (fun _ => 0) 6 (idx k + 1) = (i : Nat)
        rw [pre_zero]
        have hkM : k < M := by
          rcases P.own _ _ hk with q | ⟨j, e, hj, _⟩ <;> omega
        have hx := (I.ix k hkM).1
        rcases Nat.lt_trichotomy (idx k) i with z | z | z
        · have := P.inc _ _ _ _ z hx hk; omega
        · omega
        · have := P.inc _ _ _ _ z hk hx; omega
      · intro j k hjk hk
        have h1 := (I.ix j (by have : k < M := hk; omega)).1
        have h2 := (I.ix k hk).1
        rcases Nat.lt_trichotomy (idx j) (idx k) with z | z | z
        · exact z
        · exfalso
          rw [z] at h1; rw [h1] at h2; have := Option.some.inj h2; omega
        · have := P.inc _ _ _ _ z h2 h1; omega
      · intro k hk
        have h2 := (I.ix k hk).2
        show idx k + 1 < ps.length + 1
        rw [I.lenp]; omega
    · intro k hk _
      exact ⟨idx k, (I.ix k hk).1⟩

section
variable {c : Cx} {P : Params} {n : Nat} {H H0 H1 : AH} {B : Addr} {σ : St}
theorem LS.mid (F : LS c H B σ) {a1 a2 b1 b2 nd kk : Addr} {f s : Nat} {x y x' y' ty : Str} {pp : List AV} {rx : Nat → Row} {tv' : Nat → Int} {nv' : Nat → Nat}
    (p1 : σ.ps[f]? = some a1) (p2 : σ.ps[s]? = some a2) (q1 : σ.ms[f]? = some b1) (q2 : σ.ms[s]? = some b2) (t1 : σ.ts[f]? = some (.text x)) (t2 : σ.ts[s]? = some (.text y))
    (A : PaF c H σ.lp σ.ld σ.X σ.dX σ.tr σ.nx a1 a2 nd kk ty σ.N σ.S pp σ.ds σ.dds (fun k => (σ.idx k : Int)) x' y' H1 rx tv' nv') :
    H1 σ.lm = some (.list (σ.ms.map .ref)) ∧ H1 σ.lo = some (.list (σ.ow.map .int)) ∧ Rows H1 σ.lr σ.N σ.rs σ.rows ∧ H1 b1 = some (textO x) ∧ H1 b2 = some (textO y) := by
  obtain ⟨uq1, uq2, uq3⟩ := F.uniq
  have R := F.R
  have D := F.D
  have I := F.I
  obtain ⟨T1h, T1g⟩ := F.tokp _ _ _ p1 t1
  obtain ⟨T2h, T2g⟩ := F.tokp _ _ _ p2 t2
  obtain ⟨U1h, U1g⟩ := F.tokm _ _ _ q1 t1
  obtain ⟨U2h, U2g⟩ := F.tokm _ _ _ q2 t2
  have kA : ∀ {a : Addr} {o : AO}, H a = some o → a ≠ σ.lp → a ≠ a1 → a ≠ a2 → a ≠ σ.tr → a ≠ σ.nx → (∀ k, k < σ.N → a ≠ σ.ds k) → H1 a = some o := by
    intro a o h h1 h2 h3 h4 h5 h6
    refine A.E a o ?_ h
    rintro (z | z | z | z | z | ⟨k, hk, z⟩)
    · exact h1 z
    · exact h2 z
    · exact h3 z
    · exact h4 z
    · exact h5 z
    · exact h6 k hk z
  have fx : ∀ a ∈ [σ.lm, σ.lo, σ.lr, σ.ld], a ≠ σ.lp ∧ a ≠ σ.tr ∧ a ≠ σ.nx := fun a ha =>
    ⟨(F.fix σ.lp (by simp) a ha).symm, (F.fix σ.tr (by simp) a ha).symm, (F.fix σ.nx (by simp) a ha).symm⟩
  have lst : ∀ {a : Addr} {xs : List AV}, a ∈ [σ.lm, σ.lo, σ.lr, σ.ld] → H a = some (.list xs) → H1 a = some (.list xs) := fun ha h =>
    kA h (fx _ ha).1 (neK h T1h rfl) (neK h T2h rfl) (fx _ ha).2.1 (fx _ ha).2.2 fun k hk => neK h (D.at' k hk) rfl
  refine ⟨lst (by simp) F.hm, lst (by simp) F.ho, ⟨lst (by simp) R.l, fun k hk => ?_, R.inj, R.small⟩, ?_, ?_⟩
  · have r := R.at' k hk
    exact kA r (neK r F.hp rfl) (neV r T1h text_row.symm) (neV r T2h text_row.symm) (neK r I.t rfl) (neK r I.n rfl) fun j hj => neK r (D.at' j hj) rfl
  · exact kA U1h (neK U1h F.hp rfl) (by rintro rfl; exact uq3 _ _ _ p1 q1) (by rintro rfl; exact uq3 _ _ _ p2 q1) (neK U1h I.t rfl) (neK U1h I.n rfl) fun j hj => neK U1h (D.at' j hj) rfl
  · exact kA U2h (neK U2h F.hp rfl) (by rintro rfl; exact uq3 _ _ _ p1 q2) (by rintro rfl; exact uq3 _ _ _ p2 q2) (neK U2h I.t rfl) (neK U2h I.n rfl) fun j hj => neK U2h (D.at' j hj) rfl
theorem LP.kN {i : Nat} (L : LP i σ) {j k : Nat} (h : σ.ow[j]? = some (k : Int)) : k < σ.N := by
  rcases L.own _ _ h with q | ⟨j, e, hj, _⟩ <;> omega
theorem law_same {Q : AV → AH → Prop} (hK : c.K = hd.heap_39 P) (F : LS c H B σ) {i : Nat} (L : LP i σ) (hi : i ≤ 10) (hq : Q (.bool true) H) : Calls c (n + 2) 270 [.ref σ.lp, .ref σ.lm, .ref σ.ld, .ref σ.lr, .ref σ.X, .ref σ.lo] H Q :=
  c_lsame hK F.hp F.hm F.isP F.isM (by have := L.dp; omega) F.R F.D F.I F.ho (by have := L.leno; have := L.len; omega) (fun j k h => ⟨L.kN h, L.ids k (L.kN h), L.cur j k h⟩) hq
end
theorem law_apply {c : Cx} {P : Params} {n : Nat} {H H0 : AH} {B : Addr} {σ : St} {Q : AFl → List AV → AH → Prop} (hK : c.K = hd.heap_39 P) {i : Nat} (F0 : LS c H0 B σ) (e : ExtH H0 H) (L : LP i σ) (hi : i ≤ 8) (hp : Pl σ) {kk : Addr} {fo co f s : Nat} {u : Int} {x y : Str}
    (hkk0 : H0 kk = none) (hkk : H kk = some (.list (cutL (σ.ps.map .ref) (some ((f + 1 : Nat) : Int)) (some (s : Int)))))
    (hfo : fo < co) (hco : co < σ.N) (hfs : f + 2 ≤ s) (hs : s < σ.ts.length) (hf : σ.ow[f]? = some (fo : Int)) (hc : σ.ow[s]? = some (co : Int)) (t1 : σ.ts[f]? = some (.text x)) (t2 : σ.ts[s]? = some (.text y))
    (hu : u = 1 ∨ u = 2) (hx : u ≤ x.length) (l1 : u ≤ (σ.rows fo).len) (l2 : u ≤ (σ.rows co).len) {v0 v2 v3 v6 v8 v12 v14 v16 v17 v21 v23 : AV}
    (hq1 : ∀ H' σ' v23, LS c H' B σ' → LP (i + 1) σ' → Pl σ' → Q .next (lawL v0 B v2 v3 σ' v6 v8 v12 (.int fo) v14 (.int co) v16 v17 (.int f) (.int s) (.int u) v21 (.ref kk) v23) H')
    (hq2 : ∀ l H', Q (.ret (.bool true)) l H') :
    wSs c (n + 30) S_law_318 (lawL v0 B v2 v3 σ v6 v8 v12 (.int fo) v14 (.int co) v16 v17 (.int f) (.int s) (.int u) v21 (.ref kk) v23) H Q := by
  have F := F0.ext e
  obtain ⟨uq1, uq2, uq3⟩ := F.uniq
  have hps : s < σ.ps.length := by rw [F.lenp]; exact hs
  have hms : s < σ.ms.length := by rw [F.lenm]; exact hs
  have hlen := L.len
  have p1 : σ.ps[f]? = some σ.ps[f] := List.getElem?_eq_getElem (by omega)
  have p2 : σ.ps[s]? = some σ.ps[s] := List.getElem?_eq_getElem hps
  have q1 : σ.ms[f]? = some σ.ms[f] := List.getElem?_eq_getElem (by omega)
  have q2 : σ.ms[s]? = some σ.ms[s] := List.getElem?_eq_getElem hms
  have T1 := (F.tokp _ _ _ p1 t1).1
  have T2 := (F.tokp _ _ _ p2 t2).1
  have hpne : σ.ps[f] ≠ σ.ps[s] := by
    intro z; rw [← z] at p2; have := uq1 _ _ _ p1 p2; omega
  have hmne : σ.ms[f] ≠ σ.ms[s] := by
    intro z; rw [← z] at q2; have := uq2 _ _ _ q1 q2; omega
  generalize σ.ps[f] = a1 at *
  generalize σ.ps[s] = a2 at *
  generalize σ.ms[f] = b1 at *
  generalize σ.ms[s] = b2 at *
  have hx1 := L.raw x (List.mem_of_getElem? t1)
  have hy1 := L.raw y (List.mem_of_getElem? t2)
  have hDs := F.D.small
  obtain ⟨mv1, mv2, mv3, mv4, mv5, mv6⟩ := F.mv
  have fxl := F.fix σ.tr (by simp) σ.ld (by simp)
  have fxn := F.fix σ.nx (by simp) σ.ld (by simp)
  have fxp := F.fix σ.lp (by simp) σ.ld (by simp)
  have cutn : ∀ {xs : List Addr}, (xs.map AV.ref)[f]? = (xs[f]?).map AV.ref := fun {xs} => List.getElem?_map
  simp only [S_law_318, lawL]
  walk_at "w"
  rw [getI_fun F.D.l (show fo < σ.N by omega) (by omega)]
  simp only [Ok_some]
  rw [getI_fun F.D.l hco (by omega)]
  simp only [Ok_some]
  refine c_apply (n := n + 27) hK F.scr F.hp F.D F.I F.uf F.off mv6 ⟨mv1, mv2, fxn.symm, fxl.symm⟩ fxp.symm hfo hco hfs (by rw [List.length_map]; exact hps) (by rw [List.length_map, F.lenp]; omega) (by rw [List.getElem?_map, p1]; rfl) (by rw [List.getElem?_map, p2]; rfl) T1 T2 hpne hu hx (by omega) (by omega) (L.ids co hco) l1 l2 fun H1 nd rx nv' A hnd hrx hoff => ?_
  rw [← splice_map (g := AV.ref)] at A
  obtain ⟨m1, m2, m3, m4, m5⟩ := F.mid p1 p2 q1 q2 t1 t2 A
  simp only [S_law_319]
  walk_at "w"
  refine c_lapply (n := n + 29) hK A.scr m1 m2 m3 hfo hco hfs (by rw [List.length_map]; exact hms) (by rw [List.length_map, L.leno, F.lenm]) (by rw [List.length_map, F.lenm]; omega) (by rw [List.getElem?_map, q1]; rfl) (by rw [List.getElem?_map, q2]; rfl) m4 m5 hmne hu hx (by omega) (by omega) fun H2 t nd' lm' lo' kd k1 k2 k3 k4 k5 k6 k7 k8 k9 k10 k11 k12 k13 R2 E2 L2 => ?_
  rw [← splice_map (g := AV.ref)] at k2
  have R2' : Rows H2 σ.lr σ.N σ.rs rx := R2.congr fun k hk => (hrx k hk).symm
  have hty : (if u = 2 then ("strong" : Str) else "emphasis") ≠ "text" := by split <;> decide
  obtain ⟨G', F2⟩ := F0.move hfs hs hty L.leno p1 p2 q1 q2 t1 t2 hkk0 e hkk A hnd hoff k2 k3 k4 k5 k6 k7 k8 k9 k12 k13 R2' E2
  have L2' : LP (i + 1) (mvSt σ f s lm' lo' nd nd' (sCut x none (some ((x.length : Int) - u))) (sCut y (some u) none) (if u = 2 then "strong" else "emphasis") rx (if f + 2 < s then addUp ((s - f - 2 : Nat) : Int) 6 σ.tv (σ.idx co + 1) else σ.tv) nv' G') :=
    L.move hfs hs hf hc hco t1 t2 sCut_le sCut_le F.I.S32 rfl
  simp only [tupAt_ref k1, Ok_some, List.length_cons, List.length_nil, setAll, List.set_cons_zero, List.set_cons_succ, true_and]
  simp only [S_law_320]
  walk_at "w"
  refine law_same (n := n + 28) (σ := mvSt σ f s lm' lo' nd nd' (sCut x none (some ((x.length : Int) - u))) (sCut y (some u) none) (if u = 2 then "strong" else "emphasis") rx (if f + 2 < s then addUp ((s - f - 2 : Nat) : Int) 6 σ.tv (σ.idx co + 1) else σ.tv) nv' G') hK F2 L2' (by omega) ?_
  simp only [wTr_bool, Bool.not_true, Bool.false_eq_true, if_false]
  simp only [S_law_322]
  walk_at "w"
  cases hl : (decide (s = f + 2) && decide (0 ≤ (σ.ow[f + 1]?.getD 0))) with
  | false =>
    simp only [Bool.false_eq_true, if_false]
    exact hq1 _ _ _ F2 L2' (Pl.move (u := u) L hp hfs hs hf hc hrx hl)
  | true =>
    simp only [if_true]
    simp only [S_law_323]
    walk_at "w"
    have z1 := F2.hp
    have z2 := F2.lenp
    have z3 := F2.lenm
    have z4 := L2'.len
    simp only [mvSt] at z1 z2 z3 z4
    simp only [listAt_ref z1, listAt_ref k2, Ok_some, List.length_map]
    refine ⟨by omega, by omega, ?_⟩
    rw [z2, z3]
    simp only [decide_true]
    exact hq2 _ _

theorem wCmp_notN_use {H : AH} {Q : AV → AH → Prop} {r q : Row} {x y : Str} : wCmp .NotEq (useP r q x y) (useP r q x y) H Q = Q (.bool false) H := by
  unfold useP
  split
  · exact wCmp_neN
  · split <;> simp [wCmp_neI]
theorem useP_int {r q : Row} {x y : Str} (h1 : 0 < r.len) (h2 : 0 < q.len) : useP r q x y = .none ∨ ∃ u : Int, useP r q x y = .int u ∧ (u = 1 ∨ u = 2) ∧ u ≤ x.length ∧ u ≤ y.length ∧ u ≤ r.len ∧ u ≤ q.len := by
  unfold useP
  split
  · exact .inl rfl
  · split
    · exact .inr ⟨2, rfl, .inr rfl, by omega, by omega, by omega, by omega⟩
    · exact .inr ⟨1, rfl, .inl rfl, by omega, by omega, by omega, by omega⟩
theorem full_far {ts : List T} {f s : Nat} (h : fullL (cutL ts (some ((f + 1 : Nat) : Int)) (some (s : Int))) = true) : f + 2 ≤ s := by
  obtain ⟨t, ht, _⟩ := List.any_eq_true.mp h
  obtain ⟨i, h1, h2, _⟩ := cut_mem ht
  omega
/-- what stands after a found opener -/
theorem law_mid {c : Cx} {P : Params} {n : Nat} {H : AH} {B : Addr} {σ : St} {Q : AFl → List AV → AH → Prop} (hK : c.K = hd.heap_39 P) (TD : TDok c) {i : Nat} (F : LS c H B σ) (L : LP i σ) (hi : i ≤ 8) (hp : Pl σ) {fo co bd : Nat}
    (hbd : 0 < bd) (hfo : fo < co) (hco : co < σ.N) (hl1 : 0 < (σ.rows fo).len) (hl2 : 0 < (σ.rows co).len) {v0 v3 v6 v8 v12 v14 v16 v17 v18 v19 v20 v21 v22 v23 : AV}
    (hq1 : ∀ H' σ' v18 v19 v20 v21 v22 v23, LS c H' B σ' → LP (i + 1) σ' → Pl σ' → Q .next (lawL v0 B (.int (bd : Nat)) v3 σ' v6 v8 v12 (.int fo) v14 (.int co) v16 v17 v18 v19 v20 v21 v22 v23) H')
    (hq2 : ∀ l H', Q (.ret (.bool true)) l H') :
    wSs c (n + 30) S_law_306 (lawL v0 B (.int (bd : Nat)) v3 σ v6 v8 v12 (.int fo) v14 (.int co) v16 v17 v18 v19 v20 v21 v22 v23) H Q := by
  obtain ⟨f, hf⟩ := hp fo (by omega) hl1
  obtain ⟨s, hs⟩ := hp co hco hl2
  have hlen := L.len
  have hleno := L.leno
  have hsl := (List.getElem?_eq_some_iff.mp hs).1
  have hfl := (List.getElem?_eq_some_iff.mp hf).1
  have hfs : f < s := by
    rcases Nat.lt_trichotomy f s with z | z | z
    · exact z
    · subst z; rw [hf] at hs; have := Option.some.inj hs; omega
    · have := L.inc _ _ _ _ z hs hf; omega
  have first : ∀ {i k : Nat}, σ.ow[i]? = some (k : Int) → ∀ j, j < i → σ.ow[j]? ≠ some (k : Int) := by
    intro i k h j hj z
    have := L.inc _ _ _ _ hj z h; omega
  obtain ⟨x, t1⟩ : ∃ x, σ.ts[f]? = some (T.text x) := by
    rcases L.own _ _ hf with q | ⟨j, e, hj, raw, q⟩
    · omega
    · exact ⟨raw, q⟩
  obtain ⟨y, t2⟩ : ∃ y, σ.ts[s]? = some (T.text y) := by
    rcases L.own _ _ hs with q | ⟨j, e, hj, raw, q⟩
    · omega
    · exact ⟨raw, q⟩
  have hps : s < σ.ps.length := by rw [F.lenp]; omega
  have hms : s < σ.ms.length := by rw [F.lenm]; omega
  have p1 : σ.ps[f]? = some σ.ps[f] := List.getElem?_eq_getElem (by omega)
  have p2 : σ.ps[s]? = some σ.ps[s] := List.getElem?_eq_getElem hps
  have q1 : σ.ms[f]? = some σ.ms[f] := List.getElem?_eq_getElem (by omega)
  have q2 : σ.ms[s]? = some σ.ms[s] := List.getElem?_eq_getElem hms
  generalize σ.ps[f] = a1 at *
  generalize σ.ps[s] = a2 at *
  generalize σ.ms[f] = b1 at *
  generalize σ.ms[s] = b2 at *
  have hx1 := L.raw x (List.mem_of_getElem? t1)
  have hy1 := L.raw y (List.mem_of_getElem? t2)
  have TwoM : ∀ {H' : AH}, LS c H' B σ → Two H' σ.lm (σ.ms.map .ref) (f : Nat) (s : Nat) b1 b2 x y := fun F => ⟨F.hm, by omega, by omega, by omega, by omega, by rw [Int.toNat_natCast, List.getElem?_map, q1]; rfl, by rw [Int.toNat_natCast, List.getElem?_map, q2]; rfl, (F.tokm _ _ _ q1 t1).1, (F.tokm _ _ _ q2 t2).1, by omega, by omega⟩
  have TwoP : ∀ {H' : AH}, LS c H' B σ → Two H' σ.lp (σ.ps.map .ref) (f : Nat) (s : Nat) a1 a2 x y := fun F => ⟨F.hp, by omega, by omega, by omega, by omega, by rw [Int.toNat_natCast, List.getElem?_map, p1]; rfl, by rw [Int.toNat_natCast, List.getElem?_map, p2]; rfl, (F.tokp _ _ _ p1 t1).1, (F.tokp _ _ _ p2 t2).1, by omega, by omega⟩
  have hDs := F.D.small
  have dfo : ∀ {H' : AH}, LS c H' B σ → getI H' (.ref σ.ld) (.int (fo : Nat)) = some (.ref (σ.ds fo)) := fun F => getI_fun F.D.l (show fo < σ.N by omega) (by omega)
  have dco : ∀ {H' : AH}, LS c H' B σ → getI H' (.ref σ.ld) (.int (co : Nat)) = some (.ref (σ.ds co)) := fun F => getI_fun F.D.l hco (by omega)
  have rfo : ∀ {H' : AH}, LS c H' B σ → getI H' (.ref σ.lr) (.int (fo : Nat)) = some (.ref (σ.rs fo)) := fun F => getI_fun F.R.l (show fo < σ.N by omega) (by omega)
  have rco : ∀ {H' : AH}, LS c H' B σ → getI H' (.ref σ.lr) (.int (co : Nat)) = some (.ref (σ.rs co)) := fun F => getI_fun F.R.l hco (by omega)
  have hsz := L.sz
  have hdp := L.dp
  simp only [S_law_306, lawL]
  walk_at "w"
  refine c_lat (n := n + 29) hK F.ho (by omega) hf (first hf) ?_
  simp only [S_law_307]
  walk_at "w"
  refine c_lat (n := n + 29) hK F.ho (by omega) hs (first hs) ?_
  simp only [S_law_308]
  walk_at "w"
  simp only [instAt_ref F.I.x, Ok_some, dfo F, true_and]
  refine c_current (n := n + 29) hK F.I (F.D.at' fo (by omega)) (L.ids fo (by omega)) ?_
  rw [L.cur _ _ hf]
  simp only [wCmp_neI, ne_eq, not_true_eq_false, decide_false, wTr_bool, Bool.false_eq_true, if_false]
  simp only [instAt_ref F.I.x, Ok_some, dco F, true_and]
  refine c_current (n := n + 29) hK F.I (F.D.at' co (by omega)) (L.ids co (by omega)) ?_
  rw [L.cur _ _ hs]
  simp only [wCmp_neI, ne_eq, not_true_eq_false, decide_false, wTr_bool, Bool.false_eq_true, if_false]
  simp only [S_law_310]
  walk_at "w"
  simp only [rfo F, rco F, Ok_some]
  refine c_luse (n := n + 29) hK (TwoM F) (F.R.at' fo (by omega)) (F.R.at' co hco) ?_
  have hup := useP_int (x := x) (y := y) hl1 hl2
  have hun : useP (σ.rows fo) (σ.rows co) x y ≠ .bad := by rcases hup with h | ⟨u, h, _⟩ <;> rw [h] <;> simp
  simp only [S_law_311]
  walk_at "w"
  refine c_lkids (n := n + 8) hK F.hm F.isM (by omega) (by omega) fun d hd hds => ?_
  have e1 : ExtH H (upd H d (.list (cutL (σ.ms.map .ref) (some ((f + 1 : Nat) : Int)) (some (s : Int))))) := ExtH.new hd
  have gd := upd_same H d (.list (cutL (σ.ms.map AV.ref) (some ((f + 1 : Nat) : Int)) (some (s : Int))))
  generalize upd H d (.list (cutL (σ.ms.map .ref) (some ((f + 1 : Nat) : Int)) (some (s : Int)))) = H1 at *
  have F1 := F.ext e1
  simp only [S_law_312]
  walk_at "w"
  simp only [dfo F1, dco F1, Ok_some]
  refine c_useLen (n := n + 27) hK (TwoP F1) (F1.D.at' fo (by omega)) (F1.D.at' co hco) ?_
  refine ⟨hun, ?_⟩
  rw [wCmp_notN_use]
  simp only [wTr_bool, Bool.false_eq_true, if_false]
  simp only [S_law_314]
  walk_at "w"
  refine c_children (n := n + 26) hK TD F1.scr F1.hp F1.isP (by omega) (by omega) hbd (by rw [List.getElem?_map, p1]; rfl) (by rw [List.getElem?_map, p2]; rfl) (F1.tokp _ _ _ p1 t1).1 (F1.tokp _ _ _ p2 t2).1 fun H2 v e2 hv => ?_
  have F2 := F1.ext e2
  by_cases hfull : fullL (cutL σ.ts (some ((f + 1 : Nat) : Int)) (some (s : Int))) = true ∧ deepL (cutL σ.ts (some ((f + 1 : Nat) : Int)) (some (s : Int))) < bd
  · rw [if_pos hfull] at hv
    obtain ⟨kk, rfl, hkk0, hkks, hkk⟩ := hv
    rw [if_pos hfull]
    have hne : wCmp .NotEq (.ref kk) (.ref d) H2 = fun Q => deepEq H2 (.ref kk) (.ref d) ∧ Q (.bool false) H2 := by
      funext Q
      have hf : flat2 (.ref kk) (.ref d) = false := rfl
      simp only [wCmp, hf, Bool.false_eq_true, if_false]
    have hde : deepEq H2 (.ref kk) (.ref d) := by
      have gd2 := e2 _ _ gd
      simp only [deepEq, listAt_ref hkk, listAt_ref gd2, Ok_some]
      have c1 := (F2.isP).cut (s := f + 1) (e := s)
      have c2 := (F2.isM).cut (s := f + 1) (e := s)
      refine ⟨by rw [← c1.length, c2.length], fun i x y hx hy => de_list c1 c2 ?_ hx hy⟩
      have := deepL_cut (ts := σ.ts) (s := f + 1) (e := s); omega
    simp only [S_law_315]
    walk_at "w"
    rw [hne]
    refine ⟨hde, ?_⟩
    simp only [wTr_bool, Bool.false_eq_true, if_false]
    simp only [S_law_317]
    walk_at "w"
    rcases hup with hu | ⟨u, hu, hu1, hux, huy, hul1, hul2⟩
    · rw [hu]
      simp only [ne_eq, reduceCtorEq, not_false_eq_true, not_true_eq_false, true_and, decide_true, decide_false, wTr_bool, Bool.false_eq_true, if_false]
      exact hq1 _ σ _ _ _ _ _ _ F2 ⟨L.leno, L.len, by omega, by omega, L.raw, L.own, L.inc, L.cur, L.idi, L.ids⟩ hp
    · rw [hu]
      simp only [ne_eq, reduceCtorEq, not_false_eq_true, not_true_eq_false, true_and, decide_true, decide_false, wTr_bool, Bool.false_eq_true, if_false, if_true]
      exact law_apply hK F1 e2 L hi hp hkk0 hkk hfo hco (full_far hfull.1) (by omega) hf hs t1 t2 hu1 hux hul1 hul2 (fun H' σ' v23 a b c => hq1 H' σ' _ _ _ _ _ v23 a b c) hq2
  · rw [if_neg hfull] at hv
    subst hv
    rw [if_neg hfull]
    simp only [S_law_315]
    walk_at "w"
    simp only [S_law_317]
    walk_at "w"
    have fin := hq1 H2 σ (.int f) (.int s) (useP (σ.rows fo) (σ.rows co) x y) .none .none v23 F2 ⟨L.leno, L.len, by omega, by omega, L.raw, L.own, L.inc, L.cur, L.idi, L.ids⟩ hp
    rcases hup with hu | ⟨u, hu, _⟩
    · rw [hu] at fin ⊢
      simp only [ne_eq, reduceCtorEq, not_false_eq_true, not_true_eq_false, true_and, decide_true, decide_false, wTr_bool, Bool.false_eq_true, if_false]
      exact fin
    · rw [hu] at fin ⊢
      simp only [ne_eq, reduceCtorEq, not_false_eq_true, not_true_eq_false, true_and, decide_true, decide_false, wTr_bool, Bool.false_eq_true, if_false, if_true]
      exact fin

theorem law_turn {c : Cx} {P : Params} {n : Nat} {H : AH} {B : Addr} {σ : St} {Q : AFl → List AV → AH → Prop} (hK : c.K = hd.heap_39 P) (TD : TDok c) {i : Nat} (F : LS c H B σ) (L : LP i σ) (hi : i ≤ 8) (hp : Pl σ) {bd : Nat}
    (hbd : 0 < bd) {v0 v3 v6 v8 v12 v13 v14 v15 v16 v17 v18 v19 v20 v21 v22 v23 : AV}
    (hq1 : ∀ H' σ' v12 v13 v15 v16 v17 v18 v19 v20 v21 v22 v23, LS c H' B σ' → LP (i + 1) σ' → Pl σ' → Q .next (lawL v0 B (.int (bd : Nat)) v3 σ' v6 v8 v12 v13 v14 v15 v16 v17 v18 v19 v20 v21 v22 v23) H')
    (hq2 : ∀ l H', Q (.ret (.bool true)) l H') :
    wSs c (n + 30) S_law_293 (lawL v0 B (.int (bd : Nat)) v3 σ v6 v8 v12 v13 v14 v15 v16 v17 v18 v19 v20 v21 v22 v23) H Q := by
  have hDs := F.D.small
  simp only [S_law_293, lawL]
  walk_at "w"
  refine c_lsteps (n := n + 28) hK F.scr F.box F.R (F.fix B (by simp) σ.lr (by simp)).symm fun H1 t cl bo ot ht eB bx _ hc => ?_
  have F1 := F.extB eB bx
  simp only [tupAt_ref ht, Ok_some, List.length_cons, List.length_nil, setAll, List.set_cons_zero, List.set_cons_succ, true_and]
  simp only [S_law_294]
  walk_at "w"
  rcases hc with rfl | ⟨co, b, o, rfl, rfl, rfl, hco, hcl, hb, ho⟩
  · simp only [show ((-1 : Int) < 0) from by decide, decide_true, if_true]
    simp only [S_law_295]
    walk_at "w"
    exact law_same (n := n + 28) hK F1 L (by omega) (hq2 _ _)
  · have hneg : ¬ ((co : Int) < 0) := by omega
    simp only [hneg, decide_false, Bool.false_eq_true, if_false]
    simp only [S_law_296]
    walk_at "w"
    rw [getI_fun F1.D.l ho (by omega), getI_fun F1.D.l hco (by omega)]
    simp only [Ok_some]
    refine c_canMatch (n := n + 29) hK (F1.D.at' o ho) (F1.D.at' co hco) ?_
    rw [getI_fun F1.R.l ho (by omega), getI_fun F1.R.l hco (by omega)]
    simp only [Ok_some]
    refine c_lcan (n := n + 29) hK (F1.R.at' o ho) (F1.R.at' co hco) ?_
    simp only [wCmp_notB, ne_eq, not_true_eq_false, decide_false, wTr_bool, Bool.false_eq_true, if_false]
    have hcl2 : 0 < (σ.rows co).len := by
      unfold closes at hcl
      simp only [Bool.and_eq_true, decide_eq_true_eq] at hcl; exact hcl.2
    simp only [S_law_298]
    walk_at "w"
    rw [getI_fun F1.D.l hco (by omega)]
    simp only [Ok_some]
    refine c_find (n := n + 28) hK F1.D hco ?_
    cases hfd : lastIn (okP σ.rows co) b co with
    | none =>
      dsimp only
      simp only [S_law_299]
      walk_at "w"
      refine c_lfind (n := n + 28) hK F1.R hco hb ?_
      rw [hfd]
      simp only [optI, S_law_300]
      walk_at "w"
      simp only [show ((-1 : Int) < 0) from by decide, decide_true, if_true]
      simp only [S_law_301]
      walk_at "w"
      simp only [ne_eq, not_true_eq_false, decide_false, Bool.false_eq_true, if_false]
      exact hq1 H1 σ _ _ _ _ _ _ _ _ _ _ _ F1 ⟨L.leno, L.len, by have := L.sz; omega, by have := L.dp; omega, L.raw, L.own, L.inc, L.cur, L.idi, L.ids⟩ hp
    | some fo =>
      dsimp only
      intro d hd hds
      have e2 : ExtH H1 (upd H1 d (.tup [.int (fo : Nat), .ref (σ.ds fo)])) := ExtH.new hd
      have gd := upd_same H1 d (.tup [.int (fo : Nat), .ref (σ.ds fo)])
      have F2 := F1.ext e2
      generalize upd H1 d (.tup [.int (fo : Nat), .ref (σ.ds fo)]) = H2 at *
      obtain ⟨f1, f2, f3⟩ := lastIn_some hfd
      simp only [S_law_299]
      walk_at "w"
      refine c_lfind (n := n + 28) hK F2.R hco hb ?_
      rw [hfd]
      simp only [optI, S_law_300]
      walk_at "w"
      have hneg2 : ¬ ((fo : Int) < 0) := by omega
      simp only [hneg2, decide_false, Bool.false_eq_true, if_false]
      simp only [S_law_304]
      walk_at "w"
      have g0 : getI H2 (.ref d) (.int 0) = some (.int (fo : Nat)) := getI_tup gd (by decide) (by decide)
      have g1 : getI H2 (.ref d) (.int 1) = some (.ref (σ.ds fo)) := getI_tup gd (by decide) (by decide)
      have g2 : getI H2 (.ref σ.ld) (.int (fo : Nat)) = some (.ref (σ.ds fo)) := getI_fun F2.D.l (show fo < σ.N by omega) (by omega)
      simp only [ne_eq, reduceCtorEq, not_false_eq_true, not_true_eq_false, true_and, decide_false, decide_true, Bool.false_eq_true, if_false, if_true, g0, g1, g2, Ok_some, wCmp_neI, wCmp_notR, wTr_bool]
      have hl1 : 0 < (σ.rows fo).len := by
        unfold okP at f3
        simp only [Bool.and_eq_true, decide_eq_true_eq] at f3; exact f3.2.2.1
      exact law_mid hK TD F2 L hi hp hbd f2 hco hl1 hcl2 (fun H' σ' v18 v19 v20 v21 v22 v23 a b c => hq1 H' σ' _ _ _ _ _ v18 v19 v20 v21 v22 v23 a b c) hq2
theorem law_w {c : Cx} {P : Params} {n : Nat} {H : AH} (hK : c.K = hd.heap_39 P) (TD : TDok c) (C1 : c.cls 77 = true) (C2 : c.cls 133 = true) (hs : ScrOk c H) :
    wSs c (n + 30) S_law ([.ref c.scr] ++ List.replicate ((fnAt (hd.heap_39 P) 291 n_law).names.length - 1) .bad) H (fun fl l H' => match fl with | .next => AV.none = .bool true | .ret v => v = .bool true) := by
  simp only [S_law, n_law]
  walk_at "w"
  intro B hB hBs
  have e1 : ExtH H (upd H B (boxO c.scr 0 1)) := ExtH.new hB
  have b1 : BoxOk c (upd H B (boxO c.scr 0 1)) B := ⟨hBs, 0, 1, by omega, by omega, upd_same _ _ _⟩
  have s1 := hs.extH e1
  have ebox : AO.list [.ref c.scr, .int 0, .int 1] = boxO c.scr 0 1 := rfl
  rw [ebox]
  generalize upd H B (boxO c.scr 0 1) = H1 at *
  simp only [S_law_279]
  walk_at "w"
  refine c_lshape (n := n + 27) hK s1 b1 fun H2 G t lm lo lr N ms ts ow rs rows ht F L => ?_
  simp only [tupAt_ref ht, Ok_some, List.length_cons, List.length_nil, setAll, List.set_cons_zero, List.set_cons_succ, true_and]
  simp only [S_law_280]
  simp only [wSs, wS]
  refine w_pick (n := n + 29) hK F (vs := [.int 20, .int 20, .int 1, .int 2, .int 3]) rfl ?_ (by decide) rfl (Nat.le_of_ble_eq_true rfl) fun j v H3 hv F3 _ => ?_
  · intro H Q hQ
    walk_at "w"
    exact hQ
  · obtain ⟨bd, rfl, hbd⟩ : ∃ bd : Nat, v = .int (bd : Nat) ∧ 0 < bd := by
      have := List.mem_of_getElem? hv
      simp only [List.mem_cons, List.not_mem_nil, or_false] at this
      rcases this with h | h | h | h | h
      · exact ⟨20, h, by omega⟩
      · exact ⟨20, h, by omega⟩
      · exact ⟨1, h, by omega⟩
      · exact ⟨2, h, by omega⟩
      · exact ⟨3, h, by omega⟩
    simp only [S_law_281]
    walk_at "w"
    refine sh_draw (n := n + 29) hK F3 (by decide) fun r H4 r0 r1 F4 _ _ => ?_
    walk_at "w"
    have hN := L.nle
    simp only [S_law_282]
    walk_at "w"
    simp only [wTr_list F4.R.l, List.length_map, List.length_range]
    refine ⟨by omega, ?_⟩
    by_cases h0 : N = 0
    · subst h0
      simp only [List.range_zero, List.map_nil, List.isEmpty_nil, Bool.not_true, Bool.not_false, if_true]
      simp only [S_law_283]
      walk_at "w"
      have : (0 : Int) < 3 + r := by omega
      simp only [this, decide_true]
    · have : ((List.range N).map fun k => AV.ref (rs k)).isEmpty = false := by
        rw [List.isEmpty_eq_false_iff]
        intro z
        have := congrArg List.length z
        simp at this; exact h0 this
      rw [this]
      simp only [Bool.not_false, Bool.not_true, Bool.false_eq_true, if_false]
      refine law_build (n := n) hK C1 C2 F4 L fun H5 σ v6 v14 F5 L5 hp5 => ?_
      simp only [S_law_292, lawL]
      walk_at "w"
      refine ⟨by omega, by omega, by omega, by omega, fun i l H' => ∃ σ v6 v8 v12 v13 v14 v15 v16 v17 v18 v19 v20 v21 v22 v23, l = lawL (.ref c.scr) B (.int (bd : Nat)) (.int (3 + r)) σ v6 v8 v12 v13 v14 v15 v16 v17 v18 v19 v20 v21 v22 v23 ∧ LS c H' B σ ∧ LP i σ ∧ Pl σ, ?_, ?_, ?_⟩
      · exact ⟨σ, _, _, _, _, _, _, _, _, _, _, _, _, _, _, rfl, F5, L5, hp5⟩
      · rintro i l H6 hi ⟨σ', w6, w8, w12, w13, w14, w15, w16, w17, w18, w19, w20, w21, w22, w23, rfl, F6, L6, hp6⟩
        have := law_turn (n := n) hK TD F6 L6 (by omega) hp6 (bd := bd) hbd (B := B) (v0 := .ref c.scr) (v3 := .int (3 + r)) (v6 := w6) (v8 := .int (0 + (i : Int))) (v12 := w12) (v13 := w13) (v14 := w14) (v15 := w15) (v16 := w16) (v17 := w17) (v18 := w18) (v19 := w19) (v20 := w20) (v21 := w21) (v22 := w22) (v23 := w23)
          (Q := fun fl l H => match fl with
            | .next => ∃ σ v6 v8 v12 v13 v14 v15 v16 v17 v18 v19 v20 v21 v22 v23, l = lawL (.ref c.scr) B (.int (bd : Nat)) (.int (3 + r)) σ v6 v8 v12 v13 v14 v15 v16 v17 v18 v19 v20 v21 v22 v23 ∧ LS c H B σ ∧ LP (i + 1) σ ∧ Pl σ
            | .ret v => v = .bool true)
          (fun H' σ' v12 v13 v15 v16 v17 v18 v19 v20 v21 v22 v23 a b d => ⟨σ', _, _, _, _, _, _, _, _, _, _, _, _, _, _, rfl, a, b, d⟩) (fun l H' => rfl)
        exact this
      · rintro l H6 ⟨σ', w6, w8, w12, w13, w14, w15, w16, w17, w18, w19, w20, w21, w22, w23, rfl, F6, L6, hp6⟩
        simp only [S_law_324, lawL]
        walk_at "w"
        exact law_same (n := n + 28) hK F6 L6 (by omega) rfl

section
variable {c : Cx} {A : Around} {F : Addr → Option Obj} {L : Addr} {names : List Str} {l : List AV} {H : AH} {s s' : Shared} {n : Nat}
theorem Rep.ownTab (R : Rep c F L names l H s) : Own c H c.tab := .inl ⟨R.ok.tabScr, _, R.tab⟩
/-- a list and the code table are written anew, the rest is kept -/
theorem Rep.jump {S : Addr} {xs ys : List AV} (R : Rep c F L names l H s) (hS : H S = some (.list xs)) (hscr : S ≠ c.scr) (k : ∀ b, b ≠ S → b ≠ c.tab → ∀ o, s.heap.get? b = some o → s'.heap.get? b = some o)
    (ht : RepO c s'.heap c.tab .tab) (hg : AllBare s'.gens) (hos : s'.os = s.os) (hr : RepO c s'.heap S (.list ys)) : Rep c F L names l (upd H S (.list ys)) s' := by
  have St : S ≠ c.tab := by rintro rfl; rw [R.tab] at hS; cases hS
  have oS : Own c H S := .inl ⟨hscr, _, hS⟩
  have low : ∀ b, Own c (upd H S (.list ys)) b → Own c H b := by
    rintro b (⟨h1, o1, h2⟩ | ⟨a', C', kvs', h2⟩)
    · by_cases q : b = S
      · subst q; exact oS
      · rw [upd_ne _ _ q] at h2; exact .inl ⟨h1, o1, h2⟩
    · by_cases q : a' = S
      · subst q; rw [upd_same] at h2; cases h2
      · rw [upd_ne _ _ q] at h2; exact .inr ⟨a', C', kvs', h2⟩
  have old : ∀ {a' C d kvs}, upd H S (.list ys) a' = some (.inst C d kvs) → H a' = some (.inst C d kvs) := by
    intro a' C d kvs h
    by_cases q : a' = S
    · subst q; rw [upd_same] at h; cases h
    · rwa [upd_ne _ _ q] at h
  have nS : ∀ {b : Addr}, F b ≠ none → b ≠ S ∧ b ≠ c.tab := by
    intro b hb
    exact ⟨by rintro rfl; exact hb (R.own _ oS), by rintro rfl; exact hb (R.own _ R.ownTab)⟩
  have dne : ∀ {a C d kvs}, H a = some (.inst C d kvs) → d ≠ S ∧ d ≠ c.tab := by
    intro a C d kvs h
    have := R.inst _ _ _ _ h
    exact ⟨fun e => (by rw [e, hS] at this; cases this), fun e => (by rw [e, R.tab] at this; cases this)⟩
  have LS : L ≠ S ∧ L ≠ c.tab := ⟨by rintro rfl; exact R.offO oS, by intro e; exact R.offO (e ▸ R.ownTab)⟩
  refine ⟨R.ok, ?_, R.base, ?_, fun b h => R.own _ (low b h), ?_, ?_, hg, hos.trans R.os, ?_, R.offF, fun h => R.offO (low _ h), R.above, ?_⟩
  · intro b x h
    have := nS (b := b) (by rw [h]; simp)
    exact k b this.1 this.2 _ (R.keep _ _ h)
  · intro b o1 h
    by_cases q : b = S
    · subst q; rw [upd_same] at h; cases h; exact hr
    · rw [upd_ne _ _ q] at h
      by_cases q2 : b = c.tab
      · subst q2; rw [R.tab] at h; cases h; exact ht
      · refine (R.objs _ _ h).keeps (fun O hO => k b q q2 _ hO) fun C d kvs e O hO => ?_
        subst e
        exact k d (dne h).1 (dne h).2 _ hO
  · intro a' C d kvs h
    have h0 := old h
    rw [upd_ne _ _ (dne h0).1]; exact R.inst _ _ _ _ h0
  · intro a' a'' C C' d kvs kvs' h h'
    exact R.inj _ _ _ _ _ _ _ (old h) (old h')
  · obtain ⟨mc, ⟨oL, es, ep, h1, hr'⟩, h2⟩ := R.ns
    exact ⟨mc, ⟨oL, es, ep, k L LS.1 LS.2 _ h1, hr'⟩, h2⟩
  · rw [upd_ne _ _ St.symm]; exact R.tab
/-- pairs that the heap bears are taken into our words -/
theorem Rep.addTups (d : AV) : ∀ (ts : List (Addr × Value)) {H : AH} (R : Rep c F L names l H s), ts.Pairwise (fun x y => x.1 ≠ y.1) → (∀ p ∈ ts, H p.1 = none ∧ ¬ Own c H p.1 ∧ F p.1 = none ∧ L ≠ p.1) → (∀ p ∈ ts, ∃ dv, av dv = d ∧ s.heap.IsTuple p.1 #[p.2, dv]) →
    ∃ H', Rep c F L names l H' s ∧ ExtH H H' ∧ ∀ p ∈ ts, H' p.1 = some (.tup [av p.2, d]) := by
  intro ts
  induction ts with
  | nil => intro H R _ _ _; exact ⟨H, R, ExtH.refl, fun p hp => by cases hp⟩
  | cons p ts ih =>
    intro H R nd h1 h2
    obtain ⟨nd1, nd2⟩ := List.pairwise_cons.mp nd
    obtain ⟨q1, q2, q3, q4⟩ := h1 p (.head _)
    obtain ⟨dv, hdv, hT⟩ := h2 p (.head _)
    have R1 := R.add (o := .tup [av p.2, d]) q1 q2 q3 q4 ⟨[p.2, dv], hT, by simp [hdv]⟩ (by intro C d kvs e; cases e)
    have e1 : ExtH H (upd H p.1 (.tup [av p.2, d])) := ExtH.new q1
    have side : ∀ r ∈ ts, (upd H p.1 (.tup [av p.2, d])) r.1 = none ∧ ¬ Own c (upd H p.1 (.tup [av p.2, d])) r.1 ∧ F r.1 = none ∧ L ≠ r.1 := by
      intro r hr
      obtain ⟨z1, z2, z3, z4⟩ := h1 r (.tail _ hr)
      have ne : r.1 ≠ p.1 := (nd1 r hr).symm
      refine ⟨by rw [upd_ne _ _ ne]; exact z1, ?_, z3, z4⟩
      rintro (⟨w1, o, w2⟩ | ⟨a, C, kvs, w2⟩)
      · rw [upd_ne _ _ ne, z1] at w2; cases w2
      · by_cases q : a = p.1
        · subst q; rw [upd_same] at w2; cases w2
        · rw [upd_ne _ _ q] at w2; exact z2 (.inr ⟨_, _, _, w2⟩)
    obtain ⟨H', R', e2, g⟩ := ih R1 nd2 side (fun r hr => h2 r (.tail _ hr))
    refine ⟨H', R', e1.trans e2, fun r hr => ?_⟩
    rcases List.mem_cons.mp hr with rfl | hr
    · exact e2 _ _ (upd_same _ _ _)
    · exact g r hr
/-- the same with gens of another kind -/
theorem Rep.gensTo (R : Rep c F L names l H s) {g : Array GenState} (hg : AllBare g) : Rep c F L names l H { s with gens := g } :=
  ⟨R.ok, R.keep, R.base, R.objs, R.own, R.inst, R.inj, hg, R.os, R.ns, R.offF, R.offO, R.above, R.tab⟩
end
/-! the function with a cell -/
def n_td : List Str := ["tokens", "maximum", "stack", "token"]
noncomputable def tdF (P : Params) : FnC := { fnAt (hd.heap_39 P) 26 n_td with cells := fun L => [("depth", L + 1)] }
theorem ok_td {P : Params} : (tdF P).Ok := by
  have h : (fnAt (hd.heap_39 P) 26 n_td).Ok := ok_of (by kernel_rfl)
  exact ⟨h.kind, h.nodup, h.loc, h.dbg⟩
section
variable {c : Cx} {P : Params} {A : Around} {F : Addr → Option Obj} {L : Addr} {l : List AV} {H : AH} {s : Shared} {n : Nat}
theorem cell_at (R : Rep c F L (tdF P).names l H s) {v : Option AV} (h : H (L + 1) = some (.cell v)) : ∃ cv, s.heap.IsCell (L + 1) cv ∧ cv.map av = v := R.objs _ _ h
theorem cell_ld {v : AV} {Q : Value → Shared → Prop} (R : Rep c F L (tdF P).names l H s) (h : H (L + 1) = some (.cell (some v))) (hq : ∀ u, av u = v → Q u s) : wpAny (model c.prog c.w) A (loadName ((tdF P).env L) "depth") Q NoE s := by
  obtain ⟨cv, h1, h2⟩ := cell_at R h
  cases cv with
  | none => cases h2
  | some u =>
    refine wpAny_loadName_cell (env := (tdF P).env L) (c := L + 1) (ok_td (P := P)).kind ?_ ?_ h1 (hq u (Option.some.inj h2))
    · show (tdF P).sc.names.lookup ("depth" : Str) = some .cell
      kernel_rfl
    · rfl
theorem cell_read {v : AV} {pos : Pos} {Q : Value → Shared → Prop} (R : Rep c F L (tdF P).names l H s) (h : H (L + 1) = some (.cell (some v))) (hq : ∀ u, av u = v → Q u s) : wpAny (model c.prog c.w) A (eval (.Name "depth" pos) ((tdF P).env L)) Q NoE s :=
  wpAny_Name (cell_ld R h hq) (by decide)
theorem cell_store {v0 : Option AV} {v : Value} {Q : Shared → Prop} (R : Rep c F L (tdF P).names l H s) (h : H (L + 1) = some (.cell v0)) (hs : L + 1 ≠ c.scr) (hq : ∀ s', Rep c F L (tdF P).names l (upd H (L + 1) (.cell (some (av v)))) s' → Q s') :
    wpAny (model c.prog c.w) A (storeName ((tdF P).env L) "depth" v) (fun _ s' => Q s') NoE s := by
  obtain ⟨cv, h1, h2⟩ := cell_at R h
  refine wpAny_storeName_cell (env := (tdF P).env L) (c := L + 1) (v₀ := cv) (ok_td (P := P)).kind ?_ ?_ h1 fun h' hc hsb => hq _ ?_
  · show (tdF P).sc.names.lookup ("depth" : Str) = some .cell
    kernel_rfl
  · rfl
  · exact R.write h (s' := { s with heap := h' }) hsb rfl rfl hs (o' := .cell (some (av v))) ⟨some v, hc, rfl⟩ (by intro C d kvs e; cases e)
end

section
variable {prog : Program} {w : World} {A : Around}
def protoD (C : Addr) (fp wr : List Addr) (n₀ : Nat) (F : Nat → Value → Heap → Heap → Prop) : Protocol := fun m s₀ v s kap =>
  F (n₀ - 1 - m) v s₀.heap s.heap ∧ GenSince C wr s₀ s ∧ ∀ s'' : Shared, (∀ b ∈ C :: fp, ∀ o, s.heap.get? b = some o → s''.heap.get? b = some o) → kap (.send .none) s''
structure EltD (prog : Program) (w : World) (cenv : Env) (x : Str) (elt : Expr) (fp wr : List Addr) (P : Nat → Value → Prop) (F : Nat → Value → Heap → Heap → Prop) (href : Heap) : Prop where
  elt : ∀ (A' : Around) E' i v (s₂ : Shared) m₂, A'.handled = none → P i v → s₂.heap.Ns cenv.locals m₂ → m₂ x = some v → (∀ b ∈ wr, ∃ o, s₂.heap.get? b = some o) → (∀ b ∈ fp, b ∉ wr → ∀ o, href.get? b = some o → s₂.heap.get? b = some o) →
    wpAny (model prog w) A' (eval elt cenv) (fun y s₃ => (∀ h0 : Heap, (∀ b, s₂.heap.get? b = none → h0.get? b = none) → F i y h0 s₃.heap) ∧ Keeps s₂ s₃) E' s₂
theorem seg_loopD {elt iter : Expr} {x : Str} {px : Pos} {scope : Scope} {pos : Pos} {I : Addr} {fp wr : List Addr} {n₀ : Nat} {P : Nat → Value → Prop} {St₀ : Nat → Heap → Prop} {cenv : Env}
    (hh : A.handled = none) (W₀ : ∀ A' : Around, A'.handled = none → Walks prog w A' I fp wr n₀ P St₀) (F : Nat → Value → Heap → Heap → Prop) (href : Heap)
    (hx : cenv.kindOf x = some .local) (hp : (cenv.scope.kind == .class || (cenv.scope.kind == .module && cenv.locals != cenv.globals)) = false)
    (hco : cenv.scope.isCoroutine = false) (hCf : cenv.locals ∉ fp) (hwl : ∀ i h, St₀ i h → ∀ b ∈ wr, ∃ o, h.get? b = some o) (hq : EltD prog w cenv x elt fp wr P F href) :
    ∀ (k i : Nat) (s₀ s : Shared) (m : Str → Option Value), n₀ - i = k → i ≤ n₀ → St₀ i s.heap → s.heap.Ns cenv.locals m → GenSince cenv.locals wr s₀ s →
      (∀ b ∈ fp, b ∉ wr → ∀ o, href.get? b = some o → s.heap.get? b = some o) →
      Seg (model prog w) A (fun n s₀ r s₁ => r = .ok .next ∧ (n = 0 ∧ GenSince cenv.locals wr s₀ s₁)) (protoD cenv.locals fp wr n₀ F) (n₀ - i) s₀
        (.compLoop (.GeneratorExp elt [⟨.Name x px, iter, [], 0⟩] scope pos) 0 (.ref I) .none cenv)
        ((model prog w).den (.compLoop (.GeneratorExp elt [⟨.Name x px, iter, [], 0⟩] scope pos) 0 (.ref I) .none cenv)) [] s := by
  have hh' : (A.over (.compLoop (.GeneratorExp elt [⟨.Name x px, iter, [], 0⟩] scope pos) 0 (.ref I) .none cenv) []).handled = none := hh
  have hCw : cenv.locals ∉ wr := fun h => hCf ((W₀ A hh).sub _ h)
  intro k
  induction k with
  | zero =>
    intro i s₀ s m hk hi hst hn hsince hkp
    have hin : i = n₀ := by omega
    subst hin
    show Seg _ A _ _ _ s₀ _ ((compTurn (.GeneratorExp elt [⟨.Name x px, iter, [], 0⟩] scope pos) 0 (.ref I) .none cenv).onRaise (leaving cenv)) [] s
    rw [compTurn_gen, Sem.onRaise_eq_wrap]
    refine seg_bind_wrap (wpAny_standAt ?_)
    refine seg_bind_wrap ((W₀ _ hh').done s _ _ hst fun h' tk hk' => ?_)
    exact seg_end (.ok .next) ⟨rfl, Nat.sub_self _, hsince.step fun b o _ hw e => hk' b o hw e⟩
  | succ k ih =>
    intro i s₀ s m hk hi hst hn hsince hkp
    have hlt : i < n₀ := by omega
    show Seg _ A _ _ _ s₀ _ ((compTurn (.GeneratorExp elt [⟨.Name x px, iter, [], 0⟩] scope pos) 0 (.ref I) .none cenv).onRaise (leaving cenv)) [] s
    rw [compTurn_gen, Sem.onRaise_eq_wrap]
    refine seg_bind_wrap (wpAny_standAt ?_)
    refine seg_bind_wrap ((W₀ _ hh').item i s _ _ hlt hst fun v h₁ tk₁ hPv hst₁ hk₁ => ?_)
    refine seg_bind_wrap (wpAny_of_eq (rfl : letOwnedTupleGo (.Name x px) (.ref I) v = pure ()) ?_)
    refine seg_bind_wrap (wpAny_assign_Name (wpAny_storeName_local hx (hn.at' fun o e => hk₁ _ o hCw e) (fun h₂ hn₂ hs₂ => ?_) hp))
    have up₂ : ∀ b o, b ≠ cenv.locals → b ∉ wr → s.heap.get? b = some o → h₂.get? b = some o := fun b o hbC hbw e => hs₂.extBut b o hbC (hk₁ b o hbw e)
    have hst₂ : St₀ (i + 1) h₂ := (W₀ A hh).frame _ _ _ hst₁ fun b hb o e => hs₂.extBut b o (fun h => hCf (h ▸ hb)) e
    have hkp₂ : ∀ b ∈ fp, b ∉ wr → ∀ o, href.get? b = some o → h₂.get? b = some o := fun b hb hbw o e => up₂ b o (fun h => hCf (h ▸ hb)) hbw (hkp b hb hbw o e)
    have hsince₂ : GenSince cenv.locals wr s₀ { s with heap := h₂, toks := tk₁ + 1 } := hsince.step up₂
    refine seg_bind_wrap (wpAny_tests_nil ?_)
    simp only [if_true]
    have hy : ∀ v, yieldOut cenv v = yieldValue v := fun v => by simp only [yieldOut, hco, Bool.false_eq_true, if_false]
    simp only [hy]
    rw [show n₀ - i = (n₀ - (i + 1)) + 1 by omega]
    rw [Sem.bind_eq_wrap', Sem.bind_eq_wrap', Sem.wrap_wrap, Sem.wrap_wrap]
    refine seg_wrap (wpAny_mono (hq.elt _ _ i v _ _ hh' hPv hn₂ (by simp) (hwl _ _ hst₂) hkp₂) (fun y s₄ h₄ => ?_) fun _ _ e => e)
    obtain ⟨hFy, h₄, tk₄, rfl, hk₄⟩ := h₄
    have hF := hFy s₀.heap fun b hb => by
      cases q : s₀.heap.get? b with
      | none => rfl
      | some o =>
        exfalso
        obtain ⟨h', tk, e, kk⟩ := hsince₂
        have e' : h₂ = h' := congrArg Shared.heap e
        by_cases qC : b = cenv.locals
        · obtain ⟨oC, _, _, z, _⟩ := hn₂
          rw [qC] at hb; rw [show h₂.get? cenv.locals = some oC from z] at hb; cases hb
        · by_cases qw : b ∈ wr
          · obtain ⟨o', ho'⟩ := hwl _ _ hst₂ b qw
            rw [show h₂.get? b = none from hb] at ho'; cases ho'
          · have := kk b o qC qw q
            rw [← e', show h₂.get? b = none from hb] at this; cases this
    refine seg_at (seg_yield rfl rfl rfl ⟨?_, hsince₂.step fun b o _ _ e => hk₄ b o e, fun s'' hal => ?_⟩)
    · rw [show n₀ - 1 - (n₀ - (i + 1)) = i by omega]; exact hF
    · refine seg_again rfl (ih (i + 1) s'' s'' _ (by omega) hlt ((W₀ A hh).frame _ _ _ hst₂ fun b hb o e => hal b (List.mem_cons_of_mem _ hb) o (hk₄ b o e))
        ((hn₂.keeps hk₄).at' fun o e => hal _ (List.mem_cons_self ..) o e) (GenSince.refl _ _ _) fun b hb hbw o e => hal b (List.mem_cons_of_mem _ hb) o (hk₄ b o (hkp₂ b hb hbw o e)))
theorem seg_startD {elt iter : Expr} {x : Str} {px : Pos} {scope : Scope} {pos : Pos} {I : Addr} {fp wr : List Addr} {n₀ : Nat} {P : Nat → Value → Prop} {St₀ : Nat → Heap → Prop} {cenv : Env}
    (hh : A.handled = none) (W₀ : ∀ A' : Around, A'.handled = none → Walks prog w A' I fp wr n₀ P St₀) (F : Nat → Value → Heap → Heap → Prop) (href : Heap)
    (hx : cenv.kindOf x = some .local) (hp : (cenv.scope.kind == .class || (cenv.scope.kind == .module && cenv.locals != cenv.globals)) = false)
    (hco : cenv.scope.isCoroutine = false) (hCf : cenv.locals ∉ fp) (hwl : ∀ i h, St₀ i h → ∀ b ∈ wr, ∃ o, h.get? b = some o) (hq : EltD prog w cenv x elt fp wr P F href)
    (s₀ s : Shared) (m : Str → Option Value) (hst : St₀ 0 s.heap) (hn : s.heap.Ns cenv.locals m) (hsince : GenSince cenv.locals wr s₀ s)
    (hkp : ∀ b ∈ fp, b ∉ wr → ∀ o, href.get? b = some o → s.heap.get? b = some o) :
    Seg (model prog w) A (fun n s₀ r s₁ => r = .ok .next ∧ (n = 0 ∧ GenSince cenv.locals wr s₀ s₁)) (protoD cenv.locals fp wr n₀ F) n₀ s₀
      (.compStart (.GeneratorExp elt [⟨.Name x px, iter, [], 0⟩] scope pos) 0 (.ref I) .none cenv)
      ((model prog w).den (.compStart (.GeneratorExp elt [⟨.Name x px, iter, [], 0⟩] scope pos) 0 (.ref I) .none cenv)) [] s := by
  have hh' : (A.over (.compStart (.GeneratorExp elt [⟨.Name x px, iter, [], 0⟩] scope pos) 0 (.ref I) .none cenv) []).handled = none := hh
  have loop := seg_loopD (iter := iter) (px := px) (scope := scope) (pos := pos) hh W₀ F href hx hp hco hCf hwl hq n₀ 0 s₀ s m (Nat.sub_zero _) (Nat.zero_le _) hst hn hsince hkp
  rw [Nat.sub_zero] at loop
  show Seg _ A _ _ _ s₀ _ ((compStart (.GeneratorExp elt [⟨.Name x px, iter, [], 0⟩] scope pos) 0 (.ref I) .none cenv).onRaise (leaving cenv)) [] s
  unfold compStart
  rw [Sem.onRaise_eq_wrap]
  show Seg _ A _ _ _ s₀ _ ((ask >>= _).wrap _ _ _ _) [] s
  refine seg_bind_wrap (wpAny_askSetting ?_)
  split
  · exact seg_again rfl loop
  · first
      | exact seg_bind_wrap (wpAny_rule (seg_bind_wrap (wpAny_standAt (seg_bind_wrap ((W₀ _ hh').self 0 s _ _ hst (seg_again rfl loop))))))
      | (refine seg_bind_wrap (wpAny_rule ?_); show Seg _ A _ _ _ s₀ _ ((standAt iter.pos >>= _).wrap _ _ _ _) [] s; exact seg_bind_wrap (wpAny_standAt (seg_bind_wrap ((W₀ _ hh').self 0 s _ _ hst (seg_again rfl loop)))))

def GenAtD (prog : Program) (w : World) (A : Around) (a : Addr) (g : Nat) (C : Addr) (fp wr : List Addr) (n₀ : Nat) (F : Nat → Value → Heap → Heap → Prop) (j : Nat) (s : Shared) : Prop :=
  s.heap.IsGen a g ∧ s.heap.NoLimit ∧ ∃ gs, s.gens[g]? = some gs ∧ ∀ s'' : Shared, (∀ b ∈ C :: fp, ∀ o, s.heap.get? b = some o → s''.heap.get? b = some o) →
    gs.Goes (model prog w) A.in1 (fun n s₀ r s₁ => r = .ok .next ∧ (n = 0 ∧ GenSince C wr s₀ s₁)) (protoD C fp wr n₀ F) (n₀ - j) (.send .none) s''
theorem GenAtD.frame {a : Addr} {g : Nat} {C : Addr} {fp wr : List Addr} {n₀ : Nat} {F : Nat → Value → Heap → Heap → Prop} {j : Nat} {s : Shared} {h' : Heap} {tk : Nat} (hcs : cStatics ∈ fp) (st : GenAtD prog w A a g C fp wr n₀ F j s)
    (hk : ∀ b ∈ a :: C :: fp, ∀ o, s.heap.get? b = some o → h'.get? b = some o) : GenAtD prog w A a g C fp wr n₀ F j { s with heap := h', toks := tk } :=
  ⟨let ⟨o, nm, qn, ho, r⟩ := st.1; ⟨o, nm, qn, hk a (List.mem_cons_self ..) o ho, r⟩,
   (let ⟨mc, hns, hnn⟩ := st.2.1; ⟨mc, hns.at' fun o e => hk cStatics (List.mem_cons_of_mem _ (List.mem_cons_of_mem _ hcs)) o e, hnn⟩),
   let ⟨gs, hgs, hgo⟩ := st.2.2; ⟨gs, hgs, fun s'' hal => hgo s'' fun b hb o e => hal b hb o (hk b (List.mem_cons_of_mem _ hb) o e)⟩⟩
theorem itemD {a : Addr} {g : Nat} {C : Addr} {fp wr : List Addr} {n₀ : Nat} {F : Nat → Value → Heap → Heap → Prop} (hh : A.handled = none) (haC : a ≠ C) (haf : a ∉ fp) (hsub : ∀ b ∈ wr, b ∈ fp)
    (hroom : A.depth < recursionLimit) (hcC : cStatics ≠ C) (hcw : cStatics ∉ wr) {j : Nat} {s : Shared} {Q : Option Value → Shared → Prop} {E : Value → Shared → Prop} (hj : j < n₀) (st : GenAtD prog w A a g C fp wr n₀ F j s)
    (hQ : ∀ v s', F j v s.heap s'.heap → GenAtD prog w A a g C fp wr n₀ F (j + 1) s' → Moved (C :: wr) (GenOnlyQ g) s s' → Q (some v) s') : wpAny (model prog w) A (pyNext (.ref a)) Q E s := by
  obtain ⟨hg, hl, gs, hgs, hgo⟩ := st
  obtain ⟨m, hm⟩ : ∃ m, n₀ - j = m + 1 := ⟨n₀ - j - 1, by omega⟩
  rw [hm] at hgo
  refine wpAny_with_toks (Nat.le_refl s.toks) ?_
  refine wpAny_pyNext_genexpQ (P := fun n s₀ s₁ => n = 0 ∧ GenSince C wr s₀ s₁) hh hl hroom hg hgs (hgo _ fun _ _ _ e => e) (fun v s₁ gs' hb hv => ?_) (fun s₁ hp h' hk => ?_)
  · obtain ⟨hF, ⟨h₁, tk₁, rfl, hk₁⟩, hkap⟩ := hv
    have hidx : n₀ - 1 - (m + 1 - 1) = j := by omega
    rw [hidx] at hF
    have haw : a ∉ wr := fun h => haf (hsub a h)
    intro htk
    refine hQ v _ hF ⟨let ⟨o, nm, qn, ho, r⟩ := hg; ⟨o, nm, qn, hk₁ a o haC haw ho, r⟩, (let ⟨mc, hns, hnn⟩ := hl; ⟨mc, hns.at' fun o e => hk₁ cStatics o hcC hcw e, hnn⟩), gs', setGen_self (gs := .running) (setGen_self hgs), fun s'' hal => ?_⟩
      ⟨fun b o hb e => hk₁ b o (fun h => hb (h ▸ List.mem_cons_self ..)) (fun h => hb (List.mem_cons_of_mem _ h)) e, GenOnlyQ.of ((GenOnly.setGen s g .running).trans (GenOnly.setGen _ g gs')) (setGen_self (gs := .running) (setGen_self hgs)) hb, rfl, rfl, htk⟩
    have e : n₀ - (j + 1) = m := by omega
    rw [e]
    exact hkap s'' hal
  · exact absurd hp.1 (Nat.succ_ne_zero m)
theorem doneD {a : Addr} {g : Nat} {C : Addr} {fp wr : List Addr} {n₀ : Nat} {F : Nat → Value → Heap → Heap → Prop} (hh : A.handled = none)
    (hroom : A.depth < recursionLimit) {s : Shared} {Q : Option Value → Shared → Prop} {E : Value → Shared → Prop} (st : GenAtD prog w A a g C fp wr n₀ F n₀ s)
    (hQ : ∀ s', Moved (C :: wr) (GenOnlyQ g) s s' → Q none s') : wpAny (model prog w) A (pyNext (.ref a)) Q E s := by
  obtain ⟨hg, hl, gs, hgs, hgo⟩ := st
  rw [Nat.sub_self] at hgo
  refine wpAny_with_toks (Nat.le_refl s.toks) ?_
  refine wpAny_pyNext_genexpQ (P := fun n s₀ s₁ => n = 0 ∧ GenSince C wr s₀ s₁) hh hl hroom hg hgs (hgo _ fun _ _ _ e => e) (fun v s₁ gs' hb hv => ?_) (fun s₁ hp h' hk => ?_)
  · obtain ⟨_, _, hkap⟩ := hv
    exact False.elim (hkap s₁ fun _ _ _ e => e)
  · obtain ⟨_, h₁, tk₁, rfl, hk₁⟩ := hp
    intro htk
    exact hQ _ ⟨fun b o hb e => hk b o (hk₁ b o (fun h => hb (h ▸ List.mem_cons_self ..)) (fun h => hb (List.mem_cons_of_mem _ h)) e), GenOnlyQ.of ((GenOnly.setGen s g .running).trans (GenOnly.setGen _ g .finished)) (setGen_self (gs := .running) (setGen_self hgs)) rfl, rfl, rfl, htk⟩
theorem GenAtD.fresh {elt iter : Expr} {x : Str} {px : Pos} {scope : Scope} {pos : Pos} {I a : Addr} {g : Nat} {fp wr : List Addr} {n₀ : Nat} {P : Nat → Value → Prop} {St₀ : Nat → Heap → Prop} {cenv : Env}
    (hh : A.handled = none) (W₀ : ∀ A' : Around, A'.handled = none → Walks prog w A' I fp wr n₀ P St₀) (F : Nat → Value → Heap → Heap → Prop)
    (hx : cenv.kindOf x = some .local) (hp : (cenv.scope.kind == .class || (cenv.scope.kind == .module && cenv.locals != cenv.globals)) = false)
    (hco : cenv.scope.isCoroutine = false) (hCf : cenv.locals ∉ fp) (hwl : ∀ i h, St₀ i h → ∀ b ∈ wr, ∃ o, h.get? b = some o) {s : Shared} {m : Str → Option Value} (hq : EltD prog w cenv x elt fp wr P F s.heap)
    (hg : s.heap.IsGen a g) (hgs : s.gens[g]? = some (.fresh (.compStart (.GeneratorExp elt [⟨.Name x px, iter, [], 0⟩] scope pos) 0 (.ref I) .none cenv)))
    (hst : St₀ 0 s.heap) (hn : s.heap.Ns cenv.locals m) (hl : s.heap.NoLimit) : GenAtD prog w A a g cenv.locals fp wr n₀ F 0 s :=
  ⟨hg, hl, _, hgs, fun s'' hal => ⟨rfl, by
    rw [Nat.sub_zero]
    exact seg_startD (A := A.in1) hh W₀ F s.heap hx hp hco hCf hwl hq s'' s'' m ((W₀ A hh).frame _ _ _ hst fun b hb o e => hal b (List.mem_cons_of_mem _ hb) o e)
      (hn.at' fun o e => hal _ (List.mem_cons_self ..) o e) (GenSince.refl _ _ _) fun b hb _ o e => hal b (List.mem_cons_of_mem _ hb) o e⟩⟩
end

def tupD (items : List Value) (dv : Value) (C : Addr) (wr : List Addr) (i : Nat) (y : Value) (h0 h : Heap) : Prop := ∃ b v, items[i]? = some v ∧ y = .ref b ∧ h0.get? b = none ∧ b ≠ C ∧ b ∉ wr ∧ h.IsTuple b #[v, dv]
abbrev lstO (xs : List Value) (n : Nat) : Obj := { cls := .type "list", dict := none, data := .seq xs.toArray n, slots := #[] }
section
variable {prog : Program} {w : World} {A : Around} {E : Value → Shared → Prop}
structure ExtInv (S C : Addr) (wr : List Addr) (h5 : Heap) (g5 : Array GenState) (os5 : OsState) (dr : List Int) (g : Nat) (items : List Value) (dv : Value) (i : Nat) (ts : List (Addr × Value)) (s : Shared) : Prop where
  vals : ts.map (·.2) = items.take i
  apart : ts.Pairwise fun p q => p.1 ≠ q.1
  tup : ∀ p ∈ ts, s.heap.IsTuple p.1 #[p.2, dv] ∧ p.1 ≠ S ∧ p.1 ∉ C :: wr ∧ ∀ b o, b ∉ S :: C :: wr → h5.get? b = some o → p.1 ≠ b
  keep : ∀ b o, b ∉ S :: C :: wr → h5.get? b = some o → s.heap.get? b = some o
  gens : GenOnlyQ g g5 s.gens
  os : s.os = os5
theorem extend_loopD {R : Result → Shared → Prop} {a S C : Addr} {g : Nat} {fp wr : List Addr} {items xs : List Value} {dv res : Value} {h5 : Heap} {g5 : Array GenState} {os5 : OsState} {dr : List Int} (hh : A.handled = none) (haC : a ≠ C) (haf : a ∉ fp) (hsub : ∀ b ∈ wr, b ∈ fp)
    (hroom : A.depth < recursionLimit) (hcs : cStatics ∈ fp) (hcC : cStatics ≠ C) (hcw : cStatics ∉ wr) (hSf : S ∉ a :: C :: fp) (hz : xs.length + items.length ≤ 10000)
    (hR : ∀ s' ts c', ExtInv S C wr h5 g5 os5 dr g items dv items.length ts s' → s'.heap.get? S = some (lstO (xs ++ ts.map fun p => .ref p.1) c') → R (.ok (.ret res)) s') :
    ∀ (k i : Nat) (s : Shared) (ts : List (Addr × Value)) (c : Nat), items.length - i = k → i ≤ items.length → GenAtD prog w A.in1 a g C fp wr items.length (tupD items dv C wr) i s → s.heap.get? S = some (lstO (xs ++ ts.map fun p => .ref p.1) c) →
      ExtInv S C wr h5 g5 os5 dr g items dv i ts s → codeAny (model prog w) A (.builtin "list.extend.loop" ⟨[.ref S, .ref a, res], []⟩) R s := by
  have hSw : S ∉ C :: wr := fun h => hSf (by
    rcases List.mem_cons.mp h with h | h
    · simp [h]
    · exact List.mem_cons_of_mem _ (List.mem_cons_of_mem _ (hsub _ h)))
  intro k
  induction k with
  | zero =>
    intro i s ts c hk hi hst hS inv
    have hin : i = items.length := by omega
    subst hin
    refine codeAny_builtin F.entry_extend_loop ?_
    rw [Around.under_plainId F.plain_extend_loop _]
    show wpAny _ A.in1 (pyNext (.ref a) >>= _) _ _ s
    refine wpAny_bind (doneD (A := A.in1) hh hroom hst fun s' hm => ?_)
    refine wpAny_pure (hR s' ts c ⟨inv.vals, inv.apart, fun p hp => ?_, fun b o hb h => hm.heap _ _ (fun q => hb (List.mem_cons_of_mem _ q)) (inv.keep b o hb h), GenOnlyQ.trans inv.gens hm.gens, hm.os.trans inv.os⟩ (hm.heap S _ hSw hS))
    obtain ⟨⟨o, h1, h2⟩, h3⟩ := inv.tup p hp
    exact ⟨⟨o, hm.heap _ _ h3.2.1 h1, h2⟩, h3⟩
  | succ k ih =>
    intro i s ts c hk hi hst hS inv
    have hlt : i < items.length := by omega
    refine codeAny_builtin F.entry_extend_loop ?_
    rw [Around.under_plainId F.plain_extend_loop _]
    show wpAny _ A.in1 (pyNext (.ref a) >>= _) _ _ s
    refine wpAny_bind (itemD (A := A.in1) hh haC haf hsub hroom hcC hcw hlt hst fun y s' hF hst' hm => ?_)
    obtain ⟨b, v, hv, rfl, hb0, hbC, hbw, hT⟩ := hF
    have hS' := hm.heap S _ hSw hS
    have hbS : b ≠ S := by rintro rfl; rw [hS] at hb0; cases hb0
    have len : (xs ++ ts.map fun p => Value.ref p.1).length ≤ 10000 := by
      have := congrArg List.length inv.vals
      simp at this ⊢; omega
    show wpAny _ A.in1 (updateSeq S (·.push (.ref b)) >>= _) _ _ _
    refine wpAny_bind ?_
    refine wpAny_updateSeq hS' rfl (wpAny_pure ⟨plainId_quiet F.plain_extend_loop _, ?_⟩) (by rw [sizeLine_eq]; simp at len ⊢; omega) (by rw [sizeLine_eq]; simp at len ⊢; omega)
    have hget := Heap.get?_update_self (Obj.mapSeq (·.push (Value.ref b))) hS' rfl
    have oth : ∀ b' o, b' ≠ S → s'.heap.get? b' = some o → (s'.heap.update S (Obj.mapSeq (·.push (Value.ref b)))).get? b' = some o := fun b' o hb e => (Heap.get?_update_other _ _ (Ne.symm hb)).trans e
    refine ih (i + 1) _ (ts ++ [(b, v)]) (c + 1) (by omega) hlt (hst'.frame hcs fun b' hb' o e => oth b' o (fun h => hSf (h ▸ hb')) e) ?_ ?_
    · rw [hget]
      simp [Obj.mapSeq]
    · refine ⟨?_, ?_, ?_, fun b' o hb' h => oth b' o (fun q => hb' (q ▸ List.mem_cons_self ..)) (hm.heap _ _ (fun q => hb' (List.mem_cons_of_mem _ q)) (inv.keep b' o hb' h)), GenOnlyQ.trans inv.gens hm.gens, hm.os.trans inv.os⟩
      · rw [List.map_append, inv.vals, List.take_add_one, hv]; rfl
      · refine List.pairwise_append.mpr ⟨inv.apart, List.pairwise_singleton _ _, fun p hp q hq => ?_⟩
        rw [List.mem_singleton] at hq; subst hq
        obtain ⟨⟨o, h1, _⟩, _⟩ := inv.tup p hp
        intro e
        rw [show p.1 = b from e, hb0] at h1; cases h1
      · intro p hp
        rcases List.mem_append.mp hp with hp | hp
        · obtain ⟨⟨o, h1, h2⟩, h3⟩ := inv.tup p hp
          exact ⟨⟨o, oth _ _ h3.1 (hm.heap _ _ h3.2.1 h1), h2⟩, h3⟩
        · rw [List.mem_singleton] at hp; subst hp
          obtain ⟨o, h1, h2⟩ := hT
          refine ⟨⟨o, oth _ _ hbS h1, h2⟩, hbS, fun h => ?_, fun b' o' hb' h => ?_⟩
          · rcases List.mem_cons.mp h with h | h
            · exact hbC h
            · exact hbw h
          · intro e
            have := inv.keep b' o' hb' h
            rw [← show b = b' from e, hb0] at this; cases this
theorem call_extendD {Q : Value → Shared → Prop} {a S C : Addr} {g : Nat} {fp wr : List Addr} {items xs : List Value} {dv : Value} {c : Nat} {dr : List Int} {s : Shared} (hh : A.handled = none) (haC : a ≠ C) (haf : a ∉ fp) (hsub : ∀ b ∈ wr, b ∈ fp)
    (hroom : A.depth < recursionLimit) (hcs : cStatics ∈ fp) (hcC : cStatics ≠ C) (hcw : cStatics ∉ wr) (hSf : S ∉ a :: C :: fp) (hz : xs.length + items.length ≤ 10000)
    (hst : GenAtD prog w A.in1 a g C fp wr items.length (tupD items dv C wr) 0 s) (hS : s.heap.get? S = some (lstO xs c))
    (hQ : ∀ s' ts c', ExtInv S C wr s.heap s.gens s.os dr g items dv items.length ts s' → s'.heap.get? S = some (lstO (xs ++ ts.map fun p => .ref p.1) c') → Q .none s') :
    wpAny (model prog w) A (call (.builtin "list.extend") [.ref S, .ref a]) Q E s := by
  have hT : s.TypeIs (.ref S) "list" := ⟨_, hS, rfl⟩
  have hTa : s.TypeIs (.ref a) "generator" := hst.1.typeIs
  have hSI : S ≠ a := fun e => hSf (e ▸ List.mem_cons_self ..)
  refine wpAny_call (codeAny_call_builtin PySem.F.slot_list_extend.plain PySem.F.entry_list_extend (PySem.F.slot_list_extend.check _ _ _ _ _ _ _ _ hT (PySem.F.args_list_extend_2 _ _) ?_))
  show wpAny _ A.in1 (Builtin.List.listExtendWith (.ref S) (.ref a) .none) _ _ s
  unfold Builtin.List.listExtendWith
  refine wpAny_bind (wpAny_typeOf hTa ?_)
  have h1 : Builtin.List.listSameRef (.ref S) (.ref a) = false := by simp [Builtin.List.listSameRef, hSI]
  have h2 : (Value.type "generator" == Value.type "list") = false := by decide
  have h3 : (Value.type "generator" == Value.type "tuple") = false := by decide
  simp only [h1, h2, h3, Bool.or_false, Bool.false_eq_true, if_false]
  refine wpAny_bind (wpAny_pyIter_gen hst.1 ?_)
  refine wpAny_bind (wpAny_holding ?_)
  unfold Builtin.List.listLengthHint
  refine wpAny_bind (wpAny_specialOf hTa F.gen_no_len ?_)
  show wpAny _ A.in1 (specialOf (Value.ref a) (Str.ofString "__length_hint__") >>= _) _ _ _
  refine wpAny_bind (wpAny_specialOf hTa F.gen_no_hint ?_)
  refine wpAny_pure ?_
  show wpAny _ A.in1 (rule "list.extend.makes-room" >>= fun _ => Builtin.List.listTouch (.ref S) >>= fun _ =>
    again (.builtin "list.extend.loop" ⟨[.ref S, .ref a, .none], []⟩)) _ _ _
  refine wpAny_bind (wpAny_rule ?_)
  refine wpAny_bind ?_
  show wpAny _ A.in1 (updateSeq S (·.push .none) >>= fun _ => updateSeq S (·.pop)) _ _ _
  refine wpAny_bind (wpAny_updateSeq hS rfl ?_ (by rw [sizeLine_eq]; simp; omega) (by rw [sizeLine_eq]; simp; omega))
  have hS₂ := Heap.get?_update_self (Obj.mapSeq (·.push Value.none)) hS rfl
  refine wpAny_updateSeq hS₂ rfl ?_ (by rw [sizeLine_eq]; simp; omega) (by rw [sizeLine_eq]; simp; omega)
  have hS₃ := Heap.get?_update_self (Obj.mapSeq (·.pop)) hS₂ rfl
  have oth : ∀ b o, b ≠ S → s.heap.get? b = some o → ((s.heap.update S (Obj.mapSeq (·.push Value.none))).update S (Obj.mapSeq (·.pop))).get? b = some o :=
    fun b o hb e => (Heap.get?_update_other _ _ (Ne.symm hb)).trans ((Heap.get?_update_other _ _ (Ne.symm hb)).trans e)
  have hst3 : GenAtD prog w A.in1 a g C fp wr items.length (tupD items dv C wr) 0 { s with heap := (s.heap.update S (Obj.mapSeq (·.push Value.none))).update S (Obj.mapSeq (·.pop)), toks := s.toks } :=
    GenAtD.frame (s := s) (tk := s.toks) hcs hst fun b hb o e => oth b o (fun h => hSf (h ▸ hb)) e
  refine wpAny_pure ⟨plainId_quiet F.plain_extend_loop _, extend_loopD (xs := xs) (dr := dr) (h5 := s.heap) (g5 := s.gens) (os5 := s.os) hh haC haf hsub hroom hcs hcC hcw hSf hz (fun s' ts c' inv e => hQ s' ts c' inv e) items.length 0 _ [] (c + 1 + 1) (Nat.sub_zero _) (Nat.zero_le _)
    hst3 ?_ ⟨rfl, .nil, fun p hp => (by cases hp), fun b o hb h => oth b o (fun q => hb (q ▸ List.mem_cons_self ..)) h, .inl rfl, rfl⟩⟩
  rw [hS₃]
  simp [Obj.mapSeq]
end

def codeB (K : Frag) (a P : Addr) : Bool := match K.lookup a with
  | some ⟨.type "code", _, .fields vs, _⟩ => vs.getD 11 .none == .ref P && (vs[11]? == some (.ref P)) && (match vs.getD 18 .none with
    | .str _ _ => true
    | _ => false) && (match vs.getD 7 .none with
    | .int _ _ => true
    | _ => false) && (match vs.getD 9 .none with
    | .bool _ => true
    | _ => false) && (match vs.getD 10 .none with
    | .int _ _ => true
    | _ => false)
  | _ => false
theorem isCode_of {K : Frag} {h : Heap} {a P : Addr} {ps : Array Value} (X : K.In h) (hb : codeB K a P = true) (hP : h.get? P = some { cls := .none, data := .fields ps }) (ht : TriplesOk ps.toList) (hne : a ≠ P) : h.IsCode a P ps ∧ h.TableAt a P ps := by
  unfold codeB at hb
  split at hb
  · rename_i od vs sl e
    have ho := X _ _ e
    simp only [Bool.and_eq_true, beq_iff_eq] at hb
    obtain ⟨⟨⟨⟨⟨h1, h1'⟩, h2⟩, h3⟩, h4⟩, h5⟩ := hb
    split at h2
    · rename_i f tf e2
      split at h3
      · rename_i g tg e3
        split at h4
        · rename_i b e4
          split at h5
          · rename_i t tt e5
            exact ⟨⟨_, vs, f, tf, g, tg, b, t, tt, _, ho, rfl, h1, e2, e3, e4, e5, hP, rfl, ht, hne⟩, ⟨⟨_, vs, ho, rfl, rfl, h1'⟩, hP⟩⟩
          · cases h5
        · cases h4
      · cases h3
    · cases h2
  · cases hb
def gElt : Expr := .Tuple [.Name "child" ⟨13, 27, 13, 32⟩, .Name "depth" ⟨13, 34, 13, 39⟩] 0 ⟨13, 26, 13, 40⟩
def gIter : Expr := .Subscript (.Name "token" ⟨13, 54, 13, 59⟩) (.Constant (.str "children") 0 ⟨13, 60, 13, 70⟩) ⟨13, 54, 13, 71⟩
def gScope : Scope := { kind := .function, names := [(".0", .local), ("child", .local), ("depth", .free)], isGenerator := true, isCoroutine := false }
def gPos : Pos := ⟨13, 25, 13, 72⟩
def gGen : Expr := .GeneratorExp gElt [⟨.Name "child" ⟨13, 45, 13, 50⟩, gIter, [], 0⟩] gScope gPos
section
variable {c : Cx} {P : Params} {A : Around} {F : Addr → Option Obj} {L : Addr} {l : List AV} {H : AH} {s : Shared} {n : Nat}
theorem Rep.tabAt {names : List Str} (R : Rep c F L names l H s) : ∃ ps : Array Value, s.heap.get? c.tab = some { cls := .none, data := .fields ps } ∧ TriplesOk ps.toList := R.objs _ _ R.tab
theorem code_step {s2 : Shared} (hK : c.K = hd.heap_39 P) (htab : c.tab = 23) (R : Rep c F L (tdF P).names l H s) (h2 : ∀ b o, s.heap.get? b = some o → s2.heap.get? b = some o) {pos : Pos} {q : Str} {scope : Scope} {Q : Value → Shared → Prop}
    (h : ∀ code h' tk, (∀ b o, b ≠ c.tab → s2.heap.get? b = some o → h'.get? b = some o) → RepO c h' c.tab .tab → Q code { s2 with heap := h', toks := tk }) :
    wpAny (model c.prog c.w) A (genexprCode ((tdF P).env L) pos q scope) Q NoE s2 := by
  obtain ⟨ps, hps, ht⟩ := R.tabAt
  have hP := h2 _ _ hps
  have hkin : c.K.In s2.heap := R.kin.keeps h2
  have hcd : ((tdF P).env L).code = .ref 25 := by
    show (fdAt (hd.heap_39 P) 26).code = .ref 25
    kernel_rfl
  have hcb : codeB c.K 25 c.tab = true := by rw [hK, htab]; kernel_rfl
  obtain ⟨ic, ta⟩ := isCode_of hkin hcb hP ht (by rw [htab]; decide)
  cases hf : codeAmong pos ps.toList with
  | some cv =>
    refine wpAny_genexprCode_hit hcd ic hf ?_
    exact h cv s2.heap s2.toks (fun b o _ e => e) ⟨ps, hP, ht⟩
  | none =>
    refine wpAny_genexprCodeX hcd ic ta hf fun c' h' tk hx _ _ hc' _ ht' _ => ?_
    refine h (.ref c') h' tk (fun b o hb e => hx b o hb e) ⟨_, ht'.2, ?_⟩
    obtain ⟨_, _, _, _, _, _, _, _, _, op, _, _, _, _, _, _, _, e1, e2, e3, _⟩ := hc'
    exact e3
theorem bi_step {s2 : Shared} (R : Rep c F L (tdF P).names l H s) (h2 : ∀ b o, b ≠ c.tab → s.heap.get? b = some o → s2.heap.get? b = some o) {rn : Addr} {Q : Addr → Shared → Prop} (h : Q builtinsNs s2) :
    wpAny (model c.prog c.w) A (builtinsFor mainGlobals rn) Q NoE s2 := by
  obtain ⟨bm, ob, M⟩ := R.ok.bmod
  have hb : ∀ b o, c.hB.get? b = some o → s2.heap.get? b = some o := by
    intro b o e
    refine h2 b o ?_ (R.keep _ _ (R.base _ _ e))
    rintro rfl
    have := R.own _ R.ownTab
    rw [R.base _ _ e] at this; cases this
  have M2 := M.keeps hb
  exact wpAny_builtinsFor M2.ns M2.name M2.ne M2.obj M2.cls M2.dict M2.data h
end

theorem elt_D {prog : Program} {w : World} {L C bi : Addr} {code : Value} {env : Env} {fp wr : List Addr} {items : List Value} {dv : Value} {href : Heap} (hcell : href.IsCell (L + 1) (some dv)) (hf : L + 1 ∈ fp) (hw : L + 1 ∉ wr) :
    EltD prog w (genEnv gScope [("depth", L + 1)] C code bi env) "child" gElt fp wr (fun i v => items.toArray[i]? = some v) (tupD items dv C wr) href := by
  refine ⟨fun A' E' i v s₂ m₂ hh hP hn hv hwl hkp => ?_⟩
  obtain ⟨oc, hoc, hdc⟩ := hcell
  have hc2 : s₂.heap.IsCell (L + 1) (some dv) := ⟨oc, hkp _ hf hw _ hoc, hdc⟩
  unfold gElt
  refine Tuple_ ?_
  show wpAny _ A' (spliced [(false, eval (.Name "child" ⟨13, 27, 13, 32⟩) _), (false, eval (.Name "depth" ⟨13, 34, 13, 39⟩) _)]) _ _ _
  refine Calls.spliced_cons (wpAny_Name (wpAny_loadName_local rfl rfl hn hv ?_) (by decide))
  refine Calls.spliced_cons (wpAny_Name (wpAny_loadName_free (c := L + 1) rfl rfl rfl hc2 ?_) (by decide))
  refine Calls.spliced_nil ?_
  refine wpAny_newTuple ?_ (by rw [sizeLine_eq]; exact Nat.le_of_ble_eq_true rfl)
  refine ⟨fun h0 hf0 => ⟨s₂.heap.objs.size, v, by simpa using hP, rfl, hf0 _ size_none, ?_, ?_, ⟨_, Heap.get?_push_size _ rfl, rfl, _, rfl⟩⟩, ⟨_, s₂.toks, rfl, fun b o e => Heap.get?_push_of_some _ e⟩⟩
  · intro e
    obtain ⟨o, _, _, z, _⟩ := hn
    have z' : s₂.heap.get? C = some o := z
    rw [← e, size_none] at z'; cases z'
  · intro e
    obtain ⟨o, ho⟩ := hwl _ e
    rw [size_none] at ho; cases ho
section
variable {c : Cx} {P : Params} {A : Around} {F : Addr → Option Obj} {L : Addr} {l : List AV} {H : AH} {s : Shared} {n : Nat}
theorem gen_run (hK : c.K = hd.heap_39 P) (htab : c.tab = 23) (hr : Room A n) (R : Rep c F L (tdF P).names l H s) {tk q : Addr} {ws : List AV} {d : Int} (h3 : l[3]? = some (.ref tk)) (hkey : getK H (.ref tk) 2 = some (.ref q)) (hq : H q = some (.list ws))
    (hcell : H (L + 1) = some (.cell (some (.int d)))) {Q : Value → Shared → Prop}
    (h : ∀ (s1 s5 : Shared) (a C I : Addr) (g : Nat) (items : List Value) (dv : Value), Rep c F L (tdF P).names l H s1 → items.map av = ws → av dv = .int d →
      GenAtD c.prog c.w A.in1 a g C [I, q, L + 1, cStatics] [I] items.length (tupD items dv C [I]) 0 s5 → (∀ b o, b ≠ c.tab → s1.heap.get? b = some o → s5.heap.get? b = some o) → RepO c s5.heap c.tab .tab →
      s1.heap.get? I = none → s1.heap.get? C = none → s1.heap.get? a = none → a ≠ C → a ≠ I → C ≠ I → AllBare s5.gens → s5.os = s1.os → Q (.ref a) s5) :
    wpAny (model c.prog c.w) A (eval gGen ((tdF P).env L)) Q NoE s := by
  have hf := ok_td (P := P)
  have hi : SndE c (tdF P) gIter (.item (.var 3) 2) := item_k (var_sound hf (by kernel_rfl)) (by kernel_rfl)
  unfold gGen
  refine wpAny_GeneratorExp_make (cl := [("depth", L + 1)]) rfl (by rfl) (by decide) rfl rfl (by have := hr.2.1; show A.depth < 1000; omega) ?_ (fun x => rfl)
  refine wpNo (hi.run n A F L l H s (fun v H' => H' = H ∧ v = .ref q) hr (by simp only [wE, h3, Ok_some, hkey]; simp) R) ?_
  rintro xv s1 ⟨H1, R1, rfl, hv⟩
  rw [av_ref hv]
  obtain ⟨vs, hl, hvs, _⟩ := R1.objs _ _ hq
  refine wpAny_pyIter_list hl ?_
  have R2 := R1.ext (Ext.push s1 { cls := .type "list_iterator", data := .fields #[.ref q, .int 0 0] })
  have hI : (s1.heap.push { cls := .type "list_iterator", data := .fields #[.ref q, .int 0 0] }).get? s1.heap.objs.size = some { cls := .type "list_iterator", data := .fields #[.ref q, .int 0 0] } := Heap.get?_push_size _ rfl
  have up2 : ∀ b o, s1.heap.get? b = some o → (s1.heap.push { cls := .type "list_iterator", data := .fields #[.ref q, .int 0 0] }).get? b = some o := fun b o e => Heap.get?_push_of_some _ e
  generalize s1.heap.push { cls := .type "list_iterator", data := .fields #[.ref q, .int 0 0] } = h2 at *
  obtain ⟨mc, F2, _⟩ := R2.fr
  refine ⟨R2.ok.top.nolimit.keeps F2.keep, ?_⟩
  refine code_step hK htab R2 (fun b o e => e) fun code h3' tk3 hk3 ht3 => ?_
  refine bi_step (s2 := { s1 with heap := h3', toks := tk3 }) R2 hk3 fun h' hn' hs' => ?_
  replace hs' : Heap.SameBut h3'.objs.size (h3'.push { cls := .type "frame", data := .dict #[] }) h' := hs'
  replace hn' : h'.Ns h3'.objs.size (fun y => if y = ".0" then some (.ref s1.heap.objs.size) else none) := hn'
  have hsz : h'.objs.size = h3'.objs.size + 1 := by rw [hs'.1, Heap.size_push]
  have k35 : ∀ (O : Obj) b o, h3'.get? b = some o → (h'.push O).get? b = some o := fun O b o e => Heap.get?_push_of_some _ (hs'.extBut b o (Nat.ne_of_lt (Heap.lt_size e)) (Heap.get?_push_of_some _ e))
  have liveTab : ∃ o, s1.heap.get? c.tab = some o := let ⟨ps, e, _⟩ := R1.tabAt; ⟨_, e⟩
  have fr1 : ∀ {b : Addr}, h3'.get? b = none → s1.heap.get? b = none := by
    intro b hb
    cases q9 : s1.heap.get? b with
    | none => rfl
    | some o =>
      by_cases e : b = c.tab
      · obtain ⟨ps, hps, _⟩ := ht3
        rw [e, hps] at hb; cases hb
      · rw [hk3 b o e (up2 _ _ q9)] at hb; cases hb
  have hCn : h3'.get? h3'.objs.size = none := size_none
  have han : h3'.get? h'.objs.size = none := by
    cases q9 : h3'.get? h'.objs.size with
    | none => rfl
    | some o => have := Heap.lt_size q9; rw [hsz] at this; exact absurd this (Nat.not_lt.mpr (Nat.le_succ _))
  have hIt : s1.heap.objs.size ≠ c.tab := by
    intro e; obtain ⟨o, ho⟩ := liveTab; rw [← e, size_none] at ho; cases ho
  have hI3 := hk3 _ _ hIt hI
  have hqt : q ≠ c.tab := by rintro rfl; rw [R1.tab] at hq; cases hq
  have hql : s1.heap.get? q ≠ none := by
    obtain ⟨o, e, _⟩ := hl; rw [e]; simp
  obtain ⟨cv, hcv, hcv2⟩ := R1.objs _ _ hcell
  obtain ⟨dv, rfl, hdv⟩ : ∃ dv, cv = some dv ∧ av dv = .int d := by
    cases cv with
    | none => cases hcv2
    | some dv => exact ⟨dv, rfl, Option.some.inj hcv2⟩
  have hct : L + 1 ≠ c.tab := by intro e; rw [e, R1.tab] at hcell; cases hcell
  have hIC : s1.heap.objs.size ≠ h3'.objs.size := fun e => by rw [e, hCn] at hI3; cases hI3
  have hIa : h'.objs.size ≠ s1.heap.objs.size := fun e => by rw [e, hI3] at han; cases han
  have haC : h'.objs.size ≠ h3'.objs.size := by rw [hsz]; exact Nat.succ_ne_self _
  have hbase : ∀ b o, c.hB.get? b = some o → h3'.get? b = some o := by
    intro b o e
    refine hk3 b o ?_ (R2.keep _ _ (R2.base _ _ e))
    rintro rfl
    have := R2.own _ R2.ownTab
    rw [R2.base _ _ e] at this; cases this
  have hCst : ∃ o, h3'.get? cStatics = some o := by
    obtain ⟨_, ⟨o, _, _, e, _⟩, _⟩ := R2.ok.top.nolimit
    exact ⟨o, hbase _ _ e⟩
  have liveC : ∀ {b : Addr} {o : Obj}, h3'.get? b = some o → b ≠ h3'.objs.size ∧ b ≠ h'.objs.size := fun e => ⟨fun q => (by rw [q, hCn] at e; cases e), fun q => (by rw [q, han] at e; cases e)⟩
  obtain ⟨oq, hoq, hq2⟩ := hl
  obtain ⟨oc, hoc, hoc2⟩ := hcv
  have hq3 := hk3 _ _ hqt (up2 _ _ hoq)
  have hc3 := hk3 _ _ hct (up2 _ _ hoc)
  obtain ⟨os, hos⟩ := hCst
  have hne : q ≠ s1.heap.objs.size := by rintro rfl; rw [size_none] at hoq; cases hoq
  have hcI : L + 1 ≠ s1.heap.objs.size := by intro e; rw [e, size_none] at hoc; cases hoc
  have hCf : h3'.objs.size ∉ [s1.heap.objs.size, q, L + 1, cStatics] := by
    intro m
    simp only [List.mem_cons, List.not_mem_nil, or_false] at m
    rcases m with e | e | e | e
    · exact hIC e.symm
    · exact (liveC hq3).1 e.symm
    · exact (liveC hc3).1 e.symm
    · exact (liveC hos).1 e.symm
  refine h s1 _ h'.objs.size h3'.objs.size s1.heap.objs.size s1.gens.size vs dv R1 hvs hdv ?_ (fun b o hb e => k35 _ _ _ (hk3 b o hb (up2 _ _ e))) ?_ size_none (fr1 hCn) (fr1 han) haC hIa hIC.symm (R1.gens.push rfl) rfl
  · refine GenAtD.fresh (A := A.in1) (cenv := genEnv gScope [("depth", L + 1)] h3'.objs.size code builtinsNs ((tdF P).env L)) (m := fun y => if y = ".0" then some (.ref s1.heap.objs.size) else none) (St₀ := fun i h => h.IsListIter s1.heap.objs.size q i ∧ h.IsList q vs.toArray)
      (P := fun i v => vs.toArray[i]? = some v) hr.1 (fun A' hA => (Walks.list hA s1.heap.objs.size q hne vs.toArray).mono_fp (by intro b hb; simp at hb ⊢; rcases hb with rfl | rfl <;> simp)) (tupD vs dv h3'.objs.size [s1.heap.objs.size]) rfl rfl rfl hCf ?_ (elt_D ⟨oc, k35 _ _ _ hc3, hoc2⟩ (by simp) (by simpa using hcI)) ⟨_, _, _, Heap.get?_push_size _ rfl, rfl, rfl, rfl⟩ (Array.getElem?_push_size ..) ⟨⟨_, k35 _ _ _ hI3, rfl, rfl⟩, ⟨oq, k35 _ _ _ hq3, hq2⟩⟩ (hn'.push _) ?_
    · intro i h st b hb
      rw [List.mem_singleton] at hb; subst hb
      obtain ⟨o, e, _⟩ := st.1; exact ⟨o, e⟩
    · exact R2.ok.top.nolimit.keeps fun b o e => k35 _ _ _ (hbase _ _ e)
  · obtain ⟨ps, e1, e2⟩ := ht3
    exact ⟨ps, k35 _ _ _ e1, e2⟩
end

def gExt : Stmt := .Expr (.Call (.Attribute (.Name "stack" ⟨13, 12, 13, 17⟩) "extend" ⟨13, 12, 13, 24⟩) [gGen] [] ⟨13, 12, 13, 73⟩) ⟨13, 12, 13, 73⟩
section
variable {c : Cx} {P : Params} {A : Around} {F : Addr → Option Obj} {L : Addr} {l : List AV} {H : AH} {s : Shared} {n : Nat}
theorem meth_open1 {y : Str} {py apos pos : Pos} {name : Str} {ex : Expr} {env : Env} {P : Value → Shared → Prop} (h1 : notStar ex = true) (hline : (apos.endLine == pos.line) = true)
    (hw : wpAny (model c.prog c.w) A (eval (.Name y py) env) (fun ov s1 => ∀ pl, wpAny (model c.prog c.w) A (getMethod ov name pl) (fun fx s2 => wpAny (model c.prog c.w) A (callWith pos fx.1 fx.2 [(false, eval ex env)] []) P NoE s2) NoE s1) NoE s) :
    wpAny (model c.prog c.w) A (eval (.Call (.Attribute (.Name y py) name apos) [ex] [] pos) env) P NoE s := by
  rw [eval_CallMeth]
  have es : backTo pos (starEach [ex] env) = [(false, eval ex env)] := by rw [star_plain h1]; rfl
  rw [es]
  refine wpAny_bind (wpNo hw fun ov s1 h1 => wpAny_bind (wpAny_standAt ?_))
  have hform : methodCallForm ([ex].length + 0) [(false, eval ex env)] [] = true := by
    unfold methodCallForm
    simp
  have hpos : methodCallPos true (.Name y py) env apos pos = pure pos := by unfold methodCallPos; simp [hline]
  unfold methodCall
  rw [hform]
  refine wpAny_bind (wpAny_holding (wpNo (h1 _) fun fx s2 h2 => ?_))
  obtain ⟨g, first⟩ := fx
  show wpAny _ _ (methodCallPos true (.Name y py) env apos pos >>= _) _ _ _
  rw [hpos]
  exact wpAny_bind (wpAny_pure h2)
theorem ext_run (hK : c.K = hd.heap_39 P) (htab : c.tab = 23) (hr : Room A n) (R : Rep c F L (tdF P).names l H s) {S tk q : Addr} {xs ws : List AV} {d : Int} (h2 : l[2]? = some (.ref S)) (h3 : l[3]? = some (.ref tk)) (hkey : getK H (.ref tk) 2 = some (.ref q)) (hq : H q = some (.list ws))
    (hcell : H (L + 1) = some (.cell (some (.int d)))) (hS : H S = some (.list xs)) (hscr : S ≠ c.scr) (hSq : S ≠ q) (hz : xs.length + ws.length ≤ 10000) {Q : Shared → Prop}
    (h : ∀ (ts : List Addr) (H' : AH) (s' : Shared), ts.length = ws.length → (∀ a o, a ≠ S → H a = some o → H' a = some o) → H' S = some (.list (xs ++ ts.map .ref)) → (∀ (i : Nat) (t : Addr) (w : AV), ts[i]? = some t → ws[i]? = some w → H' t = some (.tup [w, .int d])) → Rep c F L (tdF P).names l H' s' → Q s') :
    wpAny (model c.prog c.w) A (exec gExt ((tdF P).env L)) (fun fl s' => fl = .next ∧ Q s') NoE s := by
  have hf := ok_td (P := P)
  have hcode : (fdAt (hd.heap_39 P) 26).body = .stmts (bodyAt (hd.heap_39 P) 26) := by kernel_rfl
  unfold gExt
  refine wpAny_Expr ?_ rfl rfl
  refine meth_open1 (ex := gGen) rfl rfl (var_read hf (x := 2) (by kernel_rfl) R h2 (by simp) fun u hu pl => ?_)
  rw [av_ref hu]
  obtain ⟨vs, m, qS, hvs⟩ := plainAt R hS hscr
  refine getMethod_builtin ⟨_, qS, rfl⟩ PySem.F.plainAttrs_list PySem.F.slot_list_extend (by kernel_rfl) (fun a e => ⟨_, by cases e; exact qS, rfl⟩) ?_
  refine Calls.callWith_builtin rfl (Calls.evalArgs_plain (Calls.spliced_cons (gen_run hK htab hr R h3 hkey hq hcell fun s1 s5 a C I g items dv R1 hit hdv G k5 t5 fI fC fa naC naI nCI hg hos => ?_)))
  refine Calls.spliced_nil ?_
  have St : S ≠ c.tab := by rintro rfl; rw [R.tab] at hS; cases hS
  obtain ⟨vs1, m1, qS1, hvs1⟩ := plainAt R1 hS hscr
  have hS5 := k5 _ _ St qS1
  have liveq : ∃ o, s1.heap.get? q = some o := R1.live hq
  have livec : ∃ o, s1.heap.get? (L + 1) = some o := R1.live hcell
  have oS : Own c H S := .inl ⟨hscr, _, hS⟩
  have hbS : c.hB.get? S = none := by
    cases e : c.hB.get? S with
    | none => rfl
    | some o => have := R.own _ oS; rw [R.base _ _ e] at this; cases this
  have hSc : S ≠ cStatics := by
    rintro rfl
    obtain ⟨_, ⟨o, _, _, e, _⟩, _⟩ := R1.ok.top.nolimit
    have e' : c.hB.get? cStatics = some o := e
    rw [hbS] at e'; cases e'
  have hSf : S ∉ a :: C :: [I, q, L + 1, cStatics] := by
    intro mm
    simp only [List.mem_cons, List.not_mem_nil, or_false] at mm
    rcases mm with e | e | e | e | e | e
    · rw [← e, qS1] at fa; cases fa
    · rw [← e, qS1] at fC; cases fC
    · rw [← e, qS1] at fI; cases fI
    · exact hSq e
    · rw [e, hcell] at hS; cases hS
    · exact hSc e
  have live1 : ∀ {b : Addr} {o : Obj}, s1.heap.get? b = some o → b ≠ I ∧ b ≠ C ∧ b ≠ a := fun e => ⟨fun z => (by rw [z, fI] at e; cases e), fun z => (by rw [z, fC] at e; cases e), fun z => (by rw [z, fa] at e; cases e)⟩
  have haf : a ∉ [I, q, L + 1, cStatics] := by
    intro mm
    simp only [List.mem_cons, List.not_mem_nil, or_false] at mm
    rcases mm with e | e | e | e
    · exact naI e
    · obtain ⟨o, ho⟩ := liveq; exact (live1 ho).2.2 e.symm
    · obtain ⟨o, ho⟩ := livec; exact (live1 ho).2.2 e.symm
    · obtain ⟨_, ⟨o, _, _, e', _⟩, _⟩ := R1.ok.top.nolimit
      have : c.hB.get? cStatics = some o := e'
      exact (live1 (R1.keep _ _ (R1.base _ _ this))).2.2 e.symm
  have hcst : ∃ o, s1.heap.get? cStatics = some o := by
    obtain ⟨_, ⟨o, _, _, e', _⟩, _⟩ := R1.ok.top.nolimit
    have : c.hB.get? cStatics = some o := e'
    exact ⟨o, R1.keep _ _ (R1.base _ _ this)⟩
  obtain ⟨ocs, hocs⟩ := hcst
  have lw : items.length = ws.length := by rw [← hit]; simp
  have lx : vs1.length = xs.length := by rw [← hvs1]; simp
  refine call_extendD (items := items) (xs := vs1) (dv := dv) (c := m1) (dr := []) (S := S) hr.1 naC haf (by intro b hb; simp at hb ⊢; exact .inl hb) (by have := hr.2.1; show A.depth < 1000; omega) (by simp) (live1 hocs).2.1 (by simpa using (live1 hocs).1) hSf (by omega) G hS5 fun s' ts c' inv hS' => ?_
  refine ⟨rfl, ?_⟩
  -- our words again
  have tabl := R1.tabAt
  obtain ⟨ps, hps, _⟩ := tabl
  have nSCI : ∀ {b : Addr} {o : Obj}, b ≠ S → s1.heap.get? b = some o → b ∉ S :: C :: [I] := by
    intro b o h1 h2 mm
    simp only [List.mem_cons, List.not_mem_nil, or_false] at mm
    rcases mm with e | e | e
    · exact h1 e
    · exact (live1 h2).2.1 e
    · exact (live1 h2).1 e
  have nlive : ∀ p ∈ ts, ∀ (b : Addr) (o : Obj), s1.heap.get? b = some o → p.1 ≠ b := by
    intro p hp b o hb e
    obtain ⟨t1, t2, t3, t4⟩ := inv.tup p hp
    by_cases h1 : b = S
    · exact t2 (e.trans h1)
    · by_cases h2 : b = c.tab
      · obtain ⟨ps', hps', _⟩ := t5
        rw [h2] at hb e
        exact t4 _ _ (nSCI (Ne.symm St) hb) hps' e
      · exact t4 _ _ (nSCI h1 hb) (k5 _ _ h2 hb) e
  have R5 : Rep c F L (tdF P).names l (upd H S (.list (xs ++ ts.map fun p => .ref p.1))) s' := by
    refine R1.jump hS hscr (fun b h1 h2 o ho => inv.keep b o (nSCI h1 ho) (k5 b o h2 ho)) ?_ (inv.gens.bare hg) (inv.os.trans hos) ?_
    · obtain ⟨ps', hps', ht'⟩ := t5
      exact ⟨ps', inv.keep _ _ (nSCI (Ne.symm St) hps) hps', ht'⟩
    · exact .mkList (vs := vs1 ++ ts.map fun p => Value.ref p.1) (n := c') hS' (by rw [List.map_append, hvs1, List.map_map]; rfl)
  have side : ∀ p ∈ ts, (upd H S (.list (xs ++ ts.map fun p => .ref p.1))) p.1 = none ∧ ¬ Own c (upd H S (.list (xs ++ ts.map fun p => .ref p.1))) p.1 ∧ F p.1 = none ∧ L ≠ p.1 := by
    intro p hp
    have nl := nlive p hp
    refine ⟨?_, ?_, ?_, ?_⟩
    · rw [upd_other (inv.tup p hp).2.1]
      cases e : H p.1 with
      | none => rfl
      | some o => obtain ⟨O, hO⟩ := R1.live e; exact absurd rfl (nl _ _ hO)
    · rintro (⟨z1, o, z2⟩ | ⟨b, C', kvs, z2⟩)
      · rw [upd_other (inv.tup p hp).2.1] at z2
        obtain ⟨O, hO⟩ := R1.live z2; exact absurd rfl (nl _ _ hO)
      · by_cases hb : b = S
        · subst hb; rw [upd_same] at z2; cases z2
        · rw [upd_other hb] at z2
          obtain ⟨od, _, hd2, _⟩ := R1.objs _ _ z2
          exact absurd rfl (nl _ _ hd2)
    · cases e : F p.1 with
      | none => rfl
      | some o => exact absurd rfl (nl _ _ (R1.keep _ _ e))
    · intro e
      obtain ⟨mc, ⟨oL, _, _, hL, _⟩, _⟩ := R1.ns
      exact nl _ _ hL e.symm
  obtain ⟨H', R6, e6, g6⟩ := R5.addTups (.int d) ts inv.apart side (fun p hp => ⟨dv, hdv, (inv.tup p hp).1⟩)
  have hvals : (ts.map (·.2)).map av = ws := by rw [inv.vals, List.take_length, hit]
  refine h (ts.map (·.1)) H' s' ?_ (fun a o ha ho => e6 _ _ (by rw [upd_other ha]; exact ho)) ?_ ?_ R6
  · have := congrArg List.length hvals; simpa using this
  · have := e6 S _ (upd_same _ _ _)
    rw [this]; simp
  · intro i t w ht hw
    rw [List.getElem?_map] at ht
    obtain ⟨p, hp, rfl⟩ := Option.map_eq_some_iff.mp ht
    have := g6 p (List.mem_of_getElem? hp)
    rw [this]
    rw [← hvals, List.getElem?_map, List.getElem?_map, hp] at hw
    have hw' : av p.2 = w := by simpa using hw
    rw [hw']
end

def cElt : Expr := .Tuple [.Name "token" ⟨7, 14, 7, 19⟩, .Constant (.int 0) 0 ⟨7, 21, 7, 22⟩] 0 ⟨7, 13, 7, 23⟩
def cScope : Scope := { kind := .function, names := [(".0", .local), ("token", .local)], isGenerator := false, isCoroutine := false }
def cStmt : Stmt := .Assign [.Name "stack" ⟨7, 4, 7, 9⟩] (.ListComp cElt [⟨.Name "token" ⟨7, 28, 7, 33⟩, .Name "tokens" ⟨7, 37, 7, 43⟩, [], 0⟩] cScope ⟨7, 12, 7, 44⟩) ⟨7, 4, 7, 44⟩
def tupO2 (v w : Value) : Obj := { cls := .type "tuple", data := .seq #[v, w] }
section
variable {c : Cx} {A : Around} {F : Addr → Option Obj} {L : Addr} {names : List Str} {l : List AV} {H : AH} {s s' : Shared} {n : Nat}
theorem Rep.storeX {i : Nat} {x : Str} {v : Value} (R : Rep c F L names l H s) (hi : names[i]? = some x) (hnd : names.Nodup) {mc : Str → Option Value} (h2 : LocsAre names l mc)
    (hn : s'.heap.Ns L (fun y => if y = x then some v else mc y)) (k : ∀ b, b ≠ L → ∀ o, s.heap.get? b = some o → s'.heap.get? b = some o) (hg : s'.gens = s.gens) (hos : s'.os = s.os) :
    Rep c F L names (l.set i (av v)) H s' := by
  have nL : ∀ {b : Addr}, F b ≠ none → b ≠ L := by rintro b hb rfl; exact hb R.offF
  refine ⟨R.ok, fun b o h => k b (nL (by rw [h]; simp)) _ (R.keep _ _ h), R.base, ?_, R.own, R.inst, R.inj, by rw [hg]; exact R.gens, hos.trans R.os, ⟨_, hn, ?_⟩, R.offF, R.offO, R.above, R.tab⟩
  · intro a o h
    refine (R.objs _ _ h).keeps (fun O hO => k a (R.neL h) _ hO) fun C d kvs e O hO => k d ?_ _ hO
    subst e; rintro rfl; exact R.offO (.inr ⟨_, _, _, h⟩)
  · intro j y u hj hu hb
    by_cases q : j = i
    · subst q
      rw [hi] at hj; cases hj
      dsimp only
      rw [if_pos rfl]
      rw [List.getElem?_set] at hu
      simp only [if_true] at hu
      split at hu
      · cases hu; exact ⟨v, rfl, rfl⟩
      · cases hu
    · have hy : y ≠ x := by
        rintro rfl
        obtain ⟨q1, q2⟩ := List.getElem?_eq_some_iff.mp hj
        obtain ⟨q3, q4⟩ := List.getElem?_eq_some_iff.mp hi
        exact q ((List.getElem_inj hnd).mp (q2.trans q4.symm))
      dsimp only
      rw [if_neg hy]
      rw [List.getElem?_set_ne (Ne.symm q)] at hu
      exact h2 _ _ _ hj hu hb
end
section
variable {prog : Program} {w : World} {A : Around}
theorem comp_rest {h₀ : Heap} {L : Addr} {m : Str → Option Value} {env : Env} {cl : List (Str × Addr)} {s : Shared} {ax : Addr} {its : List Value} {base : List (Addr × Obj)} {Fin : List Value → List (Addr × Obj) → Prop}
    (hS : LCg.SrcAt h₀ ax its.toArray base)
    (hF : ∀ (ts : List (Addr × Value)) (news : List (Addr × Obj)), ts.map (·.2) = its → ts.Pairwise (fun p q => p.1 ≠ q.1) → (∀ p ∈ ts, ∃ t, (p.1, tupO2 p.2 (.int 0 t)) ∈ news) → (∀ q ∈ base, q ∈ news) → (∀ p ∈ ts, ∀ q ∈ base, p.1 ≠ q.1) → Fin (ts.map fun p => .ref p.1) news) :
    ∀ (k i : Nat) (ts : List (Addr × Value)) (news : List (Addr × Obj)), i + k = its.length → ts.map (·.2) = its.take i → ts.Pairwise (fun p q => p.1 ≠ q.1) → (∀ p ∈ ts, ∃ t, (p.1, tupO2 p.2 (.int 0 t)) ∈ news) → (∀ q ∈ base, q ∈ news) → (∀ p ∈ ts, ∀ q ∈ base, p.1 ≠ q.1) →
      LCg.CompRest prog w A h₀ L m env cElt "token" cScope cl s (LCg.SrcAt h₀ ax its.toArray) (fun i v => its.toArray[i]? = some v) Fin k i (ts.map fun p => .ref p.1) news := by
  intro k
  induction k with
  | zero =>
    intro i ts news hi hv ha h1 h2 h3
    refine LCg.CompRest.zero (hF ts news ?_ ha h1 h2 h3)
    rw [hv, List.take_of_length_le (by omega)]
  | succ k ih =>
    intro i ts news hi hv ha h1 h2 h3
    refine LCg.CompRest.succ fun v I oI C oC D m₂ h tk E' hP hC hx F N off ne => ?_
    refine Tuple_ (elts := [.Name "token" ⟨7, 14, 7, 19⟩, .Constant (.int 0) 0 ⟨7, 21, 7, 22⟩]) (k := 0) (pos := ⟨7, 13, 7, 23⟩) ?_
    show wpAny _ A (spliced [(false, eval (.Name "token" ⟨7, 14, 7, 19⟩) _), (false, eval (.Constant (.int 0) 0 ⟨7, 21, 7, 22⟩) _)]) _ _ _
    refine Calls.spliced_cons (LCgL.ld_own (C := C) N (by simp) hC hx ?_)
    refine Calls.spliced_cons (wpAny_Constant_int ?_)
    refine Calls.spliced_nil ?_
    refine wpAny_newTuple ?_ (by rw [sizeLine_eq]; exact Nat.le_of_ble_eq_true rfl)
    have F' := F.push (tupO2 v (.int 0 tk))
    have N' := N.push F (tupO2 v (.int 0 tk))
    have fr : ∀ q ∈ (I, oI) :: (C, oC) :: (D, LCg.lst (ts.map fun p => Value.ref p.1)) :: news, h.objs.size ≠ q.1 := fun q hq e => by
      have := (N q hq).1; rw [← e, size_none] at this; cases this
    refine LCg.CompEnd.intro (s₁ := { s with heap := h, toks := tk }) F' N' ((h.objs.size, tupO2 v (.int 0 tk)) :: news) (fun p hp => ?_) ?_ ?_ ?_
    · simp only [List.mem_cons] at hp ⊢; rcases hp with e | e | e | e | e <;> simp [e]
    · refine LCg.Off3.of fun p hp => ?_
      rcases List.mem_cons.mp hp with rfl | hp
      · exact ⟨fr (I, oI) (by simp), fr (C, oC) (by simp), fr (D, LCg.lst (ts.map fun p => Value.ref p.1)) (by simp)⟩
      · exact off.mem p hp
    · rcases hS with q | ⟨o, q1, q2⟩
      · exact .inl q
      · exact .inr ⟨o, List.mem_cons_of_mem _ (h2 _ q1), q2⟩
    · have hlt : its[i]? = some v := by simpa using hP
      have := ih (i + 1) (ts ++ [(h.objs.size, v)]) ((h.objs.size, tupO2 v (.int 0 tk)) :: news) (by omega) ?_ ?_ ?_ (fun q hq => List.mem_cons_of_mem _ (h2 q hq)) ?_
      · rw [List.map_append] at this; exact this
      · rw [List.map_append, hv, List.take_add_one, hlt]; rfl
      · refine List.pairwise_append.mpr ⟨ha, List.pairwise_singleton _ _, fun p hp q hq => ?_⟩
        rw [List.mem_singleton] at hq; subst hq
        obtain ⟨t, ht⟩ := h1 p hp
        exact (fr _ (by simp only [List.mem_cons]; exact .inr (.inr (.inr ht)))).symm
      · intro p hp
        rcases List.mem_append.mp hp with hp | hp
        · obtain ⟨t, ht⟩ := h1 p hp; exact ⟨t, List.mem_cons_of_mem _ ht⟩
        · rw [List.mem_singleton] at hp; subst hp; exact ⟨tk, List.mem_cons_self ..⟩
      · intro p hp q hq
        rcases List.mem_append.mp hp with hp | hp
        · exact h3 p hp q hq
        · rw [List.mem_singleton] at hp; subst hp
          exact fr _ (by simp only [List.mem_cons]; exact .inr (.inr (.inr (h2 q hq))))
end

section
variable {c : Cx} {P : Params} {A : Around} {F : Addr → Option Obj} {L : Addr} {l : List AV} {H : AH} {s : Shared} {n : Nat}
theorem comp_run (hr : Room A n) (R : Rep c F L (tdF P).names l H s) {k : Addr} {ws : List AV} (h0 : l[0]? = some (.ref k)) (hk : H k = some (.list ws)) (hz : ws.length ≤ 1000) (hks : k ≠ c.scr) {Q : Shared → Prop}
    (h : ∀ (D : Addr) (ts : List Addr) (H' : AH) (s' : Shared), ts.length = ws.length → H D = none → D ≠ c.scr → ExtH H H' → H' D = some (.list (ts.map .ref)) → (∀ (i : Nat) (t : Addr) (w : AV), ts[i]? = some t → ws[i]? = some w → H' t = some (.tup [w, .int 0])) → Rep c F L (tdF P).names (l.set 2 (.ref D)) H' s' → Q s') :
    wpAny (model c.prog c.w) A (exec cStmt ((tdF P).env L)) (fun fl s' => fl = .next ∧ Q s') NoE s := by
  have hf := ok_td (P := P)
  obtain ⟨mc, F0, hlocs⟩ := R.fr
  unfold cStmt
  refine LCg.Assign_ListComp_U (L := L) (cl := []) F0 rfl rfl (by rfl) (by decide) rfl (by decide) rfl (by show (tdF P).sc.names.lookup ("stack" : Str) = some .local; kernel_rfl) (nocls hf) ?_ (fun x => rfl)
  refine var_read hf (x := 0) (by kernel_rfl) R h0 (by simp) fun u hu => ?_
  rw [av_ref hu]
  obtain ⟨vs, m, hkm, hvs⟩ := plainAt R hk hks
  have base : News c.hB L s.heap (liveNews c.hB s.heap L) := by rintro ⟨a, o⟩ hp; exact mem_liveNews.mp hp
  have hkL : k ≠ L := R.neL hk
  have hkB : c.hB.get? k = none := by
    cases e : c.hB.get? k with
    | none => rfl
    | some o => have := R.own _ (.inl ⟨hks, _, hk⟩); rw [R.base _ _ e] at this; cases this
  have hS : LCg.SrcAt c.hB k vs.toArray (liveNews c.hB s.heap L) := .inr ⟨_, mem_liveNews.mpr ⟨hkm, hkL, hkB⟩, rfl, _, rfl⟩
  have lw : vs.length = ws.length := by rw [← hvs]; simp
  refine .inl ⟨k, vs.toArray, _, rfl, hr.1, F0, base, hS, by rw [sizeLine_eq]; simp; omega, fun s₂ hs₂ => ?_⟩
  obtain ⟨g, rfl⟩ := hs₂
  refine comp_rest (its := vs) hS ?_ vs.length 0 [] _ (Nat.zero_add _) rfl .nil (fun p hp => by cases hp) (fun q hq => hq) (fun p hp => by cases hp)
  intro ts news hv ha h1 h2 h3 D h' tk F' N' o1
  have off : ∀ p ∈ news, p.1 ≠ D := by
    have : ∀ {nn : List (Addr × Obj)}, LCg.Off1 D nn → ∀ p ∈ nn, p.1 ≠ D := by
      intro nn
      induction nn with
      | nil => intro _ p hp; cases hp
      | cons a r ih =>
        intro z p hp
        rcases List.mem_cons.mp hp with rfl | hp
        · exact z.1
        · exact ih z.2 p hp
    exact this o1
  have keep : ∀ b, b ≠ L → ∀ o, s.heap.get? b = some o → h'.get? b = some o := by
    intro b hb o ho
    cases q : c.hB.get? b with
    | none => exact (N' _ (List.mem_cons_of_mem _ (h2 _ (mem_liveNews.mpr ⟨ho, hb, q⟩)))).1
    | some x =>
      have e1 := F0.keep _ _ q
      rw [ho] at e1; cases e1
      exact F'.keep _ _ q
  have R1 : Rep c F L (tdF P).names (l.set 2 (.ref D)) H { s with heap := h', toks := tk } :=
    R.storeX (s' := { s with heap := h', toks := tk }) (v := .ref D) (x := "stack") (by kernel_rfl) hf.nodup hlocs F'.ns keep rfl rfl
  obtain ⟨hD1, hD2, hD3⟩ := N' _ (List.mem_cons_self ..)
  have nlive : ∀ {a : Addr}, a ≠ L → c.hB.get? a = none → (∀ q ∈ liveNews c.hB s.heap L, a ≠ q.1) → s.heap.get? a = none := by
    intro a h1 h2 h3
    cases e : s.heap.get? a with
    | none => rfl
    | some o => exact absurd rfl (h3 _ (mem_liveNews.mpr ⟨e, h1, h2⟩))
  have fD : s.heap.get? D = none := nlive hD2 hD3 fun q hq => (off _ (h2 _ hq)).symm
  have R2 := R1.add (o := .list (ts.map fun p => .ref p.1)) (R.fresh fD) (R.freshD fD) (R.freshF fD) (R.freshL fD)
    (.mkList (vs := ts.map fun p => Value.ref p.1) (n := (ts.map fun p => Value.ref p.1).length) hD1 (by rw [List.map_map]; rfl)) (by intro C d kvs e; cases e)
  have ft : ∀ p ∈ ts, s.heap.get? p.1 = none ∧ p.1 ≠ D := by
    intro p hp
    obtain ⟨t, ht⟩ := h1 p hp
    obtain ⟨q1, q2, q3⟩ := N' _ (List.mem_cons_of_mem _ ht)
    exact ⟨nlive q2 q3 (h3 p hp), off _ ht⟩
  have side : ∀ p ∈ ts, (upd H D (.list (ts.map fun p => .ref p.1))) p.1 = none ∧ ¬ Own c (upd H D (.list (ts.map fun p => .ref p.1))) p.1 ∧ F p.1 = none ∧ L ≠ p.1 := by
    intro p hp
    obtain ⟨q1, q2⟩ := ft p hp
    refine ⟨by rw [upd_other q2]; exact R.fresh q1, ?_, R.freshF q1, R.freshL q1⟩
    rintro (⟨z1, o, z2⟩ | ⟨b, C', kvs, z2⟩)
    · rw [upd_other q2, R.fresh q1] at z2; cases z2
    · by_cases hb : b = D
      · subst hb; rw [upd_same] at z2; cases z2
      · rw [upd_other hb] at z2; exact R.freshD q1 (.inr ⟨_, _, _, z2⟩)
  have tups : ∀ p ∈ ts, ∃ dv, av dv = .int 0 ∧ ({ s with heap := h', toks := tk } : Shared).heap.IsTuple p.1 #[p.2, dv] := by
    intro p hp
    obtain ⟨t, ht⟩ := h1 p hp
    exact ⟨.int 0 t, rfl, ⟨_, (N' _ (List.mem_cons_of_mem _ ht)).1, rfl, _, rfl⟩⟩
  obtain ⟨H', R6, e6, g6⟩ := R2.addTups (.int 0) ts ha side tups
  have hvals : (ts.map (·.2)).map av = ws := by rw [hv, hvs]
  refine ⟨rfl, h D (ts.map (·.1)) H' _ ?_ (R.fresh fD) (R.freshS fD) ((ExtH.new (R.fresh fD)).trans e6) ?_ ?_ R6⟩
  · have := congrArg List.length hvals; simpa using this
  · have := e6 D _ (upd_same _ _ _)
    rw [this]; simp
  · intro i t w ht hw
    rw [List.getElem?_map] at ht
    obtain ⟨p, hp, rfl⟩ := Option.map_eq_some_iff.mp ht
    have := g6 p (List.mem_of_getElem? hp)
    rw [this]
    rw [← hvals, List.getElem?_map, List.getElem?_map, hp] at hw
    have hw' : av p.2 = w := by simpa using hw
    rw [hw']
end

def pStmt : Stmt := .Assign [.Tuple [.Name "token" ⟨9, 8, 9, 13⟩, .Name "depth" ⟨9, 15, 9, 20⟩] 0 ⟨9, 8, 9, 20⟩] (.Call (.Attribute (.Name "stack" ⟨9, 23, 9, 28⟩) "pop" ⟨9, 23, 9, 32⟩) [] [] ⟨9, 23, 9, 34⟩) ⟨9, 8, 9, 34⟩
def aStmt : Stmt := .AugAssign (.Name "depth" ⟨11, 12, 11, 17⟩) .Add (.Constant (.int 1) 0 ⟨11, 21, 11, 22⟩) ⟨11, 12, 11, 22⟩
def mStmt : Stmt := .Assign [.Name "maximum" ⟨12, 12, 12, 19⟩] (.Call (.Name "max" ⟨12, 22, 12, 25⟩) [.Name "maximum" ⟨12, 26, 12, 33⟩, .Name "depth" ⟨12, 35, 12, 40⟩] [] ⟨12, 22, 12, 41⟩) ⟨12, 12, 12, 41⟩
def iTest : Expr := .Compare (.Constant (.str "children") 0 ⟨10, 11, 10, 21⟩) [.In] [.Name "token" ⟨10, 25, 10, 30⟩] ⟨10, 11, 10, 30⟩
def wStmt : Stmt := .While (.Name "stack" ⟨8, 10, 8, 15⟩) [pStmt, .If iTest [aStmt, mStmt, gExt] [] ⟨10, 8, 13, 73⟩] [] ⟨8, 4, 13, 73⟩
def rStmt : Stmt := .Return (some (.Name "maximum" ⟨14, 11, 14, 18⟩)) ⟨14, 4, 14, 18⟩
def zStmt : Stmt := .Assign [.Name "maximum" ⟨6, 4, 6, 11⟩] (.Constant (.int 0) 0 ⟨6, 14, 6, 15⟩) ⟨6, 4, 6, 15⟩
theorem td_body {P : Params} : bodyAt (hd.heap_39 P) 26 = [zStmt, cStmt, wStmt, rStmt] := by kernel_rfl
section
variable {c : Cx} {P : Params} {A : Around} {F : Addr → Option Obj} {L : Addr} {l : List AV} {H : AH} {s : Shared} {n : Nat}
theorem pop_run (hr : Room A n) (R : Rep c F L (tdF P).names l H s) {S t : Addr} {xs : List AV} {w : AV} {d : Int} {v0 : Option AV} (h2 : l[2]? = some (.ref S)) (hS : H S = some (.list (xs ++ [.ref t]))) (hscr : S ≠ c.scr) (hz : xs.length ≤ 1000) (ht : H t = some (.tup [w, .int d]))
    (hcell : H (L + 1) = some (.cell v0)) (hcs : L + 1 ≠ c.scr) {Q : Shared → Prop} (h : ∀ s', Rep c F L (tdF P).names (l.set 3 w) (upd (upd H S (.list xs)) (L + 1) (.cell (some (.int d)))) s' → Q s') :
    wpAny (model c.prog c.w) A (exec pStmt ((tdF P).env L)) (fun fl s' => fl = .next ∧ Q s') NoE s := by
  have hf := ok_td (P := P)
  have tS : t ≠ S := by rintro rfl; rw [hS] at ht; cases ht
  have cS : L + 1 ≠ S := by intro e; rw [e, hS] at hcell; cases hcell
  have hp : SndE c (tdF P) (.Call (.Attribute (.Name "stack" ⟨9, 23, 9, 28⟩) "pop" ⟨9, 23, 9, 32⟩) [] [] ⟨9, 23, 9, 34⟩) (.pop 2) := pop_e hf (by kernel_rfl) rfl
  unfold pStmt
  refine Assign_Tuple (wpNo (hp.run n A F L l H s (fun v H' => v = .ref t ∧ H' = upd H S (.list xs)) hr ?_ R) ?_) rfl rfl
  · simp only [wE, h2, Ok_some, listAt_ref hS]
    refine ⟨by simp, hscr, by simp; omega, ?_⟩
    simp [Ok_some]
  rintro v s1 ⟨H1, R1, hv, rfl⟩
  rw [av_ref hv]
  have ht1 : (upd H S (.list xs)) t = some (.tup [w, .int d]) := by rw [upd_other tS]; exact ht
  have hc1 : (upd H S (.list xs)) (L + 1) = some (.cell v0) := by rw [upd_other cS]; exact hcell
  obtain ⟨vs, hT, hvs⟩ := R1.objs _ _ ht1
  obtain ⟨a, b, rfl, ha, hb⟩ : ∃ a b, vs = [a, b] ∧ av a = w ∧ av b = .int d := by
    cases vs with
    | nil => simp at hvs
    | cons a r =>
      cases r with
      | nil => simp at hvs
      | cons b r =>
        cases r with
        | nil => simp at hvs; exact ⟨a, b, rfl, hvs.1, hvs.2⟩
        | cons _ _ => simp at hvs
  refine wpAny_assign_Tuple hr.1 hT rfl rfl fun h' hext => ?_
  have R2 := R1.ext (s' := { s1 with heap := h' }) ⟨fun b o hb => hext b o (Nat.ne_of_lt (Heap.lt_size hb)) hb, rfl, rfl⟩
  show wpAny _ A (assignInOrder [assign (.Name "token" ⟨9, 8, 9, 13⟩) ((tdF P).env L), assign (.Name "depth" ⟨9, 15, 9, 20⟩) ((tdF P).env L)] [a, b]) _ _ _
  refine assignInOrder_cons (wpAny_assign_Name (store_run hf (x := 3) (by kernel_rfl) R2 fun s3 R3 => ?_))
  refine assignInOrder_cons (wpAny_assign_Name ?_)
  refine wpNo (cell_store (Q := Q) R3 hc1 hcs fun s4 R4 => ?_) fun _ s4 hq => assignInOrder_nil ⟨rfl, hq⟩
  rw [ha, hb] at R4; exact h s4 R4
theorem aug_run (hr : Room A n) (R : Rep c F L (tdF P).names l H s) {d : Int} (hcell : H (L + 1) = some (.cell (some (.int d)))) (hcs : L + 1 ≠ c.scr) {Q : Shared → Prop} (h : ∀ s', Rep c F L (tdF P).names l (upd H (L + 1) (.cell (some (.int (d + 1))))) s' → Q s') :
    wpAny (model c.prog c.w) A (exec aStmt ((tdF P).env L)) (fun fl s' => fl = .next ∧ Q s') NoE s := by
  unfold aStmt
  refine wpAny_AugAssign_Name (cell_ld R hcell fun u hu => ?_)
  refine wpAny_Constant_int ?_
  have R1 := R.tk (s.toks + 1)
  refine aug_sound (Q := fun r => r = .int (d + 1)) (by rw [hu]; simp [wAug, av]) R1 fun r s' hr' R' => ?_
  refine wpNo (cell_store R' hcell hcs (Q := Q) fun s'' R'' => ?_) fun _ _ hq => ⟨rfl, hq⟩
  rw [hr'] at R''; exact h _ R''
theorem max_run (hK : c.K = hd.heap_39 P) (hr : Room A n) (R : Rep c F L (tdF P).names l H s) {m d : Int} (h1 : l[1]? = some (.int m)) (hcell : H (L + 1) = some (.cell (some (.int d)))) {Q : Shared → Prop} (h : ∀ s', Rep c F L (tdF P).names (l.set 1 (.int (max m d))) H s' → Q s') :
    wpAny (model c.prog c.w) A (exec mStmt ((tdF P).env L)) (fun fl s' => fl = .next ∧ Q s') NoE s := by
  have hf := ok_td (P := P)
  unfold mStmt
  refine wpAny_Assign_Name ?_ rfl
  rw [eval_CallName]
  refine wpAny_bind (boot_read hf (y := "max") (v := .builtin "max") (by show (tdF P).sc.names.lookup ("max" : Str) = some .globalImplicit; kernel_rfl) (by decide) (ns_max hK) (by kernel_rfl) (by decide) R ?_)
  have es : backTo ⟨12, 22, 12, 41⟩ (starEach [.Name "maximum" ⟨12, 26, 12, 33⟩, .Name "depth" ⟨12, 35, 12, 40⟩] ((tdF P).env L)) = [(false, eval (.Name "maximum" ⟨12, 26, 12, 33⟩) ((tdF P).env L)), (false, eval (.Name "depth" ⟨12, 35, 12, 40⟩) ((tdF P).env L))] := rfl
  have ek : backToKw ⟨12, 22, 12, 41⟩ (keywordEach [] ((tdF P).env L)) = [] := rfl
  rw [es, ek]
  refine Calls.callWith_builtin rfl (Calls.evalArgs_plain (Calls.spliced_cons (var_read hf (x := 1) (by kernel_rfl) R h1 (by simp) fun u hu => ?_)))
  refine Calls.spliced_cons (cell_read R hcell fun v hv => ?_)
  refine Calls.spliced_nil ?_
  obtain ⟨t, rfl⟩ := av_int hu
  obtain ⟨t', rfl⟩ := av_int hv
  refine max_two_ints hr.1 fun h' tk hk => ?_
  have R1 := R.ext (s' := { s with heap := h', toks := tk }) ⟨hk, rfl, rfl⟩
  refine store_run hf (x := 1) (by kernel_rfl) R1 fun s' R' => ⟨rfl, h s' ?_⟩
  have : av (if d > m then Value.int d t' else Value.int m t) = .int (max m d) := by
    split
    · rw [Int.max_eq_right (by omega)]; rfl
    · rw [Int.max_eq_left (by omega)]; rfl
  rw [this] at R'; exact R'
end

structure Ent where
  t : T
  w : AV
  d : Nat
  a : Addr
def topD : List Ent → Nat
  | [] => 0
  | e :: r => max (e.d + e.t.deep) (topD r)
def sizS : List Ent → Nat
  | [] => 0
  | e :: r => e.t.size + sizS r
theorem topD_append : ∀ (x y : List Ent), topD (x ++ y) = max (topD x) (topD y)
  | [], y => by simp [topD]
  | e :: x, y => by simp only [List.cons_append, topD, topD_append x y]; omega
theorem sizS_append : ∀ (x y : List Ent), sizS (x ++ y) = sizS x + sizS y
  | [], y => by simp [sizS]
  | e :: x, y => by simp only [List.cons_append, sizS, sizS_append x y]; omega
theorem sizS_len : ∀ x : List Ent, x.length ≤ sizS x
  | [] => Nat.le_refl _
  | e :: x => by have := sizS_len x; have := e.t.size_pos; simp [sizS]; omega
def mkE (d : Nat) : List T → List AV → List Addr → List Ent
  | t :: ts, w :: ws, a :: as => ⟨t, w, d, a⟩ :: mkE d ts ws as
  | _, _, _ => []
theorem mkE_a {d : Nat} : ∀ {ts : List T} {ws : List AV} {as : List Addr}, ts.length = ws.length → as.length = ws.length → (mkE d ts ws as).map (·.a) = as
  | [], [], [], _, _ => rfl
  | t :: ts, w :: ws, a :: as, h1, h2 => by
    simp only [mkE, List.map_cons]
    rw [mkE_a (by simpa using h1) (by simpa using h2)]
  | [], _ :: _, _, h1, _ => by simp at h1
  | _ :: _, [], _, h1, _ => by simp at h1
  | [], [], _ :: _, _, h2 => by simp at h2
  | _ :: _, _ :: _, [], _, h2 => by simp at h2
theorem mkE_top {d : Nat} : ∀ {ts : List T} {ws : List AV} {as : List Addr}, ts.length = ws.length → as.length = ws.length → max d (topD (mkE d ts ws as)) = d + deepL ts
  | [], [], [], _, _ => by simp [mkE, topD, deepL]
  | t :: ts, w :: ws, a :: as, h1, h2 => by
    have := mkE_top (d := d) (ts := ts) (ws := ws) (as := as) (by simpa using h1) (by simpa using h2)
    simp only [mkE, topD, deepL]; omega
  | [], _ :: _, _, h1, _ => by simp at h1
  | _ :: _, [], _, h1, _ => by simp at h1
  | [], [], _ :: _, _, h2 => by simp at h2
  | _ :: _, _ :: _, [], _, h2 => by simp at h2
theorem mkE_siz {d : Nat} : ∀ {ts : List T} {ws : List AV} {as : List Addr}, ts.length = ws.length → as.length = ws.length → sizS (mkE d ts ws as) = sizeL ts
  | [], [], [], _, _ => rfl
  | t :: ts, w :: ws, a :: as, h1, h2 => by
    simp only [mkE, sizS, sizeL]
    rw [mkE_siz (by simpa using h1) (by simpa using h2)]
  | [], _ :: _, _, h1, _ => by simp at h1
  | _ :: _, [], _, h1, _ => by simp at h1
  | [], [], _ :: _, _, h2 => by simp at h2
  | _ :: _, _ :: _, [], _, h2 => by simp at h2
theorem mkE_mem {d : Nat} {e : Ent} : ∀ {ts : List T} {ws : List AV} {as : List Addr}, e ∈ mkE d ts ws as → e.d = d ∧ ∃ i : Nat, ts[i]? = some e.t ∧ ws[i]? = some e.w ∧ as[i]? = some e.a
  | t :: ts, w :: ws, a :: as, h => by
    simp only [mkE] at h
    rcases List.mem_cons.mp h with rfl | h
    · exact ⟨rfl, 0, rfl, rfl, rfl⟩
    · obtain ⟨h1, i, h2, h3, h4⟩ := mkE_mem h
      exact ⟨h1, i + 1, h2, h3, h4⟩
  | [], _, _, h => by simp [mkE] at h
  | _ :: _, [], _, h => by simp [mkE] at h
  | _ :: _, _ :: _, [], h => by simp [mkE] at h
structure TdI (c : Cx) (P : Params) (F : Addr → Option Obj) (L : Addr) (Hc H : AH) (k S : Addr) (mx D : Nat) (tokv : AV) (st : List Ent) (s : Shared) : Prop where
  R : Rep c F L (tdF P).names [.ref k, .int mx, .ref S, tokv] H s
  sl : H S = some (.list (st.map fun e => .ref e.a))
  scr : S ≠ c.scr
  ent : ∀ e ∈ st, H e.a = some (.tup [e.w, .int e.d]) ∧ IsT Hc e.t e.w ∧ e.d ≤ mx
  cell : ∃ v, H (L + 1) = some (.cell v)
  ext : ExtH Hc H
  new : Hc S = none ∧ Hc (L + 1) = none
  top : max mx (topD st) = D
section
variable {c : Cx} {P : Params} {A : Around} {F : Addr → Option Obj} {L : Addr} {l : List AV} {Hc H : AH} {s : Shared} {n : Nat}
theorem td_step (hK : c.K = hd.heap_39 P) (htab : c.tab = 23) (hr : Room A n) {k S : Addr} {mx D : Nat} {tokv : AV} {st : List Ent} {e : Ent} (I : TdI c P F L Hc H k S mx D tokv (st ++ [e]) s) (hz : sizS (st ++ [e]) ≤ 300) (hcs : L + 1 ≠ c.scr) :
    wpAny (model c.prog c.w) A (execs [pStmt, .If iTest [aStmt, mStmt, gExt] [] ⟨10, 8, 13, 73⟩] ((tdF P).env L)) (fun fl s' => fl = .next ∧ ∃ H' mx' tokv' st', TdI c P F L Hc H' k S mx' D tokv' st' s' ∧ sizS st' < sizS (st ++ [e])) NoE s := by
  have hf := ok_td (P := P)
  obtain ⟨R, hS, hscr, hent, ⟨v0, hcell⟩, hext, ⟨n1, n2⟩, htop⟩ := I
  have he := hent e (by simp)
  obtain ⟨e1, e2, e3⟩ := he
  have len := sizS_len (st ++ [e])
  rw [List.length_append, List.length_singleton] at len
  have hS' : H S = some (.list ((st.map fun e => AV.ref e.a) ++ [.ref e.a])) := by rw [hS]; simp
  have cS : L + 1 ≠ S := by intro z; rw [z, hS] at hcell; cases hcell
  refine wpAny_execs_cons (wpNo (pop_run (Q := fun s1 => Rep c F L (tdF P).names [.ref k, .int mx, .ref S, e.w] (upd (upd H S (.list (st.map fun e => .ref e.a))) (L + 1) (.cell (some (.int e.d)))) s1) hr R rfl hS' hscr (by simp; omega) e1 hcell hcs fun s1 R1 => R1) ?_)
  rintro fl s1 ⟨rfl, R1⟩
  have keep1 : ∀ a o, a ≠ S → a ≠ L + 1 → H a = some o → (upd (upd H S (.list (st.map fun e => .ref e.a))) (L + 1) (.cell (some (.int e.d)))) a = some o := by
    intro a o h1 h2 h; rw [upd_other h2, upd_other h1]; exact h
  have hc1 : (upd (upd H S (.list (st.map fun e => .ref e.a))) (L + 1) (.cell (some (.int e.d)))) (L + 1) = some (.cell (some (.int e.d))) := upd_same _ _ _
  have hS1 : (upd (upd H S (.list (st.map fun e => .ref e.a))) (L + 1) (.cell (some (.int e.d)))) S = some (.list (st.map fun e => .ref e.a)) := by rw [upd_other cS.symm]; exact upd_same _ _ _
  have ext1 : ExtH Hc (upd (upd H S (.list (st.map fun e => .ref e.a))) (L + 1) (.cell (some (.int e.d)))) := by
    intro a o h
    exact keep1 a o (by rintro rfl; rw [n1] at h; cases h) (by intro z; rw [z, n2] at h; cases h) (hext _ _ h)
  have ent1 : ∀ x ∈ st, (upd (upd H S (.list (st.map fun e => .ref e.a))) (L + 1) (.cell (some (.int e.d)))) x.a = some (.tup [x.w, .int x.d]) ∧ IsT Hc x.t x.w ∧ x.d ≤ mx := by
    intro x hx
    obtain ⟨q1, q2, q3⟩ := hent x (by simp [hx])
    exact ⟨keep1 _ _ (neK q1 hS rfl) (neK q1 hcell rfl) q1, q2, q3⟩
  generalize upd (upd H S (.list (st.map fun e => .ref e.a))) (L + 1) (.cell (some (.int e.d))) = H1 at *
  rw [topD_append] at htop
  rw [sizS_append]
  simp only [topD, sizS, Nat.max_zero, Nat.add_zero] at htop ⊢
  have hpos := e.t.size_pos
  have hT : SndT c (tdF P) iTest (.hasKey 2 (.var 3)) := hasKey_kt (by decide) (var_sound hf (by kernel_rfl)) rfl (by kernel_rfl)
  refine wpAny_execs_cons (wpAny_If (wpNo (hT.run n A F L [.ref k, .int mx, .ref S, e.w] H1 s1 (fun b H' => H' = H1 ∧ match e.t with | .text _ => b = false | .node .. => b = true) hr ?_ R1) ?_))
  · cases et : e.t with
    | text raw =>
      rw [et] at e2
      obtain ⟨a, ea, ha⟩ := e2
      rw [ea]
      simp only [wT, wE, List.getElem?_cons_zero, List.getElem?_cons_succ, Ok_some, dictAt_ref (ext1 _ _ ha)]
      refine ⟨by simp, trivial, rfl⟩
    | node ty ks at' =>
      rw [et] at e2
      obtain ⟨_, a, kk, vs, ea, ha, _⟩ := e2
      rw [ea]
      have : ∃ kvs, H1 a = some (.dict kvs) ∧ kvs.lookup 2 = some (.ref kk) := by cases at' <;> exact ⟨_, ext1 _ _ ha, rfl⟩
      obtain ⟨kvs, hkv, hlk⟩ := this
      simp only [wT, wE, List.getElem?_cons_zero, List.getElem?_cons_succ, Ok_some, dictAt_ref hkv, hlk]
      refine ⟨by simp, trivial, rfl⟩
  rintro b s2 ⟨H2, R2, rfl, hb⟩
  cases et : e.t with
  | text raw =>
    rw [et] at hb
    have hb' : b = false := hb
    subst hb'
    refine wpAny_execs_nil (wpAny_execs_nil ⟨rfl, H2, mx, e.w, st, ⟨R2, hS1, hscr, ent1, ⟨_, hc1⟩, ext1, ⟨n1, n2⟩, ?_⟩, by simp [T.size]⟩)
    rw [et] at htop
    simp only [T.deep] at htop; omega
  | node ty ks at' =>
    rw [et] at hb e2
    have hb' : b = true := hb
    subst hb'
    obtain ⟨_, tk, kk, vs, ea, ha, hkk, hks⟩ := e2
    have hl := IsL.of hks
    have hvl := hl.length
    have hsz : sizeL ks.toL ≤ 300 := by
      have := hz
      rw [sizS_append] at this
      simp only [sizS, et, T.size] at this
      rw [Ts.size_toL]; omega
    have hlen := sizeL_len ks.toL
    rw [ea] at R2
    have skk : S ≠ kk := by rintro rfl; rw [n1] at hkk; cases hkk
    have ckk : kk ≠ L + 1 := by intro z; rw [z, n2] at hkk; cases hkk
    have ctk : tk ≠ L + 1 := by intro z; rw [z, n2] at ha; cases ha
    refine wpAny_execs_cons (wpNo (aug_run (Q := fun s3 => Rep c F L (tdF P).names [.ref k, .int mx, .ref S, .ref tk] (upd H2 (L + 1) (.cell (some (.int (e.d + 1 : Nat))))) s3) hr R2 hc1 hcs fun s3 R3 => R3) ?_)
    rintro fl s3 ⟨rfl, R3⟩
    have hc3 : (upd H2 (L + 1) (.cell (some (.int (e.d + 1 : Nat))))) (L + 1) = some (.cell (some (.int (e.d + 1 : Nat)))) := upd_same _ _ _
    have keep3 : ∀ a o, a ≠ L + 1 → H2 a = some o → (upd H2 (L + 1) (.cell (some (.int (e.d + 1 : Nat))))) a = some o := fun a o h1 h => by rw [upd_other h1]; exact h
    have hS3 := keep3 _ _ cS.symm hS1
    have ext3 : ExtH Hc (upd H2 (L + 1) (.cell (some (.int (e.d + 1 : Nat))))) := fun a o h => keep3 a o (by intro z; rw [z, n2] at h; cases h) (ext1 _ _ h)
    have ent3 : ∀ x ∈ st, (upd H2 (L + 1) (.cell (some (.int (e.d + 1 : Nat))))) x.a = some (.tup [x.w, .int x.d]) ∧ IsT Hc x.t x.w ∧ x.d ≤ mx := by
      intro x hx
      obtain ⟨q1, q2, q3⟩ := ent1 x hx
      exact ⟨keep3 _ _ (neK q1 hc1 rfl) q1, q2, q3⟩
    generalize upd H2 (L + 1) (.cell (some (.int (e.d + 1 : Nat)))) = H3 at *
    refine wpAny_execs_cons (wpNo (max_run (Q := fun s4 => Rep c F L (tdF P).names [.ref k, .int (max mx (e.d + 1) : Nat), .ref S, .ref tk] H3 s4) hK hr R3 rfl hc3 fun s4 R4 => ?_) ?_)
    · have : (AV.int (max (mx : Int) ((e.d + 1 : Nat) : Int))) = .int ((max mx (e.d + 1) : Nat) : Int) := by congr 1; omega
      rw [this] at R4; exact R4
    rintro fl s4 ⟨rfl, R4⟩
    have hkey : getK H3 (.ref tk) 2 = some (.ref kk) := by
      have := ext3 _ _ ha
      cases at' <;> (rw [getK_ref this]; rfl)
    refine wpAny_execs_cons (wpNo (ext_run hK htab hr R4 (d := (e.d + 1 : Nat)) rfl rfl hkey (ext3 _ _ hkk) hc3 hS3 hscr skk (by simp; omega) (Q := fun s5 => ∃ H' mx' tokv' st', TdI c P F L Hc H' k S mx' D tokv' st' s5 ∧ sizS st' < sizS st + (T.node ty ks at').size) fun ts H5 s5 h1 h2 h3 h4 R5 => ?_) ?_)
    · have hml : ks.toL.length = vs.length := hvl
      refine ⟨H5, _, _, st ++ mkE (e.d + 1) ks.toL vs ts, ⟨R5, ?_, hscr, ?_, ⟨_, h2 _ _ cS hc3⟩, fun a o h => h2 a o (by rintro rfl; rw [n1] at h; cases h) (ext3 _ _ h), ⟨n1, n2⟩, ?_⟩, ?_⟩
      · rw [h3, List.map_append]
        congr 3
        have := mkE_a (d := e.d + 1) (ts := ks.toL) (ws := vs) (as := ts) hml h1
        conv => lhs; rw [← this]
        rw [List.map_map]; rfl
      · intro x hx
        rcases List.mem_append.mp hx with hx | hx
        · obtain ⟨q1, q2, q3⟩ := ent3 x hx
          exact ⟨h2 _ _ (neK q1 hS3 rfl) q1, q2, by omega⟩
        · obtain ⟨q1, i, q2, q3, q4⟩ := mkE_mem hx
          refine ⟨by rw [q1]; exact h4 i _ _ q4 q3, hl.get q2 q3, by omega⟩
      · rw [topD_append]
        have := mkE_top (d := e.d + 1) (ts := ks.toL) (ws := vs) (as := ts) hml h1
        rw [et] at htop
        simp only [T.deep] at htop
        rw [Ts.deep_toL] at this
        omega
      · rw [sizS_append, mkE_siz hml h1, Ts.size_toL]
        simp only [T.size]; omega
    rintro fl s5 ⟨rfl, hq⟩
    exact wpAny_execs_nil (wpAny_execs_nil ⟨rfl, hq⟩)
end

section
variable {c : Cx} {P : Params} {A : Around} {F : Addr → Option Obj} {L : Addr} {l : List AV} {Hc H : AH} {s : Shared} {n : Nat}
theorem td_loop (hK : c.K = hd.heap_39 P) (htab : c.tab = 23) (hr : Room A n) {k S : Addr} {mx D : Nat} {tokv : AV} {st : List Ent} (I : TdI c P F L Hc H k S mx D tokv st s) (hz : sizS st ≤ 300) (hcs : L + 1 ≠ c.scr) :
    wpAny (model c.prog c.w) A (exec wStmt ((tdF P).env L)) (fun fl s' => fl = .next ∧ ∃ H' tokv', TdI c P F L Hc H' k S D D tokv' [] s') NoE s := by
  have hf := ok_td (P := P)
  unfold wStmt
  refine wpAny_While (codeAny_whileLoop (fun m s => ∃ H mx tokv st, TdI c P F L Hc H k S mx D tokv st s ∧ sizS st = m ∧ sizS st ≤ 300) ?_ (sizS st) ⟨H, mx, tokv, st, I, rfl, hz⟩)
  rintro m s1 ⟨H1, mx1, tokv1, st1, I1, rfl, hz1⟩
  have hT : SndT c (tdF P) (.Name "stack" ⟨8, 10, 8, 15⟩) (.var 2) := var_t hf (by kernel_rfl)
  have hlen := sizS_len st1
  refine noE (wpNo (hT.run n A F L _ H1 s1 (fun b H' => H' = H1 ∧ b = !(st1.map fun e => AV.ref e.a).isEmpty) hr ?_ I1.R) ?_)
  · simp only [wT, List.getElem?_cons_zero, List.getElem?_cons_succ, Ok_some, wTr_list I1.sl]
    refine ⟨by simp, by simp; omega, by first | trivial | rfl, by first | rfl | trivial⟩
  rintro b s2 ⟨H2, R2, rfl, hb⟩
  rcases List.eq_nil_or_concat st1 with h0 | ⟨st', e, h0⟩
  · subst h0
    have : b = false := by rw [hb]; rfl
    subst this
    have hD := I1.top
    simp only [topD, Nat.max_zero] at hD
    subst hD
    exact wpAny_execs_nil ⟨rfl, H2, tokv1, ⟨R2, I1.sl, I1.scr, I1.ent, I1.cell, I1.ext, I1.new, I1.top⟩⟩
  · subst h0
    have : b = true := by rw [hb]; simp
    subst this
    have I2 : TdI c P F L Hc H2 k S mx1 D tokv1 (st' ++ [e]) s2 := by
      have := I1
      rw [List.concat_eq_append] at this
      exact ⟨R2, this.sl, this.scr, this.ent, this.cell, this.ext, this.new, this.top⟩
    rw [List.concat_eq_append] at hz1 ⊢
    refine noE (wpNo (td_step hK htab hr I2 hz1 hcs) ?_)
    rintro fl s3 ⟨rfl, H3, mx3, tokv3, st3, I3, hlt⟩
    exact ⟨sizS st3, hlt, H3, mx3, tokv3, st3, I3, rfl, by omega⟩
end
theorem td_ok {c : Cx} {P : Params} (hK : c.K = hd.heap_39 P) (htab : c.tab = 23) : TDok c := by
  intro n H Q k vs ts hk hl hsz hdp hks hs hq A F L names l s cvs hr R hcv
  have hf := ok_td (P := P)
  obtain ⟨v, rfl⟩ : ∃ v, cvs = [v] := by
    cases cvs with
    | nil => simp at hcv
    | cons v r =>
      cases r with
      | nil => exact ⟨v, rfl⟩
      | cons _ _ => simp at hcv
  have hv : v = .ref k := av_ref (by simpa using hcv)
  subst hv
  have hlook : ∃ oc od sl, c.K.lookup 26 = some ⟨oc, od, .func (fdAt (hd.heap_39 P) 26), sl⟩ := by
    rw [hK]
    have h1 : (match (hd.heap_39 P).lookup 26 with
      | some ⟨_, _, .func _, _⟩ => true
      | _ => false) = true := by kernel_rfl
    split at h1
    · rename_i oc od fd sl e
      refine ⟨oc, od, sl, ?_⟩
      rw [e]; unfold fdAt; rw [e]
    · cases h1
  obtain ⟨oc, od, sl, hlook⟩ := hlook
  obtain ⟨mc, F1, _⟩ := R.fr
  have hcode : codeIn c.K (fdAt (hd.heap_39 P) 26).code (fdAt (hd.heap_39 P) 26).qualname = true := by rw [hK]; kernel_rfl
  have hbody : (fdAt (hd.heap_39 P) 26).body = .stmts (bodyAt (hd.heap_39 P) 26) := by kernel_rfl
  have hbind : bindArgs (fdAt (hd.heap_39 P) 26) ⟨[.ref k], []⟩ = (pure [(("tokens" : Str), Value.ref k)] : Sem (List (Str × Value))) := by kernel_rfl
  have henv : ∀ L, callEnvC (fdAt (hd.heap_39 P) 26) L 26 = (tdF P).env L := fun L => by kernel_rfl
  have hkn : (fdAt (hd.heap_39 P) 26).scope.names.lookup ("tokens" : Str) = some .local := by kernel_rfl
  refine codeAny_call_cells (fd := fdAt (hd.heap_39 P) 26) (body := bodyAt (hd.heap_39 P) 26) (binds := [(("tokens" : Str), Value.ref k)]) (by have := hr.2.1; show A.depth < 1000; omega) (R.kin _ _ hlook) rfl (R.ok.top.nolimit.keeps F1.keep) (codeRec_of R.kin hcode) hbody hbind (by kernel_rfl) ?_ (fun s₁ X => ?_) (by kernel_rfl) (by kernel_rfl) (by kernel_rfl)
  · intro x hx
    rw [List.mem_singleton] at hx; subst hx
    exact .inl hkn
  rw [henv] at X ⊢
  have hsz0 := size_none (h := s.heap)
  have hsz1 : s.heap.get? (s.heap.objs.size + 1) = none := by
    cases q : s.heap.get? (s.heap.objs.size + 1) with
    | none => rfl
    | some o => exact absurd (Heap.lt_size q) (Nat.not_lt.mpr (Nat.le_succ _))
  have hkn2 : ((tdF P).env s.heap.objs.size).kindOf ("tokens" : Str) = some .local := hkn
  have hcell : s₁.heap.IsCell (s.heap.objs.size + 1) none := by
    have := X.cell "depth" (s.heap.objs.size + 1) rfl
    simp only [bindC, hkn2, if_true] at this
    exact this
  have hns : s₁.heap.Ns s.heap.objs.size (bindL ((tdF P).env s.heap.objs.size).kindOf [(("tokens" : Str), Value.ref k)] fun _ => none) := X.toInCall.ns
  simp only [bindL, hkn2, if_true] at hns
  obtain ⟨h1, tk, es, keep⟩ := X.done
  have R0 : Rep c (frozenAt c H s.heap) s.heap.objs.size (tdF P).names [.ref k, .bad, .bad, .bad] H s₁ := by
    refine R.enter X.toInCall.keep hns ?_ (by rw [es]) (by rw [es])
    intro i x v hx hv hb
    rcases i with _ | _ | _ | _ | i
    · have hx' : some ("tokens" : Str) = some x := hx
      cases hv; cases hx'
      exact ⟨.ref k, by simp, rfl⟩
    · cases hv; exact absurd rfl hb
    · cases hv; exact absurd rfl hb
    · cases hv; exact absurd rfl hb
    · cases hv
  have hHn := R.fresh hsz1
  have fz : frozenAt c H s.heap (s.heap.objs.size + 1) = none := by
    cases q : frozenAt c H s.heap (s.heap.objs.size + 1) with
    | none => rfl
    | some o => have := (frozenAt_some q).2; rw [hsz1] at this; cases this
  have R1 := R0.add (o := .cell none) hHn (R.freshD hsz1) fz (Nat.ne_of_lt (Nat.lt_succ_self _)) ⟨none, hcell, rfl⟩ (by intro C d kvs e; cases e)
  have hcs : s.heap.objs.size + 1 ≠ c.scr := R.freshS hsz1
  have e0 : ExtH H (upd H (s.heap.objs.size + 1) (.cell none)) := ExtH.new hHn
  have g0 := upd_same H (s.heap.objs.size + 1) (.cell none)
  generalize upd H (s.heap.objs.size + 1) (.cell none) = H1 at *
  have hr2 : Room (A.deeper ((tdF P).env s.heap.objs.size)) (n + 2) := by
    refine ⟨hr.1, ?_, ?_⟩
    · show A.depth + 1 + (n + 2) + 50 ≤ 1000
      have := hr.2.1; omega
    · show A.units + 3 + 20 * (n + 2) + 300 ≤ 9900
      have := hr.2.2; omega
  generalize A.deeper ((tdF P).env s.heap.objs.size) = A2 at *
  rw [td_body]
  have hvl := hl.length
  have hlen := sizeL_len ts
  refine noE (wpNo (P := fun fl s' => ∃ H', Rep c (frozenAt c H s.heap) s.heap.objs.size (tdF P).names [.ref k, .int (deepL ts : Nat), .bad, .bad] H' s' ∧ False ∨ ∃ u l' , fl = .ret u ∧ av u = .int (deepL ts : Nat) ∧ ExtH H H' ∧ Rep c (frozenAt c H s.heap) s.heap.objs.size (tdF P).names l' H' s') ?_ ?_)
  · have hz : SndS c (tdF P) zStmt (.assign 1 (.int 0)) := assign_s hf (by kernel_rfl) const_int (fun _ => rfl)
    refine wpAny_execs_cons (wpNo (hz.run (n + 2) A2 _ _ _ _ _ (fun fl l' H' => fl = .next ∧ H' = H1 ∧ l' = [.ref k, .int 0, .bad, .bad]) hr2 (by simp [wS, wE]) R1) ?_)
    rintro fl s2 ⟨l2, H2, R2, hfl⟩
    cases fl with
    | next =>
      obtain ⟨_, rfl, rfl⟩ := hfl
      refine wpAny_execs_cons (wpNo (comp_run hr2 R2 rfl (e0 _ _ hk) (by omega) hks (Q := fun s3 => ∃ D as H3, as.length = vs.length ∧ H2 D = none ∧ D ≠ c.scr ∧ ExtH H2 H3 ∧ H3 D = some (.list (as.map .ref)) ∧ (∀ (i : Nat) (t : Addr) (w : AV), as[i]? = some t → vs[i]? = some w → H3 t = some (.tup [w, .int 0])) ∧ Rep c (frozenAt c H s.heap) s.heap.objs.size (tdF P).names [.ref k, .int 0, .ref D, .bad] H3 s3) fun D as H3 s3 a1 a2 a3 a4 a5 a6 a7 => ⟨D, as, H3, a1, a2, a3, a4, a5, a6, a7⟩) ?_)
      rintro fl s3 ⟨rfl, D, as, H3, a1, a2, a3, a4, a5, a6, R3⟩
      have Hn : H D = none := Live.ext e0 _ a2
      have I : TdI c P (frozenAt c H s.heap) s.heap.objs.size H H3 k D 0 (deepL ts) .bad (mkE 0 ts vs as) s3 := by
        refine ⟨R3, ?_, a3, ?_, ⟨_, a4 _ _ g0⟩, e0.trans a4, ⟨Hn, hHn⟩, ?_⟩
        · rw [a5]
          congr 2
          have := mkE_a (d := 0) (ts := ts) (ws := vs) (as := as) hvl a1
          conv => lhs; rw [← this]
          rw [List.map_map]; rfl
        · intro e he
          obtain ⟨q1, i, q2, q3, q4⟩ := mkE_mem he
          refine ⟨by rw [q1]; exact a6 i _ _ q4 q3, hl.get q2 q3, by omega⟩
        · rw [mkE_top hvl a1]; omega
      refine wpAny_execs_cons (wpNo (td_loop hK htab hr2 I (by rw [mkE_siz hvl a1]; exact hsz) hcs) ?_)
      rintro fl s4 ⟨rfl, H4, tokv4, I4⟩
      have hrt : SndS c (tdF P) rStmt (.ret (.var 1)) := ret_s (var_sound hf (by kernel_rfl))
      refine wpAny_execs_cons (wpNo (hrt.run (n + 2) A2 _ _ _ _ _ (fun fl l' H' => fl = .ret (.int (deepL ts : Nat)) ∧ H' = H4) hr2 (by simp [wS, wE, Ok_some]) I4.R) ?_)
      rintro fl s5 ⟨l5, H5, R5, hfl⟩
      cases fl with
      | ret u =>
        obtain ⟨hu, rfl⟩ := hfl
        exact ⟨H5, .inr ⟨u, l5, rfl, by injection hu, I4.ext, R5⟩⟩
      | next => exact absurd hfl.1 (by simp)
      | _ => exact False.elim hfl
    | ret u => exact absurd hfl.1 (by simp)
    | _ => exact False.elim hfl
  · rintro fl s' ⟨H', ⟨_, h⟩ | ⟨u, l', rfl, hu, he, R'⟩⟩
    · exact h.elim
    · refine ⟨H', R.back R', ?_⟩
      rw [hu]; exact hq H' he

noncomputable def topCx (prog : Program) (w : World) (s₁ : Shared) (p : Program) (loose : List Str) (mg mb : Str → Option Value) (ax : Addr) : Cx :=
  { prog := prog, w := w, K := hd.heap_39 w.params, hB := s₁.heap.update 23 (fun o => { o with data := .freed }), scr := ax, osb := s₁.os, p := p, loose := loose, mg := mg, mb := mb, cls := fun C => C == 77 || C == 133, tab := 23 }
theorem freed_same {h : Heap} : (h.update 23 (fun o => { o with data := .freed })).get? 23 = none := by
  obtain ⟨objs, l⟩ := h
  simp only [Heap.update, Heap.get?, Array.getElem?_modify, if_true]
  cases objs[23]? with
  | none => rfl
  | some o => rfl
theorem freed_other {h : Heap} {b : Addr} (hb : b ≠ 23) : (h.update 23 (fun o => { o with data := .freed })).get? b = h.get? b := Heap.get?_update_other _ _ (Ne.symm hb)
theorem topCx_ok {prog : Program} {w : World} {s₁ : Shared} {p : Program} {loose : List Str} {mean : ExcName → Option Value} {mg mb : Str → Option Value} {ax : Addr} {its : Array Value}
    (KX : (hd.heap_39 w.params).In s₁.heap) (T : Top p loose mean mg mb s₁.heap) (himp : s₁.heap.NoSeer) (hl : s₁.heap.IsList ax its) (hc : s₁.heap.TableAt 25 23 #[]) (hst : 23 ≠ cStatics) : (topCx prog w s₁ p loose mg mb ax).Ok := by
  have K0 : ∀ {P : Params}, (hd.heap_39 P).lookup 23 = none := by intro P; kernel_rfl
  obtain ⟨ol, h1, h2, n, h3⟩ := hl
  have h23 := hc.2
  have nsne : ∀ {a : Addr} {m : Str → Option Value}, s₁.heap.Ns a m → a ≠ 23 := by
    rintro a m ⟨o, es, ep, e, hd, _⟩ rfl
    rw [h23] at e; cases e; cases hd
  have nsB : ∀ {a : Addr} {m : Str → Option Value}, s₁.heap.Ns a m → (s₁.heap.update 23 (fun o => { o with data := .freed })).Ns a m := by
    intro a m x
    have ne := nsne x
    obtain ⟨o, es, ep, e, r⟩ := x
    exact ⟨o, es, ep, by rw [freed_other ne]; exact e, r⟩
  have hax : ax ≠ 23 := by rintro rfl; rw [h23] at h1; cases h1; cases h3
  obtain ⟨mm, hmm, _⟩ := himp.mods
  have hsys := nsB hmm
  obtain ⟨mc, hmc, hmc2⟩ := T.nolimit
  obtain ⟨bm, ob, M⟩ := bmod_of_top T
  obtain ⟨g1, g2⟩ := M.apart hc
  refine ⟨?_, ⟨nsB T.g, nsB T.b, ⟨mc, nsB hmc, hmc2⟩, T.builtins, T.free⟩, ⟨ol, by show (s₁.heap.update 23 _).get? ax = _; rw [freed_other hax]; exact h1⟩, ?_, ?_, ?_, hax.symm, ⟨bm, ob, ⟨nsB M.ns, M.name, M.ne, by show (s₁.heap.update 23 _).get? bm = _; rw [freed_other g2]; exact M.obj, M.cls, M.dict, M.data⟩⟩⟩
  · intro a o e
    have : a ≠ 23 := by rintro rfl; rw [show (topCx prog w s₁ p loose mg mb ax).K.lookup 23 = none from K0] at e; cases e
    show (s₁.heap.update 23 _).get? a = _
    rw [freed_other this]; exact KX _ _ e
  · obtain ⟨o, es, ep, e, _⟩ := hsys
    show ((s₁.heap.update 23 _).get? sysModules).isSome = true
    rw [e]; rfl
  · intro e
    obtain ⟨o, es, ep, e', hd, _⟩ := hmm
    have e2 : ax = sysModules := e
    rw [e2, e'] at h1; cases h1; rw [h3] at hd; cases hd
  · intro C hC k hk
    have hall : ∀ {P : Params}, (List.range 19).all (fun k => attrOk (hd.heap_39 P) 77 (ks k) && attrOk (hd.heap_39 P) 133 (ks k)) = true := by intro P; kernel_rfl
    have := List.all_eq_true.mp (hall (P := w.params)) k (List.mem_range.mpr hk)
    simp only [Bool.and_eq_true] at this
    have hC' : (C == 77 || C == 133) = true := hC
    simp only [Bool.or_eq_true, beq_iff_eq] at hC'
    rcases hC' with rfl | rfl
    · exact this.1
    · exact this.2

theorem ints_av : ∀ {vs : List Value} {is : List Int}, IntsAre vs is → vs.map av = is.map .int
  | _, _, .nil => rfl
  | _, _, .cons n t r => by simp [av, ints_av r]
theorem top_fn {c : Cx} {f : FnC} {fd : FuncData} {body : List Stmt} {S : Ss} {s₁ : Shared} {vs : List Value} {is : List Int} (hok : c.Ok) (htab : c.tab = 23) (hosb : c.osb = s₁.os) (hB : ∀ b o, c.hB.get? b = some o → b ≠ 23 ∧ s₁.heap.get? b = some o) (hBs : c.hB.objs.size ≤ s₁.heap.objs.size)
    (hf : f.Ok) (X : FnIn c f fd body 1) (hb : SndSs c f body S) (hl : s₁.heap.IsList c.scr vs.toArray) (hI : IntsAre vs is) (hg : s₁.gens = #[]) (hc : s₁.heap.TableAt 25 23 #[])
    (hw : ∀ H, ScrOk c H → wSs c 30 S ([.ref c.scr] ++ List.replicate (f.names.length - 1) .bad) H (fun fl l H' => match fl with | .next => AV.none = .bool true | .ret v => v = .bool true)) (hlen : is.length ≤ 63) :
    codeAny (model c.prog c.w) callerA (.call (.ref f.addr) ⟨[.ref c.scr], []⟩) (fun r s' => r = .ok (.ret (.bool true)) ∧ OldK s₁.heap s'.heap ∧ s'.os = s₁.os ∧ AllBare s'.gens) s₁ := by
  have h23 := hc.2
  have hax : c.scr ≠ 23 := fun e => hok.tabScr (htab.trans e.symm)
  have KX : c.K.In s₁.heap := fun a o e => (hB _ _ (hok.kin _ _ e)).2
  obtain ⟨oc, od, sl, hlook⟩ := X.look
  have hsz := size_none (h := s₁.heap)
  have hnl : s₁.heap.NoLimit := hok.top.nolimit.keeps fun b o e => (hB _ _ e).2
  refine codeAny_call_def (fd := fd) (body := body) (binds := (f.names.take 1).zip [.ref c.scr]) ?_ (KX _ _ hlook) rfl hnl (codeRec_of KX X.code) X.body (X.binds s₁ [.ref c.scr] rfl KX) ?_ ?_ (fun h₀ hns hk₁ => ?_) (by rw [X.sc]; exact X.co) (by rw [X.sc]; exact X.gen) (by rw [X.sc]; exact hf.kind)
  · show 1 + claimMargin < recursionLimit
    decide
  · rw [X.sc]; exact X.cell
  · intro x hx
    rw [X.sc]
    exact hf.loc _ (List.mem_of_mem_take (List.of_mem_zip hx).1)
  · rw [X.env]
    have hr' : Room (callerA.deeper (f.env s₁.heap.objs.size)) 30 := by
      refine ⟨rfl, ?_, ?_⟩
      · show 1 + claimMargin + 1 + 30 + 50 ≤ 1000
        decide
      · show 4 + 3 + 20 * 30 + 300 ≤ 9900
        decide
    have H0a : ∀ {H : AH}, H = (fun b => if b = c.scr then some (.list (is.map .int)) else if b = 23 then some .tab else none) → H c.scr = some (.list (is.map .int)) ∧ H 23 = some .tab ∧ ∀ b o, H b = some o → (b = c.scr ∧ o = .list (is.map .int)) ∨ (b = 23 ∧ o = .tab) := by
      intro H e
      subst e
      refine ⟨if_pos rfl, (if_neg (Ne.symm hax)).trans (if_pos rfl), fun b o h => ?_⟩
      replace h : (if b = c.scr then some (AO.list (is.map .int)) else if b = 23 then some .tab else none) = some o := h
      by_cases q : b = c.scr
      · rw [if_pos q] at h; exact .inl ⟨q, (Option.some.inj h).symm⟩
      · rw [if_neg q] at h
        by_cases q2 : b = 23
        · rw [if_pos q2] at h; exact .inr ⟨q2, (Option.some.inj h).symm⟩
        · rw [if_neg q2] at h; cases h
    obtain ⟨H, hH⟩ : ∃ H : AH, H = (fun b => if b = c.scr then some (.list (is.map .int)) else if b = 23 then some .tab else none) := ⟨_, rfl⟩
    obtain ⟨a1, a2, a3⟩ := H0a hH
    have own : ∀ b, Own c H b → b = 23 := by
      rintro b (⟨q1, o, q2⟩ | ⟨a, C, kvs, q2⟩)
      · rcases a3 _ _ q2 with ⟨z, _⟩ | ⟨z, _⟩
        · exact absurd z q1
        · exact z
      · rcases a3 _ _ q2 with ⟨_, z⟩ | ⟨_, z⟩ <;> cases z
    have hle := X.le
    have R0 : Rep c (fun b => if b = 23 then none else s₁.heap.get? b) s₁.heap.objs.size f.names ([.ref c.scr] ++ List.replicate (f.names.length - 1) .bad) H { s₁ with heap := h₀, toks := s₁.toks + ((f.names.take 1).zip [Value.ref c.scr]).length } := by
      refine { ok := hok, keep := ?_, base := ?_, objs := ?_, own := ?_, inst := ?_, inj := ?_, gens := .of_eq hg, os := hosb.symm, ns := ⟨_, hns, ?_⟩, offF := ?_, offO := ?_, above := hBs, tab := by rw [htab]; exact a2 }
      · intro b o h
        replace h : (if b = 23 then none else s₁.heap.get? b) = some o := h
        split at h
        · cases h
        · exact hk₁ _ _ h
      · intro b o h
        show (if b = 23 then none else s₁.heap.get? b) = some o
        obtain ⟨q1, q2⟩ := hB _ _ h
        rw [if_neg q1]; exact q2
      · intro a o h
        rcases a3 _ _ h with ⟨rfl, rfl⟩ | ⟨rfl, rfl⟩
        · obtain ⟨ol, h1, h2⟩ := hl
          exact ⟨vs, ⟨ol, hk₁ _ _ h1, h2⟩, ints_av hI, fun q => absurd rfl q⟩
        · exact ⟨#[], hk₁ _ _ h23, trivial⟩
      · intro b h
        rw [own b h]; rfl
      · intro a C d kvs h
        rcases a3 _ _ h with ⟨_, z⟩ | ⟨_, z⟩ <;> cases z
      · intro a a' C C' d kvs kvs' h _
        rcases a3 _ _ h with ⟨_, z⟩ | ⟨_, z⟩ <;> cases z
      · intro i x v hx hv hbad
        rcases i with _ | i
        · cases hv
          refine ⟨.ref c.scr, lookup_zip_rev (hf.nodup.sublist (List.take_sublist _ _)) (by simp; omega) (i := 0) ?_ rfl, rfl⟩
          rw [List.getElem?_take, if_pos (by omega)]; exact hx
        · rw [List.getElem?_append_right (by simp)] at hv
          have := List.mem_of_getElem? hv
          exact absurd (List.eq_of_mem_replicate this) hbad
      · show (if s₁.heap.objs.size = 23 then none else s₁.heap.get? s₁.heap.objs.size) = none
        rw [hsz]; split <;> rfl
      · intro h
        have := own _ h
        rw [this, h23] at hsz; cases hsz
    refine noE (wpNo (hb.run _ _ _ _ _ _ _ _ hr' (hw H ⟨is, a1, by omega⟩) R0) ?_)
    rintro fl s' ⟨l', H', R', hq⟩
    cases fl with
    | next =>
      have : AV.none = .bool true := hq
      cases this
    | ret v =>
      have hv : av v = .bool true := hq
      refine ⟨by rw [av_bool hv], ?_, R'.os.trans hosb, R'.gens⟩
      have kp : ∀ b o, b ≠ 23 → s₁.heap.get? b = some o → s'.heap.get? b = some o := by
        intro b o hb h
        exact R'.keep _ _ (by show (if b = 23 then none else s₁.heap.get? b) = some o; rw [if_neg hb]; exact h)
      obtain ⟨ps, hps, _⟩ : ∃ ps : Array Value, s'.heap.get? c.tab = some { cls := .none, data := .fields ps } ∧ TriplesOk ps.toList := R'.objs _ _ R'.tab
      rw [htab] at hps
      refine ⟨fun b o h => ?_, fun b o h => ?_⟩
      · by_cases q : b = 23
        · subst q
          rw [h23] at h; cases h
          exact .inr (.inl ⟨hc.isCodeTable, rfl, #[], ps, rfl, by rw [hps]; simp⟩)
        · exact .inl (kp b o q h)
      · by_cases q : b = 23
        · subst q; exact ⟨_, hps⟩
        · exact ⟨o, kp b o q h⟩
    | _ => exact False.elim hq
theorem law_top {prog : Program} {w : World} {s₁ : Shared} {p : Program} {loose : List Str} {mean : ExcName → Option Value} {mg mb : Str → Option Value} {ax : Addr} {vs : List Value} {is : List Int}
    (KX : (hd.heap_39 w.params).In s₁.heap) (T : Top p loose mean mg mb s₁.heap) (himp : s₁.heap.NoSeer) (hl : s₁.heap.IsList ax vs.toArray) (hI : IntsAre vs is) (hlen : is.length ≤ 63) (hg : s₁.gens = #[]) (hc : s₁.heap.TableAt 25 23 #[]) :
    codeAny (model prog w) callerA (.call (.ref 291) ⟨[.ref ax], []⟩) (fun r s' => r = .ok (.ret (.bool true)) ∧ OldK s₁.heap s'.heap ∧ s'.os = s₁.os ∧ AllBare s'.gens) s₁ := by
  have hok := topCx_ok (prog := prog) KX T himp hl hc (by decide)
  have hB : ∀ b o, (topCx prog w s₁ p loose mg mb ax).hB.get? b = some o → b ≠ 23 ∧ s₁.heap.get? b = some o := by
    intro b o h
    have h' : (s₁.heap.update 23 (fun o => { o with data := .freed })).get? b = some o := h
    by_cases q : b = 23
    · rw [q, freed_same] at h'; cases h'
    · exact ⟨q, by rw [← h', freed_other q]⟩
  have hBs : (topCx prog w s₁ p loose mg mb ax).hB.objs.size ≤ s₁.heap.objs.size := Nat.le_of_eq (Heap.SameBut.update ..).1
  have e1 : (topCx prog w s₁ p loose mg mb ax).prog = prog := rfl
  have e2 : (topCx prog w s₁ p loose mg mb ax).w = w := rfl
  have e3 : (topCx prog w s₁ p loose mg mb ax).scr = ax := rfl
  have e4 : (topCx prog w s₁ p loose mg mb ax).K = hd.heap_39 w.params := rfl
  have e5 : (topCx prog w s₁ p loose mg mb ax).tab = 23 := rfl
  have e6 : (topCx prog w s₁ p loose mg mb ax).osb = s₁.os := rfl
  have e7 : (topCx prog w s₁ p loose mg mb ax).cls 77 = true := rfl
  have e8 : (topCx prog w s₁ p loose mg mb ax).cls 133 = true := rfl
  generalize topCx prog w s₁ p loose mg mb ax = c at *
  subst e1 e2 e3
  exact top_fn hok e5 e6 hB hBs ok_law (in_law e4) (snd_law e4) hl hI hg hc (fun H hs => law_w (n := 0) e4 (td_ok e4 e5) e7 e8 hs) hlen

def tabB (K : Frag) (a P : Addr) : Bool := match K.lookup a with
  | some ⟨_, _, .fields vs, _⟩ => vs[11]? == some (.ref P)
  | _ => false
theorem table_at {w : World} {s₁ : Shared} {p : Program} {loose : List Str} {mean : ExcName → Option Value} {mg mb : Str → Option Value} (KX : (hd.heap_39 w.params).In s₁.heap) (T : Top p loose mean mg mb s₁.heap)
    (hrec : (recsOf p).any (fun d => d.name == ("token_depth" : Str)) = true) : s₁.heap.TableAt 25 23 #[] := by
  obtain ⟨d, hd1, hd2⟩ := List.any_eq_true.mp hrec
  obtain ⟨a, o, fd, c, P, h1, h2, h3, h4, h5, h6⟩ := T.tab d hd1
  rw [beq_iff_eq.mp hd2] at h1
  have hm : mg "token_depth" = some (.ref 26) := mg_of KX T.g (by kernel_rfl)
  rw [h1] at hm; cases hm
  have hlook : ∃ oc od sl, (hd.heap_39 w.params).lookup 26 = some ⟨oc, od, .func (fdAt (hd.heap_39 w.params) 26), sl⟩ := by
    have h1 : (match (hd.heap_39 w.params).lookup 26 with
      | some ⟨_, _, .func _, _⟩ => true
      | _ => false) = true := by kernel_rfl
    split at h1
    · rename_i oc od fd sl e
      refine ⟨oc, od, sl, ?_⟩
      rw [e]; unfold fdAt; rw [e]
    · cases h1
  obtain ⟨oc, od, sl, hlook⟩ := hlook
  have e := KX _ _ hlook
  have ho : o = ⟨oc, od, .func (fdAt (hd.heap_39 w.params) 26), sl⟩ := Option.some.inj (h2.symm.trans e)
  have hfd : fd = fdAt (hd.heap_39 w.params) 26 := by
    rw [ho] at h3
    have h3' : Data.func (fdAt (hd.heap_39 w.params) 26) = .func fd := h3
    injection h3' with h3'
    exact h3'.symm
  have hcode : (fdAt (hd.heap_39 w.params) 26).code = .ref 25 := by kernel_rfl
  rw [hfd, hcode] at h4
  have hc : c = 25 := by injection h4 with h4; exact h4.symm
  subst hc
  have htb : tabB (hd.heap_39 w.params) 25 23 = true := by kernel_rfl
  unfold tabB at htb
  split at htb
  · rename_i oc' od' vs sl' e'
    have e2 := KX _ _ e'
    obtain ⟨⟨oo, ws, q1, q2, q3, q4⟩, q5⟩ := id h6
    have hoo := Option.some.inj (q1.symm.trans e2)
    rw [hoo] at q3
    have q3' : Data.fields vs = .fields ws := q3
    injection q3' with q3'
    rw [← q3', beq_iff_eq.mp htb] at q4
    have : P = 23 := by
      have := Option.some.inj q4
      injection this with this; exact this.symm
    rw [← this]; exact h6
  · cases htb

end Mine
set_option maxRecDepth 100000 in
set_option maxHeartbeats 8000000 in
theorem PySem.Challenge.cw_fe5003_01_holds : PySem.Challenge.rw_fe5003_01.Holds := by
  refine Mine.hd ?_
  intro w s₀ s₁ mg mb G Y fa o pm cd doc dV kV ho hdd hcd hD hmg hg args vals as hpre hlay hrd hwl hlo
  have KX := kIn_of Y
  refine Ground.open G ?_
  intro T B D TE TW
  have hfa : mg "law" = some (.ref 291) := mg_of KX T.g (by kernel_rfl)
  have hmg' : mg "law" = some (.ref fa) := hmg
  rw [hmg'] at hfa
  cases hfa
  have htb := Mine.table_at KX T (by kernel_rfl)
  clear hmg hmg' hcd hdd ho hD
  wrow_args hpre hlay hrd hwl hlo
  refine enter_call ?_
  rename IntsAre _ _ => hI
  rename Heap.IsList _ _ _ => hL
  rename ¬ (_ < _) => hcond
  refine codeAny_mono (Mine.law_top KX T (T.seer (by kernel_rfl)) hL hI (by omega) hg htb) ?_
  rintro r s' ⟨rfl, hold, hos, hb⟩
  refine ⟨.inl ⟨.bool true, .bool true, [], rfl, raisesW_false (by wrow_none_raised), .bool true, postW_of (by wrow_shape) (by wtm_val) (by rfl), unshared_nil⟩, hold, hos, hb⟩
