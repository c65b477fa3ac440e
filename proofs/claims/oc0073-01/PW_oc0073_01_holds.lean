import PyProof.Rows.All
import Wide.All
import OpenK.AllK
import Wide.FinOn
import Lean
import PySem.Challenge.RW_oc0073_01
set_option Elab.async false
section
open PySem PySem.W PyProof.Rows
namespace Mine
/-- what stands frozen: lists (false) and tuples (true) with their items -/
abbrev Fz := Addr → Option (Bool × List Value)
noncomputable def FzIn (fz : Fz) (h : Heap) : Prop :=
  ∀ a t vs, fz a = some (t, vs) → ∃ o n, h.get? a = some o ∧ o.cls = .type (if t then "tuple" else "list") ∧ o.data = .seq vs.toArray n
mutual
inductive Rep (fz : Fz) : Value → PyData → Prop
  | none : Rep fz .none .none
  | bool (b : Bool) : Rep fz (.bool b) (.bool b)
  | int (i : Int) (t : Tok) : Rep fz (.int i t) (.int i)
  | str (x : Str) (t : Tok) : Rep fz (.str x t) (.str x)
  | list {a : Addr} {vs : List Value} {ds : List PyData} : fz a = some (false, vs) → RepAll fz vs ds → Rep fz (.ref a) (.list ds)
  | tuple {a : Addr} {vs : List Value} {ds : List PyData} : fz a = some (true, vs) → RepAll fz vs ds → Rep fz (.ref a) (.tuple ds)
inductive RepAll (fz : Fz) : List Value → List PyData → Prop
  | nil : RepAll fz [] []
  | cons {v : Value} {vs : List Value} {d : PyData} {ds : List PyData} : Rep fz v d → RepAll fz vs ds → RepAll fz (v :: vs) (d :: ds)
end
noncomputable def FzLe (fz fz' : Fz) : Prop := ∀ a o, fz a = some o → fz' a = some o
theorem FzLe.refl (fz : Fz) : FzLe fz fz := fun _ _ e => e
theorem FzLe.trans {a b c : Fz} (x : FzLe a b) (y : FzLe b c) : FzLe a c := fun p o e => y p o (x p o e)
mutual
theorem Rep.mono {fz fz' : Fz} (hs : FzLe fz fz') : ∀ {v : Value} {d : PyData}, Rep fz v d → Rep fz' v d
  | _, _, .none => .none
  | _, _, .bool b => .bool b
  | _, _, .int i t => .int i t
  | _, _, .str x t => .str x t
  | _, _, .list h r => .list (hs _ _ h) (RepAll.mono hs r)
  | _, _, .tuple h r => .tuple (hs _ _ h) (RepAll.mono hs r)
theorem RepAll.mono {fz fz' : Fz} (hs : FzLe fz fz') : ∀ {vs : List Value} {ds : List PyData}, RepAll fz vs ds → RepAll fz' vs ds
  | _, _, .nil => .nil
  | _, _, .cons h r => .cons (Rep.mono hs h) (RepAll.mono hs r)
end
theorem RepAll.length {fz : Fz} : ∀ {vs : List Value} {ds : List PyData}, RepAll fz vs ds → vs.length = ds.length
  | _, _, .nil => rfl
  | _, _, .cons _ r => by simp [RepAll.length r]
theorem RepAll.append {fz : Fz} : ∀ {vs ws : List Value} {ds es : List PyData}, RepAll fz vs ds → RepAll fz ws es → RepAll fz (vs ++ ws) (ds ++ es)
  | _, _, _, _, .nil, k => k
  | _, _, _, _, .cons h r, k => .cons h (RepAll.append r k)
theorem RepAll.get {fz : Fz} : ∀ {vs : List Value} {ds : List PyData} {k : Nat} {d : PyData}, RepAll fz vs ds → ds[k]? = some d → ∃ v, vs[k]? = some v ∧ Rep fz v d
  | _, _, _, _, .nil, e => by simp at e
  | _, _, 0, _, .cons h _, e => by simp at e; subst e; exact ⟨_, rfl, h⟩
  | _, _, _ + 1, _, .cons _ r, e => by simpa using RepAll.get r (by simpa using e)
theorem RepAll.get' {fz : Fz} : ∀ {vs : List Value} {ds : List PyData} {k : Nat} {v : Value}, RepAll fz vs ds → vs[k]? = some v → ∃ d, ds[k]? = some d ∧ Rep fz v d
  | _, _, _, _, .nil, e => by simp at e
  | _, _, 0, _, .cons h _, e => by simp at e; subst e; exact ⟨_, rfl, h⟩
  | _, _, _ + 1, _, .cons _ r, e => by simpa using RepAll.get' r (by simpa using e)
theorem RepAll.take {fz : Fz} : ∀ (k : Nat) {vs : List Value} {ds : List PyData}, RepAll fz vs ds → RepAll fz (vs.take k) (ds.take k)
  | 0, _, _, _ => by simpa using RepAll.nil
  | _ + 1, _, _, .nil => by simpa using RepAll.nil
  | k + 1, _, _, .cons h r => by simpa using RepAll.cons h (RepAll.take k r)
theorem RepAll.drop {fz : Fz} : ∀ (k : Nat) {vs : List Value} {ds : List PyData}, RepAll fz vs ds → RepAll fz (vs.drop k) (ds.drop k)
  | 0, _, _, h => by simpa using h
  | _ + 1, _, _, .nil => by simpa using RepAll.nil
  | k + 1, _, _, .cons _ r => by simpa using RepAll.drop k r
mutual
theorem Rep.reads {fz : Fz} {h : Heap} (hf : FzIn fz h) : ∀ {v : Value} {d : PyData}, Rep fz v d → ∃ as, Reads h v d as
  | _, _, .none => ⟨_, .none⟩
  | _, _, .bool b => ⟨_, .bool b⟩
  | _, _, .int i t => ⟨_, .int i t⟩
  | _, _, .str x t => ⟨_, .str x t⟩
  | _, _, .list (vs := vs) e r => by
    obtain ⟨as, q⟩ := RepAll.reads hf r
    obtain ⟨o, n, ho, hc, hd⟩ := hf _ _ _ e
    exact ⟨_, .list ho hc hd (by simpa using q)⟩
  | _, _, .tuple (vs := vs) e r => by
    obtain ⟨as, q⟩ := RepAll.reads hf r
    obtain ⟨o, n, ho, hc, hd⟩ := hf _ _ _ e
    exact ⟨_, .tuple ho hc hd (by simpa using q)⟩
theorem RepAll.reads {fz : Fz} {h : Heap} (hf : FzIn fz h) : ∀ {vs : List Value} {ds : List PyData}, RepAll fz vs ds → ∃ as, ReadsAll h vs ds as
  | _, _, .nil => ⟨_, .nil⟩
  | _, _, .cons e r => by
    obtain ⟨as, q⟩ := Rep.reads hf e
    obtain ⟨bs, p⟩ := RepAll.reads hf r
    exact ⟨_, .cons q p⟩
end
/-- the heap grows: what stood stands, but for the slots of the frames fs -/
noncomputable def Ext (fs : List Addr) (h h' : Heap) : Prop :=
  ∀ b o, h.get? b = some o → ∃ sl, h'.get? b = some { o with slots := sl } ∧ (b ∉ fs → sl = o.slots)
theorem Ext.refl (fs : List Addr) (h : Heap) : Ext fs h h := fun _ o e => ⟨o.slots, e, fun _ => rfl⟩
theorem Ext.trans {fs : List Addr} {h₁ h₂ h₃ : Heap} (x : Ext fs h₁ h₂) (y : Ext fs h₂ h₃) : Ext fs h₁ h₃ := fun b o e => by
  obtain ⟨sl, e₁, q₁⟩ := x b o e
  obtain ⟨sl', e₂, q₂⟩ := y b _ e₁
  exact ⟨sl', e₂, fun hb => (q₂ hb).trans (q₁ hb)⟩
theorem Ext.of_keeps {fs : List Addr} {h h' : Heap} (k : ∀ b o, h.get? b = some o → h'.get? b = some o) : Ext fs h h' := fun b o e => ⟨o.slots, k b o e, fun _ => rfl⟩
theorem Ext.mono {fs fs' : List Addr} {h h' : Heap} (x : Ext fs h h') (s : ∀ b ∈ fs, b ∈ fs') : Ext fs' h h' := fun b o e => by
  obtain ⟨sl, e₁, q₁⟩ := x b o e
  exact ⟨sl, e₁, fun hb => q₁ fun hm => hb (s b hm)⟩
theorem Ext.get {fs : List Addr} {h h' : Heap} (x : Ext fs h h') {b : Addr} {o : Obj} (hb : b ∉ fs) (e : h.get? b = some o) : h'.get? b = some o := by
  obtain ⟨sl, e₁, q₁⟩ := x b o e
  rw [q₁ hb] at e₁; exact e₁
theorem Ext.none {fs : List Addr} {h h' : Heap} (x : Ext fs h h') {b : Addr} (e : h'.get? b = none) : h.get? b = none := by
  cases q : h.get? b with
  | none => rfl
  | some o => obtain ⟨sl, e₁, _⟩ := x b o q; rw [e] at e₁; cases e₁
theorem Ext.ns {fs : List Addr} {h h' : Heap} (x : Ext fs h h') {a : Addr} {m : Str → Option Value} (hn : h.Ns a m) : h'.Ns a m := by
  obtain ⟨o, es, ep, ho, hd, r⟩ := hn
  obtain ⟨sl, e₁, _⟩ := x a o ho
  exact ⟨_, es, ep, e₁, hd, r⟩
theorem Ext.fzIn {fs : List Addr} {h h' : Heap} (x : Ext fs h h') {fz : Fz} (f : FzIn fz h) : FzIn fz h' := fun a t vs e => by
  obtain ⟨o, n, ho, hc, hd⟩ := f a t vs e
  obtain ⟨sl, e₁, _⟩ := x a o ho
  exact ⟨_, n, e₁, hc, hd⟩
theorem Ext.funFrames {fs : List Addr} {h h' base : Heap} (x : Ext fs h h') {l : List Env} (hl : h.FunFrames base l) : h'.FunFrames base l :=
  hl.of_keeps fun b o ho _ => by obtain ⟨sl, e₁, _⟩ := x b o ho; exact ⟨_, e₁, rfl⟩
theorem Ext.isCell {fs : List Addr} {h h' : Heap} (x : Ext fs h h') {c : Addr} {v : Option Value} (hc : h.IsCell c v) : h'.IsCell c v := by
  obtain ⟨o, ho, hd⟩ := hc
  obtain ⟨sl, e₁, _⟩ := x c o ho
  exact ⟨_, e₁, hd⟩
theorem Ext.slotsOnly {S : List Addr} {h h' : Heap} (x : Heap.SlotsOnly S h h') : Ext S h h' := fun b o e => by
  obtain ⟨sl, e₁⟩ := x.2.2 b o e
  refine ⟨sl, e₁, fun hb => ?_⟩
  have := x.2.1 b hb
  rw [e₁, e] at this
  have := Option.some.inj this
  exact congrArg Obj.slots this
/-- new frozen things are new -/
structure FzExt (h : Heap) (fz fz' : Fz) : Prop where
  le : FzLe fz fz'
  new : ∀ a, fz a = none → fz' a ≠ none → h.get? a = none
theorem FzExt.refl (h : Heap) (fz : Fz) : FzExt h fz fz := ⟨FzLe.refl _, fun _ e n => absurd e n⟩
theorem FzExt.trans {fs : List Addr} {h h' : Heap} {a b c : Fz} (x : FzExt h a b) (e : Ext fs h h') (y : FzExt h' b c) : FzExt h a c :=
  ⟨x.le.trans y.le, fun p ha hc => by
    cases q : b p with
    | none => exact e.none (y.new p q hc)
    | some o => exact x.new p ha (by rw [q]; intro z; cases z)⟩
noncomputable def fsOf (l : List Env) : List Addr := l.filterMap (·.frame)
/-- the ground: the base stands, the frames are functions' own -/
structure HI (base : Heap) (l : List Env) (h : Heap) : Prop where
  stays : base.StaysIn h
  frames : h.FunFrames base l
  dicts : ∀ b ∈ fsOf l, ∃ o es ep, h.get? b = some o ∧ o.data = .dict es ep
theorem HI.ext {base h h' : Heap} {l : List Env} (H : HI base l h) (x : Ext (fsOf l) h h') : HI base l h' :=
  ⟨fun b o e => x.get (fun hm => by have := (H.frames.mem hm).1; rw [this] at e; cases e) (H.stays b o e), x.funFrames H.frames, fun b hb => by
    obtain ⟨o, es, ep, ho, hd⟩ := H.dicts b hb
    obtain ⟨sl, e₁, _⟩ := x b o ho
    exact ⟨_, es, ep, e₁, hd⟩⟩
noncomputable def fzAdd (fz : Fz) (a : Addr) (t : Bool) (vs : List Value) : Fz := fun b => if b = a then some (t, vs) else fz b
theorem fzAdd_ext {h : Heap} {fz : Fz} {a : Addr} {t : Bool} {vs : List Value} (hn : h.get? a = none) (hf : fz a = none) : FzExt h fz (fzAdd fz a t vs) :=
  ⟨fun b o e => by
    unfold fzAdd
    by_cases q : b = a
    · subst q; rw [hf] at e; cases e
    · rw [if_neg q]; exact e, fun b e n => by
    by_cases q : b = a
    · subst q; exact hn
    · unfold fzAdd at n; rw [if_neg q] at n; exact absurd e n⟩
theorem FzIn.none {fz : Fz} {h : Heap} (f : FzIn fz h) {a : Addr} (hn : h.get? a = none) : fz a = none := by
  cases q : fz a with
  | none => rfl
  | some p => obtain ⟨t, vs⟩ := p; obtain ⟨o, n, ho, _⟩ := f a t vs q; rw [hn] at ho; cases ho
theorem fzAdd_in {fz : Fz} {h : Heap} {a : Addr} {t : Bool} {vs : List Value} (f : FzIn fz h) {o : Obj} {n : Nat} (ho : h.get? a = some o) (hc : o.cls = .type (if t then "tuple" else "list")) (hd : o.data = .seq vs.toArray n) : FzIn (fzAdd fz a t vs) h := by
  intro b t' vs' e
  unfold fzAdd at e
  by_cases q : b = a
  · subst q; rw [if_pos rfl] at e; cases e; exact ⟨o, n, ho, hc, hd⟩
  · rw [if_neg q] at e; exact f b t' vs' e
theorem fzAdd_self (fz : Fz) (a : Addr) (t : Bool) (vs : List Value) : fzAdd fz a t vs a = some (t, vs) := by simp [fzAdd]
end Mine
end
section
open PySem PySem.W PyProof.Rows
namespace Mine
inductive Res where
  | ok (d : PyData)
  | exc (k : String)
  | bad
/-- data that may be compared: no dict, texts of signs, six deep at most -/
noncomputable def okN : Nat → PyData → Bool
  | _, .none => true
  | _, .bool _ => true
  | _, .int _ => true
  | _, .str x => PyData.strOk x
  | n + 1, .list ds => ds.all (okN n)
  | n + 1, .tuple ds => ds.all (okN n)
  | _, _ => false
noncomputable def okD (d : PyData) : Bool := okN 6 d
theorem okN_lay : ∀ (n : Nat) (d : PyData), okN n d = true → d.canLay0 = true ∧ d.depth ≤ n := by
  have all : ∀ (n : Nat), (∀ d, okN n d = true → d.canLay0 = true ∧ d.depth ≤ n) → ∀ ds : List PyData, (∀ d ∈ ds, okN n d = true) → PyData.canLayAll0 ds = true ∧ PyData.depthAll ds ≤ n := by
    intro n ih ds
    induction ds with
    | nil => intro _; simp [PyData.canLayAll0, PyData.depthAll]
    | cons d ds hi =>
      intro h
      have h1 := ih d (h d (.head _))
      have h2 := hi fun e he => h e (.tail _ he)
      simp only [PyData.canLayAll0, PyData.depthAll, h1.1, h2.1, Bool.and_self, true_and]
      have a1 := h1.2
      have a2 := h2.2
      omega
  intro n
  induction n with
  | zero =>
    intro d h
    cases d <;> simp_all [okN, PyData.canLay0, PyData.depth]
  | succ n ih =>
    intro d h
    cases d with
    | none => simp [PyData.canLay0, PyData.depth]
    | bool b => simp [PyData.canLay0, PyData.depth]
    | int i => simp [PyData.canLay0, PyData.depth]
    | str x => simp [okN] at h; simp [PyData.canLay0, PyData.depth, h]
    | dict kvs => simp [okN] at h
    | tuple ds =>
      have q := all n ih ds (by simpa [okN] using h)
      have q2 := q.2
      simp only [PyData.canLay0, PyData.depth, q.1, true_and]
      omega
    | list ds =>
      have q := all n ih ds (by simpa [okN] using h)
      have q2 := q.2
      simp only [PyData.canLay0, PyData.depth, q.1, true_and]
      omega
theorem okD_shaped {d : PyData} (h : okD d = true) : SeqAt.shaped d = true := by
  have := okN_lay 6 d h
  simp only [SeqAt.shaped, this.1, Bool.true_and, decide_eq_true_eq]
  omega
/-- what comes of a step: the value stands for d, the heap has grown -/
noncomputable def Good (fs : List Addr) (fz : Fz) (s : Shared) (d : PyData) (v : Value) (s' : Shared) : Prop :=
  ∃ h' tk fz', s' = { s with heap := h', toks := tk } ∧ Ext fs s.heap h' ∧ FzExt s.heap fz fz' ∧ FzIn fz' h' ∧ Rep fz' v d
/-- an exception raised while another one is handled bears a star -/
noncomputable def clsL (k : String) : String := if k = "IndexError*" then "IndexError" else if k = "ValueError*" then "ValueError" else k
noncomputable def starL (k : String) : String := k ++ "*"
/-- an exception of the class k, new, not yet noted or noted here -/
structure ExcAt (hd : Option Value) (h₀ : Heap) (L : Addr) (h : Heap) (e : Addr) (k : String) : Prop where
  new : h₀.get? e = none
  there : ∃ oe vs, h.get? e = some oe ∧ oe.cls = .type (clsL k) ∧ oe.data = .fields vs ∧ (vs.size = 6 ∧ (hd = none → vs[2]? = some .none)) ∧
    (vs[1]? = some .none ∨ ∃ tb ot ts, vs[1]? = some (.ref tb) ∧ h₀.get? tb = none ∧ tb ≠ e ∧ h.get? tb = some ot ∧ ot.data = .fields ts ∧ ts[3]? = some (rawInt L))
noncomputable def Bad (hd : Option Value) (fs : List Addr) (L : Addr) (s : Shared) (k : String) (x : Value) (s' : Shared) : Prop :=
  ∃ h' tk e, s' = { s with heap := h', toks := tk } ∧ x = .ref e ∧ Ext fs s.heap h' ∧ ExcAt hd s.heap L h' e k
noncomputable def PostV (fs : List Addr) (fz : Fz) (s : Shared) : Res → Value → Shared → Prop
  | .ok d => Good fs fz s d
  | _ => fun _ _ => False
noncomputable def PostE (hd : Option Value) (fs : List Addr) (L : Addr) (s : Shared) : Res → Value → Shared → Prop
  | .exc k => Bad hd fs L s k
  | _ => fun _ _ => False
section
variable {fs : List Addr} {fz : Fz} {s : Shared} {d : PyData} {v : Value}
theorem Good.same (tk : Nat) (hf : FzIn fz s.heap) (r : Rep fz v d) : Good fs fz s d v { s with toks := tk } :=
  ⟨s.heap, tk, fz, rfl, Ext.refl _ _, FzExt.refl _ _, hf, r⟩
theorem Good.here (hf : FzIn fz s.heap) (r : Rep fz v d) : Good fs fz s d v s := Good.same s.toks hf r
theorem Good.kept {h' : Heap} (tk : Nat) (k : ∀ b o, s.heap.get? b = some o → h'.get? b = some o) (hf : FzIn fz s.heap) (r : Rep fz v d) : Good fs fz s d v { s with heap := h', toks := tk } :=
  ⟨h', tk, fz, rfl, Ext.of_keeps k, FzExt.refl _ _, (Ext.of_keeps (fs := []) k).fzIn hf, r⟩
theorem Good.made {h' : Heap} (tk : Nat) {a : Addr} {t : Bool} {vs : List Value} {ds : List PyData} {o : Obj} {n : Nat} (k : ∀ b o, s.heap.get? b = some o → h'.get? b = some o) (hf : FzIn fz s.heap)
    (hn : s.heap.get? a = none) (ho : h'.get? a = some o) (hc : o.cls = .type (if t then "tuple" else "list")) (hd : o.data = .seq vs.toArray n) (r : RepAll fz vs ds) :
    Good fs fz s (if t then .tuple ds else .list ds) (.ref a) { s with heap := h', toks := tk } := by
  have hz : fz a = none := hf.none hn
  refine ⟨h', tk, fzAdd fz a t vs, rfl, .of_keeps k, fzAdd_ext hn hz, fzAdd_in ((Ext.of_keeps (fs := []) k).fzIn hf) ho hc hd, ?_⟩
  have le : FzLe fz (fzAdd fz a t vs) := (fzAdd_ext (h := s.heap) hn hz).le
  cases t with
  | true => exact .tuple (fzAdd_self ..) (r.mono le)
  | false => exact .list (fzAdd_self ..) (r.mono le)
theorem size_none (h : Heap) {a : Addr} (ha : h.objs.size ≤ a) : h.get? a = none := by
  cases q : h.get? a with
  | none => rfl
  | some o => exact absurd (Heap.lt_size q) (Nat.not_lt.mpr ha)
end
theorem repInts {fz : Fz} {vs : List Value} {ns : List Int} : RepAll fz vs (ns.map PyData.int) → IntsAre vs ns := by
  induction ns generalizing vs with
  | nil => intro h; cases h; exact .nil
  | cons n ns ih => intro h; cases h with | cons a r => cases a; exact .cons _ _ (ih r)
theorem intsRep {fz : Fz} : ∀ {vs : List Value} {ns : List Int}, IntsAre vs ns → RepAll fz vs (ns.map PyData.int)
  | _, _, .nil => .nil
  | _, _, .cons n t r => .cons (.int n t) (intsRep r)
section
variable {prog : Program} {w : World} {A : Around} {E : Value → Shared → Prop} {s : Shared} {fz : Fz} {fs : List Addr}
theorem rep_list_inv {fz : Fz} {v : Value} {ds : List PyData} (r : Rep fz v (.list ds)) : ∃ a vs, v = .ref a ∧ fz a = some (false, vs) ∧ RepAll fz vs ds := by
  cases r with | list e q => exact ⟨_, _, rfl, e, q⟩
theorem rep_tuple_inv {fz : Fz} {v : Value} {ds : List PyData} (r : Rep fz v (.tuple ds)) : ∃ a vs, v = .ref a ∧ fz a = some (true, vs) ∧ RepAll fz vs ds := by
  cases r with | tuple e q => exact ⟨_, _, rfl, e, q⟩
theorem rep_int_inv {fz : Fz} {v : Value} {i : Int} (r : Rep fz v (.int i)) : ∃ t, v = .int i t := by
  cases r; exact ⟨_, rfl⟩
theorem rep_str_inv {fz : Fz} {v : Value} {x : Str} (r : Rep fz v (.str x)) : ∃ t, v = .str x t := by
  cases r; exact ⟨_, rfl⟩
theorem rep_bool_inv {fz : Fz} {v : Value} {b : Bool} (r : Rep fz v (.bool b)) : v = .bool b := by
  cases r; rfl
theorem FzIn.isList (hf : FzIn fz s.heap) {a : Addr} {vs : List Value} (e : fz a = some (false, vs)) : s.heap.IsList a vs.toArray := by
  obtain ⟨o, n, ho, hc, hd⟩ := hf _ _ _ e
  exact ⟨o, ho, hc, n, hd⟩
theorem FzIn.isTup (hf : FzIn fz s.heap) {a : Addr} {vs : List Value} (e : fz a = some (true, vs)) : IsTup s.heap a vs.toArray := by
  obtain ⟨o, n, ho, hc, hd⟩ := hf _ _ _ e
  exact ⟨o, ho, hc, n, hd⟩
/-! new lists, tuples -/
theorem newList_good {vs : List Value} {ds : List PyData} (hf : FzIn fz s.heap) (r : RepAll fz vs ds) (hz : ds.length ≤ 100000) : wpAny (model prog w) A (newList vs) (Good fs fz s (.list ds)) E s := by
  refine wpAny_newList ?_ (by rw [r.length]; exact Nat.le_trans hz (by decide))
  exact Good.made (t := false) s.toks (fun b o e => Heap.get?_push_of_some _ e) hf (size_none _ (Nat.le_refl _)) (Heap.get?_push_size _ rfl) rfl rfl r
theorem newTuple_good {vs : List Value} {ds : List PyData} (hf : FzIn fz s.heap) (r : RepAll fz vs ds) (hz : ds.length ≤ 100000) : wpAny (model prog w) A (newTuple vs) (Good fs fz s (.tuple ds)) E s := by
  refine wpAny_newTuple ?_ (by rw [r.length]; exact Nat.le_trans hz (by decide))
  exact Good.made (t := true) s.toks (fun b o e => Heap.get?_push_of_some _ e) hf (size_none _ (Nat.le_refl _)) (Heap.get?_push_size _ rfl) rfl rfl r
/-! arithmetic -/
noncomputable def int2 (f : Int → Int → Res) : PyData → PyData → Res
  | .int x, b => (match b with
    | .int y => f x y
    | _ => .bad)
  | _, _ => .bad
theorem int2_ok {f : Int → Int → Res} {a b : PyData} {r : Res} (h : int2 f a b = r) (hr : r ≠ .bad) : ∃ x y, a = .int x ∧ b = .int y ∧ f x y = r := by
  cases a with
  | int x => cases b with
    | int y => exact ⟨x, y, rfl, rfl, h⟩
    | _ => exact absurd h.symm hr
  | _ => exact absurd h.symm hr
noncomputable def catL (xs : List PyData) : PyData → Res
  | .list ys => if xs.length + ys.length ≤ 100000 then .ok (.list (xs ++ ys)) else .bad
  | _ => .bad
noncomputable def opAdd : PyData → PyData → Res
  | .list xs, b => catL xs b
  | a, b => int2 (fun x y => .ok (.int (x + y))) a b
noncomputable def opBin : Operator → PyData → PyData → Res
  | .Add, a, b => opAdd a b
  | .Sub, a, b => int2 (fun a b => .ok (.int (a - b))) a b
  | .Mult, a, b => int2 (fun a b => if b.natAbs < 2 ^ 60 then .ok (.int (a * b)) else .bad) a b
  | .FloorDiv, a, b => int2 (fun a b => if b ≠ 0 ∧ b.natAbs < 2 ^ 29 then .ok (.int (a.fdiv b)) else .bad) a b
  | .Mod, a, b => int2 (fun a b => if b ≠ 0 then .ok (.int (a.fmod b)) else .bad) a b
  | .Pow, a, b => int2 (fun a n => if 0 ≤ n ∧ n ≤ 64 ∧ a.natAbs < 2 ^ 60 then .ok (.int (a ^ n.toNat)) else .bad) a b
  | .BitAnd, a, b => int2 (fun a b => .ok (.int (Builtin.bitAnd a b))) a b
  | .MatMult, _, _ => .bad
  | .Div, _, _ => .bad
  | .LShift, _, _ => .bad
  | .RShift, _, _ => .bad
  | .BitOr, _, _ => .bad
  | .BitXor, _, _ => .bad
theorem mulOk_small {a b : Int} (h : b.natAbs < 2 ^ 60) : IntMulOk a b := by
  unfold IntMulOk
  have : ¬ (Builtin.Int.intBits b > shortFactorBits) := by
    unfold Builtin.Int.intBits shortFactorBits
    by_cases h0 : b.natAbs = 0
    · simp_all
    · have := (Nat.log2_lt h0).mpr h
      split <;> omega
  simp [this]
end
end Mine
end
section
open PySem PySem.W PyProof.Rows
namespace Mine
section
variable {prog : Program} {w : World} {A : Around} {E : Value → Shared → Prop} {s : Shared} {fz : Fz} {fs : List Addr}
theorem bin_good {op : Operator} {a b : PyData} {va vb : Value} {d : PyData} (hf : FzIn fz s.heap) (ra : Rep fz va a) (rb : Rep fz vb b) (h : opBin op a b = .ok d) :
    wpAny (model prog w) A (binaryOp op va vb) (Good fs fz s d) E s := by
  have nb : Res.ok d ≠ .bad := fun q => by cases q
  have key : ∀ {f : Int → Int → Res}, int2 f a b = .ok d → (∀ x y t u, f x y = .ok d → wpAny (model prog w) A (binaryOp op (.int x t) (.int y u)) (Good fs fz s d) E s) → wpAny (model prog w) A (binaryOp op va vb) (Good fs fz s d) E s := by
    intro f hi k
    obtain ⟨x, y, rfl, rfl, h9⟩ := int2_ok hi nb
    obtain ⟨t, rfl⟩ := rep_int_inv ra
    obtain ⟨u, rfl⟩ := rep_int_inv rb
    exact k x y t u h9
  cases op with
  | Add =>
    by_cases hl : ∃ xs, a = .list xs
    · obtain ⟨xs, rfl⟩ := hl
      cases b with
      | list ys =>
        have h : (if xs.length + ys.length ≤ 100000 then Res.ok (.list (xs ++ ys)) else .bad) = .ok d := h
        split at h
        · rename_i hlen
          cases h
          obtain ⟨l, vs, rfl, e1, r1⟩ := rep_list_inv ra
          obtain ⟨l2, ws, rfl, e2, r2⟩ := rep_list_inv rb
          obtain ⟨⟨cls, dd, data, sl⟩, n, ho, hc, hd⟩ := hf _ _ _ e1
          obtain ⟨⟨cls2, dd2, data2, sl2⟩, n2, ho2, hc2, hd2⟩ := hf _ _ _ e2
          simp only [Bool.false_eq_true, if_false] at hc hd hc2 hd2
          subst hc hd hc2 hd2
          have e : vs.toArray ++ ws.toArray = (vs ++ ws).toArray := by simp
          refine concat_meets ⟨_, ho, rfl⟩ ⟨_, ho2, rfl⟩ noFill_list_add seq_list_add PySem.F.slot_list_add PySem.F.entry_list_add (PySem.F.args_list_add_2 _ _) (list_addW l l2 vs.toArray ws.toArray n n2 dd dd2 sl sl2 (by
            have := r1.length; have := r2.length; simp only [List.size_toArray]; rw [sizeLine_eq]; omega)) ⟨ho, ho2, ?_⟩
          rw [e]
          exact Good.made (t := false) s.toks (fun b o e => Heap.get?_push_of_some _ e) hf (size_none _ (Nat.le_refl _)) (Heap.get?_push_size _ rfl) rfl rfl (r1.append r2)
        · cases h
      | _ => cases h
    · refine key (f := fun x y => .ok (.int (x + y))) ?_ fun x y t u q => ?_
      · cases a <;> first | exact h | exact absurd ⟨_, rfl⟩ hl
      · cases q; exact add_int (Good.same _ hf (.int _ _))
  | Sub => exact key h fun x y t u q => by cases q; exact sub_int (Good.same _ hf (.int _ _))
  | Mult =>
    refine key h fun x y t u q => ?_
    split at q
    · cases q; exact mul_int (Good.same _ hf (.int _ _)) (mulOk_small (by assumption))
    · cases q
  | FloorDiv =>
    refine key h fun x y t u q => ?_
    split at q
    · rename_i hb; cases q; exact floordiv_int hb.1 (Good.same _ hf (.int _ _)) (.inl (PyProof.noPylong_small (by omega)))
    · cases q
  | Mod =>
    refine key h fun x y t u q => ?_
    split at q
    · rename_i hb; cases q; exact mod_int' hb (Good.same _ hf (.int _ _))
    · cases q
  | Pow =>
    refine key h fun a n t u q => ?_
    split at q
    · rename_i hb
      cases q
      refine pow_int hb.1 ?_ (Good.same _ hf (.int _ _))
      have : Builtin.Int.intBits a ≤ 60 := by
        unfold Builtin.Int.intBits
        split
        · omega
        · by_cases h0 : a.natAbs = 0
          · rw [h0]; decide
          · have := (Nat.log2_lt h0).mpr hb.2.2
            omega
      have h1 := hb.1
      have h2 := hb.2.1
      have : (Builtin.Int.intBits a : Int) * n ≤ 60 * 64 := Int.mul_le_mul (by omega) h2 h1 (by omega)
      omega
    · cases q
  | BitAnd => exact key h fun x y t u q => by cases q; exact and_int (Good.same _ hf (.int _ _))
  | _ => cases h
/-! comparisons -/
/-- a text lies in a text -/
noncomputable def strIn (y x : Str) : Bool := !(Builtin.Str.occurrences x y 0 x.length 1).isEmpty
noncomputable def intB (f : Int → Int → Bool) (a b : PyData) : Res := int2 (fun x y => .ok (.bool (f x y))) a b
noncomputable def bool2 (f : Bool → Bool → Bool) : PyData → PyData → Res
  | .bool x, b => (match b with
    | .bool y => .ok (.bool (f x y))
    | _ => .bad)
  | _, _ => .bad
noncomputable def strB (neg : Bool) (x : Str) : PyData → Res
  | .str y => .ok (.bool (strIn y x != neg))
  | _ => .bad
/-- a thing lies in a text, in a list -/
noncomputable def inB (neg : Bool) (a : PyData) : PyData → Res
  | .str x => strB neg x a
  | .list ds => if okD a && okD (.list ds) then .ok (.bool ((ds.any fun y => PyData.eqv y a) != neg)) else .bad
  | _ => .bad
noncomputable def opCmp : CmpOp → PyData → PyData → Res
  | .Eq, a, b => if okD a && okD b then .ok (.bool (PyData.eqv a b)) else .bad
  | .NotEq, a, b => if okD a && okD b then .ok (.bool (!PyData.eqv a b)) else .bad
  | .Lt, a, b => intB (fun a b => decide (a < b)) a b
  | .LtE, a, b => intB (fun a b => decide (a ≤ b)) a b
  | .Gt, a, b => intB (fun a b => decide (b < a)) a b
  | .GtE, a, b => intB (fun a b => decide (b ≤ a)) a b
  | .Is, a, b => bool2 (fun a b => a == b) a b
  | .IsNot, a, b => bool2 (fun a b => !(a == b)) a b
  | .In, a, b => inB false a b
  | .NotIn, a, b => inB true a b
theorem okD_list_lay {ds : List PyData} (h : okD (.list ds) = true) : PyData.canLayAll0 ds = true := by
  have := (okN_lay 6 _ h).1
  simpa [PyData.canLay0] using this
theorem okD_lay {d : PyData} (h : okD d = true) : d.canLay0 = true ∧ d.depth ≤ 6 := okN_lay 6 _ h
theorem cmp_good {op : CmpOp} {a b : PyData} {va vb : Value} {d : PyData} (hu : A.units + 70 < cLine) (hf : FzIn fz s.heap) (ra : Rep fz va a) (rb : Rep fz vb b) (h : opCmp op a b = .ok d) :
    wpAny (model prog w) A (compareOp op va vb) (Good fs fz s d) E s := by
  have nb : Res.ok d ≠ .bad := fun q => by cases q
  have key : ∀ {f : Int → Int → Bool}, intB f a b = .ok d → (∀ x y t u, d = .bool (f x y) → wpAny (model prog w) A (compareOp op (.int x t) (.int y u)) (Good fs fz s d) E s) → wpAny (model prog w) A (compareOp op va vb) (Good fs fz s d) E s := by
    intro f hi k
    obtain ⟨x, y, rfl, rfl, h9⟩ := int2_ok hi nb
    obtain ⟨t, rfl⟩ := rep_int_inv ra
    obtain ⟨u, rfl⟩ := rep_int_inv rb
    cases h9
    exact k x y t u rfl
  have keyB : ∀ {f : Bool → Bool → Bool}, bool2 f a b = .ok d → (∀ x y, va = .bool x → vb = .bool y → d = .bool (f x y) → wpAny (model prog w) A (compareOp op va vb) (Good fs fz s d) E s) → wpAny (model prog w) A (compareOp op va vb) (Good fs fz s d) E s := by
    intro f hi k
    cases a with
    | bool x => cases b with
      | bool y => cases hi; exact k x y (rep_bool_inv ra) (rep_bool_inv rb) rfl
      | _ => cases hi
    | _ => cases hi
  have ib : ∀ x y : Bool, (Value.bool x == Value.bool y) = (x == y) := fun x y => by cases x <;> cases y <;> rfl
  cases op with
  | Eq =>
    have h : (if okD a && okD b then Res.ok (.bool (PyData.eqv a b)) else .bad) = .ok d := h
    split at h
    · rename_i hk
      cases h
      obtain ⟨_, q1⟩ := ra.reads hf; obtain ⟨_, q2⟩ := rb.reads hf
      exact eq_dataH q1 q2 (okD_shaped (Bool.and_eq_true_iff.mp hk).1) (okD_shaped (Bool.and_eq_true_iff.mp hk).2) (by omega) (Good.here hf (.bool _))
    · cases h
  | NotEq =>
    have h : (if okD a && okD b then Res.ok (.bool (!PyData.eqv a b)) else .bad) = .ok d := h
    split at h
    · rename_i hk
      cases h
      obtain ⟨_, q1⟩ := ra.reads hf; obtain ⟨_, q2⟩ := rb.reads hf
      exact ne_dataH q1 q2 (okD_shaped (Bool.and_eq_true_iff.mp hk).1) (okD_shaped (Bool.and_eq_true_iff.mp hk).2) (by omega) (Good.here hf (.bool _))
    · cases h
  | Lt => exact key h fun x y t u q => by subst q; exact lt_int (Good.here hf (.bool _))
  | LtE => exact key h fun x y t u q => by subst q; exact le_int (Good.here hf (.bool _))
  | Gt => exact key h fun x y t u q => by subst q; exact gt_int (Good.here hf (.bool _))
  | GtE => exact key h fun x y t u q => by subst q; exact ge_int (Good.here hf (.bool _))
  | Is =>
    refine keyB h fun x y e1 e2 q => ?_
    subst e1 e2 q
    refine wpAny_is_plain rfl ?_
    rw [ib]; exact Good.here hf (.bool _)
  | IsNot =>
    refine keyB h fun x y e1 e2 q => ?_
    subst e1 e2 q
    refine wpAny_isNot_plain rfl ?_
    rw [ib]; exact Good.here hf (.bool _)
  | In =>
    cases b with
    | str x => cases a with
      | str y =>
        cases h; obtain ⟨t, rfl⟩ := rep_str_inv ra; obtain ⟨u, rfl⟩ := rep_str_inv rb
        rw [Bool.bne_false]; exact in_str (Good.here hf (.bool _))
      | _ => cases h
    | list ds =>
      have h : (if okD a && okD (.list ds) then Res.ok (.bool ((ds.any fun y => PyData.eqv y a) != false)) else .bad) = .ok d := h
      split at h
      · rename_i hk
        cases h
        obtain ⟨k1, k2⟩ := Bool.and_eq_true_iff.mp hk
        obtain ⟨_, q1⟩ := ra.reads hf; obtain ⟨_, q2⟩ := rb.reads hf
        have := (okD_lay k1).2
        rw [Bool.bne_false]; exact SeqAt.in_list_reads q2 q1 (okD_list_lay k2) (okD_lay k1).1 (by omega) (Good.here hf (.bool _))
      · cases h
    | _ => cases h
  | NotIn =>
    cases b with
    | str x => cases a with
      | str y =>
        cases h; obtain ⟨t, rfl⟩ := rep_str_inv ra; obtain ⟨u, rfl⟩ := rep_str_inv rb
        rw [Bool.bne_true]; exact notIn_str (Good.here hf (.bool _))
      | _ => cases h
    | list ds =>
      have h : (if okD a && okD (.list ds) then Res.ok (.bool ((ds.any fun y => PyData.eqv y a) != true)) else .bad) = .ok d := h
      split at h
      · rename_i hk
        cases h
        obtain ⟨k1, k2⟩ := Bool.and_eq_true_iff.mp hk
        obtain ⟨_, q1⟩ := ra.reads hf; obtain ⟨_, q2⟩ := rb.reads hf
        have := (okD_lay k1).2
        rw [Bool.bne_true]; exact SeqAt.notIn_list_reads q2 q1 (okD_list_lay k2) (okD_lay k1).1 (by omega) (Good.here hf (.bool _))
      · cases h
    | _ => cases h
end
end Mine
end
section
open PySem PySem.W PyProof.Rows
namespace Mine
/-! truth -/
noncomputable def truth : PyData → Option Bool
  | .bool b => some b
  | .int i => some (i != 0)
  | .list ds => if ds.length ≤ 100000 then some (!ds.isEmpty) else none
  | .none => some false
  | _ => none
/-- the heap has grown, the tokens moved; nothing is new -/
noncomputable def Quiet (fs : List Addr) (fz : Fz) (s : Shared) (s' : Shared) : Prop :=
  ∃ h' tk fz', s' = { s with heap := h', toks := tk } ∧ Ext fs s.heap h' ∧ FzExt s.heap fz fz' ∧ FzIn fz' h'
theorem Quiet.same {fs : List Addr} {fz : Fz} {s : Shared} (tk : Nat) (hf : FzIn fz s.heap) : Quiet fs fz s { s with toks := tk } := ⟨_, _, fz, rfl, Ext.refl _ _, FzExt.refl _ _, hf⟩
/-! items -/
noncomputable def opIdx : PyData → PyData → Res
  | .list ds, .int k => if 0 ≤ k ∧ k < 2 ^ 62 then (match ds[k.toNat]? with | some d => .ok d | none => .exc "IndexError") else .bad
  | .tuple ds, .int k => if 0 ≤ k ∧ k < 2 ^ 62 then (match ds[k.toNat]? with | some d => .ok d | none => .bad) else .bad
  | .str x, .int k => if 0 ≤ k ∧ k < 2 ^ 62 then (match x.cps[k.toNat]? with | some c => .ok (.str ⟨#[c]⟩) | none => .bad) else .bad
  | _, _ => .bad
noncomputable def opSlice : PyData → Option PyData → Option PyData → Res
  | .list ds, none, none => if ds.length ≤ 100000 then .ok (.list ds) else .bad
  | .list ds, some (.int a), none => if 0 ≤ a ∧ ds.length ≤ 100000 then .ok (.list (ds.drop a.toNat)) else .bad
  | .list ds, none, some (.int b) => if 0 ≤ b ∧ ds.length ≤ 100000 then .ok (.list (ds.take b.toNat)) else .bad
  | .list ds, some (.int a), some (.int b) => if 0 ≤ a ∧ 0 ≤ b ∧ ds.length ≤ 100000 then .ok (.list ((ds.drop a.toNat).take (b.toNat - a.toNat))) else .bad
  | _, _, _ => .bad
/-! sorting by insertion -/
noncomputable def insI (a : Int) : List Int → List Int
  | [] => [a]
  | b :: r => if a ≤ b then a :: b :: r else b :: insI a r
noncomputable def sortI : List Int → List Int
  | [] => []
  | a :: r => insI a (sortI r)
theorem insI_perm (a : Int) : ∀ l, (insI a l).Perm (a :: l)
  | [] => .refl _
  | b :: r => by
    unfold insI
    split
    · exact .refl _
    · exact ((insI_perm a r).cons b).trans (.swap a b r)
theorem sortI_perm : ∀ l, (sortI l).Perm l
  | [] => .refl _
  | a :: r => (insI_perm a _).trans ((sortI_perm r).cons a)
theorem insI_sorted (a : Int) : ∀ l : List Int, l.Pairwise (· ≤ ·) → (insI a l).Pairwise (· ≤ ·)
  | [], _ => by simp [insI]
  | b :: r, h => by
    unfold insI
    obtain ⟨h1, h2⟩ := List.pairwise_cons.mp h
    split
    · rename_i hab
      exact List.pairwise_cons.mpr ⟨fun c hc => by rcases List.mem_cons.mp hc with rfl | hc; exact hab; exact Int.le_trans hab (h1 c hc), h⟩
    · rename_i hab
      refine List.pairwise_cons.mpr ⟨fun c hc => ?_, insI_sorted a r h2⟩
      rcases List.mem_cons.mp ((insI_perm a r).mem_iff.mp hc) with rfl | hc
      · omega
      · exact h1 c hc
theorem sortI_sorted : ∀ l : List Int, (sortI l).Pairwise (· ≤ ·)
  | [] => .nil
  | a :: r => insI_sorted a _ (sortI_sorted r)
theorem sorted_unique {l l' : List Int} (hp : l.Perm l') (h : l.Pairwise (· ≤ ·)) (h' : l'.Pairwise (· ≤ ·)) : l = l' :=
  hp.eq_of_pairwise (fun a b _ _ h1 h2 => Int.le_antisymm h1 h2) h h'
noncomputable def intsOf : List PyData → Option (List Int)
  | [] => some []
  | .int i :: r => (intsOf r).map (i :: ·)
  | _ :: _ => none
theorem intsOf_eq : ∀ {ds : List PyData} {ns : List Int}, intsOf ds = some ns → ds = ns.map PyData.int
  | [], ns, h => by cases h; rfl
  | d :: r, ns, h => by
    cases d <;> simp [intsOf] at h
    obtain ⟨ms, h1, rfl⟩ := h
    simp [← intsOf_eq h1]
theorem intsOf_map : ∀ ns : List Int, intsOf (ns.map PyData.int) = some ns
  | [] => rfl
  | n :: r => by simp [intsOf, intsOf_map r]
inductive Bi where
  | len | sorted | sum | max | min | list
noncomputable def bestI (f : Int → Int → Int) : List Int → Option Int
  | [] => none
  | a :: r => some (r.foldl f a)
noncomputable def opBi : Bi → PyData → Res
  | .len, .list ds => if ds.length ≤ 100000 then .ok (.int ds.length) else .bad
  | .sorted, .list ds => match intsOf ds with
    | some ns => if ns.length < 64 then .ok (.list ((sortI ns).map .int)) else .bad
    | none => .bad
  | .sum, .list ds => match intsOf ds with
    | some ns => .ok (.int ns.sum)
    | none => .bad
  | .max, .list ds => match (intsOf ds).bind (bestI max) with
    | some m => .ok (.int m)
    | none => .bad
  | .min, .list ds => match (intsOf ds).bind (bestI min) with
    | some m => .ok (.int m)
    | none => .bad
  | .list, .list ds => if ds.length ≤ 100000 then .ok (.list ds) else .bad
  | _, _ => .bad
theorem foldl_max_ge : ∀ (r : List Int) (a : Int), a ≤ r.foldl max a ∧ ∀ b ∈ r, b ≤ r.foldl max a
  | [], a => ⟨Int.le_refl _, by simp⟩
  | c :: r, a => by
    obtain ⟨h1, h2⟩ := foldl_max_ge r (max a c)
    simp only [List.foldl_cons]
    refine ⟨by omega, fun b hb => ?_⟩
    rcases List.mem_cons.mp hb with rfl | hb
    · omega
    · exact h2 b hb
theorem foldl_max_mem : ∀ (r : List Int) (a : Int), r.foldl max a = a ∨ r.foldl max a ∈ r
  | [], a => .inl rfl
  | c :: r, a => by
    simp only [List.foldl_cons]
    rcases foldl_max_mem r (max a c) with h | h
    · rw [h]
      rcases Int.le_total a c with q | q
      · rw [Int.max_eq_right q]; exact .inr (.head _)
      · rw [Int.max_eq_left q]; exact .inl rfl
    · exact .inr (.tail _ h)
theorem foldl_min_le : ∀ (r : List Int) (a : Int), r.foldl min a ≤ a ∧ ∀ b ∈ r, r.foldl min a ≤ b
  | [], a => ⟨Int.le_refl _, by simp⟩
  | c :: r, a => by
    obtain ⟨h1, h2⟩ := foldl_min_le r (min a c)
    simp only [List.foldl_cons]
    refine ⟨by omega, fun b hb => ?_⟩
    rcases List.mem_cons.mp hb with rfl | hb
    · omega
    · exact h2 b hb
theorem foldl_min_mem : ∀ (r : List Int) (a : Int), r.foldl min a = a ∨ r.foldl min a ∈ r
  | [], a => .inl rfl
  | c :: r, a => by
    simp only [List.foldl_cons]
    rcases foldl_min_mem r (min a c) with h | h
    · rw [h]
      rcases Int.le_total a c with q | q
      · rw [Int.min_eq_left q]; exact .inl rfl
      · rw [Int.min_eq_right q]; exact .inr (.head _)
    · exact .inr (.tail _ h)
theorem bestI_max {ns : List Int} {m : Int} (h : bestI max ns = some m) : m ∈ ns ∧ (∀ a ∈ ns, a ≤ m) := by
  cases ns with
  | nil => cases h
  | cons a r =>
    cases h
    obtain ⟨h1, h2⟩ := foldl_max_ge r a
    refine ⟨?_, fun b hb => ?_⟩
    · rcases foldl_max_mem r a with h | h
      · rw [h]; exact .head _
      · exact .tail _ h
    · rcases List.mem_cons.mp hb with rfl | hb
      · exact h1
      · exact h2 b hb
theorem bestI_min {ns : List Int} {m : Int} (h : bestI min ns = some m) : m ∈ ns ∧ (∀ a ∈ ns, m ≤ a) := by
  cases ns with
  | nil => cases h
  | cons a r =>
    cases h
    obtain ⟨h1, h2⟩ := foldl_min_le r a
    refine ⟨?_, fun b hb => ?_⟩
    · rcases foldl_min_mem r a with h | h
      · rw [h]; exact .head _
      · exact .tail _ h
    · rcases List.mem_cons.mp hb with rfl | hb
      · exact h1
      · exact h2 b hb
section
variable {prog : Program} {w : World} {A : Around} {E : Value → Shared → Prop} {s : Shared} {fz : Fz} {fs : List Addr}
theorem truth_good {d : PyData} {v : Value} {b : Bool} {Q : Bool → Shared → Prop} (hf : FzIn fz s.heap) (r : Rep fz v d) (h : truth d = some b) (hQ : ∀ tk, Q b { s with toks := tk }) :
    wpAny (model prog w) A (truthy v) Q E s := by
  unfold truth at h
  split at h
  · cases h; cases rep_bool_inv r; exact wpAny_truthy_bool (hQ s.toks)
  · cases h; obtain ⟨t, rfl⟩ := rep_int_inv r; exact truthy_int (hQ s.toks)
  · split at h
    · rename_i ds hl
      cases h
      obtain ⟨l, vs, rfl, e1, r1⟩ := rep_list_inv r
      have hlen := r1.length
      refine wpAny_truthy_list (hf.isList e1) (by simp only [List.size_toArray]; omega) ?_
      have : (!vs.toArray.isEmpty) = !ds.isEmpty := by
        cases vs <;> cases ds <;> simp_all
      rw [this]; exact hQ _
    · cases h
  · cases h; cases r; exact truthy_none (hQ s.toks)
  · cases h
theorem seqIndex_nat {k : Int} {n : Nat} (h0 : 0 ≤ k) (h1 : k.toNat < n) : seqIndex? k n = some k.toNat := by
  have e : (if k < 0 then k + (n : Int) else k) = k := if_neg (by omega)
  unfold seqIndex?
  simp only [e]
  have h2 : k < (n : Int) := by omega
  simp [h0, h2]
theorem idx_good {value slice : Expr} {a b : PyData} {va vb : Value} {d : PyData} (hs : ∀ o i, subscripted slice false o i = operate [o, i] (getItem o i)) (hf : FzIn fz s.heap) (ra : Rep fz va a) (rb : Rep fz vb b) (h : opIdx a b = .ok d) :
    wpAny (model prog w) A (subscriptTail value slice va vb) (Good fs fz s d) E s := by
  unfold opIdx at h
  split at h
  · split at h
    · rename_i hk
      split at h
      · rename_i d' hd
        cases h
        obtain ⟨l, vs, rfl, e1, r1⟩ := rep_list_inv ra
        obtain ⟨u, rfl⟩ := rep_int_inv rb
        obtain ⟨x, hx, rx⟩ := r1.get hd
        exact tail_any (hf.isList e1).typeIs slot_list_getitem.lookup (wpAny_getItem_list (hf.isList e1) hk.1 (by omega) (by simpa using hx) (Good.here hf rx)) (hs _ _)
      · cases h
    · cases h
  · split at h
    · rename_i hk
      split at h
      · rename_i d' hd
        cases h
        obtain ⟨l, vs, rfl, e1, r1⟩ := rep_tuple_inv ra
        obtain ⟨u, rfl⟩ := rep_int_inv rb
        obtain ⟨x, hx, rx⟩ := r1.get hd
        exact item_tupleT (hf.isTup e1) (by omega) (by omega) (seqIndex_nat hk.1 (List.getElem?_eq_some_iff.mp hx).1) hx (Good.here hf rx) (hs _ _)
      · cases h
    · cases h
  · split at h
    · rename_i hk
      split at h
      · rename_i c hc
        cases h
        rename_i x k _
        obtain ⟨t, rfl⟩ := rep_str_inv ra
        obtain ⟨u, rfl⟩ := rep_int_inv rb
        refine tail_any (T := "str") (typeIs_str _ _ _) PySem.F.slot_str_getitem.lookup (getItem_str ?_ ?_ (Good.same _ hf (.str _ _))) (hs _ _)
        · simp; omega
        · have : k.toNat < x.length := (Array.getElem?_eq_some_iff.mp hc).1
          rw [seqIndex_nat hk.1 this]; exact hc
      · cases h
    · cases h
  · cases h
theorem slice_pick {vs : List Value} {ds : List PyData} {lo hi : Option PyData} {d : PyData} (r : RepAll fz vs ds) (h : opSlice (.list ds) lo hi = .ok d) {vl vu : Value} (rl : ∀ x, lo = some x → Rep fz vl x) (rl0 : lo = none → vl = .none)
    (ru : ∀ x, hi = some x → Rep fz vu x) (ru0 : hi = none → vu = .none) :
    ∃ l u vs' ds', IsPart vl l ∧ IsPart vu u ∧ slicePick vs.toArray l u none = vs'.toArray ∧ d = .list ds' ∧ RepAll fz vs' ds' ∧ ds.length ≤ 100000 := by
  unfold opSlice at h
  split at h
  · rename_i e; cases e
    split at h
    · rename_i hz
      cases h
      cases rl0 rfl; cases ru0 rfl
      exact ⟨none, none, vs, ds, .none, .none, slicePick_all _, rfl, r, hz⟩
    · cases h
  · rename_i e; cases e
    split at h
    · rename_i a hz
      cases h
      obtain ⟨t, rfl⟩ := rep_int_inv (rl _ rfl); cases ru0 rfl
      refine ⟨some a, none, vs.drop a.toNat, ds.drop a.toNat, .int _ _, .none, ?_, rfl, r.drop _, hz.2⟩
      have := slicePick_from' vs.toArray a.toNat
      rw [Int.toNat_of_nonneg hz.1] at this
      simpa using this
    · cases h
  · rename_i e; cases e
    split at h
    · rename_i a hz
      cases h
      obtain ⟨t, rfl⟩ := rep_int_inv (ru _ rfl); cases rl0 rfl
      refine ⟨none, some a, vs.take a.toNat, ds.take a.toNat, .none, .int _ _, ?_, rfl, r.take _, hz.2⟩
      have := slicePick_upto' vs.toArray a.toNat
      rw [Int.toNat_of_nonneg hz.1] at this
      simpa using this
    · cases h
  · rename_i e; cases e
    split at h
    · rename_i a b hz
      cases h
      obtain ⟨t, rfl⟩ := rep_int_inv (rl _ rfl); obtain ⟨u, rfl⟩ := rep_int_inv (ru _ rfl)
      refine ⟨some a, some b, (vs.drop a.toNat).take (b.toNat - a.toNat), _, .int _ _, .int _ _, ?_, rfl, (r.drop _).take _, hz.2.2⟩
      rw [slicePick_plain]
      have ca : clipAt vs.toArray.size a = min a.toNat vs.length := by
        have := clipAt_nat vs.toArray.size a.toNat
        rw [Int.toNat_of_nonneg hz.1] at this; simpa using this
      have cb : clipAt vs.toArray.size b = min b.toNat vs.length := by
        have := clipAt_nat vs.toArray.size b.toNat
        rw [Int.toNat_of_nonneg hz.2.1] at this; simpa using this
      simp only [Option.elim, ca, cb]
      congr 1
      rcases Nat.le_total a.toNat vs.length with h1 | h1
      · rw [Nat.min_eq_left h1]
        rcases Nat.le_total b.toNat vs.length with h2 | h2
        · rw [Nat.min_eq_left h2]
        · rw [Nat.min_eq_right h2, List.take_of_length_le (by simp), List.take_of_length_le (by simp; omega)]
      · rw [Nat.min_eq_right h1, List.drop_of_length_le (by simp), List.drop_of_length_le h1]; simp
    · cases h
  · cases h
end
end Mine
end
section
open PySem PySem.W PyProof.Rows
namespace Mine
noncomputable def Bi.callee : Bi → Value
  | .len => .builtin "len"
  | .sorted => .builtin "sorted"
  | .sum => .builtin "sum"
  | .max => .builtin "max"
  | .min => .builtin "min"
  | .list => .type "list"
noncomputable def Bi.name : Bi → Str
  | .len => "len"
  | .sorted => "sorted"
  | .sum => "sum"
  | .max => "max"
  | .min => "min"
  | .list => "list"
section
variable {prog : Program} {w : World} {A : Around} {E : Value → Shared → Prop} {s : Shared} {fz : Fz} {fs : List Addr}
theorem allInts_of {vs : List Value} {ns : List Int} (h : IntsAre vs ns) : AllInts vs.toArray := h.allInts
theorem bi_good {b : Bi} {a : PyData} {va : Value} {d : PyData} (hh : A.handled = none) (hf : FzIn fz s.heap) (ra : Rep fz va a) (h : opBi b a = .ok d) :
    wpAny (model prog w) A (call b.callee [va]) (Good fs fz s d) E s := by
  unfold opBi at h
  split at h
  · split at h
    · cases h
      obtain ⟨l, vs, rfl, e1, r1⟩ := rep_list_inv ra
      have hlen := r1.length
      refine len_list (hf.isList e1) (by simp only [List.size_toArray]; omega) ?_
      simp only [List.size_toArray, hlen]
      exact Good.same _ hf (.int _ _)
    · cases h
  · split at h
    · rename_i ns hns
      split at h
      · rename_i h64
        cases h
        obtain ⟨l, vs, rfl, e1, r1⟩ := rep_list_inv ra
        rw [intsOf_eq hns] at r1
        have hI := repInts r1
        refine sorted_ints (hf.isList e1) hI (by rw [hI.length]; exact h64) fun out ns' a1 a2 a3 => ?_
        have hs : ns' = sortI ns := sorted_unique (a2.trans (sortI_perm ns).symm) a3 (sortI_sorted ns)
        subst hs
        obtain ⟨e, he⟩ := sortedAll_at s.heap vs out
        have := Good.made (fs := fs) (t := false) (vs := out.toList) (n := e) s.toks (fun b o e => sortedAll_old e) hf (size_none s.heap (Nat.le_succ _)) he rfl (by rw [Array.toArray_toList]) (intsRep a1 : RepAll fz _ _)
        exact this
      · cases h
    · cases h
  · split at h
    · rename_i ns hns
      cases h
      obtain ⟨l, vs, rfl, e1, r1⟩ := rep_list_inv ra
      rw [intsOf_eq hns] at r1
      have hI := repInts r1
      obtain ⟨xs, hx⟩ := hI.allInts.items
      have hl := hf.isList e1
      rw [hx] at hl
      refine call_sum_walkG (iter_intList hl fun s₂ e st hfp hlI => ?_)
      subst e
      refine ⟨_, _, _, _, _, _, numAt xs, rfl, Walks.list (A := A.in1) hh _ l hlI (intItems xs), st, hfp, (fun _ _ => intItems_at), fun h' tk t' hk => ?_⟩
      have e2 : preSum (numAt xs) (intItems xs).size = ns.sum := by
        have q := hI.numsOf
        rw [show vs = vs.toArray.toList from rfl, hx, nums_intItems] at q
        rw [preSum_eq, ← q, List.take_of_length_le (by simp [intItems])]
      rw [e2]
      exact Good.kept tk (old_kept hk) hf (.int _ _)
    · cases h
  · split at h
    · rename_i m hm
      cases h
      obtain ⟨ns, hns, hb⟩ := Option.bind_eq_some_iff.mp hm
      obtain ⟨l, vs, rfl, e1, r1⟩ := rep_list_inv ra
      rw [intsOf_eq hns] at r1
      have hI := repInts r1
      obtain ⟨xs, hx⟩ := hI.allInts.items
      have hl := hf.isList e1
      have q := hI.numsOf
      rw [show vs = vs.toArray.toList from rfl, hx, nums_intItems] at q
      rw [hx] at hl
      obtain ⟨m1, m2⟩ := bestI_max hb
      have hsz : 0 < xs.size := by
        have : 0 < ns.length := List.length_pos_of_mem m1
        rw [← q] at this; simpa using this
      refine max_intList hh hl hsz fun v h' tk hv hk => ?_
      obtain ⟨t, rfl⟩ := intItems_at hv
      obtain ⟨h1, h2⟩ := argBest_gt (numAt xs) (xs.size - 1)
      have e3 : numAt xs (argBest (fun i j => decide (numAt xs i > numAt xs j)) (xs.size - 1)) = m := by
        apply Int.le_antisymm
        · refine m2 _ ?_
          rw [← q, numAt_eq]; exact getD_mem (by rw [List.length_map, Array.length_toList]; omega)
        · rw [← q] at m1
          obtain ⟨j, hj, rfl⟩ := mem_getD m1
          rw [List.length_map, Array.length_toList] at hj
          rw [← numAt_eq]; exact h2 j (by omega)
      rw [e3]
      exact Good.kept tk hk hf (.int _ _)
    · cases h
  · split at h
    · rename_i m hm
      cases h
      obtain ⟨ns, hns, hb⟩ := Option.bind_eq_some_iff.mp hm
      obtain ⟨l, vs, rfl, e1, r1⟩ := rep_list_inv ra
      rw [intsOf_eq hns] at r1
      have hI := repInts r1
      obtain ⟨xs, hx⟩ := hI.allInts.items
      have hl := hf.isList e1
      have q := hI.numsOf
      rw [show vs = vs.toArray.toList from rfl, hx, nums_intItems] at q
      rw [hx] at hl
      obtain ⟨m1, m2⟩ := bestI_min hb
      have hsz : 0 < xs.size := by
        have : 0 < ns.length := List.length_pos_of_mem m1
        rw [← q] at this; simpa using this
      refine min_intList hh hl hsz fun v h' tk hv hk => ?_
      obtain ⟨t, rfl⟩ := intItems_at hv
      obtain ⟨h1, h2⟩ := argBest_lt (numAt xs) (xs.size - 1)
      have e3 : numAt xs (argBest (fun i j => decide (numAt xs i < numAt xs j)) (xs.size - 1)) = m := by
        apply Int.le_antisymm
        · rw [← q] at m1
          obtain ⟨j, hj, rfl⟩ := mem_getD m1
          rw [List.length_map, Array.length_toList] at hj
          rw [← numAt_eq]; exact h2 j (by omega)
        · refine m2 _ ?_
          rw [← q, numAt_eq]; exact getD_mem (by rw [List.length_map, Array.length_toList]; omega)
      rw [e3]
      exact Good.kept tk hk hf (.int _ _)
    · cases h
  · split at h
    · cases h
      obtain ⟨l, vs, rfl, e1, r1⟩ := rep_list_inv ra
      have hlen := r1.length
      obtain ⟨o, n, ho, hc, hd⟩ := hf _ _ _ e1
      refine call_list_seq l (.inl rfl) ho hc hd (fun h' c' hk hn => ?_) (by simp only [List.size_toArray]; rw [sizeLine_eq]; omega)
      exact Good.made (t := false) s.toks hk hf (size_none _ (Nat.le_refl _)) hn rfl rfl r1
    · cases h
  · cases h
end
end Mine
end
section
open PySem PySem.W PyProof.Rows
namespace Mine
/-- expressions of a small language, names resolved to places -/
inductive X where
  | var (i : Nat)
  | int (i : Int)
  | str (x : Str)
  | bool (b : Bool)
  | nothing
  | glob (g : Nat)
  | list (es : List X)
  | tup (es : List X)
  | bin (op : Operator) (a b : X)
  | cmp (op : CmpOp) (a b : X)
  | cmp2 (op₁ op₂ : CmpOp) (a b c : X)
  | outside (a : X) (i : Nat)
  | not (a : X)
  | and (a b : X)
  | or (a b : X)
  | ite (c a b : X)
  | idx (a b : X)
  | slice (a lo hi : X)
  | call (f : Nat) (args : List X)
  | bi (b : Bi) (a : X)
  | ints (n : Nat)
  | compR (a b c : Int) (cond elt : X)
  | comp (src cond elt : X)
  | comp2 (src₁ src₂ elt : X)
  | join (a : X)
inductive SV where
  | un
  | val (d : PyData)
  | own (ds : List PyData)
structure Tab where
  fnames : List Str
  gnames : List Str
  gvals : List PyData
  F : Nat → List PyData → Option PyData
noncomputable def Res.bind (r : Res) (f : PyData → Res) : Res := match r with
  | .ok d => f d
  | .exc k => .exc k
  | .bad => .bad
/-- what raises is bad -/
noncomputable def Res.thenOk (r : Res) (f : PyData → Res) : Res := match r with
  | .ok d => f d
  | .exc _ => .bad
  | .bad => .bad
theorem Res.then_ok (d : PyData) (f : PyData → Res) : (Res.ok d).thenOk f = f d := rfl
theorem Res.bind_ok (d : PyData) (f : PyData → Res) : (Res.ok d).bind f = f d := rfl
theorem Res.bind_exc (k : String) (f : PyData → Res) : (Res.exc k).bind f = .exc k := rfl
theorem Res.bind_bad (f : PyData → Res) : Res.bad.bind f = .bad := rfl
noncomputable def itemsOf : PyData → Option (List PyData)
  | .list ds => if ds.length ≤ 100000 then some ds else none
  | .tuple ds => if ds.length ≤ 100000 then some ds else none
  | _ => none
noncomputable def rangeN (a b c : Int) : Nat := (Builtin.Range.rangeSize a b c).toNat
noncomputable def rangeD (a b c : Int) : List PyData := (List.range (rangeN a b c)).map fun (i : Nat) => .int (a + i * c)
noncomputable def rangeOk (a b c : Int) : Bool := Builtin.Range.small a b c && (decide (c ≠ 0) && decide (c.natAbs < 1000)) && decide (0 ≤ Builtin.Range.rangeSize a b c) && decide (rangeN a b c ≤ 1000)
noncomputable def optD : PyData → Option PyData
  | .none => none
  | d => some d
noncomputable def strsOf : List PyData → Option (List Str)
  | [] => some []
  | .str x :: r => (strsOf r).map (x :: ·)
  | _ :: _ => none
noncomputable def catS : List Str → Str
  | [] => ⟨#[]⟩
  | x :: r => ⟨x.cps ++ (catS r).cps⟩
noncomputable def opJoin : PyData → Res
  | .list ds => match strsOf ds with
    | some l => if l.length ≤ 100 ∧ l.all (fun x => x.length ≤ 100) then .ok (.str (catS l)) else .bad
    | none => .bad
  | _ => .bad
/-- an element a turn -/
noncomputable def compGo (cond elt : PyData → Res) : List PyData → Res
  | [] => .ok (.list [])
  | d :: r => match cond d with
    | .ok c => (match truth c with
      | some true => (match elt d with
        | .ok e => (match compGo cond elt r with
          | .ok (.list es) => .ok (.list (e :: es))
          | _ => .bad)
        | _ => .bad)
      | some false => compGo cond elt r
      | none => .bad)
    | _ => .bad
noncomputable def compGo2 (src : PyData → Res) (elt : PyData → PyData → Res) : List PyData → Res
  | [] => .ok (.list [])
  | d :: r => match src d with
    | .ok l => (match itemsOf l with
      | some ds => (match compGo (fun _ => .ok (.bool true)) (elt d) ds with
        | .ok (.list es) => (match compGo2 src elt r with
          | .ok (.list fs) => if es.length + fs.length ≤ 100000 then .ok (.list (es ++ fs)) else .bad
          | _ => .bad)
        | _ => .bad)
      | none => .bad)
    | _ => .bad
mutual
noncomputable def ev (T : Tab) : X → List SV → Res
  | .var i, σ => match σ[i]? with
    | some (.val d) => .ok d
    | _ => .bad
  | .int i, _ => .ok (.int i)
  | .str x, _ => .ok (.str x)
  | .bool b, _ => .ok (.bool b)
  | .nothing, _ => .ok .none
  | .glob g, _ => match T.gvals[g]? with
    | some d => .ok d
    | none => .bad
  | .list es, σ => (evs T es σ).bind fun l => match l with
    | .list ds => if ds.length ≤ 100000 then .ok (.list ds) else .bad
    | _ => .bad
  | .tup es, σ => (evs T es σ).bind fun l => match l with
    | .list ds => if ds.length ≤ 100000 then .ok (.tuple ds) else .bad
    | _ => .bad
  | .bin op a b, σ => (ev T a σ).bind fun x => (ev T b σ).bind fun y => opBin op x y
  | .cmp op a b, σ => (ev T a σ).bind fun x => (ev T b σ).bind fun y => opCmp op x y
  | .cmp2 op₁ op₂ a b c, σ => (ev T a σ).bind fun x => (ev T b σ).bind fun y => (opCmp op₁ x y).bind fun t => match t with
    | .bool true => (ev T c σ).bind fun z => opCmp op₂ y z
    | .bool false => .ok (.bool false)
    | _ => .bad
  | .outside a i, σ => (ev T a σ).bind fun x => match σ[i]? with
    | some (.own ds) => opCmp .NotIn x (.list ds)
    | _ => .bad
  | .not a, σ => (ev T a σ).bind fun x => match truth x with
    | some b => .ok (.bool (!b))
    | none => .bad
  | .and a b, σ => (ev T a σ).bind fun x => match truth x with
    | some true => ev T b σ
    | some false => .ok x
    | none => .bad
  | .or a b, σ => (ev T a σ).bind fun x => match truth x with
    | some true => .ok x
    | some false => ev T b σ
    | none => .bad
  | .ite c a b, σ => (ev T c σ).bind fun x => match truth x with
    | some true => ev T a σ
    | some false => ev T b σ
    | none => .bad
  | .idx a b, σ => (ev T a σ).bind fun x => (ev T b σ).bind fun y => opIdx x y
  | .slice a lo hi, σ => (ev T a σ).bind fun x => (ev T lo σ).bind fun y => (ev T hi σ).bind fun z => opSlice x (optD y) (optD z)
  | .call f args, σ => (evs T args σ).bind fun l => match l with
    | .list ds => (match T.F f ds with
      | some d => .ok d
      | none => .bad)
    | _ => .bad
  | .bi b a, σ => (ev T a σ).bind fun x => opBi b x
  | .ints n, _ => if n ≤ 1000 then .ok (.list (rangeD 0 n 1)) else .bad
  | .compR a b c cond elt, σ => if rangeOk a b c then compGo (fun d => ev T cond (σ ++ [.val d])) (fun d => ev T elt (σ ++ [.val d])) (rangeD a b c) else .bad
  | .comp src cond elt, σ => (ev T src σ).thenOk fun l => match itemsOf l with
    | some ds => compGo (fun d => ev T cond (σ ++ [.val d])) (fun d => ev T elt (σ ++ [.val d])) ds
    | none => .bad
  | .comp2 src₁ src₂ elt, σ => (ev T src₁ σ).thenOk fun l => match itemsOf l with
    | some ds => compGo2 (fun d => ev T src₂ (σ ++ [.val d])) (fun d e => ev T elt (σ ++ [.val d, .val e])) ds
    | none => .bad
  | .join a, σ => (ev T a σ).bind opJoin
noncomputable def evs (T : Tab) : List X → List SV → Res
  | [], _ => .ok (.list [])
  | x :: r, σ => (ev T x σ).bind fun d => (evs T r σ).bind fun l => match l with
    | .list ds => .ok (.list (d :: ds))
    | _ => .bad
end
/-! which syntax an expression stands for -/
abbrev Sc := List (Str × NameKind)
noncomputable def nmIdx : List Str → Str → Option Nat
  | [], _ => none
  | y :: r, x => match nmIdx r x with
    | some i => some (i + 1)
    | none => if y = x then some 0 else none
noncomputable def isVar : Option NameKind → Bool
  | some .local => true
  | some .cell => true
  | some .free => true
  | _ => false
noncomputable def isGlob (sc : Sc) (x : Str) : Bool := sc.lookup x == some .globalImplicit && x != ("__debug__" : Str)
noncomputable def relab (sc : Sc) (names : Sc) : Sc := names.map fun (n, k) => if (k == .free && sc.lookup n == some .cell) then (n, .cell) else (n, k)
noncomputable def nodupB : List Str → Bool
  | [] => true
  | x :: r => !r.contains x && nodupB r
noncomputable def compOk (sc : Sc) (nm : List Str) (t : Str) (scope : Scope) : Bool :=
  scope.kind == .function && nodupB (scope.names.map (·.1)) &&
  scope.names.all (fun x => x.2 != .free || (sc.lookup x.1 == some .cell || sc.lookup x.1 == some .free)) &&
  scope.names.all (fun x => (x.2 != .local && x.2 != .cell) || x.1 == t || nmIdx nm x.1 == none)
noncomputable def tgtOk (scope : Scope) (t : Str) : Bool := scope.names.lookup t == some .local || scope.names.lookup t == some .cell
theorem andL {a b : Bool} (h : (a && b) = true) : a = true := (Bool.and_eq_true_iff.mp h).1
theorem andR {a b : Bool} (h : (a && b) = true) : b = true := (Bool.and_eq_true_iff.mp h).2
noncomputable def at1 {α : Type} (q : α → Bool) : List α → Bool
  | [a] => q a
  | _ => false
theorem at1_inv {α : Type} {q : α → Bool} {l : List α} (h : at1 q l = true) : ∃ a, l = [a] ∧ q a = true := by
  match l, h with
  | [a], h => exact ⟨a, rfl, h⟩
noncomputable def at2 {α : Type} (q : α → α → Bool) : List α → Bool
  | [a, b] => q a b
  | _ => false
theorem at2_inv {α : Type} {q : α → α → Bool} {l : List α} (h : at2 q l = true) : ∃ a b, l = [a, b] ∧ q a b = true := by
  match l, h with
  | [a, b], h => exact ⟨a, b, rfl, h⟩
noncomputable def at3 {α : Type} (q : α → α → α → Bool) : List α → Bool
  | [a, b, c] => q a b c
  | _ => false
theorem at3_inv {α : Type} {q : α → α → α → Bool} {l : List α} (h : at3 q l = true) : ∃ a b c, l = [a, b, c] ∧ q a b c = true := by
  match l, h with
  | [a, b, c], h => exact ⟨a, b, c, rfl, h⟩
theorem nil_inv {α : Type} {l : List α} (h : l.isEmpty = true) : l = [] := List.isEmpty_iff.mp h
theorem none_inv {α : Type} {o : Option α} (h : o.isNone = true) : o = none := Option.isNone_iff_eq_none.mp h
noncomputable def isUn : UnaryOp → Bool
  | .Not => true
  | _ => false
noncomputable def isNeg : UnaryOp → Bool
  | .USub => true
  | _ => false
noncomputable def isAnd : BoolOp → Bool
  | .And => true
  | .Or => false
theorem isUn_inv {o : UnaryOp} (h : isUn o = true) : o = .Not := by cases o <;> first | rfl | cases h
theorem isNeg_inv {o : UnaryOp} (h : isNeg o = true) : o = .USub := by cases o <;> first | rfl | cases h
theorem isAnd_inv {o : BoolOp} (h : isAnd o = true) : o = .And := by cases o <;> first | rfl | cases h
theorem isOr_inv {o : BoolOp} (h : (!isAnd o) = true) : o = .Or := by cases o <;> first | rfl | cases h
noncomputable def atName (q : Str → Pos → Bool) (e₀ : PySem.Expr) : Bool := if h : e₀.ctorIdx = 23 then PySem.Expr.Name.elim (motive_1 := fun _ => Bool) e₀ h q else false
theorem atName_inv {q : Str → Pos → Bool} {e₀ : PySem.Expr} (h : atName q e₀ = true) : ∃ x p, e₀ = .Name x p ∧ q x p = true := by
  unfold atName at h
  split at h
  · rename_i hi
    revert h
    exact PySem.Expr.Name.elim (motive_1 := fun t₀ => ∀ hi, PySem.Expr.Name.elim (motive_1 := fun _ => Bool) t₀ hi q = true → ∃ x p, t₀ = .Name x p ∧ q x p = true) e₀ hi (fun x p _ h => ⟨x, p, rfl, h⟩) hi
  · cases h
noncomputable def atConstant (q : Const → Nat → Pos → Bool) (e₀ : PySem.Expr) : Bool := if h : e₀.ctorIdx = 19 then PySem.Expr.Constant.elim (motive_1 := fun _ => Bool) e₀ h q else false
theorem atConstant_inv {q : Const → Nat → Pos → Bool} {e₀ : PySem.Expr} (h : atConstant q e₀ = true) : ∃ c k p, e₀ = .Constant c k p ∧ q c k p = true := by
  unfold atConstant at h
  split at h
  · rename_i hi
    revert h
    exact PySem.Expr.Constant.elim (motive_1 := fun t₀ => ∀ hi, PySem.Expr.Constant.elim (motive_1 := fun _ => Bool) t₀ hi q = true → ∃ c k p, t₀ = .Constant c k p ∧ q c k p = true) e₀ hi (fun c k p _ h => ⟨c, k, p, rfl, h⟩) hi
  · cases h
noncomputable def atList (q : List Expr → Pos → Bool) (e₀ : PySem.Expr) : Bool := if h : e₀.ctorIdx = 24 then PySem.Expr.List.elim (motive_1 := fun _ => Bool) e₀ h q else false
theorem atList_inv {q : List Expr → Pos → Bool} {e₀ : PySem.Expr} (h : atList q e₀ = true) : ∃ es p, e₀ = .List es p ∧ q es p = true := by
  unfold atList at h
  split at h
  · rename_i hi
    revert h
    exact PySem.Expr.List.elim (motive_1 := fun t₀ => ∀ hi, PySem.Expr.List.elim (motive_1 := fun _ => Bool) t₀ hi q = true → ∃ es p, t₀ = .List es p ∧ q es p = true) e₀ hi (fun es p _ h => ⟨es, p, rfl, h⟩) hi
  · cases h
noncomputable def atTuple (q : List Expr → Nat → Pos → Bool) (e₀ : PySem.Expr) : Bool := if h : e₀.ctorIdx = 25 then PySem.Expr.Tuple.elim (motive_1 := fun _ => Bool) e₀ h q else false
theorem atTuple_inv {q : List Expr → Nat → Pos → Bool} {e₀ : PySem.Expr} (h : atTuple q e₀ = true) : ∃ es k p, e₀ = .Tuple es k p ∧ q es k p = true := by
  unfold atTuple at h
  split at h
  · rename_i hi
    revert h
    exact PySem.Expr.Tuple.elim (motive_1 := fun t₀ => ∀ hi, PySem.Expr.Tuple.elim (motive_1 := fun _ => Bool) t₀ hi q = true → ∃ es k p, t₀ = .Tuple es k p ∧ q es k p = true) e₀ hi (fun es k p _ h => ⟨es, k, p, rfl, h⟩) hi
  · cases h
noncomputable def atBinOp (q : Expr → Operator → Expr → Pos → Bool) (e₀ : PySem.Expr) : Bool := if h : e₀.ctorIdx = 2 then PySem.Expr.BinOp.elim (motive_1 := fun _ => Bool) e₀ h q else false
theorem atBinOp_inv {q : Expr → Operator → Expr → Pos → Bool} {e₀ : PySem.Expr} (h : atBinOp q e₀ = true) : ∃ l op r p, e₀ = .BinOp l op r p ∧ q l op r p = true := by
  unfold atBinOp at h
  split at h
  · rename_i hi
    revert h
    exact PySem.Expr.BinOp.elim (motive_1 := fun t₀ => ∀ hi, PySem.Expr.BinOp.elim (motive_1 := fun _ => Bool) t₀ hi q = true → ∃ l op r p, t₀ = .BinOp l op r p ∧ q l op r p = true) e₀ hi (fun l op r p _ h => ⟨l, op, r, p, rfl, h⟩) hi
  · cases h
noncomputable def atCompare (q : Expr → List CmpOp → List Expr → Pos → Bool) (e₀ : PySem.Expr) : Bool := if h : e₀.ctorIdx = 15 then PySem.Expr.Compare.elim (motive_1 := fun _ => Bool) e₀ h q else false
theorem atCompare_inv {q : Expr → List CmpOp → List Expr → Pos → Bool} {e₀ : PySem.Expr} (h : atCompare q e₀ = true) : ∃ l ops rs p, e₀ = .Compare l ops rs p ∧ q l ops rs p = true := by
  unfold atCompare at h
  split at h
  · rename_i hi
    revert h
    exact PySem.Expr.Compare.elim (motive_1 := fun t₀ => ∀ hi, PySem.Expr.Compare.elim (motive_1 := fun _ => Bool) t₀ hi q = true → ∃ l ops rs p, t₀ = .Compare l ops rs p ∧ q l ops rs p = true) e₀ hi (fun l ops rs p _ h => ⟨l, ops, rs, p, rfl, h⟩) hi
  · cases h
noncomputable def atUnaryOp (q : UnaryOp → Expr → Pos → Bool) (e₀ : PySem.Expr) : Bool := if h : e₀.ctorIdx = 3 then PySem.Expr.UnaryOp.elim (motive_1 := fun _ => Bool) e₀ h q else false
theorem atUnaryOp_inv {q : UnaryOp → Expr → Pos → Bool} {e₀ : PySem.Expr} (h : atUnaryOp q e₀ = true) : ∃ op a p, e₀ = .UnaryOp op a p ∧ q op a p = true := by
  unfold atUnaryOp at h
  split at h
  · rename_i hi
    revert h
    exact PySem.Expr.UnaryOp.elim (motive_1 := fun t₀ => ∀ hi, PySem.Expr.UnaryOp.elim (motive_1 := fun _ => Bool) t₀ hi q = true → ∃ op a p, t₀ = .UnaryOp op a p ∧ q op a p = true) e₀ hi (fun op a p _ h => ⟨op, a, p, rfl, h⟩) hi
  · cases h
noncomputable def atBoolOp (q : BoolOp → List Expr → Pos → Bool) (e₀ : PySem.Expr) : Bool := if h : e₀.ctorIdx = 0 then PySem.Expr.BoolOp.elim (motive_1 := fun _ => Bool) e₀ h q else false
theorem atBoolOp_inv {q : BoolOp → List Expr → Pos → Bool} {e₀ : PySem.Expr} (h : atBoolOp q e₀ = true) : ∃ op es p, e₀ = .BoolOp op es p ∧ q op es p = true := by
  unfold atBoolOp at h
  split at h
  · rename_i hi
    revert h
    exact PySem.Expr.BoolOp.elim (motive_1 := fun t₀ => ∀ hi, PySem.Expr.BoolOp.elim (motive_1 := fun _ => Bool) t₀ hi q = true → ∃ op es p, t₀ = .BoolOp op es p ∧ q op es p = true) e₀ hi (fun op es p _ h => ⟨op, es, p, rfl, h⟩) hi
  · cases h
noncomputable def atIfExp (q : Expr → Expr → Expr → Pos → Bool) (e₀ : PySem.Expr) : Bool := if h : e₀.ctorIdx = 5 then PySem.Expr.IfExp.elim (motive_1 := fun _ => Bool) e₀ h q else false
theorem atIfExp_inv {q : Expr → Expr → Expr → Pos → Bool} {e₀ : PySem.Expr} (h : atIfExp q e₀ = true) : ∃ t a b p, e₀ = .IfExp t a b p ∧ q t a b p = true := by
  unfold atIfExp at h
  split at h
  · rename_i hi
    revert h
    exact PySem.Expr.IfExp.elim (motive_1 := fun t₀ => ∀ hi, PySem.Expr.IfExp.elim (motive_1 := fun _ => Bool) t₀ hi q = true → ∃ t a b p, t₀ = .IfExp t a b p ∧ q t a b p = true) e₀ hi (fun t a b p _ h => ⟨t, a, b, p, rfl, h⟩) hi
  · cases h
noncomputable def atSubscript (q : Expr → Expr → Pos → Bool) (e₀ : PySem.Expr) : Bool := if h : e₀.ctorIdx = 21 then PySem.Expr.Subscript.elim (motive_1 := fun _ => Bool) e₀ h q else false
theorem atSubscript_inv {q : Expr → Expr → Pos → Bool} {e₀ : PySem.Expr} (h : atSubscript q e₀ = true) : ∃ v i p, e₀ = .Subscript v i p ∧ q v i p = true := by
  unfold atSubscript at h
  split at h
  · rename_i hi
    revert h
    exact PySem.Expr.Subscript.elim (motive_1 := fun t₀ => ∀ hi, PySem.Expr.Subscript.elim (motive_1 := fun _ => Bool) t₀ hi q = true → ∃ v i p, t₀ = .Subscript v i p ∧ q v i p = true) e₀ hi (fun v i p _ h => ⟨v, i, p, rfl, h⟩) hi
  · cases h
noncomputable def atSlice (q : Option Expr → Option Expr → Option Expr → Pos → Bool) (e₀ : PySem.Expr) : Bool := if h : e₀.ctorIdx = 26 then PySem.Expr.Slice.elim (motive_1 := fun _ => Bool) e₀ h q else false
theorem atSlice_inv {q : Option Expr → Option Expr → Option Expr → Pos → Bool} {e₀ : PySem.Expr} (h : atSlice q e₀ = true) : ∃ l u s p, e₀ = .Slice l u s p ∧ q l u s p = true := by
  unfold atSlice at h
  split at h
  · rename_i hi
    revert h
    exact PySem.Expr.Slice.elim (motive_1 := fun t₀ => ∀ hi, PySem.Expr.Slice.elim (motive_1 := fun _ => Bool) t₀ hi q = true → ∃ l u s p, t₀ = .Slice l u s p ∧ q l u s p = true) e₀ hi (fun l u s p _ h => ⟨l, u, s, p, rfl, h⟩) hi
  · cases h
noncomputable def atCall (q : Expr → List Expr → List Keyword → Pos → Bool) (e₀ : PySem.Expr) : Bool := if h : e₀.ctorIdx = 16 then PySem.Expr.Call.elim (motive_1 := fun _ => Bool) e₀ h q else false
theorem atCall_inv {q : Expr → List Expr → List Keyword → Pos → Bool} {e₀ : PySem.Expr} (h : atCall q e₀ = true) : ∃ f as kw p, e₀ = .Call f as kw p ∧ q f as kw p = true := by
  unfold atCall at h
  split at h
  · rename_i hi
    revert h
    exact PySem.Expr.Call.elim (motive_1 := fun t₀ => ∀ hi, PySem.Expr.Call.elim (motive_1 := fun _ => Bool) t₀ hi q = true → ∃ f as kw p, t₀ = .Call f as kw p ∧ q f as kw p = true) e₀ hi (fun f as kw p _ h => ⟨f, as, kw, p, rfl, h⟩) hi
  · cases h
noncomputable def atListComp (q : Expr → List Comprehension → Scope → Pos → Bool) (e₀ : PySem.Expr) : Bool := if h : e₀.ctorIdx = 8 then PySem.Expr.ListComp.elim (motive_1 := fun _ => Bool) e₀ h q else false
theorem atListComp_inv {q : Expr → List Comprehension → Scope → Pos → Bool} {e₀ : PySem.Expr} (h : atListComp q e₀ = true) : ∃ a gens scope p, e₀ = .ListComp a gens scope p ∧ q a gens scope p = true := by
  unfold atListComp at h
  split at h
  · rename_i hi
    revert h
    exact PySem.Expr.ListComp.elim (motive_1 := fun t₀ => ∀ hi, PySem.Expr.ListComp.elim (motive_1 := fun _ => Bool) t₀ hi q = true → ∃ a gens scope p, t₀ = .ListComp a gens scope p ∧ q a gens scope p = true) e₀ hi (fun a gens scope p _ h => ⟨a, gens, scope, p, rfl, h⟩) hi
  · cases h
noncomputable def atAttribute (q : Expr → Str → Pos → Bool) (e₀ : PySem.Expr) : Bool := if h : e₀.ctorIdx = 20 then PySem.Expr.Attribute.elim (motive_1 := fun _ => Bool) e₀ h q else false
theorem atAttribute_inv {q : Expr → Str → Pos → Bool} {e₀ : PySem.Expr} (h : atAttribute q e₀ = true) : ∃ a x p, e₀ = .Attribute a x p ∧ q a x p = true := by
  unfold atAttribute at h
  split at h
  · rename_i hi
    revert h
    exact PySem.Expr.Attribute.elim (motive_1 := fun t₀ => ∀ hi, PySem.Expr.Attribute.elim (motive_1 := fun _ => Bool) t₀ hi q = true → ∃ a x p, t₀ = .Attribute a x p ∧ q a x p = true) e₀ hi (fun a x p _ h => ⟨a, x, p, rfl, h⟩) hi
  · cases h
noncomputable def atConstInt (q : Int → Bool) (e₀ : PySem.Const) : Bool := if h : e₀.ctorIdx = 2 then PySem.Const.int.elim (motive := fun _ => Bool) e₀ h q else false
theorem atConstInt_inv {q : Int → Bool} {e₀ : PySem.Const} (h : atConstInt q e₀ = true) : ∃ i, e₀ = .int i ∧ q i = true := by
  unfold atConstInt at h
  split at h
  · rename_i hi
    revert h
    exact PySem.Const.int.elim (motive := fun t₀ => ∀ hi, PySem.Const.int.elim (motive := fun _ => Bool) t₀ hi q = true → ∃ i, t₀ = .int i ∧ q i = true) e₀ hi (fun i _ h => ⟨i, rfl, h⟩) hi
  · cases h
noncomputable def atConstStr (q : Str → Bool) (e₀ : PySem.Const) : Bool := if h : e₀.ctorIdx = 5 then PySem.Const.str.elim (motive := fun _ => Bool) e₀ h q else false
theorem atConstStr_inv {q : Str → Bool} {e₀ : PySem.Const} (h : atConstStr q e₀ = true) : ∃ x, e₀ = .str x ∧ q x = true := by
  unfold atConstStr at h
  split at h
  · rename_i hi
    revert h
    exact PySem.Const.str.elim (motive := fun t₀ => ∀ hi, PySem.Const.str.elim (motive := fun _ => Bool) t₀ hi q = true → ∃ x, t₀ = .str x ∧ q x = true) e₀ hi (fun x _ h => ⟨x, rfl, h⟩) hi
  · cases h
noncomputable def atConstBool (q : Bool → Bool) (e₀ : PySem.Const) : Bool := if h : e₀.ctorIdx = 1 then PySem.Const.bool.elim (motive := fun _ => Bool) e₀ h q else false
theorem atConstBool_inv {q : Bool → Bool} {e₀ : PySem.Const} (h : atConstBool q e₀ = true) : ∃ b, e₀ = .bool b ∧ q b = true := by
  unfold atConstBool at h
  split at h
  · rename_i hi
    revert h
    exact PySem.Const.bool.elim (motive := fun t₀ => ∀ hi, PySem.Const.bool.elim (motive := fun _ => Bool) t₀ hi q = true → ∃ b, t₀ = .bool b ∧ q b = true) e₀ hi (fun b _ h => ⟨b, rfl, h⟩) hi
  · cases h
noncomputable def plainE (e : Expr) : Bool := !(e.ctorIdx == 22 || e.ctorIdx == 26 || e.ctorIdx == 7)
noncomputable def isTrueX : X → Bool
  | .bool true => true
  | _ => false
noncomputable def constE (e : Expr) (j : Int) : Bool :=
  atConstant (fun c _ _ => atConstInt (fun i => i == j) c) e || atUnaryOp (fun o a _ => isNeg o && atConstant (fun c _ _ => atConstInt (fun i => -i == j) c) a) e
noncomputable def rangeE (sc : Sc) (a b c : Int) (e : Expr) : Bool := atCall (fun f as kw _ => atName (fun x _ => isGlob sc x && x == ("range" : Str) && kw.isEmpty &&
  (at1 (fun x => a == 0 && constE x b && c == 1 && plainE x) as || at2 (fun x y => constE x a && constE y b && c == 1 && plainE x && plainE y) as ||
    at3 (fun x y z => constE x a && constE y b && constE z c && plainE x && plainE y && plainE z) as)) f) e
noncomputable def isNothing (x : X) : Bool := x.ctorIdx == 4
mutual
noncomputable def Mx (T : Tab) (sc : Sc) (nm : List Str) : X → Expr → Bool
  | .var i, e₀ => atName (fun x _ => nmIdx nm x == some i && isVar (sc.lookup x) && x != ("__debug__" : Str) && x != ("__classdict__" : Str)) e₀
  | .int i, e₀ => atConstant (fun c _ _ => atConstInt (fun j => i == j) c) e₀
  | .str x, e₀ => atConstant (fun c _ _ => atConstStr (fun y => x == y) c) e₀
  | .bool b, e₀ => atConstant (fun c _ _ => atConstBool (fun d => b == d) c) e₀
  | .glob g, e₀ => atName (fun x _ => isGlob sc x && T.gnames[g]? == some x) e₀
  | .list es, e₀ => atList (fun es' _ => Mxs T sc nm es es') e₀
  | .tup es, e₀ => atTuple (fun es' _ _ => Mxs T sc nm es es') e₀
  | .bin op a b, e₀ => atBinOp (fun l op' r _ => decide (op = op') && Mx T sc nm a l && Mx T sc nm b r) e₀
  | .cmp op a b, e₀ => atCompare (fun l ops rs _ => at1 (fun op' => at1 (fun r => decide (op = op') && Mx T sc nm a l && Mx T sc nm b r && plainE r) rs) ops) e₀
  | .cmp2 op₁ op₂ a b c, e₀ => atCompare (fun l ops rs _ => at2 (fun op₁' op₂' => at2 (fun m r => decide (op₁ = op₁') && decide (op₂ = op₂') && Mx T sc nm a l && Mx T sc nm b m && Mx T sc nm c r && plainE m && plainE r) rs) ops) e₀
  | .outside a i, e₀ => atCompare (fun l ops rs _ => at1 (fun op' => at1 (fun r => atName (fun x _ => decide (op' = .NotIn) && (Mx T sc nm a l && nmIdx nm x == some i && isVar (sc.lookup x) && x != ("__debug__" : Str) && x != ("__classdict__" : Str))) r) rs) ops) e₀
  | .not a, e₀ => atUnaryOp (fun o e _ => isUn o && Mx T sc nm a e) e₀
  | .and a b, e₀ => atBoolOp (fun o es _ => isAnd o && at2 (fun l r => Mx T sc nm a l && Mx T sc nm b r) es) e₀
  | .or a b, e₀ => atBoolOp (fun o es _ => !isAnd o && at2 (fun l r => Mx T sc nm a l && Mx T sc nm b r) es) e₀
  | .ite c a b, e₀ => atIfExp (fun t x y _ => Mx T sc nm c t && Mx T sc nm a x && Mx T sc nm b y) e₀
  | .idx a b, e₀ => atSubscript (fun v i _ => Mx T sc nm a v && Mx T sc nm b i && plainE i) e₀
  | .slice a lo hi, e₀ => atSubscript (fun v i _ => atSlice (fun l u st _ => st.isNone && (Mx T sc nm a v && (match l with
      | none => isNothing lo
      | some e => Mx T sc nm lo e && plainE e) && (match u with
      | none => isNothing hi
      | some e => Mx T sc nm hi e && plainE e))) i) e₀
  | .call f args, e₀ => atCall (fun g as kw _ => atName (fun x _ => kw.isEmpty && (isGlob sc x && T.fnames[f]? == some x && Mxs T sc nm args as && !as.isEmpty)) g) e₀
  | .bi b a, e₀ => atCall (fun g as kw _ => atName (fun x _ => kw.isEmpty && at1 (fun e => isGlob sc x && x == b.name && Mx T sc nm a e && plainE e) as) g) e₀
  | .ints n, e₀ => atCall (fun g as kw _ => atName (fun x _ => kw.isEmpty && at1 (fun e => isGlob sc x && x == ("list" : Str) && rangeE sc 0 n 1 e && plainE e) as) g) e₀
  | .compR a b c cond elt, e₀ => atListComp (fun e gens scope _ => at1 (fun g => atName (fun t _ => decide (g.is_async = 0) &&
      (rangeE sc a b c g.iter && compOk sc nm t scope && tgtOk scope t && Mx T (relab sc scope.names) (nm ++ [t]) elt e && plainE e &&
        (match g.ifs with
          | [] => isTrueX cond
          | [q] => Mx T (relab sc scope.names) (nm ++ [t]) cond q
          | _ => false))) g.target) gens) e₀
  | .comp src cond elt, e₀ => atListComp (fun e gens scope _ => at1 (fun g => atName (fun t _ => decide (g.is_async = 0) &&
      (Mx T sc nm src g.iter && plainE g.iter && compOk sc nm t scope && tgtOk scope t && Mx T (relab sc scope.names) (nm ++ [t]) elt e && plainE e &&
        (match g.ifs with
          | [] => isTrueX cond
          | [q] => Mx T (relab sc scope.names) (nm ++ [t]) cond q
          | _ => false))) g.target) gens) e₀
  | .comp2 src₁ src₂ elt, e₀ => atListComp (fun e gens scope _ => at2 (fun g g' => atName (fun t _ => atName (fun u _ => (decide (g.is_async = 0) && decide (g'.is_async = 0) && g.ifs.isEmpty && g'.ifs.isEmpty) &&
      (Mx T sc nm src₁ g.iter && plainE g.iter && compOk sc nm t scope && tgtOk scope t && tgtOk scope u && t != u && Mx T (relab sc scope.names) (nm ++ [t]) src₂ g'.iter && plainE g'.iter && Mx T (relab sc scope.names) (nm ++ [t, u]) elt e && plainE e)) g'.target) g.target) gens) e₀
  | .join a, e₀ => atCall (fun g as kw pos => atAttribute (fun z name apos => atConstant (fun c _ _ => atConstStr (fun z => kw.isEmpty && at1 (fun e => z == ⟨#[]⟩ && name == ("join" : Str) && apos.endLine == pos.line && Mx T sc nm a e && plainE e) as) c) z) g) e₀
  | .nothing, _ => false
termination_by structural x => x
noncomputable def Mxs (T : Tab) (sc : Sc) (nm : List Str) : List X → List Expr → Bool
  | [], es => es.isEmpty
  | x :: xs, es => (match es with
    | e :: es => Mx T sc nm x e && plainE e && Mxs T sc nm xs es
    | [] => false)
termination_by structural x => x
end
noncomputable def Mo (T : Tab) (sc : Sc) (nm : List Str) (x : X) (o : Option Expr) : Bool := match o with
  | none => isNothing x
  | some e => Mx T sc nm x e && plainE e
end Mine
end
section
open PySem PySem.W PyProof.Rows
namespace Mine
noncomputable def Rel (fs : List Addr) (fz : Fz) (s : Shared) (fz' : Fz) (s' : Shared) : Prop :=
  ∃ h' tk, s' = { s with heap := h', toks := tk } ∧ Ext fs s.heap h' ∧ FzExt s.heap fz fz' ∧ FzIn fz' h'
theorem Rel.trans {fs : List Addr} {a b c : Fz} {s₁ s₂ s₃ : Shared} (x : Rel fs a s₁ b s₂) (y : Rel fs b s₂ c s₃) : Rel fs a s₁ c s₃ := by
  obtain ⟨h, t, rfl, e, f, _⟩ := x
  obtain ⟨h', t', rfl, e', f', i'⟩ := y
  exact ⟨h', t', rfl, e.trans e', f.trans e f', i'⟩
theorem Rel.ext {fs : List Addr} {a b : Fz} {s₁ s₂ : Shared} (x : Rel fs a s₁ b s₂) : Ext fs s₁.heap s₂.heap := by
  obtain ⟨h, t, rfl, e, f, _⟩ := x; exact e
theorem Rel.fz {fs : List Addr} {a b : Fz} {s₁ s₂ : Shared} (x : Rel fs a s₁ b s₂) : FzExt s₁.heap a b := by
  obtain ⟨h, t, rfl, e, f, _⟩ := x; exact f
theorem Rel.fzin {fs : List Addr} {a b : Fz} {s₁ s₂ : Shared} (x : Rel fs a s₁ b s₂) : FzIn b s₂.heap := by
  obtain ⟨h, t, rfl, e, f, i⟩ := x; exact i
theorem Rel.same {fs : List Addr} {fz : Fz} {s : Shared} (hf : FzIn fz s.heap) (tk : Nat) : Rel fs fz s fz { s with toks := tk } := ⟨_, _, rfl, Ext.refl _ _, FzExt.refl _ _, hf⟩
theorem Rel.refl {fs : List Addr} {fz : Fz} {s : Shared} (hf : FzIn fz s.heap) : Rel fs fz s fz s := Rel.same hf s.toks
theorem good_iff {fs : List Addr} {fz : Fz} {s s' : Shared} {d : PyData} {v : Value} : Good fs fz s d v s' ↔ ∃ fz', Rel fs fz s fz' s' ∧ Rep fz' v d :=
  ⟨fun ⟨h', tk, fz', e, a, b, c, r⟩ => ⟨fz', ⟨h', tk, e, a, b, c⟩, r⟩, fun ⟨fz', ⟨h', tk, e, a, b, c⟩, r⟩ => ⟨h', tk, fz', e, a, b, c, r⟩⟩
theorem Good.after {fs : List Addr} {fz fz₁ : Fz} {s s₁ s' : Shared} {d : PyData} {v : Value} (x : Rel fs fz s fz₁ s₁) (g : Good fs fz₁ s₁ d v s') : Good fs fz s d v s' := by
  obtain ⟨fz', r, q⟩ := good_iff.mp g
  exact good_iff.mpr ⟨fz', x.trans r, q⟩
theorem PostV.after {fs : List Addr} {fz fz₁ : Fz} {s s₁ s' : Shared} {r : Res} {v : Value} (x : Rel fs fz s fz₁ s₁) (g : PostV fs fz₁ s₁ r v s') : PostV fs fz s r v s' := by
  cases r with
  | ok d => exact Good.after x g
  | exc k => exact g
  | bad => exact g
theorem ExcAt.before {hd : Option Value} {fs : List Addr} {h h₁ h' : Heap} {L e : Addr} {k : String} (x : Ext fs h h₁) (g : ExcAt hd h₁ L h' e k) : ExcAt hd h L h' e k := by
  obtain ⟨n, oe, vs, a, b, c, d, q⟩ := g
  refine ⟨x.none n, oe, vs, a, b, c, d, q.imp id ?_⟩
  rintro ⟨tb, ot, ts, q1, q2, q3⟩
  exact ⟨tb, ot, ts, q1, x.none q2, q3⟩
theorem PostE.after {hd : Option Value} {fs : List Addr} {fz fz₁ : Fz} {L : Addr} {s s₁ s' : Shared} {r : Res} {v : Value} (x : Rel fs fz s fz₁ s₁) (g : PostE hd fs L s₁ r v s') : PostE hd fs L s r v s' := by
  cases r with
  | ok d => exact g
  | bad => exact g
  | exc k =>
    obtain ⟨h', tk, e, rfl, rfl, a, b⟩ := g
    obtain ⟨h₁, t₁, rfl, a₁, _, _⟩ := x
    exact ⟨h', tk, e, rfl, rfl, a₁.trans a, b.before a₁⟩
/-- the outcome of a truth test -/
noncomputable def PostB (fs : List Addr) (fz : Fz) (s : Shared) : Res → Bool → Shared → Prop
  | .ok d => fun b s' => truth d = some b ∧ ∃ fz', Rel fs fz s fz' s'
  | _ => fun _ _ => False
theorem PostB.after {fs : List Addr} {fz fz₁ : Fz} {s s₁ s' : Shared} {r : Res} {v : Bool} (x : Rel fs fz s fz₁ s₁) (g : PostB fs fz₁ s₁ r v s') : PostB fs fz s r v s' := by
  cases r with
  | ok d => exact ⟨g.1, g.2.elim fun fz' r => ⟨fz', x.trans r⟩⟩
  | exc k => exact g
  | bad => exact g
theorem useV {hd : Option Value} {M : Model} {A : Around} {fs : List Addr} {fz : Fz} {L : Addr} {s : Shared} {t : Sem Value} {r₁ : Res} {K : Value → Shared → Prop} {E : Value → Shared → Prop}
    (h₁ : wpAny M A t (PostV fs fz s r₁) (PostE hd fs L s r₁) s) (hE : ∀ kk v s', r₁ = .exc kk → Bad hd fs L s kk v s' → E v s')
    (hK : ∀ d v fz₁ s₁, r₁ = .ok d → Rel fs fz s fz₁ s₁ → Rep fz₁ v d → K v s₁) : wpAny M A t K E s := by
  refine wpAny_mono h₁ (fun v s₁ h => ?_) fun v s' h => ?_
  · cases r₁ with
    | ok d =>
      obtain ⟨fz₁, r, q⟩ := good_iff.mp h
      exact hK d v fz₁ s₁ rfl r q
    | exc kk => exact h.elim
    | bad => exact h.elim
  · cases r₁ with
    | ok d => exact h.elim
    | exc kk => exact hE kk v s' rfl h
    | bad => exact h.elim
theorem useB {hd : Option Value} {M : Model} {A : Around} {fs : List Addr} {fz : Fz} {L : Addr} {s : Shared} {t : Sem Bool} {r₁ : Res} {K : Bool → Shared → Prop} {E : Value → Shared → Prop}
    (h₁ : wpAny M A t (PostB fs fz s r₁) (PostE hd fs L s r₁) s) (hE : ∀ kk v s', r₁ = .exc kk → Bad hd fs L s kk v s' → E v s')
    (hK : ∀ d b fz₁ s₁, r₁ = .ok d → truth d = some b → Rel fs fz s fz₁ s₁ → K b s₁) : wpAny M A t K E s := by
  refine wpAny_mono h₁ (fun v s₁ h => ?_) fun v s' h => ?_
  · cases r₁ with
    | ok d => obtain ⟨q, fz₁, r⟩ := h; exact hK d v fz₁ s₁ rfl q r
    | exc kk => exact h.elim
    | bad => exact h.elim
  · cases r₁ with
    | ok d => exact h.elim
    | exc kk => exact hE kk v s' rfl h
    | bad => exact h.elim
/-- an outcome of the part that raises is the whole's -/
theorem excOf {hd : Option Value} {fs : List Addr} {L : Addr} {s : Shared} {r₁ : Res} {f : PyData → Res} {kk : String} {v : Value} {s' : Shared} (e : r₁ = .exc kk) (h : Bad hd fs L s kk v s') : PostE hd fs L s (r₁.bind f) v s' := by
  subst e; exact h
/-- no exception is handled | one without a context is | any is -/
inductive Md where
  | a | b | c
/-- where a call stands: its frames, the room -/
structure Sit (md : Md) (A : Around) (outer : List Env) (n : Nat) : Prop where
  frames : A.frames = some outer
  handled : md = .a → A.handled = none
  depth : A.depth + n < 900
  units : A.units + 80 * n + 300 < cLine
noncomputable def CallOK (prog : Program) (w : World) (base : Heap) (fzT : Fz) (a : Addr) (n : Nat) (ds : List PyData) (d : PyData) : Prop :=
  ∀ (A : Around) (outer : List Env) (s : Shared) (vs : List Value) (fz : Fz) (E : Value → Shared → Prop), Sit .a A outer n → HI base outer s.heap → FzIn fz s.heap → FzLe fzT fz → RepAll fz vs ds →
    wpAny (model prog w) A (call (.ref a) vs []) (Good (fsOf outer) fz s d) E s
structure GOK (prog : Program) (w : World) (T : Tab) (base : Heap) (fzT : Fz) (mg mb : Str → Option Value) (n : Nat) : Prop where
  gl : base.Ns mainGlobals mg
  bu : base.Ns builtinsNs mb
  bis : ∀ b : Bi, mg b.name = none ∧ mb b.name = some b.callee
  rng : mg "range" = none ∧ mb "range" = some (.type "range")
  enu : mg "enumerate" = none ∧ mb "enumerate" = some (.type "enumerate")
  exi : mg "IndexError" = none ∧ mb "IndexError" = some (.type "IndexError")
  exv : mg "ValueError" = none ∧ mb "ValueError" = some (.type "ValueError")
  fns : ∀ (f : Nat) x, T.fnames[f]? = some x → ∃ a o fd, mg x = some (.ref a) ∧ base.get? a = some o ∧ o.data = .func fd ∧ ∀ ds d, T.F f ds = some d → CallOK prog w base fzT a n ds d
  gls : ∀ (g : Nat) x d, T.gnames[g]? = some x → T.gvals[g]? = some d → ∃ v, mg x = some v ∧ Rep fzT v d
noncomputable def isCellK : Option NameKind → Bool
  | some .cell => true
  | some .free => true
  | _ => false
structure EnvOK (L : Addr) (outer : List Env) (env : Env) (h : Heap) : Prop where
  kind : env.scope.kind = .function
  globals : env.globals = mainGlobals
  builtins : env.builtins = builtinsNs
  frame : env.frame = some L
  head : ∃ f r, outer = f :: r ∧ f.frame = some L
  ns : ∃ m, h.Ns env.locals m
  cells : ∀ x, isCellK (env.kindOf x) = true → ∃ c v, env.cells.lookup x = some c ∧ h.IsCell c v
noncomputable def Var (env : Env) (h : Heap) (x : Str) (v : Value) : Prop :=
  (env.kindOf x = some .local ∧ ∃ m, h.Ns env.locals m ∧ m x = some v) ∨ (isCellK (env.kindOf x) = true ∧ ∃ c, env.cells.lookup x = some c ∧ h.IsCell c (some v))
noncomputable def SVok (fs : List Addr) (fz : Fz) (h : Heap) (a : Addr) (V : Value → Prop) : SV → Prop
  | .un => True
  | .val d => ∃ v, V v ∧ Rep fz v d
  | .own ds => V (.ref a) ∧ a ∉ fs ∧ fz a = none ∧ ∃ vs, h.PlainList a vs.toArray ∧ RepAll fz vs ds
noncomputable def Inv (fs : List Addr) (env : Env) (nm : List Str) (σ : List SV) (ad : Nat → Addr) (fz : Fz) (h : Heap) : Prop :=
  ∀ x i sv, nmIdx nm x = some i → isVar (env.kindOf x) = true → σ[i]? = some sv → SVok fs fz h (ad i) (Var env h x) sv
theorem Var.ext {fs : List Addr} {h h' : Heap} {env : Env} {x : Str} {v : Value} (e : Ext fs h h') (q : Var env h x v) : Var env h' x v :=
  q.imp (fun ⟨k, m, hn, hm⟩ => ⟨k, m, e.ns hn, hm⟩) fun ⟨k, c, hc, hv⟩ => ⟨k, c, hc, e.isCell hv⟩
theorem Inv.ext {fs : List Addr} {h h' : Heap} {env : Env} {nm : List Str} {σ : List SV} {ad : Nat → Addr} {fz fz' : Fz} (e : Ext fs h h') (f : FzExt h fz fz') (q : Inv fs env nm σ ad fz h) : Inv fs env nm σ ad fz' h' := by
  intro x i sv h1 h2 h3
  have := q x i sv h1 h2 h3
  cases sv with
  | un => trivial
  | val d => obtain ⟨v, a, b⟩ := this; exact ⟨v, a.ext e, b.mono f.le⟩
  | own ds =>
    obtain ⟨a, b, c, vs, ⟨n, pl⟩, r⟩ := this
    refine ⟨a.ext e, b, ?_, vs, ⟨n, e.get b pl⟩, r.mono f.le⟩
    cases z : fz' (ad i) with
    | none => rfl
    | some o => have := f.new _ c (by rw [z]; intro w; cases w); rw [this] at pl; cases pl
theorem EnvOK.ext {fs : List Addr} {h h' : Heap} {L : Addr} {outer : List Env} {env : Env} (e : Ext fs h h') (q : EnvOK L outer env h) : EnvOK L outer env h' :=
  ⟨q.kind, q.globals, q.builtins, q.frame, q.head, q.ns.elim fun m hm => ⟨m, e.ns hm⟩, fun x hx => by obtain ⟨c, v, a, b⟩ := q.cells x hx; exact ⟨c, v, a, e.isCell b⟩⟩
/-- an exception is being handled: a record without a context -/
noncomputable def HX (A : Around) (h : Heap) : Prop := ∃ e o vs, A.handled = some (.ref e) ∧ h.get? e = some o ∧ o.data = .fields vs ∧ vs[2]? = some .none
theorem HX.ext {fs : List Addr} {A : Around} {h h' : Heap} (e : Ext fs h h') (q : HX A h) : HX A h' := by
  obtain ⟨a, o, vs, h1, h2, h3, h4⟩ := q
  obtain ⟨sl, e₁, _⟩ := e a o h2
  exact ⟨a, _, vs, h1, e₁, h3, h4⟩
structure Here (base : Heap) (fzT : Fz) (md : Md) (n : Nat) (A : Around) (outer : List Env) (L : Addr) (env : Env) (nm : List Str) (σ : List SV) (ad : Nat → Addr) (fz : Fz) (s : Shared) : Prop where
  sit : Sit md A outer n
  hi : HI base outer s.heap
  envok : EnvOK L outer env s.heap
  inv : Inv (fsOf outer) env nm σ ad fz s.heap
  fzin : FzIn fz s.heap
  fzle : FzLe fzT fz
  hx : md = .b → HX A s.heap
  len : σ.length = nm.length
theorem Here.step {base : Heap} {fzT : Fz} {md : Md} {n : Nat} {A : Around} {outer : List Env} {L : Addr} {env : Env} {nm : List Str} {σ : List SV} {ad : Nat → Addr} {fz fz' : Fz} {s s' : Shared}
    (H : Here base fzT md n A outer L env nm σ ad fz s) (r : Rel (fsOf outer) fz s fz' s') : Here base fzT md n A outer L env nm σ ad fz' s' :=
  ⟨H.sit, H.hi.ext r.ext, H.envok.ext r.ext, H.inv.ext r.ext r.fz, r.fzin, H.fzle.trans r.fz.le, fun e => (H.hx e).ext r.ext, H.len⟩
section
variable (prog : Program) (w : World) (T : Tab) (base : Heap) (fzT : Fz) (n : Nat)
noncomputable def SoundX (md : Md) (x : X) : Prop :=
  ∀ {A : Around} {outer : List Env} {L : Addr} {env : Env} {nm : List Str} {σ : List SV} {ad : Nat → Addr} {fz : Fz} {s : Shared} (e : Expr),
    Mx T env.scope.names nm x e = true → Here base fzT md n A outer L env nm σ ad fz s → ev T x σ ≠ .bad →
    wpAny (model prog w) A (eval e env) (PostV (fsOf outer) fz s (ev T x σ)) (PostE A.handled (fsOf outer) L s (ev T x σ)) s
noncomputable def SoundB (md : Md) (x : X) : Prop :=
  ∀ {A : Around} {outer : List Env} {L : Addr} {env : Env} {nm : List Str} {σ : List SV} {ad : Nat → Addr} {fz : Fz} {s : Shared} (e : Expr),
    Mx T env.scope.names nm x e = true → Here base fzT md n A outer L env nm σ ad fz s → ev T x σ ≠ .bad → (∀ d, ev T x σ = .ok d → truth d ≠ none) →
    wpAny (model prog w) A (isTrue e env (eval e env)) (PostB (fsOf outer) fz s (ev T x σ)) (PostE A.handled (fsOf outer) L s (ev T x σ)) s
end
end Mine
end
section
open PySem PySem.W PySem.Calls PyProof.Rows
namespace Mine
section
variable {prog : Program} {w : World} {T : Tab} {base : Heap} {fzT : Fz} {n : Nat} {md : Md} {mg mb : Str → Option Value}
theorem and3 {a b : Bool} (h : (a && b) = true) : a = true ∧ b = true := Bool.and_eq_true_iff.mp h
theorem load_var {M : Model} {A : Around} {E : Value → Shared → Prop} {s : Shared} {L : Addr} {outer : List Env} {env : Env} {x : Str} {v : Value} {Q : Value → Shared → Prop} (O : EnvOK L outer env s.heap) (hv : Var env s.heap x v)
    (hc : (x == ("__classdict__" : Str)) = false) (h : Q v s) : wpAny M A (loadName env x) Q E s := by
  rcases hv with ⟨k, m, hn, hm⟩ | ⟨k, c, hl, hv⟩
  · exact wpAny_loadName_local O.kind k hn hm h
  · cases q : env.kindOf x with
    | none => rw [q] at k; cases k
    | some kk =>
      cases kk with
      | cell => exact wpAny_loadName_cell O.kind q hl hv h
      | free => exact wpAny_loadName_free O.kind q hl hv h hc
      | «local» => rw [q] at k; cases k
      | globalExplicit => rw [q] at k; cases k
      | globalImplicit => rw [q] at k; cases k
theorem ne_beq {x y : Str} (h : (x != y) = true) : (x == y) = false := by
  unfold bne at h; exact Bool.not_eq_true' _ |>.mp h
theorem sound_var (i : Nat) : SoundX prog w T base fzT n md (.var i) := by
  intro A outer L env nm σ ad fz s e hm H hb
  obtain ⟨x, pos, rfl, hm⟩ := atName_inv hm
  have hd := andR hm
  have hm := andL hm
  have hc := andR hm
  have hm := andL hm
  have hv := andR hm
  have hm := andL hm
  have hi : nmIdx nm x = some i := by simpa using hm
  unfold ev at hb ⊢
  split at hb
  · rename_i d hs
    obtain ⟨v, a, b⟩ := H.inv x i _ hi hv hs
    exact wpAny_Name (load_var H.envok a (ne_beq hd) (Good.here H.fzin b)) (ne_beq hc)
  · exact absurd rfl hb
theorem sound_int (i : Int) : SoundX prog w T base fzT n md (.int i) := by
  intro A outer L env nm σ ad fz s e hm H hb
  obtain ⟨c, k, pos, rfl, hm⟩ := atConstant_inv hm
  obtain ⟨j, rfl, hm⟩ := atConstInt_inv hm
  cases (eq_of_beq hm)
  unfold ev
  exact wpAny_Constant_int (Good.same _ H.fzin (.int _ _))
theorem sound_str (x : Str) : SoundX prog w T base fzT n md (.str x) := by
  intro A outer L env nm σ ad fz s e hm H hb
  obtain ⟨c, k, pos, rfl, hm⟩ := atConstant_inv hm
  obtain ⟨j, rfl, hm⟩ := atConstStr_inv hm
  cases (eq_of_beq hm)
  unfold ev
  exact wpAny_Constant_str (Good.same _ H.fzin (.str _ _))
theorem sound_bool (b : Bool) : SoundX prog w T base fzT n md (.bool b) := by
  intro A outer L env nm σ ad fz s e hm H hb
  obtain ⟨c, k, pos, rfl, hm⟩ := atConstant_inv hm
  obtain ⟨j, rfl, hm⟩ := atConstBool_inv hm
  cases (eq_of_beq hm)
  unfold ev
  exact wpAny_Constant_bool (Good.here H.fzin (.bool _))
theorem sound_nothing : SoundX prog w T base fzT n md .nothing := by
  intro A outer L env nm σ ad fz s e hm H hb
  cases hm
theorem HI.ns {base h : Heap} {l : List Env} (H : HI base l h) {a : Addr} {m : Str → Option Value} (hn : base.Ns a m) : h.Ns a m := by
  obtain ⟨o, es, ep, ho, r⟩ := hn
  exact ⟨o, es, ep, H.stays _ _ ho, r⟩
theorem glob_name {M : Model} {A : Around} {E : Value → Shared → Prop} {outer : List Env} {L : Addr} {env : Env} {s : Shared} {x : Str} {pos : Pos} {v : Value} {Q : Value → Shared → Prop} (G : GOK prog w T base fzT mg mb n) (hi : HI base outer s.heap) (O : EnvOK L outer env s.heap)
    (hg : isGlob env.scope.names x = true) (hv : mg x = some v) (h : Q v s) : wpAny M A (eval (.Name x pos) env) Q E s := by
  have h2 := andR hg
  have h1 := andL hg
  refine Name_function_global O.kind (eq_of_beq h1) ?_ (ne_beq h2)
  unfold loadGlobal
  rw [O.globals]
  refine wpAny_bind (wpAny_nsGet (hi.ns G.gl) ?_)
  rw [hv]
  exact wpAny_pure h
theorem built_name {M : Model} {A : Around} {E : Value → Shared → Prop} {outer : List Env} {L : Addr} {env : Env} {s : Shared} {x : Str} {pos : Pos} {v : Value} {Q : Value → Shared → Prop} (G : GOK prog w T base fzT mg mb n) (hi : HI base outer s.heap) (O : EnvOK L outer env s.heap)
    (hg : isGlob env.scope.names x = true) (hn : mg x = none) (hv : mb x = some v) (h : Q v s) : wpAny M A (eval (.Name x pos) env) Q E s := by
  have h2 := andR hg
  have h1 := andL hg
  refine Name_function_global O.kind (eq_of_beq h1) ?_ (ne_beq h2)
  unfold loadGlobal
  rw [O.globals, O.builtins]
  refine wpAny_bind (wpAny_nsGet (hi.ns G.gl) ?_)
  rw [hn]
  refine wpAny_bind (wpAny_nsGet (hi.ns G.bu) ?_)
  rw [hv]
  exact wpAny_pure h
theorem sound_glob (G : GOK prog w T base fzT mg mb n) (g : Nat) : SoundX prog w T base fzT n md (.glob g) := by
  intro A outer L env nm σ ad fz s e hm H hb
  obtain ⟨x, pos, rfl, hm⟩ := atName_inv hm
  have h2 := andR hm
  have h1 := andL hm
  unfold ev at hb ⊢
  split at hb
  · rename_i d hd
    obtain ⟨v, a, b⟩ := G.gls g _ d (by simpa using h2) hd
    exact glob_name G H.hi H.envok h1 a (Good.here H.fzin (b.mono H.fzle))
  · exact absurd rfl hb
theorem bind_bad {r : Res} {f : PyData → Res} (h : r.bind f ≠ .bad) : r ≠ .bad := by rintro rfl; exact h rfl
/-- a last step that yields -/
theorem finV {hd : Option Value} {M : Model} {A : Around} {fs : List Addr} {fz fz₁ : Fz} {L : Addr} {s s₁ : Shared} {t : Sem Value} {r : Res} (x : Rel fs fz s fz₁ s₁) (h : wpAny M A t (PostV fs fz₁ s₁ r) (PostE hd fs L s₁ r) s₁) :
    wpAny M A t (PostV fs fz s r) (PostE hd fs L s r) s₁ := wpAny_mono h (fun _ _ q => PostV.after x q) fun _ _ q => PostE.after x q
theorem finB {hd : Option Value} {M : Model} {A : Around} {fs : List Addr} {fz fz₁ : Fz} {L : Addr} {s s₁ : Shared} {t : Sem Bool} {r : Res} (x : Rel fs fz s fz₁ s₁) (h : wpAny M A t (PostB fs fz₁ s₁ r) (PostE hd fs L s₁ r) s₁) :
    wpAny M A t (PostB fs fz s r) (PostE hd fs L s r) s₁ := wpAny_mono h (fun _ _ q => PostB.after x q) fun _ _ q => PostE.after x q
theorem badAfter {hd : Option Value} {fs : List Addr} {fz fz₁ : Fz} {L : Addr} {s s₁ s' : Shared} {kk : String} {v : Value} (x : Rel fs fz s fz₁ s₁) (h : Bad hd fs L s₁ kk v s') : Bad hd fs L s kk v s' := PostE.after (r := .exc kk) x h
theorem opBin_exc {op : Operator} {x y : PyData} {k : String} (z : opBin op x y = .exc k) : False := by
  have ite : ∀ {p : Prop} [Decidable p] {d : PyData}, (if p then Res.ok d else .bad) = .exc k → False := fun {p} _ {d} q => by split at q <;> cases q
  have i2 : ∀ {f : Int → Int → Res}, int2 f x y = .exc k → (∀ a b, f a b = .exc k → False) → False := fun q g => by
    obtain ⟨a, b, _, _, h⟩ := int2_ok q (fun q => by cases q)
    exact g a b h
  cases op with
  | Add => cases x with
    | list xs => cases y with
      | list ys => exact ite z
      | _ => cases z
    | int a => cases y <;> cases z
    | _ => cases z
  | Sub => exact i2 z fun _ _ q => by cases q
  | BitAnd => exact i2 z fun _ _ q => by cases q
  | Mult => exact i2 z fun _ _ => ite
  | FloorDiv => exact i2 z fun _ _ => ite
  | Mod => exact i2 z fun _ _ => ite
  | Pow => exact i2 z fun _ _ => ite
  | _ => cases z
theorem sound_bin {op : Operator} {a b : X} (ha : SoundX prog w T base fzT n md a) (hb : SoundX prog w T base fzT n md b) : SoundX prog w T base fzT n md (.bin op a b) := by
  intro A outer L env nm σ ad fz s e hm H hbad
  obtain ⟨l, op', r, pos, rfl, hm⟩ := atBinOp_inv hm
  have h2 := andR hm
  have hm := andL hm
  have h1 := andR hm
  have h0 := andL hm
  cases (of_decide_eq_true h0 : op = op')
  unfold ev at hbad ⊢
  refine wpAny_BinOp (useV (ha l h1 H (bind_bad hbad)) (fun _ _ _ e h => excOf e h) fun x v fz₁ s₁ e r rep => ?_)
  rw [e, Res.bind_ok] at hbad ⊢
  refine useV (hb _ h2 (H.step r) (bind_bad hbad)) (fun _ _ _ e h => PostE.after r (excOf e h)) fun y u fz₂ s₂ e' r' rep' => ?_
  rw [e', Res.bind_ok] at hbad ⊢
  refine finV (r.trans r') ?_
  cases z : opBin op x y with
  | bad => exact absurd z hbad
  | exc k => exact (opBin_exc z).elim
  | ok d => exact bin_good r'.fzin (rep.mono r'.fz.le) rep' z
theorem opCmp_form (op : CmpOp) (x y : PyData) : opCmp op x y = .bad ∨ ∃ b, opCmp op x y = .ok (.bool b) := by
  have ite : ∀ (p : Bool) (b : Bool), (if p = true then Res.ok (.bool b) else .bad) = .bad ∨ ∃ c, (if p = true then Res.ok (.bool b) else .bad) = .ok (.bool c) := fun p b => by
    cases p
    · exact .inl rfl
    · exact .inr ⟨_, rfl⟩
  have i2 : ∀ f, intB f x y = .bad ∨ ∃ b, intB f x y = .ok (.bool b) := fun f => by
    cases x with
    | int a => cases y with
      | int b => exact .inr ⟨_, rfl⟩
      | _ => exact .inl rfl
    | _ => exact .inl rfl
  have b2 : ∀ f, bool2 f x y = .bad ∨ ∃ b, bool2 f x y = .ok (.bool b) := fun f => by
    cases x with
    | bool a => cases y with
      | bool b => exact .inr ⟨_, rfl⟩
      | _ => exact .inl rfl
    | _ => exact .inl rfl
  have n2 : ∀ f, inB f x y = .bad ∨ ∃ b, inB f x y = .ok (.bool b) := fun f => by
    cases y with
    | str a => cases x with
      | str b => exact .inr ⟨_, rfl⟩
      | _ => exact .inl rfl
    | list ds => exact ite _ _
    | _ => exact .inl rfl
  cases op with
  | Eq => exact ite _ _
  | NotEq => exact ite _ _
  | Lt => exact i2 _
  | LtE => exact i2 _
  | Gt => exact i2 _
  | GtE => exact i2 _
  | Is => exact b2 _
  | IsNot => exact b2 _
  | In => exact n2 _
  | NotIn => exact n2 _
theorem opCmp_exc {op : CmpOp} {x y : PyData} {k : String} (z : opCmp op x y = .exc k) : False := by
  rcases opCmp_form op x y with q | ⟨b, q⟩ <;> cases q.symm.trans z
theorem opCmp_bool {op : CmpOp} {x y d : PyData} (z : opCmp op x y = .ok d) : ∃ b, d = .bool b := by
  rcases opCmp_form op x y with q | ⟨b, q⟩ <;> cases q.symm.trans z
  exact ⟨_, rfl⟩
theorem Sit.units70 {A : Around} {outer : List Env} (q : Sit md A outer n) : A.units + 70 < cLine := by have := q.units; omega
theorem plain_marks {op : CmpOp} {r : Expr} (h : plainE r = true) : behindInMarks op r = false := by
  cases r <;> first | rfl | (cases h; done)
theorem sound_cmp {op : CmpOp} {a b : X} (ha : SoundX prog w T base fzT n md a) (hb : SoundX prog w T base fzT n md b) : SoundX prog w T base fzT n md (.cmp op a b) := by
  intro A outer L env nm σ ad fz s e hm H hbad
  obtain ⟨l, ops, rs, pos, rfl, hm⟩ := atCompare_inv hm
  obtain ⟨op', rfl, hm⟩ := at1_inv hm
  obtain ⟨r, rfl, hm⟩ := at1_inv hm
  have h3 := andR hm
  have hm := andL hm
  have h2 := andR hm
  have hm := andL hm
  have h1 := andR hm
  have h0 := andL hm
  cases (of_decide_eq_true h0 : op = op')
  unfold ev at hbad ⊢
  refine wpAny_Compare1 (useV (ha l h1 H (bind_bad hbad)) (fun _ _ _ e h => excOf e h) fun x v fz₁ s₁ e r rep => ?_) (plain_marks h3)
  rw [e, Res.bind_ok] at hbad ⊢
  refine useV (hb _ h2 (H.step r) (bind_bad hbad)) (fun _ _ _ e h => PostE.after r (excOf e h)) fun y u fz₂ s₂ e' r' rep' => ?_
  rw [e', Res.bind_ok] at hbad ⊢
  refine finV (r.trans r') ?_
  cases z : opCmp op x y with
  | bad => exact absurd z hbad
  | exc k => exact (opCmp_exc z).elim
  | ok d => exact cmp_good H.sit.units70 r'.fzin (rep.mono r'.fz.le) rep' z
theorem soundB_cmp {op : CmpOp} {a b : X} (ha : SoundX prog w T base fzT n md a) (hb : SoundX prog w T base fzT n md b) : SoundB prog w T base fzT n md (.cmp op a b) := by
  intro A outer L env nm σ ad fz s e hm H hbad ht
  obtain ⟨l, ops, rs, pos, rfl, hm⟩ := atCompare_inv hm
  obtain ⟨op', rfl, hm⟩ := at1_inv hm
  obtain ⟨r, rfl, hm⟩ := at1_inv hm
  have h3 := andR hm
  have hm := andL hm
  have h2 := andR hm
  have hm := andL hm
  have h1 := andR hm
  have h0 := andL hm
  cases (of_decide_eq_true h0 : op = op')
  unfold ev at hbad ⊢
  refine wpAny_isTrue_Compare1 (useV (ha l h1 H (bind_bad hbad)) (fun _ _ _ e h => excOf e h) fun x v fz₁ s₁ e r rep => ?_) (plain_marks h3)
  rw [e, Res.bind_ok] at hbad ⊢
  refine useV (hb _ h2 (H.step r) (bind_bad hbad)) (fun _ _ _ e h => PostE.after r (excOf e h)) fun y u fz₂ s₂ e' r' rep' => ?_
  rw [e', Res.bind_ok] at hbad ⊢
  cases z : opCmp op x y with
  | bad => exact absurd z hbad
  | exc k => exact (opCmp_exc z).elim
  | ok d =>
    obtain ⟨c, rfl⟩ := opCmp_bool z
    refine wpAny_mono (cmp_good (fs := fsOf outer) (E := fun _ _ => False) H.sit.units70 r'.fzin (rep.mono r'.fz.le) rep' z) (fun v s₃ g => ?_) fun _ _ q => q.elim
    obtain ⟨fz₃, r₃, q⟩ := good_iff.mp g
    cases rep_bool_inv q
    exact wpAny_truthy_bool ⟨rfl, fz₃, (r.trans r').trans r₃⟩
end
end Mine
end
section
open PySem PySem.W PySem.Calls PyProof.Rows
namespace Mine
section
variable {prog : Program} {w : World} {T : Tab} {base : Heap} {fzT : Fz} {n : Nat} {md : Md} {mg mb : Str → Option Value}
/-! truth tests -/
noncomputable def plainT : X → Bool
  | .var _ | .int _ | .str _ | .bool _ | .list _ | .tup _ | .idx _ _ | .slice _ _ _ | .call _ _ | .bi _ _ | .bin _ _ _ => true
  | _ => false
theorem plainT_is {sc : Sc} {nm : List Str} {x : X} {e : Expr} (hp : plainT x = true) (hm : Mx T sc nm x e = true) (env : Env) (whole : Sem Value) :
    isTrue e env whole = (do let v ← whole; standAt e.pos; holding [v] (truthy v)) := by
  cases x <;> first
    | (cases hp; done)
    | (first | (obtain ⟨_, _, rfl, _⟩ := atName_inv hm; rfl) | (obtain ⟨_, _, _, rfl, _⟩ := atConstant_inv hm; rfl) | (obtain ⟨_, _, rfl, _⟩ := atList_inv hm; rfl) | (obtain ⟨_, _, _, rfl, _⟩ := atTuple_inv hm; rfl) | (obtain ⟨_, _, _, _, rfl, _⟩ := atBinOp_inv hm; rfl) | (obtain ⟨_, _, _, rfl, _⟩ := atSubscript_inv hm; rfl) | (obtain ⟨_, _, _, _, rfl, _⟩ := atCall_inv hm; rfl))
theorem soundB_plain {x : X} (hp : plainT x = true) (hx : SoundX prog w T base fzT n md x) : SoundB prog w T base fzT n md x := by
  intro A outer L env nm σ ad fz s e hm H hbad ht
  refine wpAny_isTrue_value (useV (hx e hm H hbad) (fun kk v s' q h => ?_) fun d v fz₁ s₁ q r rep => ?_) (plainT_is hp hm _ _)
  · rw [q]; exact h
  · have hd := ht d q
    cases z : truth d with
    | none => exact absurd z hd
    | some b =>
      rw [q]
      exact truth_good r.fzin rep z fun tk => ⟨z, fz₁, r.trans (Rel.same r.fzin tk)⟩
theorem sound_not {a : X} (ha : SoundX prog w T base fzT n md a) : SoundX prog w T base fzT n md (.not a) := by
  intro A outer L env nm σ ad fz s e hm H hbad
  obtain ⟨o, e, pos, rfl, hm⟩ := atUnaryOp_inv hm
  have ho := andL hm
  have hm := andR hm
  cases isUn_inv ho
  unfold ev at hbad ⊢
  refine wpAny_UnaryOp (useV (ha _ hm H (bind_bad hbad)) (fun _ _ _ e h => excOf e h) fun x v fz₁ s₁ e r rep => ?_)
  rw [e, Res.bind_ok] at hbad ⊢
  cases z : truth x with
  | none => rw [z] at hbad; exact absurd rfl hbad
  | some b =>
    exact not_of (truth_good r.fzin rep z fun tk => Good.after r (Good.same tk r.fzin (.bool _)))
theorem soundB_not {a : X} (ha : SoundB prog w T base fzT n md a) : SoundB prog w T base fzT n md (.not a) := by
  intro A outer L env nm σ ad fz s e hm H hbad ht
  obtain ⟨o, e, pos, rfl, hm⟩ := atUnaryOp_inv hm
  have ho := andL hm
  have hm := andR hm
  cases isUn_inv ho
  unfold ev at hbad ⊢
  refine isTrue_not (useB (ha _ hm H (bind_bad hbad) ?_) (fun _ _ _ e h => excOf e h) fun x b fz₁ s₁ e q r => ?_)
  · intro d e z; rw [e, Res.bind_ok, z] at hbad; exact hbad rfl
  · rw [e, Res.bind_ok, q]; exact ⟨rfl, fz₁, r⟩
theorem sound_and {a b : X} (ha : SoundX prog w T base fzT n md a) (hb : SoundX prog w T base fzT n md b) : SoundX prog w T base fzT n md (.and a b) := by
  intro A outer L env nm σ ad fz s e hm H hbad
  obtain ⟨o, es, pos, rfl, hm⟩ := atBoolOp_inv hm
  have ho := andL hm
  have hm := andR hm
  cases isAnd_inv ho
  obtain ⟨l, r, rfl, hm⟩ := at2_inv hm
  have h2 := andR hm
  have h1 := andL hm
  unfold ev at hbad ⊢
  refine wpAny_And2 (useV (ha _ h1 H (bind_bad hbad)) (fun _ _ _ e h => excOf e h) fun x v fz₁ s₁ e r rep => ?_)
  rw [e, Res.bind_ok] at hbad ⊢
  cases z : truth x with
  | none => rw [z] at hbad; exact absurd rfl hbad
  | some c =>
    refine truth_good r.fzin rep z fun tk => ?_
    rw [z] at hbad
    have r' := r.trans (Rel.same r.fzin tk)
    cases c with
    | true => exact finV r' (hb _ h2 (H.step r') hbad)
    | false => exact good_iff.mpr ⟨fz₁, r', rep⟩
theorem sound_or {a b : X} (ha : SoundX prog w T base fzT n md a) (hb : SoundX prog w T base fzT n md b) : SoundX prog w T base fzT n md (.or a b) := by
  intro A outer L env nm σ ad fz s e hm H hbad
  obtain ⟨o, es, pos, rfl, hm⟩ := atBoolOp_inv hm
  have ho := andL hm
  have hm := andR hm
  cases isOr_inv ho
  obtain ⟨l, r, rfl, hm⟩ := at2_inv hm
  have h2 := andR hm
  have h1 := andL hm
  unfold ev at hbad ⊢
  refine wpAny_Or2 (useV (ha _ h1 H (bind_bad hbad)) (fun _ _ _ e h => excOf e h) fun x v fz₁ s₁ e r rep => ?_)
  rw [e, Res.bind_ok] at hbad ⊢
  cases z : truth x with
  | none => rw [z] at hbad; exact absurd rfl hbad
  | some c =>
    refine truth_good r.fzin rep z fun tk => ?_
    rw [z] at hbad
    have r' := r.trans (Rel.same r.fzin tk)
    cases c with
    | false => exact finV r' (hb _ h2 (H.step r') hbad)
    | true => exact good_iff.mpr ⟨fz₁, r', rep⟩
theorem allTrue_one {M : Model} {A : Around} {E : Value → Shared → Prop} {s : Shared} {env : Env} {x : Expr} {Q : Bool → Shared → Prop} (op : BoolOp) (h : wpAny M A (isTrue x env (eval x env)) Q E s) : wpAny M A (allTrue op [x] env) Q E s := by
  cases op with
  | And =>
    refine wpAny_allTrue_And_cons (wpAny_mono h (fun b s₁ h₁ => ?_) fun _ _ q => q)
    cases b with
    | true => exact wpAny_allTrue_And_nil h₁
    | false => exact h₁
  | Or =>
    refine wpAny_allTrue_Or_cons (wpAny_mono h (fun b s₁ h₁ => ?_) fun _ _ q => q)
    cases b with
    | true => exact h₁
    | false => exact wpAny_allTrue_Or_nil h₁
theorem soundB_and {a b : X} (ha : SoundB prog w T base fzT n md a) (hb : SoundB prog w T base fzT n md b) : SoundB prog w T base fzT n md (.and a b) := by
  intro A outer L env nm σ ad fz s e hm H hbad ht
  obtain ⟨o, es, pos, rfl, hm⟩ := atBoolOp_inv hm
  have ho := andL hm
  have hm := andR hm
  cases isAnd_inv ho
  obtain ⟨l, r, rfl, hm⟩ := at2_inv hm
  have h2 := andR hm
  have h1 := andL hm
  unfold ev at hbad ht ⊢
  refine wpAny_isTrue_BoolOp (wpAny_allTrue_And_cons (useB (ha _ h1 H (bind_bad hbad) ?_) (fun _ _ _ e h => excOf e h) fun x c fz₁ s₁ e z r => ?_))
  · intro d e z; rw [e, Res.bind_ok, z] at hbad; exact hbad rfl
  · rw [e, Res.bind_ok, z] at hbad ht ⊢
    cases c with
    | true => exact finB r (allTrue_one _ (hb _ h2 (H.step r) hbad ht))
    | false => exact ⟨z, fz₁, r⟩
theorem soundB_or {a b : X} (ha : SoundB prog w T base fzT n md a) (hb : SoundB prog w T base fzT n md b) : SoundB prog w T base fzT n md (.or a b) := by
  intro A outer L env nm σ ad fz s e hm H hbad ht
  obtain ⟨o, es, pos, rfl, hm⟩ := atBoolOp_inv hm
  have ho := andL hm
  have hm := andR hm
  cases isOr_inv ho
  obtain ⟨l, r, rfl, hm⟩ := at2_inv hm
  have h2 := andR hm
  have h1 := andL hm
  unfold ev at hbad ht ⊢
  refine wpAny_isTrue_BoolOp (wpAny_allTrue_Or_cons (useB (ha _ h1 H (bind_bad hbad) ?_) (fun _ _ _ e h => excOf e h) fun x c fz₁ s₁ e z r => ?_))
  · intro d e z; rw [e, Res.bind_ok, z] at hbad; exact hbad rfl
  · rw [e, Res.bind_ok, z] at hbad ht ⊢
    cases c with
    | false => exact finB r (allTrue_one _ (hb _ h2 (H.step r) hbad ht))
    | true => exact ⟨z, fz₁, r⟩
theorem sound_ite {c a b : X} (hc : SoundB prog w T base fzT n md c) (ha : SoundX prog w T base fzT n md a) (hb : SoundX prog w T base fzT n md b) : SoundX prog w T base fzT n md (.ite c a b) := by
  intro A outer L env nm σ ad fz s e hm H hbad
  obtain ⟨t, x, y, pos, rfl, hm⟩ := atIfExp_inv hm
  have h3 := andR hm
  have hm := andL hm
  have h2 := andR hm
  have h1 := andL hm
  unfold ev at hbad ⊢
  refine wpAny_IfExp (useB (hc _ h1 H (bind_bad hbad) ?_) (fun _ _ _ e h => excOf e h) fun x t fz₁ s₁ e z r => ?_)
  · intro d e z; rw [e, Res.bind_ok, z] at hbad; exact hbad rfl
  · rw [e, Res.bind_ok, z] at hbad ⊢
    cases t with
    | true => exact finV r (ha _ h2 (H.step r) hbad)
    | false => exact finV r (hb _ h3 (H.step r) hbad)
theorem plain_sub {i : Expr} (h : plainE i = true) (o v : Value) : subscripted i false o v = operate [o, v] (getItem o v) := by
  cases i <;> first | rfl | (cases h; done)
theorem newExc_bad {hd : Option Value} {fs : List Addr} {L : Addr} {s : Shared} {h' : Heap} {tk : Nat} {e : Addr} {k : String} (hk : clsL k = k) (hx : Heap.NewExc s.heap h' e k) : Bad hd fs L s k (.ref e) { s with heap := h', toks := tk } := by
  obtain ⟨ob, t, a, b, c⟩ := hx.there
  exact ⟨h', tk, e, rfl, rfl, Ext.of_keeps hx.keeps, hx.new, ob, _, a, by rw [hk]; exact b, c, ⟨rfl, fun _ => rfl⟩, .inl rfl⟩
theorem sound_idx {a b : X} (ha : SoundX prog w T base fzT n .a a) (hb : SoundX prog w T base fzT n .a b) : SoundX prog w T base fzT n .a (.idx a b) := by
  intro A outer L env nm σ ad fz s e hm H hbad
  obtain ⟨v, i, pos, rfl, hm⟩ := atSubscript_inv hm
  have h3 := andR hm
  have hm := andL hm
  have h2 := andR hm
  have h1 := andL hm
  unfold ev at hbad ⊢
  refine Subscript_ (useV (ha _ h1 H (bind_bad hbad)) (fun _ _ _ e h => excOf e h) fun x v fz₁ s₁ e r rep => ?_)
  rw [e, Res.bind_ok] at hbad ⊢
  refine useV (hb _ h2 (H.step r) (bind_bad hbad)) (fun _ _ _ e h => PostE.after r (excOf e h)) fun y u fz₂ s₂ e' r' rep' => ?_
  rw [e', Res.bind_ok] at hbad ⊢
  refine finV (r.trans r') ?_
  cases z : opIdx x y with
  | bad => exact absurd z hbad
  | ok d => exact idx_good (plain_sub h3) r'.fzin (rep.mono r'.fz.le) rep' z
  | exc k =>
    unfold opIdx at z
    split at z
    · split at z
      · rename_i hk
        split at z
        · cases z
        · rename_i hn
          cases z
          obtain ⟨l, vs, rfl, e1, r1⟩ := rep_list_inv (rep.mono r'.fz.le)
          obtain ⟨t, rfl⟩ := rep_int_inv rep'
          have hl := r1.length
          have hlt : _ := List.getElem?_eq_none_iff.mp hn
          exact tail_any (r'.fzin.isList e1).typeIs slot_list_getitem.lookup (wpAny_getItem_list_out (H.sit.handled rfl) (r'.fzin.isList e1) (.inr (by simp only [List.size_toArray]; omega)) (by omega) (by omega) fun h' tk e hx => newExc_bad (by decide) hx) (plain_sub h3 _ _)
      · cases z
    · split at z <;> (try split at z) <;> cases z
    · split at z <;> (try split at z) <;> cases z
    · cases z
end
end Mine
end
section
open PySem PySem.W PySem.Calls PyProof.Rows
namespace Mine
section
variable {prog : Program} {w : World} {T : Tab} {base : Heap} {fzT : Fz} {n : Nat} {md : Md} {mg mb : Str → Option Value}
noncomputable def PostL (fs : List Addr) (fz : Fz) (s : Shared) : Res → List Value → Shared → Prop
  | .ok (.list ds) => fun vs s' => ∃ fz', Rel fs fz s fz' s' ∧ RepAll fz' vs ds
  | _ => fun _ _ => False
theorem PostL.after {fs : List Addr} {fz fz₁ : Fz} {s s₁ s' : Shared} {r : Res} {v : List Value} (x : Rel fs fz s fz₁ s₁) (g : PostL fs fz₁ s₁ r v s') : PostL fs fz s r v s' := by
  unfold PostL at g ⊢
  split at g
  · obtain ⟨fz', r, q⟩ := g; exact ⟨fz', x.trans r, q⟩
  · exact g
variable (prog w T base fzT n) in
noncomputable def SoundL (md : Md) (xs : List X) : Prop :=
  ∀ {A : Around} {outer : List Env} {L : Addr} {env : Env} {nm : List Str} {σ : List SV} {ad : Nat → Addr} {fz : Fz} {s : Shared} (es : List Expr) (pos : Pos),
    Mxs T env.scope.names nm xs es = true → Here base fzT md n A outer L env nm σ ad fz s → evs T xs σ ≠ .bad →
    wpAny (model prog w) A (spliced (backTo pos (starEach es env))) (PostL (fsOf outer) fz s (evs T xs σ)) (PostE A.handled (fsOf outer) L s (evs T xs σ)) s
theorem plain_star {e : Expr} {rest : List Expr} {env : Env} (h : plainE e = true) : starEach (e :: rest) env = (false, eval e env) :: starEach rest env := by
  cases e <;> first | rfl | (cases h; done)
theorem evs_list : ∀ (xs : List X) (σ : List SV) (d : PyData), evs T xs σ = .ok d → ∃ ds, d = .list ds ∧ ds.length = xs.length
  | [], σ, d, h => by unfold evs at h; cases h; exact ⟨[], rfl, rfl⟩
  | x :: r, σ, d, h => by
    unfold evs at h
    cases q : ev T x σ with
    | ok a =>
      rw [q, Res.bind_ok] at h
      cases q' : evs T r σ with
      | ok l =>
        obtain ⟨ds, rfl, hl⟩ := evs_list r σ l q'
        rw [q', Res.bind_ok] at h
        cases h
        exact ⟨_, rfl, by simp [hl]⟩
      | exc k => rw [q'] at h; cases h
      | bad => rw [q'] at h; cases h
    | exc k => rw [q] at h; cases h
    | bad => rw [q] at h; cases h
theorem soundL_nil : SoundL prog w T base fzT n md [] := by
  intro A outer L env nm σ ad fz s es pos hm H hb
  cases es with
  | cons e es => unfold Mxs at hm; cases hm
  | nil =>
    unfold evs
    exact args_nil ⟨fz, Rel.refl H.fzin, .nil⟩
theorem soundL_cons {x : X} {xs : List X} (hx : SoundX prog w T base fzT n md x) (hxs : SoundL prog w T base fzT n md xs) : SoundL prog w T base fzT n md (x :: xs) := by
  intro A outer L env nm σ ad fz s es pos hm H hb
  cases es with
  | nil => unfold Mxs at hm; cases hm
  | cons e es =>
    unfold Mxs at hm
    have h3 := andR hm
    have hm := andL hm
    have h2 := andR hm
    have h1 := andL hm
    unfold evs at hb ⊢
    refine args_cons (useV (hx e h1 H (bind_bad hb)) (fun _ _ _ e h => excOf e h) fun d v fz₁ s₁ q r rep => ?_) (plain_star h2)
    rw [q, Res.bind_ok] at hb ⊢
    refine wpAny_mono (hxs es pos h3 (H.step r) (bind_bad hb)) (fun vs s₂ g => ?_) fun a s' g => ?_
    · cases z : evs T xs σ with
      | bad => rw [z] at g; exact g.elim
      | exc k => rw [z] at g; exact g.elim
      | ok l =>
        obtain ⟨ds, rfl, _⟩ := evs_list xs σ l z
        rw [z] at g
        obtain ⟨fz₂, r₂, q₂⟩ := g
        exact ⟨fz₂, r.trans r₂, .cons (rep.mono r₂.fz.le) q₂⟩
    · cases z : evs T xs σ with
      | bad => rw [z] at g; exact g.elim
      | ok l => rw [z] at g; exact g.elim
      | exc k => rw [z] at g; exact PostE.after r g
theorem useL {hd : Option Value} {M : Model} {A : Around} {fs : List Addr} {fz : Fz} {L : Addr} {s : Shared} {t : Sem (List Value)} {r₁ : Res} {K : List Value → Shared → Prop} {E : Value → Shared → Prop}
    (h₁ : wpAny M A t (PostL fs fz s r₁) (PostE hd fs L s r₁) s) (hE : ∀ kk v s', r₁ = .exc kk → Bad hd fs L s kk v s' → E v s')
    (hK : ∀ ds vs fz₁ s₁, r₁ = .ok (.list ds) → Rel fs fz s fz₁ s₁ → RepAll fz₁ vs ds → K vs s₁) : wpAny M A t K E s := by
  refine wpAny_mono h₁ (fun v s₁ h => ?_) fun v s' h => ?_
  · unfold PostL at h
    split at h
    · obtain ⟨fz₁, r, q⟩ := h; exact hK _ v fz₁ s₁ rfl r q
    · exact h.elim
  · cases r₁ with
    | ok d => exact h.elim
    | exc kk => exact hE kk v s' rfl h
    | bad => exact h.elim
theorem sound_list {es : List X} (hes : SoundL prog w T base fzT n md es) : SoundX prog w T base fzT n md (.list es) := by
  intro A outer L env nm σ ad fz s e hm H hbad
  obtain ⟨es', pos, rfl, hm⟩ := atList_inv hm
  unfold ev at hbad ⊢
  refine wpAny_List (useL (hes _ _ hm H (bind_bad hbad)) (fun _ _ _ e h => excOf e h) fun ds vs fz₁ s₁ e r rep => ?_)
  rw [e, Res.bind_ok] at hbad ⊢
  have hl := rep.length
  have hle : ds.length ≤ 100000 := by
    by_cases q : ds.length ≤ 100000
    · exact q
    · simp only [if_neg q] at hbad; exact absurd trivial (by simpa using hbad)
  refine ⟨by rw [sizeLine_eq]; omega, ?_⟩
  simp only [if_pos hle]
  exact Good.after r (Good.made (t := false) s₁.toks (fun b o e => Heap.get?_push_of_some _ e) r.fzin (size_none _ (Nat.le_refl _)) (Heap.get?_push_size _ rfl) rfl rfl rep)
theorem sound_tup {es : List X} (hes : SoundL prog w T base fzT n md es) : SoundX prog w T base fzT n md (.tup es) := by
  intro A outer L env nm σ ad fz s e hm H hbad
  obtain ⟨es', k, pos, rfl, hm⟩ := atTuple_inv hm
  unfold ev at hbad ⊢
  refine wpAny_Tuple (useL (hes _ _ hm H (bind_bad hbad)) (fun _ _ _ e h => excOf e h) fun ds vs fz₁ s₁ e r rep => ?_)
  rw [e, Res.bind_ok] at hbad ⊢
  have hl := rep.length
  have hle : ds.length ≤ 100000 := by
    by_cases q : ds.length ≤ 100000
    · exact q
    · simp only [if_neg q] at hbad; exact absurd trivial (by simpa using hbad)
  refine ⟨by rw [sizeLine_eq]; omega, ?_⟩
  simp only [if_pos hle]
  exact Good.after r (Good.made (t := true) s₁.toks (fun b o e => Heap.get?_push_of_some _ e) r.fzin (size_none _ (Nat.le_refl _)) (Heap.get?_push_size _ rfl) rfl rfl rep)
theorem sound_call (G : GOK prog w T base fzT mg mb n) {f : Nat} {args : List X} (hes : SoundL prog w T base fzT n .a args) : SoundX prog w T base fzT n .a (.call f args) := by
  intro A outer L env nm σ ad fz s e hm H hbad
  obtain ⟨g, as, kw, pos, rfl, hm⟩ := atCall_inv hm
  obtain ⟨x, px, rfl, hm⟩ := atName_inv hm
  have hk := andL hm
  have hm := andR hm
  cases nil_inv hk
  have h4 := andR hm
  have hm := andL hm
  have h3 := andR hm
  have hm := andL hm
  have h2 := andR hm
  have h1 := andL hm
  obtain ⟨a, o, fd, g1, g2, g3, g4⟩ := G.fns f x (eq_of_beq h2)
  unfold ev at hbad ⊢
  refine Call_ (glob_name G H.hi H.envok h1 g1 ?_)
  cases as with
  | nil => cases h4
  | cons e₀ es₀ =>
    have hp : plainE e₀ = true := by
      cases args with
      | nil => unfold Mxs at h3; cases h3
      | cons x₀ xs₀ => unfold Mxs at h3; exact (and3 (and3 h3).1).2
    refine callWith_def (o := o) (fd := fd) g3 (useL (hes _ _ h3 H (bind_bad hbad)) (fun _ _ _ e h => excOf e h) fun ds vs fz₁ s₁ e r rep => ?_) (plain_star hp)
    rw [e, Res.bind_ok] at hbad ⊢
    have H₁ := H.step r
    refine ⟨H₁.hi.stays _ _ g2, ?_⟩
    dsimp only at hbad ⊢
    cases z : T.F f ds with
    | none => simp only [z] at hbad; exact absurd trivial (by simpa using hbad)
    | some d =>
      exact wpAny_mono (g4 ds d z A outer s₁ vs fz₁ (fun _ _ => False) H₁.sit H₁.hi r.fzin H₁.fzle rep) (fun v s₂ g => Good.after r g) fun _ _ q => q.elim
theorem sound_bi (G : GOK prog w T base fzT mg mb n) {b : Bi} {a : X} (ha : SoundX prog w T base fzT n .a a) : SoundX prog w T base fzT n .a (.bi b a) := by
  intro A outer L env nm σ ad fz s e hm H hbad
  obtain ⟨g, as, kw, pos, rfl, hm⟩ := atCall_inv hm
  obtain ⟨x, px, rfl, hm⟩ := atName_inv hm
  have hk := andL hm
  have hm := andR hm
  cases nil_inv hk
  obtain ⟨e₀, rfl, hm⟩ := at1_inv hm
  have h4 := andR hm
  have hm := andL hm
  have h3 := andR hm
  have hm := andL hm
  have h2 := andR hm
  have h1 := andL hm
  cases (eq_of_beq h2)
  unfold ev at hbad ⊢
  refine Call_ (built_name G H.hi H.envok h1 (G.bis b).1 (G.bis b).2 ?_)
  have key : wpAny (model prog w) A (spliced (backTo pos (starEach [e₀] env))) (fun vs s₁ => wpAny (model prog w) A (call b.callee vs) (PostV (fsOf outer) fz s ((ev T a σ).bind fun x => opBi b x)) (PostE A.handled (fsOf outer) L s ((ev T a σ).bind fun x => opBi b x)) s₁)
      (PostE A.handled (fsOf outer) L s ((ev T a σ).bind fun x => opBi b x)) s := by
    refine args_cons (useV (ha _ h3 H (bind_bad hbad)) (fun _ _ _ e h => excOf e h) fun d v fz₁ s₁ e r rep => args_nil ?_) (plain_star h4)
    rw [e, Res.bind_ok] at hbad ⊢
    refine finV r ?_
    cases z : opBi b d with
    | bad => exact absurd z hbad
    | exc k => exfalso; unfold opBi at z; split at z <;> (try split at z) <;> (try split at z) <;> cases z
    | ok d' => exact bi_good (H.sit.handled rfl) r.fzin rep z
  cases b with
  | list => exact callWith_type1 key (plain_star h4)
  | len => exact callWith_builtin1 key (plain_star h4)
  | sorted => exact callWith_builtin1 key (plain_star h4)
  | sum => exact callWith_builtin1 key (plain_star h4)
  | max => exact callWith_builtin1 key (plain_star h4)
  | min => exact callWith_builtin1 key (plain_star h4)
end
end Mine
end
section
open PySem PySem.W PySem.Calls PyProof.Rows
namespace Mine
section
variable {prog : Program} {w : World} {T : Tab} {base : Heap} {fzT : Fz} {n : Nat} {md : Md} {mg mb : Str → Option Value}
theorem mo_part {nm : List Str} {A : Around} {outer : List Env} {L : Addr} {env : Env} {σ : List SV} {ad : Nat → Addr} {fz : Fz} {s : Shared} {x : X} {l : Option Expr} (hx : SoundX prog w T base fzT n md x)
    (hm : Mo T env.scope.names nm x l = true) (H : Here base fzT md n A outer L env nm σ ad fz s) (hb : ev T x σ ≠ .bad) :
    wpAny (model prog w) A (evalPart l env) (PostV (fsOf outer) fz s (ev T x σ)) (PostE A.handled (fsOf outer) L s (ev T x σ)) s := by
  cases l with
  | none =>
    have hx' : x = .nothing := by
      have hm' : x.ctorIdx = 4 := eq_of_beq (show isNothing x = true from hm)
      exact X.nothing.elim (motive_1 := fun t => t = .nothing) x hm' rfl
    subst hx'
    refine wpAny_evalPart_none ?_
    unfold ev
    exact Good.here H.fzin .none
  | some e => exact wpAny_evalPart_some (hx _ (and3 hm).1 H hb)
theorem optD_some {y x : PyData} (h : optD y = some x) : y = x := by
  unfold optD at h; split at h <;> cases h; rfl
theorem optD_none {y : PyData} (h : optD y = none) : y = .none := by
  unfold optD at h; split at h
  · rfl
  · cases h
theorem opSlice_exc {a : PyData} {lo hi : Option PyData} {k : String} (z : opSlice a lo hi = .exc k) : False := by
  unfold opSlice at z; split at z <;> (try split at z) <;> cases z
theorem opSlice_list {a d : PyData} {lo hi : Option PyData} (z : opSlice a lo hi = .ok d) : ∃ ds, a = .list ds := by
  unfold opSlice at z; split at z <;> (try split at z) <;> first | (cases z; done) | exact ⟨_, rfl⟩
theorem sound_slice {a lo hi : X} (ha : SoundX prog w T base fzT n md a) (hlo : SoundX prog w T base fzT n md lo) (hhi : SoundX prog w T base fzT n md hi) : SoundX prog w T base fzT n md (.slice a lo hi) := by
  intro A outer L env nm σ ad fz s e hm H hbad
  obtain ⟨v, i, pos, rfl, hm⟩ := atSubscript_inv hm
  obtain ⟨l, u, st, pos', rfl, hm⟩ := atSlice_inv hm
  have hst := andL hm
  have hm := andR hm
  cases none_inv hst
  have h3 := andR hm
  have hm := andL hm
  have h2 := andR hm
  have h1 := andL hm
  unfold ev at hbad ⊢
  refine Subscript_ (useV (ha _ h1 H (bind_bad hbad)) (fun _ _ _ e h => excOf e h) fun x v fz₁ s₁ e r rep => ?_)
  rw [e, Res.bind_ok] at hbad ⊢
  refine wpAny_Slice (useV (mo_part hlo h2 (H.step r) (bind_bad hbad)) (fun _ _ _ e h => PostE.after r (excOf e h)) fun y u fz₂ s₂ e' r' rep' => ?_)
  rw [e', Res.bind_ok] at hbad ⊢
  refine useV (mo_part hhi h3 (H.step (r.trans r')) (bind_bad hbad)) (fun _ _ _ e h => PostE.after (r.trans r') (excOf e h)) fun y₂ u₂ fz₃ s₃ e'' r'' rep'' => ?_
  rw [e'', Res.bind_ok] at hbad ⊢
  refine wpAny_evalPart_none ?_
  cases z : opSlice x (optD y) (optD y₂) with
  | bad => exact absurd z hbad
  | exc k => exact (opSlice_exc z).elim
  | ok d =>
    obtain ⟨ds, rfl⟩ := opSlice_list z
    have R := (r.trans r').trans r''
    obtain ⟨l, vs, rfl, e1, r1⟩ := rep_list_inv (rep.mono (r'.fz.le.trans r''.fz.le))
    obtain ⟨lo', hi', vs', ds', p1, p2, pk, rfl, rr, hz⟩ := slice_pick (fz := fz₃) r1 z (vl := u) (vu := u₂) (fun x q => optD_some q ▸ rep'.mono r''.fz.le) (fun q => by have := optD_none q; subst this; cases rep'; rfl)
      (fun x q => optD_some q ▸ rep'') (fun q => by have := optD_none q; subst this; cases rep''; rfl)
    have hl := r''.fzin.isList e1
    have hlen := r1.length
    refine tail_any (ops := [.ref s₃.heap.objs.size, .ref l]) (hl.push _).typeIs slot_list_getitem.lookup (wpAny_getItem_list_slice (hl.push _) (Heap.IsSliceOf.new ..) p1 p2 .none (by simp) ?_ (by simp only [List.size_toArray]; rw [sizeLine_eq]; omega)) rfl
    rw [pk]
    refine Good.after R ?_
    have := Good.made (fs := fsOf outer) (fz := fz₃) (s := s₃) (t := false) (vs := vs') (ds := ds')
      (h' := (s₃.heap.push { cls := .type "slice", data := .fields #[u, u₂, .none] }).push { cls := .type "list", data := .seq vs'.toArray })
      (a := (s₃.heap.push { cls := .type "slice", data := .fields #[u, u₂, .none] }).objs.size) s₃.toks (fun b o e => Heap.get?_push_of_some _ (Heap.get?_push_of_some _ e)) R.fzin (size_none _ (by rw [Heap.size_push]; omega)) (Heap.get?_push_size _ rfl) rfl rfl rr
    exact this
/-! ranges -/
theorem const_good {A : Around} {E : Value → Shared → Prop} {s : Shared} {env : Env} {e : Expr} {i : Int} {Q : Value → Shared → Prop} (hm : constE e i = true) (h : ∀ t tk, Q (.int i t) { s with toks := tk }) : wpAny (model prog w) A (eval e env) Q E s := by
  rcases Bool.or_eq_true_iff.mp hm with hm | hm
  · obtain ⟨c, k, p, rfl, hm⟩ := atConstant_inv hm
    obtain ⟨j, rfl, hm⟩ := atConstInt_inv hm
    cases (eq_of_beq hm); exact wpAny_Constant_int (h _ _)
  · obtain ⟨o, x, p, rfl, hm⟩ := atUnaryOp_inv hm
    have ho := andL hm
    have hm := andR hm
    cases isNeg_inv ho
    obtain ⟨c, k, p, rfl, hm⟩ := atConstant_inv hm
    obtain ⟨j, rfl, hm⟩ := atConstInt_inv hm
    cases (eq_of_beq hm); exact wpAny_UnaryOp (wpAny_Constant_int (neg_int (h _ _)))
noncomputable def RangeAt (s : Shared) (a b c : Int) (v : Value) (s₁ : Shared) : Prop :=
  ∃ h' tk r t u x, s₁ = { s with heap := h', toks := tk } ∧ (∀ b o, s.heap.get? b = some o → h'.get? b = some o) ∧ v = .ref r ∧ s.heap.get? r = none ∧ IsRange h' r a b c t u x
theorem range_good (G : GOK prog w T base fzT mg mb n) {A : Around} {E : Value → Shared → Prop} {outer : List Env} {L : Addr} {env : Env} {s : Shared} {a b c : Int} {e : Expr} (hi : HI base outer s.heap) (O : EnvOK L outer env s.heap) (hm : rangeE env.scope.names a b c e = true) (hc : c ≠ 0) (hc2 : c.natAbs < 1000) :
    wpAny (model prog w) A (eval e env) (RangeAt s a b c) E s := by
  obtain ⟨f, as, kw, pos, rfl, hm⟩ := atCall_inv hm
  obtain ⟨x, px, rfl, hm⟩ := atName_inv hm
  have hcase := andR hm
  have hm := andL hm
  have hk := andR hm
  have hm := andL hm
  have h2 := andR hm
  have h1 := andL hm
  cases nil_inv hk
  cases (eq_of_beq h2)
  refine Call_ (built_name G hi O h1 G.rng.1 G.rng.2 ?_)
  rcases Bool.or_eq_true_iff.mp hcase with hcase | hm
  · rcases Bool.or_eq_true_iff.mp hcase with hm | hm
    · obtain ⟨x, rfl, hm⟩ := at1_inv hm
      have h6 := andR hm
      have hm := andL hm
      have h5 := andR hm
      have hm := andL hm
      have h4 := andR hm
      have h3 := andL hm
      cases (eq_of_beq h3); cases (eq_of_beq h5)
      refine callWith_type1 (args_cons (const_good h4 fun t tk => args_nil ?_) (plain_star h6)) (plain_star h6)
      exact call_range_1 ⟨_, _, _, _, _, _, rfl, fun b o e => Heap.get?_push_of_some _ e, rfl, size_none _ (Nat.le_refl _), Heap.get?_push_size _ rfl⟩
    · obtain ⟨x, y, rfl, hm⟩ := at2_inv hm
      have h7 := andR hm
      have hm := andL hm
      have h6 := andR hm
      have hm := andL hm
      have h5 := andR hm
      have hm := andL hm
      have h4 := andR hm
      have h3 := andL hm
      cases (eq_of_beq h5)
      refine callWith_type1 (args_cons (const_good h3 fun t tk => args_cons (const_good h4 fun t' tk' => args_nil ?_) (plain_star h7)) (plain_star h6)) (plain_star h6) (by rw [plain_star h7]; rfl)
      exact call_range_2 ⟨_, _, _, _, _, _, rfl, fun b o e => Heap.get?_push_of_some _ e, rfl, size_none _ (Nat.le_refl _), Heap.get?_push_size _ rfl⟩
  · obtain ⟨x, y, z, rfl, hm⟩ := at3_inv hm
    have h8 := andR hm
    have hm := andL hm
    have h7 := andR hm
    have hm := andL hm
    have h6 := andR hm
    have hm := andL hm
    have h5 := andR hm
    have hm := andL hm
    have h4 := andR hm
    have h3 := andL hm
    refine callWith_type1 (args_cons (const_good h3 fun t tk => args_cons (const_good h4 fun t' tk' => args_cons (const_good h5 fun t'' tk'' => args_nil ?_) (plain_star h8)) (plain_star h7)) (plain_star h6)) (plain_star h6) (by rw [plain_star h7, plain_star h8]; rfl)
    exact call_range_3 hc ⟨_, _, _, _, _, _, rfl, fun b o e => Heap.get?_push_of_some _ e, rfl, size_none _ (Nat.le_refl _), Heap.get?_push_size _ rfl⟩ (.inl (PyProof.noPylong_small (by omega)))
/-- a range is no folded set -/
theorem range_set {sc : Sc} {a b c : Int} {iter : Expr} {env : Env} (h : rangeE sc a b c iter = true) (x : Value) : foldedSetIterable iter env x = pure x := by
  obtain ⟨f, as, kw, pos, rfl, _⟩ := atCall_inv h
  rfl
theorem items_ints {fz : Fz} {a c : Int} : ∀ (m : Nat) (vs : List Value), vs.length = m → (∀ (j : Nat) v, vs[j]? = some v → ∃ t, v = .int (a + j * c) t) → RepAll fz vs ((List.range m).map fun (i : Nat) => PyData.int (a + i * c)) := by
  intro m
  induction m with
  | zero => intro vs h _; rw [List.length_eq_zero_iff.mp h]; exact .nil
  | succ m ih =>
    intro vs h hi
    have e : vs = vs.take m ++ [vs[m]'(by omega)] := by
      have h' : m < vs.length := by omega
      conv => lhs; rw [← List.take_append_drop m vs]
      congr 1
      rw [List.drop_eq_getElem_cons h']
      rw [List.drop_of_length_le (by omega)]
    rw [e, List.range_succ, List.map_append]
    refine (ih _ (by simp; omega) fun j v hj => ?_).append ?_
    · rw [List.getElem?_take] at hj
      split at hj
      · exact hi j v hj
      · cases hj
    · obtain ⟨t, ht⟩ := hi m _ (List.getElem?_eq_getElem (by omega))
      rw [ht]
      exact .cons (.int _ _) .nil
theorem rangeSize_one (k : Nat) : Builtin.Range.rangeSize 0 k 1 = k := by
  unfold Builtin.Range.rangeSize
  simp only [show (1 : Int) > 0 from by omega, if_true]
  split <;> omega
theorem range_small (k : Nat) (hk : k ≤ 1000) : Builtin.Range.small 0 k 1 = true := by
  unfold Builtin.Range.small
  rw [rangeSize_one]
  simp [Builtin.Range.rangeFitsLong]
  omega
theorem sound_ints (G : GOK prog w T base fzT mg mb n) {k : Nat} : SoundX prog w T base fzT n .a (.ints k) := by
  intro A outer L env nm σ ad fz s e hm H hbad
  obtain ⟨g, as, kw, pos, rfl, hm⟩ := atCall_inv hm
  obtain ⟨x, px, rfl, hm⟩ := atName_inv hm
  have hk := andL hm
  have hm := andR hm
  cases nil_inv hk
  obtain ⟨e₀, rfl, hm⟩ := at1_inv hm
  have h4 := andR hm
  have hm := andL hm
  have h3 := andR hm
  have hm := andL hm
  have h2 := andR hm
  have h1 := andL hm
  cases (eq_of_beq h2)
  unfold ev at hbad ⊢
  have hk : k ≤ 1000 := by
    by_cases q : k ≤ 1000
    · exact q
    · rw [if_neg q] at hbad; exact absurd rfl hbad
  rw [if_pos hk]
  refine Call_ (built_name G H.hi H.envok h1 (G.bis .list).1 (G.bis .list).2 (callWith_type1 (args_cons (wpAny_mono (range_good G H.hi H.envok h3 (by decide) (by decide)) (fun v s₁ g => args_nil ?_) fun _ _ q => q) (plain_star h4)) (plain_star h4)))
  obtain ⟨h', tk, r, t, u, x, rfl, kp, rfl, hr, hR⟩ := g
  refine call_list_range (H.sit.handled rfl) hR (range_small k hk) (rangeSize_one k) (Nat.le_trans hk (by decide)) fun h'' tk' acc' c' kp' hn hI => ?_
  have hn' : s.heap.get? h'.objs.size = none := by
    cases q : s.heap.get? h'.objs.size with
    | none => rfl
    | some o => exact absurd (Heap.lt_size (kp _ _ q)) (Nat.lt_irrefl _)
  have := Good.made (fs := fsOf outer) (fz := fz) (s := s) (t := false) (vs := acc'.toList) (ds := rangeD 0 k 1) (n := c') tk' (fun b o e => kp' b o (kp b o e)) H.fzin hn' hn rfl (by simp) (by
    unfold rangeD rangeN
    rw [rangeSize_one]
    refine items_ints _ _ (by simp [hI.1]) fun j v hj => hI.2 j v (by simpa using hj))
  exact this
end
end Mine
end
section
open PySem PySem.W PySem.Calls PyProof.Rows
namespace Mine
/-! the environment of a comprehension -/
theorem nodupB_cons {x : Str} {r : List Str} (h : nodupB (x :: r) = true) : x ∉ r ∧ nodupB r = true := by
  unfold nodupB at h
  obtain ⟨h1, h2⟩ := Bool.and_eq_true_iff.mp h
  exact ⟨by simpa using h1, h2⟩
theorem lookup_mem_nodup {α : Type} : ∀ {l : List (Str × α)} {x : Str} {a : α}, nodupB (l.map (·.1)) = true → (x, a) ∈ l → l.lookup x = some a
  | (y, b) :: r, x, a, h, hm => by
    obtain ⟨h1, h2⟩ := nodupB_cons h
    rcases List.mem_cons.mp hm with e | hm
    · cases e; simp
    · have : x ≠ y := fun e => h1 (e ▸ List.mem_map_of_mem (f := (·.1)) hm)
      rw [List.lookup_cons]
      have : (x == y) = false := by simpa using this
      rw [this]; exact lookup_mem_nodup h2 hm
theorem mem_lookup {α : Type} {l : List (Str × α)} {x : Str} {a : α} (h : l.lookup x = some a) : (x, a) ∈ l := mem_of_lookup h
noncomputable def closAcc (env : Env) : Sc → List (Str × Addr) → List (Str × Addr)
  | [], acc => acc
  | (n, k) :: r, acc => if k == .free then closAcc env r ((n, (env.cells.lookup n).getD 0) :: acc) else closAcc env r acc
theorem clos_loop {env : Env} (f : Str × NameKind → List (Str × Addr) → Sem (ForInStep (List (Str × Addr))))
    (hf : ∀ name kind cells, f (name, kind) cells = if kind == .free then (do let a ← cellOf env name; pure (.yield ((name, a) :: cells))) else pure (.yield cells)) :
    ∀ (names : Sc) (acc : List (Str × Addr)), (∀ x ∈ names, x.2 = .free → ∃ c, env.cells.lookup x.1 = some c) → (forIn names acc f : Sem _) = pure (closAcc env names acc)
  | [], acc, _ => rfl
  | (n, k) :: r, acc, h => by
    rw [List.forIn_cons, hf]
    unfold closAcc
    by_cases hk : (k == NameKind.free) = true
    · rw [if_pos hk, if_pos hk]
      obtain ⟨c, hc⟩ := h (n, k) (.head _) (by simpa using hk)
      have e : cellOf env n = pure c := by unfold cellOf; simp only at hc; rw [hc]
      simp only [e, pure_bind]
      simp only at hc
      rw [hc]
      exact clos_loop f hf r _ fun x hx => h x (.tail _ hx)
    · rw [if_neg hk, if_neg hk]
      simp only [pure_bind]
      exact clos_loop f hf r _ fun x hx => h x (.tail _ hx)
theorem clos_is {env : Env} {scope : Scope} (h : ∀ x ∈ scope.names, x.2 = .free → ∃ c, env.cells.lookup x.1 = some c) : closureFor scope env = pure (closAcc env scope.names []) := by
  unfold closureFor
  simp only [bind_pure]
  refine clos_loop _ (fun name kind cells => ?_) _ _ h
  cases hk : kind == NameKind.free <;> simp [hk]
theorem closAcc_append {env : Env} : ∀ (names : Sc) (a b : List (Str × Addr)), closAcc env names (a ++ b) = closAcc env names a ++ b
  | [], a, b => rfl
  | (n, k) :: r, a, b => by
    unfold closAcc
    split
    · rw [← List.cons_append, closAcc_append]
    · exact closAcc_append r a b
theorem closAcc_lookup {env : Env} : ∀ (names : Sc) (x : Str), nodupB (names.map (·.1)) = true → (∀ y ∈ names, y.2 = .free → ∃ c, env.cells.lookup y.1 = some c) → (x, NameKind.free) ∈ names → (closAcc env names []).lookup x = env.cells.lookup x
  | (n, k) :: r, x, hn, h, hm => by
    obtain ⟨h1, h2⟩ := nodupB_cons hn
    unfold closAcc
    have hr : ∀ y ∈ r, y.2 = .free → ∃ c, env.cells.lookup y.1 = some c := fun y hy => h y (.tail _ hy)
    by_cases hk : (k == NameKind.free) = true
    · rw [if_pos hk, show [(n, (env.cells.lookup n).getD 0)] = [] ++ [(n, (env.cells.lookup n).getD 0)] from rfl, closAcc_append, List.lookup_append]
      rcases List.mem_cons.mp hm with e | hm
      · cases e
        have : (closAcc env r []).lookup n = none := by
          cases q : (closAcc env r []).lookup n with
          | none => rfl
          | some c =>
            exfalso
            have hm := mem_lookup q
            have key : ∀ (names : Sc) (acc : List (Str × Addr)) p, p ∈ closAcc env names acc → p ∈ acc ∨ p.1 ∈ names.map (·.1) := by
              intro names
              induction names with
              | nil => intro acc p hp; exact .inl hp
              | cons y ys ih =>
                intro acc p hp
                obtain ⟨y1, y2⟩ := y
                unfold closAcc at hp
                split at hp
                · rcases ih _ p hp with q | q
                  · rcases List.mem_cons.mp q with e | q
                    · right; rw [e]; exact List.mem_map_of_mem (f := (·.1)) (List.mem_cons_self (a := (y1, y2)))
                    · exact .inl q
                  · right; exact List.mem_cons_of_mem _ q
                · rcases ih _ p hp with q | q
                  · exact .inl q
                  · right; exact List.mem_cons_of_mem _ q
            rcases key r [] _ hm with q | q
            · cases q
            · exact h1 q
        obtain ⟨c, hc⟩ := h (n, .free) (.head _) rfl
        simp only at hc
        rw [this, hc]; simp
      · rw [closAcc_lookup r x h2 hr hm]
        obtain ⟨c, hc⟩ := hr (x, .free) hm rfl
        simp only at hc
        rw [hc]; rfl
    · rw [if_neg hk]
      rcases List.mem_cons.mp hm with e | hm
      · cases e; exact absurd rfl hk
      · exact closAcc_lookup r x h2 hr hm
theorem cellsFrom_append : ∀ (names : Sc) (n : Nat) (a b : List (Str × Addr)), cellsFrom n names (a ++ b) = cellsFrom n names a ++ b
  | [], _, _, _ => rfl
  | (x, k) :: r, n, a, b => by
    unfold cellsFrom
    split
    · rw [← List.cons_append, cellsFrom_append]
    · exact cellsFrom_append r n a b
theorem cellsFrom_mem : ∀ (names : Sc) (n : Nat) (acc : List (Str × Addr)) p, p ∈ cellsFrom n names acc → p ∈ acc ∨ (p.1, NameKind.cell) ∈ names
  | [], _, _, p, h => .inl h
  | (x, k) :: r, n, acc, p, h => by
    unfold cellsFrom at h
    split at h
    · rename_i hk
      rcases cellsFrom_mem r _ _ p h with q | q
      · rcases List.mem_cons.mp q with e | q
        · right; rw [e]; rw [show k = .cell by simpa using hk]; exact .head _
        · exact .inl q
      · exact .inr (.tail _ q)
    · rcases cellsFrom_mem r _ _ p h with q | q
      · exact .inl q
      · exact .inr (.tail _ q)
/-- what the comprehension's environment is -/
noncomputable def cEnv (scope : Scope) (env : Env) (C : Addr) : Env :=
  { scope := relabel scope env, locals := C, globals := env.globals, cells := cellsFrom (C + 1) scope.names (closAcc env scope.names []), qual := env.qual, func := none, code := env.code, frame := env.frame, builtins := env.builtins }
theorem comp_env {M : Model} {A : Around} {E : Value → Shared → Prop} {s : Shared} {scope : Scope} {env : Env} {cl : List (Str × Addr)} {Q : Env → Shared → Prop}
    (h : Q { scope := scope, locals := s.heap.objs.size, globals := env.globals, cells := cellsFrom (s.heap.objs.size + 1) scope.names cl, qual := env.qual, func := none, code := env.code, frame := env.frame, builtins := env.builtins }
      { s with heap := pushCells (s.heap.push { cls := .type "dict", data := .dict #[] }) scope.names }) :
    wpAny M A (newFunctionEnv scope env.globals cl [] env.qual none .none (some env)) Q E s := by
  simp only [newFunctionEnv, Option.isSome_some, if_true]
  refine wpAny_bind (wpAny_alloc ?_)
  refine wpAny_bind (wpAny_layCells _ (fun name kind cells => by cases hkc : kind == NameKind.cell <;> simp [hkc]) _ _ _ _ ?_)
  rw [show ({ s with heap := s.heap.push { cls := .type "dict", data := .dict #[] } } : Shared).heap.objs.size = s.heap.objs.size + 1 from Heap.size_push ..]
  exact wpAny_bind (wpAny_pure (wpAny_pure h))
theorem relabel_names {scope : Scope} {env : Env} (hk : env.scope.kind = .function) : (relabel scope env).names = relab env.scope.names scope.names := by
  unfold relabel relab
  simp only [hk, beq_self_eq_true, Bool.and_true]
  rfl
theorem relab_lookup (sc : Sc) (x : Str) : ∀ names : Sc, (relab sc names).lookup x = (names.lookup x).map fun k => if (k == .free && sc.lookup x == some .cell) then .cell else k
  | [] => rfl
  | (n, k) :: r => by
    have ih := relab_lookup sc x r
    unfold relab at ih ⊢
    rw [List.map_cons]
    by_cases q : x = n
    · subst q
      by_cases hc : (k == NameKind.free && sc.lookup x == some NameKind.cell) = true
      · dsimp only
        rw [if_pos hc, List.lookup_cons, List.lookup_cons]
        simp only [beq_self_eq_true, Option.map_some, if_pos hc]
      · dsimp only
        rw [if_neg hc, List.lookup_cons, List.lookup_cons]
        simp only [beq_self_eq_true, Option.map_some, if_neg hc]
    · have q' : (x == n) = false := by simpa using q
      by_cases hc : (k == NameKind.free && sc.lookup n == some NameKind.cell) = true
      · dsimp only
        rw [if_pos hc, List.lookup_cons, List.lookup_cons]
        simp only [q']; exact ih
      · dsimp only
        rw [if_neg hc, List.lookup_cons, List.lookup_cons]
        simp only [q']; exact ih
theorem cell_new {h : Heap} {C : Nat} {names : Sc} {cl : List (Str × Addr)} {x : Str} (hC : h.objs.size = C) (hx : names.lookup x = some .cell) :
    ∃ c, (cellsFrom C names cl).lookup x = some c ∧ C ≤ c ∧ (pushCells h names).IsCell c none ∧ (cellsFrom C names []).lookup x = some c := by
  have ok := cellsFrom_ok names h C [] ⟨fun _ _ hm => (nomatch hm), List.Pairwise.nil⟩ (Nat.le_of_eq hC.symm)
  rw [hC] at ok
  have hs := cellsFrom_some (x := x) names C [] (.inl hx)
  obtain ⟨c, hc⟩ := Option.isSome_iff_exists.mp hs
  have e := cellsFrom_append names C [] cl
  rw [List.nil_append] at e
  exact ⟨c, by rw [e, List.lookup_append, hc]; rfl, (ok.empty x c (mem_lookup hc)).2, (ok.empty x c (mem_lookup hc)).1, hc⟩
theorem cell_old {C : Nat} {names : Sc} {cl : List (Str × Addr)} {x : Str} (hx : ∀ k, (x, k) ∈ names → k ≠ .cell) : (cellsFrom C names cl).lookup x = cl.lookup x := by
  have e := cellsFrom_append names C [] cl
  rw [List.nil_append] at e
  rw [e, List.lookup_append]
  cases q : (cellsFrom C names []).lookup x with
  | none => rfl
  | some c =>
    rcases cellsFrom_mem names C [] _ (mem_lookup q) with z | z
    · cases z
    · exact absurd rfl (hx _ z)
theorem cells_apart {h : Heap} {C : Nat} {names : Sc} {x y : Str} {c : Addr} (hC : h.objs.size = C) (hx : (cellsFrom C names []).lookup x = some c) (hy : (cellsFrom C names []).lookup y = some c) : x = y := by
  have ok := cellsFrom_ok names h C [] ⟨fun _ _ hm => (nomatch hm), List.Pairwise.nil⟩ (Nat.le_of_eq hC.symm)
  rw [hC] at ok
  exact name_of_addr ok.apart (mem_lookup hx) (mem_lookup hy)
end Mine
end
section
open PySem PySem.W PySem.Calls PyProof.Rows
namespace Mine
/-- what stood stands, but for W -/
noncomputable def ExtW (W : Addr → Prop) (fs : List Addr) (h h' : Heap) : Prop :=
  ∀ b o, h.get? b = some o → ¬ W b → ∃ sl, h'.get? b = some { o with slots := sl } ∧ (b ∉ fs → sl = o.slots)
section
variable {W : Addr → Prop} {fs : List Addr} {h h' h₁ h₂ h₃ : Heap}
theorem ExtW.refl (W : Addr → Prop) (fs : List Addr) (h : Heap) : ExtW W fs h h := fun _ o e _ => ⟨o.slots, e, fun _ => rfl⟩
theorem ExtW.trans (x : ExtW W fs h₁ h₂) (y : ExtW W fs h₂ h₃) : ExtW W fs h₁ h₃ := fun b o e hb => by
  obtain ⟨sl, e₁, q₁⟩ := x b o e hb
  obtain ⟨sl', e₂, q₂⟩ := y b _ e₁ hb
  exact ⟨sl', e₂, fun hf => (q₂ hf).trans (q₁ hf)⟩
theorem ExtW.of_ext (x : Ext fs h h') : ExtW W fs h h' := fun b o e _ => x b o e
theorem ExtW.of_but {a : Addr} (x : Heap.SameBut a h h') (ha : W a) : ExtW W fs h h' := fun b o e hb => ⟨o.slots, (x.2 b fun q => hb (q ▸ ha)).trans e, fun _ => rfl⟩
theorem ExtW.of_moved {wr : List Addr} (x : ∀ b o, b ∉ wr → h.get? b = some o → h'.get? b = some o) (hw : ∀ b ∈ wr, W b) : ExtW W fs h h' := fun b o e hb => ⟨o.slots, x b o (fun q => hb (hw b q)) e, fun _ => rfl⟩
theorem ExtW.get (x : ExtW W fs h h') {b : Addr} {o : Obj} (hb : ¬ W b) (hf : b ∉ fs) (e : h.get? b = some o) : h'.get? b = some o := by
  obtain ⟨sl, e₁, q₁⟩ := x b o e hb
  rw [q₁ hf] at e₁; exact e₁
theorem ExtW.gone (x : ExtW W fs h h') {b : Addr} (hb : ¬ W b) (e : h'.get? b = none) : h.get? b = none := by
  cases q : h.get? b with
  | none => rfl
  | some o => obtain ⟨sl, e₁, _⟩ := x b o q hb; rw [e] at e₁; cases e₁
theorem ExtW.fzIn (x : ExtW W fs h h') {fz : Fz} (hw : ∀ b, W b → fz b = none) (f : FzIn fz h) : FzIn fz h' := fun a t vs e => by
  obtain ⟨o, n, ho, hc, hd⟩ := f a t vs e
  obtain ⟨sl, e₁, _⟩ := x a o ho (fun q => by rw [hw a q] at e; cases e)
  exact ⟨_, n, e₁, hc, hd⟩
theorem ExtW.ns (x : ExtW W fs h h') {a : Addr} {m : Str → Option Value} (ha : ¬ W a) (hn : h.Ns a m) : h'.Ns a m := by
  obtain ⟨o, es, ep, ho, hd, r⟩ := hn
  obtain ⟨sl, e₁, _⟩ := x a o ho ha
  exact ⟨_, es, ep, e₁, hd, r⟩
theorem ExtW.isCell (x : ExtW W fs h h') {c : Addr} {v : Option Value} (hc : ¬ W c) (hv : h.IsCell c v) : h'.IsCell c v := by
  obtain ⟨o, ho, hd⟩ := hv
  obtain ⟨sl, e₁, _⟩ := x c o ho hc
  exact ⟨_, e₁, hd⟩
theorem ExtW.plain (x : ExtW W fs h h') {a : Addr} {vs : Array Value} (ha : ¬ W a) (hf : a ∉ fs) (hp : h.PlainList a vs) : h'.PlainList a vs := by
  obtain ⟨n, e⟩ := hp; exact ⟨n, x.get ha hf e⟩
/-- W is new: the elder heap grows -/
theorem ExtW.old {h₀ : Heap} (k : ∀ b o, h₀.get? b = some o → h.get? b = some o) (x : ExtW W fs h h') (hw : ∀ b o, h₀.get? b = some o → ¬ W b) : Ext fs h₀ h' := fun b o e => x b o (k b o e) (hw b o e)
theorem ExtW.mono {W' : Addr → Prop} (x : ExtW W fs h h') (hw : ∀ b, W b → W' b) : ExtW W' fs h h' := fun b o e hb => x b o e fun q => hb (hw b q)
end
/-! places of names -/
theorem nmIdx_append (x : Str) (l : List Str) : ∀ nm : List Str, nmIdx (nm ++ l) x = match nmIdx l x with
    | some j => some (nm.length + j)
    | none => nmIdx nm x
  | [] => by cases q : nmIdx l x <;> simp [nmIdx, q]
  | y :: r => by
    have ih := nmIdx_append x l r
    rw [List.cons_append, nmIdx, ih]
    cases q : nmIdx l x with
    | some j => simp only [List.length_cons]; congr 1; omega
    | none => simp only [nmIdx]
theorem nmIdx_get (x : Str) : ∀ (l : List Str) (j : Nat), nmIdx l x = some j → l[j]? = some x
  | [], _, h => by cases h
  | y :: r, j, h => by
    unfold nmIdx at h
    split at h
    · rename_i i hi
      cases h
      simpa using nmIdx_get x r i hi
    · split at h
      · rename_i e; cases h; simp [e]
      · cases h
theorem nmIdx_none (x : Str) : ∀ (l : List Str), nmIdx l x = none → x ∉ l
  | [], _ => by simp
  | y :: r, h => by
    unfold nmIdx at h
    split at h
    · cases h
    · rename_i hr
      split at h
      · cases h
      · rename_i hy
        intro hm
        rcases List.mem_cons.mp hm with e | hm
        · exact hy e.symm
        · exact nmIdx_none x r hr hm
/-- a name of the comprehension's own -/
noncomputable def ownN (scope : Scope) (x : Str) : Prop := scope.names.lookup x = some .local ∨ scope.names.lookup x = some .cell
section
variable {base : Heap} {fzT : Fz} {md : Md} {n : Nat} {A : Around} {outer : List Env} {L : Addr} {env : Env} {nm : List Str} {σ : List SV} {ad : Nat → Addr} {fz : Fz} {s₀ : Shared} {scope : Scope} {t : Str} {C : Addr}
structure CompCx (sc : Sc) (nm : List Str) (t : Str) (scope : Scope) : Prop where
  kind : scope.kind = .function
  nodup : nodupB (scope.names.map (·.1)) = true
  free : ∀ x ∈ scope.names, x.2 = .free → sc.lookup x.1 = some .cell ∨ sc.lookup x.1 = some .free
  own : ∀ x, ownN scope x → x = t ∨ nmIdx nm x = none
theorem compCx_of {sc : Sc} (h : compOk sc nm t scope = true) : CompCx sc nm t scope := by
  obtain ⟨h, h4⟩ := Bool.and_eq_true_iff.mp h
  obtain ⟨h, h3⟩ := Bool.and_eq_true_iff.mp h
  obtain ⟨h1, h2⟩ := Bool.and_eq_true_iff.mp h
  refine ⟨eq_of_beq h1, h2, fun x hx e => ?_, fun x hx => ?_⟩
  · have := List.all_eq_true.mp h3 x hx
    rw [e] at this
    simpa using this
  · have key : ∀ k, (x, k) ∈ scope.names → (k = .local ∨ k = .cell) → x = t ∨ nmIdx nm x = none := by
      intro k hm hk
      have := List.all_eq_true.mp h4 _ hm
      rcases hk with rfl | rfl <;> simpa using this
    rcases hx with hx | hx
    · exact key _ (mem_lookup hx) (.inl rfl)
    · exact key _ (mem_lookup hx) (.inr rfl)
theorem cEnv_kind (hk : env.scope.kind = .function) (x : Str) : (cEnv scope env C).kindOf x = (scope.names.lookup x).map fun k => if (k == .free && env.scope.names.lookup x == some .cell) then .cell else k := by
  show (relabel scope env).names.lookup x = _
  rw [relabel_names hk, relab_lookup]
theorem cells_some (X : CompCx env.scope.names nm t scope) {h : Heap} (O : EnvOK L outer env h) : ∀ x ∈ scope.names, x.2 = .free → ∃ c, env.cells.lookup x.1 = some c := by
  intro x hx e
  obtain ⟨c, v, hc, _⟩ := O.cells x.1 (by
    show isCellK (env.scope.names.lookup x.1) = true
    rcases X.free x hx e with q | q <;> rw [q] <;> rfl)
  exact ⟨c, hc⟩
theorem cEnv_free (X : CompCx env.scope.names nm t scope) {h : Heap} (O : EnvOK L outer env h) {x : Str} (hx : scope.names.lookup x = some .free) : (cEnv scope env C).cells.lookup x = env.cells.lookup x := by
  show (cellsFrom (C + 1) scope.names (closAcc env scope.names [])).lookup x = _
  rw [cell_old fun k hm e => by
    have := lookup_mem_nodup X.nodup hm
    rw [hx, e] at this; cases this]
  exact closAcc_lookup _ _ X.nodup (cells_some X O) (mem_lookup hx)
/-- the comprehension's own places stand: its namespace, its own cells -/
structure OwnOk (scope : Scope) (cenv : Env) (h : Heap) : Prop where
  ns : ∃ m, h.Ns cenv.locals m
  cells : ∀ x, scope.names.lookup x = some .cell → ∃ c v, cenv.cells.lookup x = some c ∧ h.IsCell c v
theorem comp_envok (X : CompCx env.scope.names nm t scope) {h : Heap} (O : EnvOK L outer env h) (W : OwnOk scope (cEnv scope env C) h) : EnvOK L outer (cEnv scope env C) h := by
  refine ⟨?_, O.globals, O.builtins, O.frame, O.head, W.ns, fun x hx => ?_⟩
  · show scope.kind = _; exact X.kind
  · rw [cEnv_kind O.kind] at hx
    cases q : scope.names.lookup x with
    | none => rw [q] at hx; cases hx
    | some k =>
      cases k with
      | cell => exact W.cells x q
      | free =>
        rw [cEnv_free X O q]
        refine O.cells x ?_
        show isCellK (env.scope.names.lookup x) = true
        rcases X.free _ (mem_lookup q) rfl with z | z <;> (simp only at z; rw [z]; rfl)
      | «local» => rw [q] at hx; cases hx
      | globalExplicit => rw [q] at hx; cases hx
      | globalImplicit => rw [q] at hx; cases hx
theorem var_cenv (X : CompCx env.scope.names nm t scope) {h : Heap} (O : EnvOK L outer env h) {x : Str} (hx : scope.names.lookup x = some .free) {v : Value} (hv : Var env h x v) : Var (cEnv scope env C) h x v := by
  have hf := X.free _ (mem_lookup hx) rfl
  simp only at hf
  rcases hv with ⟨k, _⟩ | ⟨k, c, hc, hv⟩
  · exfalso
    have k : env.scope.names.lookup x = some .local := k
    rcases hf with z | z <;> (rw [k] at z; cases z)
  · refine .inr ⟨?_, c, by rw [cEnv_free X O hx]; exact hc, hv⟩
    rw [cEnv_kind O.kind, hx]
    simp only [Option.map_some]
    split <;> rfl
theorem comp_here (H : Here base fzT md n A outer L env nm σ ad fz s₀) (X : CompCx env.scope.names nm t scope) {h' : Heap} {tk : Nat} {fz' : Fz} (e : Ext (fsOf outer) s₀.heap h') (f : FzExt s₀.heap fz fz') (fi : FzIn fz' h')
    (W : OwnOk scope (cEnv scope env C) h') (l : List (Str × PyData)) (hl : ∀ (j : Nat) x d, l[j]? = some (x, d) → ∃ v, Var (cEnv scope env C) h' x v ∧ Rep fz' v d) (ht : t ∈ l.map (·.1)) :
    Here base fzT md n A outer L (cEnv scope env C) (nm ++ l.map (·.1)) (σ ++ l.map fun p => .val p.2) ad fz' { s₀ with heap := h', toks := tk } := by
  have O' := H.envok.ext e
  have I' := H.inv.ext e f
  refine ⟨H.sit, H.hi.ext e, comp_envok X O' W, ?_, fi, H.fzle.trans f.le, fun q => (H.hx q).ext e, by simp [H.len]⟩
  intro x i sv h1 h2 h3
  rw [nmIdx_append] at h1
  cases q : nmIdx (l.map (·.1)) x with
  | some j =>
    rw [q] at h1
    cases h1
    rw [List.getElem?_append_right (by rw [H.len]; omega)] at h3
    rw [H.len, Nat.add_sub_cancel_left, List.getElem?_map] at h3
    have hj := nmIdx_get x _ j q
    rw [List.getElem?_map] at hj
    cases z : l[j]? with
    | none => rw [z] at hj; cases hj
    | some p =>
      obtain ⟨y, d⟩ := p
      rw [z] at hj h3
      cases h3
      simp only [Option.map_some, Option.some.injEq] at hj
      subst hj
      exact hl j _ d z
  | none =>
    rw [q] at h1
    have hnt : x ≠ t := fun e => nmIdx_none _ _ q (e ▸ ht)
    have h3' : σ[i]? = some sv := by
      have hi : i < nm.length := by
        have := nmIdx_get x nm i h1
        exact (List.getElem?_eq_some_iff.mp this).1
      rw [List.getElem?_append_left (by rw [H.len]; exact hi)] at h3
      exact h3
    have hfree : scope.names.lookup x = some .free := by
      rw [cEnv_kind H.envok.kind] at h2
      cases z : scope.names.lookup x with
      | none => rw [z] at h2; cases h2
      | some k =>
        cases k with
        | free => rfl
        | «local» => rcases X.own x (.inl z) with e | e
                     · exact absurd e hnt
                     · rw [e] at h1; cases h1
        | cell => rcases X.own x (.inr z) with e | e
                  · exact absurd e hnt
                  · rw [e] at h1; cases h1
        | globalExplicit => rw [z] at h2; cases h2
        | globalImplicit => rw [z] at h2; cases h2
    have hv : isVar (env.kindOf x) = true := by
      show isVar (env.scope.names.lookup x) = true
      rcases X.free _ (mem_lookup hfree) rfl with z | z <;> (simp only at z; rw [z]; rfl)
    have := I' x i sv h1 hv h3'
    cases sv with
    | un => trivial
    | val d => obtain ⟨v, a, b⟩ := this; exact ⟨v, var_cenv X O' hfree a, b⟩
    | own ds => obtain ⟨a, b⟩ := this; exact ⟨var_cenv X O' hfree a, b⟩
end
end Mine
end
section
open PySem PySem.W PySem.Calls PyProof.Rows
namespace Mine
/-- an iterator over what stands for ds -/
structure Itr (prog : Program) (w : World) (A : Around) (fs : List Addr) (fz : Fz) (ds : List PyData) (h₀ h : Heap) (I : Addr) (fp wr : List Addr) (P : Nat → Value → Prop) (St : Nat → Heap → Prop) : Prop where
  walks : Walks prog w A I fp wr ds.length P St
  item : ∀ (i : Nat) v d, P i v → ds[i]? = some d → Rep fz v d
  new : ∀ b ∈ wr, h₀.get? b = none
  fpo : ∀ b ∈ fp, b ∉ fs ∧ (b ∈ wr ∨ fz b ≠ none) ∧ ∃ o, h.get? b = some o
  st : St 0 h
  ex : ∀ i h, St i h → ∀ b ∈ wr, ∃ o, h.get? b = some o
noncomputable def IterAt (prog : Program) (w : World) (A : Around) (fs : List Addr) (fz : Fz) (ds : List PyData) (s : Shared) (it : Value) (s' : Shared) : Prop :=
  ∃ h' tk I fp wr P St, s' = { s with heap := h', toks := tk } ∧ (∀ b o, s.heap.get? b = some o → h'.get? b = some o) ∧ it = .ref I ∧ Itr prog w A fs fz ds s.heap h' I fp wr P St
section
variable {prog : Program} {w : World} {A : Around} {E : Value → Shared → Prop} {s : Shared} {fz : Fz} {base : Heap} {outer : List Env}
theorem fs_not_list (hi : HI base outer s.heap) (hf : FzIn fz s.heap) {a : Addr} {t : Bool} {vs : List Value} (e : fz a = some (t, vs)) : a ∉ fsOf outer := by
  intro hm
  obtain ⟨o, es, ep, ho, hd⟩ := hi.dicts a hm
  obtain ⟨o', n, ho', _, hd'⟩ := hf a t vs e
  rw [ho] at ho'; cases ho'; rw [hd] at hd'; cases hd'
theorem fs_old (hi : HI base outer s.heap) {a : Addr} (e : s.heap.get? a = none) : a ∉ fsOf outer := by
  intro hm
  obtain ⟨o, es, ep, ho, hd⟩ := hi.dicts a hm
  rw [e] at ho; cases ho
theorem iter_good {v : Value} {d : PyData} {ds : List PyData} (hh : A.handled = none) (hi : HI base outer s.heap) (hf : FzIn fz s.heap) (r : Rep fz v d) (hd : itemsOf d = some ds) :
    wpAny (model prog w) A (pyIter v) (IterAt prog w A (fsOf outer) fz ds s) E s := by
  have new : s.heap.get? s.heap.objs.size = none := size_none _ (Nat.le_refl _)
  unfold itemsOf at hd
  split at hd
  · split at hd
    · cases hd
      obtain ⟨l, vs, rfl, e1, r1⟩ := rep_list_inv r
      have hl := hf.isList e1
      have hlt : l < s.heap.objs.size := by obtain ⟨o, ho, _⟩ := hl; exact Heap.lt_size ho
      refine wpAny_pyIter_list hl ?_
      have W := Walks.list (prog := prog) (w := w) (A := A) hh s.heap.objs.size l (Nat.ne_of_lt hlt) vs.toArray
      rw [show vs.toArray.size = ds.length by simp [r1.length]] at W
      refine ⟨_, s.toks, _, _, _, _, _, rfl, fun b o e => Heap.get?_push_of_some _ e, rfl, W, fun i v d hp hd => ?_, fun b hb => ?_, fun b hb => ?_, ?_, ?_⟩
      · obtain ⟨d', h1, h2⟩ := r1.get' (by simpa using hp); rw [hd] at h1; cases h1; exact h2
      · rw [List.mem_singleton.mp hb]; exact new
      · rcases List.mem_cons.mp hb with e | hb
        · subst e; exact ⟨fs_old hi new, .inl (.head _), _, Heap.get?_push_size _ rfl⟩
        · rw [List.mem_singleton.mp hb]
          obtain ⟨o, ho, _⟩ := hl
          exact ⟨fs_not_list hi hf e1, .inr (by rw [e1]; intro z; cases z), _, Heap.get?_push_of_some _ ho⟩
      · exact ⟨⟨_, Heap.get?_push_size _ rfl, rfl, rfl⟩, hl.push _⟩
      · intro i h hst b hb; rw [List.mem_singleton.mp hb]; obtain ⟨⟨o, ho, _⟩, _⟩ := hst; exact ⟨o, ho⟩
    · cases hd
  · split at hd
    · cases hd
      obtain ⟨l, vs, rfl, e1, r1⟩ := rep_tuple_inv r
      have hl : s.heap.IsTuple l vs.toArray := by
        obtain ⟨o, n, ho, hc, hd⟩ := hf _ _ _ e1; exact ⟨o, ho, hc, n, hd⟩
      have hlt : l < s.heap.objs.size := by obtain ⟨o, ho, _⟩ := hl; exact Heap.lt_size ho
      refine wpAny_pyIter_tuple hl ?_
      have W := Walks.tuple (prog := prog) (w := w) (A := A) hh s.heap.objs.size l (Nat.ne_of_lt hlt) vs.toArray
      rw [show vs.toArray.size = ds.length by simp [r1.length]] at W
      refine ⟨_, s.toks, _, _, _, _, _, rfl, fun b o e => Heap.get?_push_of_some _ e, rfl, W, fun i v d hp hd => ?_, fun b hb => ?_, fun b hb => ?_, ?_, ?_⟩
      · obtain ⟨d', h1, h2⟩ := r1.get' (by simpa using hp); rw [hd] at h1; cases h1; exact h2
      · rw [List.mem_singleton.mp hb]; exact new
      · rcases List.mem_cons.mp hb with e | hb
        · subst e; exact ⟨fs_old hi new, .inl (.head _), _, Heap.get?_push_size _ rfl⟩
        · rw [List.mem_singleton.mp hb]
          obtain ⟨o, ho, _⟩ := hl
          exact ⟨fs_not_list hi hf e1, .inr (by rw [e1]; intro z; cases z), _, Heap.get?_push_of_some _ ho⟩
      · obtain ⟨o, ho, r⟩ := hl
        exact ⟨⟨_, Heap.get?_push_size _ rfl, rfl, rfl⟩, ⟨o, Heap.get?_push_of_some _ ho, r⟩⟩
      · intro i h hst b hb; rw [List.mem_singleton.mp hb]; obtain ⟨⟨o, ho, _⟩, _⟩ := hst; exact ⟨o, ho⟩
    · cases hd
  · cases hd
theorem iter_range {v : Value} {a b c : Int} {s₀ : Shared} (hh : A.handled = none) (hi : HI base outer s₀.heap) (hk : rangeOk a b c = true) (g : RangeAt s₀ a b c v s) :
    wpAny (model prog w) A (pyIter v) (IterAt prog w A (fsOf outer) fz (rangeD a b c) s₀) E s := by
  obtain ⟨h', tk, r, t, u, x, rfl, kp, rfl, hr, hR⟩ := g
  obtain ⟨hk, h4⟩ := Bool.and_eq_true_iff.mp hk
  obtain ⟨hk, h3⟩ := Bool.and_eq_true_iff.mp hk
  obtain ⟨h1, h2⟩ := Bool.and_eq_true_iff.mp hk
  refine wpAny_pyIter_range hR h1 ?_
  have new : h'.get? h'.objs.size = none := size_none _ (Nat.le_refl _)
  have new₀ : s₀.heap.get? h'.objs.size = none := by
    cases q : s₀.heap.get? h'.objs.size with
    | none => rfl
    | some o => have := kp _ _ q; rw [new] at this; cases this
  have W := Walks.range (prog := prog) (w := w) (A := A) hh h'.objs.size a c (rangeN a b c)
  rw [show rangeN a b c = (rangeD a b c).length by simp [rangeD]] at W
  refine ⟨_, tk, _, _, _, _, _, rfl, fun b o e => Heap.get?_push_of_some _ (kp b o e), rfl, W, fun i v d hp hd => ?_, fun b hb => ?_, fun b hb => ?_, ?_, ?_⟩
  · obtain ⟨t, rfl⟩ := hp
    unfold rangeD at hd
    rw [List.getElem?_map] at hd
    cases q : (List.range (rangeN a b c))[i]? with
    | none => rw [q] at hd; cases hd
    | some j =>
      rw [q] at hd
      rw [List.getElem?_range (by have := (List.getElem?_eq_some_iff.mp q).1; simpa using this)] at q
      cases q; cases hd
      exact .int _ _
  · rw [List.mem_singleton.mp hb]; exact new₀
  · rw [List.mem_singleton.mp hb]; exact ⟨fs_old hi new₀, .inl (.head _), _, Heap.get?_push_size _ rfl⟩
  · have e : (Builtin.Range.rangeSize a b c) = ((rangeN a b c : Nat) : Int) := by
      unfold rangeN; rw [Int.toNat_of_nonneg (of_decide_eq_true h3)]
    show IsRangeIter _ _ (a + ((0 : Nat) : Int) * c) (((rangeD a b c).length : Int) - ((0 : Nat) : Int)) c
    have e2 : (rangeD a b c).length = rangeN a b c := by simp [rangeD]
    rw [e2]
    simp only [Int.ofNat_zero, Int.zero_mul, Int.add_zero, Int.sub_zero, Int.natCast_zero]
    rw [e]
    exact Heap.get?_push_size _ rfl
  · intro i h hst b hb; rw [List.mem_singleton.mp hb]; exact ⟨_, hst⟩
end
end Mine
end
section
open PySem PySem.W PySem.Calls PyProof.Rows
namespace Mine
section
variable {prog : Program} {w : World} {T : Tab} {base : Heap} {fzT : Fz} {n : Nat} {A : Around} {outer : List Env} {L : Addr} {env : Env} {nm : List Str} {σ : List SV} {ad : Nat → Addr} {fz : Fz} {s₀ : Shared} {scope : Scope} {t : Str} {C D : Addr}
/-- storing into a name of the comprehension's own -/
theorem store_own {M : Model} {E : Value → Shared → Prop} {s : Shared} (O : env.scope.kind = .function) (X : CompCx env.scope.names nm t scope) (hap : ∀ x y c, scope.names.lookup x = some .cell → scope.names.lookup y = some .cell → (cEnv scope env C).cells.lookup x = some c → (cEnv scope env C).cells.lookup y = some c → x = y)
    (W : OwnOk scope (cEnv scope env C) s.heap) {x : Str} (hx : ownN scope x) {v : Value} {Q : Unit → Shared → Prop}
    (h : ∀ h' tk a, Heap.SameBut a s.heap h' → (a = C ∨ ∃ y, scope.names.lookup y = some .cell ∧ (cEnv scope env C).cells.lookup y = some a) → OwnOk scope (cEnv scope env C) h' → Var (cEnv scope env C) h' x v →
      (∀ y u, y ≠ x → ownN scope y → Var (cEnv scope env C) s.heap y u → Var (cEnv scope env C) h' y u) → Q () { s with heap := h', toks := tk }) :
    wpAny M A (storeName (cEnv scope env C) x v) Q E s := by
  have kx : ∀ y, scope.names.lookup y = some .local → (cEnv scope env C).kindOf y = some .local := fun y hy => by rw [cEnv_kind O, hy]; rfl
  have kc : ∀ y, scope.names.lookup y = some .cell → (cEnv scope env C).kindOf y = some .cell := fun y hy => by rw [cEnv_kind O, hy]; rfl
  rcases hx with hx | hx
  · obtain ⟨m, hm⟩ := W.ns
    refine wpAny_storeName_local (kx x hx) hm (fun h' hn hs => ?_) (by show (scope.kind == .class || (scope.kind == .module && _)) = false; rw [X.kind]; rfl)
    refine h h' _ C hs (.inl rfl) ⟨⟨_, hn⟩, fun y hy => ?_⟩ (.inl ⟨kx x hx, _, hn, by simp⟩) fun y u hyx hy hv => ?_
    · obtain ⟨c, v', hc, hv'⟩ := W.cells y hy
      refine ⟨c, v', hc, hv'.sameBut hs fun e => ?_⟩
      obtain ⟨o, ho, hd⟩ := hv'
      obtain ⟨o', es, ep, ho', hd', _⟩ := hm
      rw [e] at ho; have : some o = some o' := ho.symm.trans ho'; cases this; rw [hd] at hd'; cases hd'
    · rcases hv with ⟨k, m', hm', e⟩ | ⟨k, c, hc, hv⟩
      · refine .inl ⟨k, _, hn, ?_⟩
        rw [if_neg hyx]
        obtain ⟨o1, es1, ep1, ho1, hd1, _, hf1⟩ := hm
        obtain ⟨o2, es2, ep2, ho2, hd2, _, hf2⟩ := hm'
        have : some o1 = some o2 := ho1.symm.trans ho2
        cases this
        rw [hd1] at hd2; cases hd2
        rw [← hf1, hf2]; exact e
      · refine .inr ⟨k, c, hc, hv.sameBut hs fun e => ?_⟩
        obtain ⟨o, ho, hd⟩ := hv
        obtain ⟨o', es, ep, ho', hd', _⟩ := hm
        rw [e] at ho; have : some o = some o' := ho.symm.trans ho'; cases this; rw [hd] at hd'; cases hd'
  · obtain ⟨c, v₀, hc, hv₀⟩ := W.cells x hx
    refine wpAny_storeName_cell (by show scope.kind = _; exact X.kind) (kc x hx) hc hv₀ fun h' hv' hs => ?_
    have hCc : C ≠ c := by
      rintro rfl
      obtain ⟨o, ho, hd⟩ := hv₀
      obtain ⟨m, o', es, ep, ho', hd', _⟩ := W.ns
      have : some o = some o' := ho.symm.trans ho'; cases this; rw [hd] at hd'; cases hd'
    refine h h' _ c hs (.inr ⟨x, hx, hc⟩) ⟨W.ns.elim fun m hm => ⟨m, hm.sameBut hs hCc⟩, fun y hy => ?_⟩ (.inr ⟨by rw [kc x hx]; rfl, c, hc, hv'⟩) fun y u hyx hy hv => ?_
    · obtain ⟨c', v', hc', hv''⟩ := W.cells y hy
      by_cases e : c' = c
      · subst e; exact ⟨_, _, hc', hv'⟩
      · exact ⟨c', v', hc', hv''.sameBut hs e⟩
    · rcases hv with ⟨k, m', hm', e⟩ | ⟨k, c', hc', hv⟩
      · exact .inl ⟨k, m', hm'.sameBut hs hCc, e⟩
      · refine .inr ⟨k, c', hc', hv.sameBut hs fun e => hyx ?_⟩
        subst e
        rcases hy with hy | hy
        · rw [kx y hy] at k; cases k
        · exact hap y x _ hy hx hc' hc
/-- the places that a comprehension's loop writes -/
structure CW (scope : Scope) (cenv : Env) (fz : Fz) (h₀ h₁ : Heap) (fs wr : List Addr) (D : Addr) (W : Addr → Prop) : Prop where
  wrs : ∀ b ∈ wr, W b
  acc : W D
  loc : W cenv.locals
  cells : ∀ y c, scope.names.lookup y = some .cell → cenv.cells.lookup y = some c → W c
  old : ∀ b o, h₀.get? b = some o → ¬ W b
  fzn : ∀ b, W b → fz b = none
  there : ∀ b, W b → ∃ o, h₁.get? b = some o
  dfs : D ∉ fs
  dwr : D ∉ wr
  lwr : cenv.locals ∉ wr
  cwr : ∀ y c, scope.names.lookup y = some .cell → cenv.cells.lookup y = some c → c ∉ wr ∧ c ≠ D
  ld : cenv.locals ≠ D
  only : ∀ b, W b → b ∈ wr ∨ b = D ∨ b = cenv.locals ∨ ∃ y, scope.names.lookup y = some .cell ∧ cenv.cells.lookup y = some b
structure CI (scope : Scope) (cenv : Env) (fz : Fz) (s₁ : Shared) (fs : List Addr) (W : Addr → Prop) (St : Nat → Heap → Prop) (D : Addr) (pre : List (Str × PyData)) (i : Nat) (fz' : Fz) (ys : List Value) (s' : Shared) : Prop where
  ext : ∃ h' tk, s' = { s₁ with heap := h', toks := tk } ∧ ExtW W fs s₁.heap h'
  fze : FzExt s₁.heap fz fz'
  fzi : FzIn fz' s'.heap
  st : St i s'.heap
  acc : s'.heap.PlainList D ys.toArray
  own : OwnOk scope cenv s'.heap
  live : ∀ b, W b → ∃ o, s'.heap.get? b = some o
  pre : ∀ (j : Nat) x d, pre[j]? = some (x, d) → ∃ v, Var cenv s'.heap x v ∧ Rep fz' v d
theorem fzExt_W {h₁ : Heap} {fz fz' : Fz} {W : Addr → Prop} (f : FzExt h₁ fz fz') (hf : ∀ b, W b → fz b = none) (ht : ∀ b, W b → ∃ o, h₁.get? b = some o) : ∀ b, W b → fz' b = none := by
  intro b hb
  cases q : fz' b with
  | none => rfl
  | some p =>
    have := f.new b (hf b hb) (by rw [q]; intro z; cases z)
    obtain ⟨o, ho⟩ := ht b hb
    rw [this] at ho; cases ho
theorem Var.but {cenv : Env} {h h' : Heap} {a : Addr} {x : Str} {v : Value} (hs : ∀ b o, b ≠ a → h.get? b = some o → h'.get? b = some o) (hl : cenv.locals ≠ a) (hc : ∀ c, cenv.cells.lookup x = some c → c ≠ a) (q : Var cenv h x v) : Var cenv h' x v := by
  rcases q with ⟨k, m, ⟨o, es, ep, ho, r⟩, e⟩ | ⟨k, c, e, ⟨o, ho, hd⟩⟩
  · exact .inl ⟨k, m, ⟨o, es, ep, hs _ _ hl ho, r⟩, e⟩
  · exact .inr ⟨k, c, e, ⟨o, hs _ _ (hc c e) ho, hd⟩⟩
/-- what is seen of the comprehension's own places, after a step elsewhere -/
theorem OwnOk.keep {scope : Scope} {cenv : Env} {h h' : Heap} (W : OwnOk scope cenv h) (hs : ∀ b o, (b = cenv.locals ∨ ∃ y, scope.names.lookup y = some .cell ∧ cenv.cells.lookup y = some b) → h.get? b = some o → ∃ o', h'.get? b = some o' ∧ o'.data = o.data) : OwnOk scope cenv h' := by
  refine ⟨?_, fun x hx => ?_⟩
  · obtain ⟨m, o, es, ep, ho, hd, r⟩ := W.ns
    obtain ⟨o', ho', e⟩ := hs _ _ (.inl rfl) ho
    exact ⟨m, o', es, ep, ho', e.trans hd, r⟩
  · obtain ⟨c, v, hc, o, ho, hd⟩ := W.cells x hx
    obtain ⟨o', ho', e⟩ := hs _ _ (.inr ⟨x, hx, hc⟩) ho
    exact ⟨c, v, hc, o', ho', e.trans hd⟩
theorem Var.keep {cenv : Env} {h h' : Heap} {x : Str} {v : Value} (hs : ∀ b o, ((cenv.kindOf x = some .local ∧ b = cenv.locals) ∨ (isCellK (cenv.kindOf x) = true ∧ cenv.cells.lookup x = some b)) → h.get? b = some o → ∃ o', h'.get? b = some o' ∧ o'.data = o.data) (q : Var cenv h x v) : Var cenv h' x v := by
  rcases q with ⟨k, m, ⟨o, es, ep, ho, hd, r⟩, e⟩ | ⟨k, c, e, ⟨o, ho, hd⟩⟩
  · obtain ⟨o', ho', e'⟩ := hs _ _ (.inl ⟨k, rfl⟩) ho
    exact .inl ⟨k, m, ⟨o', es, ep, ho', e'.trans hd, r⟩, e⟩
  · obtain ⟨o', ho', e'⟩ := hs _ _ (.inr ⟨k, e⟩) ho
    exact .inr ⟨k, c, e, ⟨o', ho', e'.trans hd⟩⟩
end
end Mine
end
section
open PySem PySem.W PySem.Calls PyProof.Rows
namespace Mine
section
variable {prog : Program} {w : World} {T : Tab} {base : Heap} {fzT : Fz} {n : Nat} {A : Around} {outer : List Env} {L : Addr} {env : Env} {nm : List Str} {σ : List SV} {ad : Nat → Addr} {fz : Fz} {s₀ s₁ : Shared} {scope : Scope} {t : Str} {C D : Addr}
  {wr fp : List Addr} {W : Addr → Prop} {I : Addr} {ds : List PyData} {P : Nat → Value → Prop} {St : Nat → Heap → Prop} {hit : Heap} {pre : List (Str × PyData)}
theorem FzExt.throughW {fs : List Addr} {h h' : Heap} {a b c : Fz} (x : FzExt h a b) (e : ExtW W fs h h') (lv : ∀ b, W b → ∃ o, h'.get? b = some o) (y : FzExt h' b c) : FzExt h a c :=
  ⟨x.le.trans y.le, fun p ha hc => by
    cases q : b p with
    | none =>
      have := y.new p q hc
      by_cases hw : W p
      · obtain ⟨o, ho⟩ := lv p hw; rw [this] at ho; cases ho
      · exact e.gone hw this
    | some o => exact x.new p ha (by rw [q]; intro z; cases z)⟩
theorem CI.step {cenv : Env} {fs : List Addr} {i : Nat} {fz' fz'' : Fz} {ys : List Value} {s' s'' : Shared} (hf : ∀ b ∈ fp, b ∉ fs) (hD : D ∉ fs) (Wk : Walks prog w A I fp wr ds.length P St) (ci : CI scope cenv fz s₁ fs W St D pre i fz' ys s') (r : Rel fs fz' s' fz'' s'') : CI scope cenv fz s₁ fs W St D pre i fz'' ys s'' := by
  obtain ⟨⟨h', tk, rfl, ex⟩, fze, fzi, st, ac, ow, lv, pr⟩ := ci
  obtain ⟨h'', tk', rfl, e, f, fi⟩ := r
  have kd : ∀ b o, h'.get? b = some o → ∃ o', h''.get? b = some o' ∧ o'.data = o.data := fun b o ho => by obtain ⟨sl, q, _⟩ := e b o ho; exact ⟨_, q, rfl⟩
  refine ⟨⟨h'', tk', rfl, ex.trans (.of_ext e)⟩, fze.throughW ex lv f, fi, ?_, ?_, ow.keep fun b o _ ho => kd b o ho, fun b hb => ?_, fun j x d hj => ?_⟩
  · exact Wk.frame _ _ _ st fun b hb o ho => e.get (hf b hb) ho
  · obtain ⟨k, hk⟩ := ac; exact ⟨k, e.get hD hk⟩
  · obtain ⟨o, ho⟩ := lv b hb; obtain ⟨o', q, _⟩ := kd b o ho; exact ⟨o', q⟩
  · obtain ⟨v, a, b⟩ := pr j x d hj
    exact ⟨v, a.keep fun b o _ ho => kd b o ho, b.mono f.le⟩
theorem isTrueX_eq {c : X} (h : isTrueX c = true) : c = .bool true := by
  unfold isTrueX at h; split at h
  · rfl
  · cases h
theorem inner_turn2 {fzI : Fz} (fI : FzExt s₀.heap fz fzI) {u : Str} {pu : Pos} {cond elt : X} {e : Expr} {ifs : List Expr} {i : Nat} {fz' : Fz} {ys : List Value} {es out r : List PyData} {d : PyData} {s' : Shared} {Next RR : Shared → Prop} {EE : Value → Shared → Prop}
    (H : Here base fzT .a n A outer L env nm σ ad fz s₀) (X : CompCx env.scope.names nm t scope)
    (hap : ∀ x y c, scope.names.lookup x = some .cell → scope.names.lookup y = some .cell → (cEnv scope env C).cells.lookup x = some c → (cEnv scope env C).cells.lookup y = some c → x = y)
    (hs₁ : ∃ h₁ t₁, s₁ = { s₀ with heap := h₁, toks := t₁ }) (kp : Ext (fsOf outer) s₀.heap s₁.heap)
    (Wc : CW scope (cEnv scope env C) fzI s₀.heap s₁.heap (fsOf outer) wr D W) (It : Itr prog w A (fsOf outer) fzI ds s₀.heap hit I fp wr P St)
    (hu : ownN scope u) (hpo : ∀ p ∈ pre, ownN scope p.1 ∧ p.1 ≠ u) (htl : t ∈ (pre ++ [(u, d)]).map (·.1))
    (hc : SoundB prog w T base fzT n .a cond) (he : SoundX prog w T base fzT n .a elt)
    (hifs : (ifs = [] ∧ isTrueX cond = true) ∨ ∃ q, ifs = [q] ∧ Mx T (relab env.scope.names scope.names) (nm ++ (pre ++ [(u, d)]).map (·.1)) cond q = true)
    (helt : Mx T (relab env.scope.names scope.names) (nm ++ (pre ++ [(u, d)]).map (·.1)) elt e = true)
    (ci : CI scope (cEnv scope env C) fzI s₁ (fsOf outer) W St D pre i fz' ys s') (hr : RepAll fz' ys es) (hd : ds[i]? = some d)
    (hgo : compGo (fun d => ev T cond (σ ++ (pre ++ [(u, d)]).map fun p => .val p.2)) (fun d => ev T elt (σ ++ (pre ++ [(u, d)]).map fun p => .val p.2)) (d :: r) = .ok (.list out)) (hsz : es.length + out.length ≤ 100000)
    (hN : ∀ fz'' ys' es' out' s'', CI scope (cEnv scope env C) fzI s₁ (fsOf outer) W St D pre (i + 1) fz'' ys' s'' → RepAll fz'' ys' es' →
      compGo (fun d => ev T cond (σ ++ (pre ++ [(u, d)]).map fun p => .val p.2)) (fun d => ev T elt (σ ++ (pre ++ [(u, d)]).map fun p => .val p.2)) r = .ok (.list out') → es' ++ out' = es ++ out → Next s'') :
    wpAny (model prog w) A (pyNext (.ref I)) (fun o s₂ => match o with
      | none => RR s₂
      | some v => wpAny (model prog w) A (assign (.Name u pu) (cEnv scope env C) v) (fun _ s₃ =>
          wpAny (model prog w) A (forIn ifs true fun c r => if r = true then do let ok ← isTrue c (cEnv scope env C) (eval c (cEnv scope env C)); pure (ForInStep.yield ok) else pure (ForInStep.yield r)) (fun ok s₄ =>
            if ok = true then wpAny (model prog w) A (eval e (cEnv scope env C)) (fun x s₅ => wpAny (model prog w) A (call (.builtin "list.append") [.ref D, x]) (fun _ s₆ => Next s₆) EE s₅) EE s₄
            else Next s₄) EE s₃) EE s₂) EE s' := by
  have hOk : env.scope.kind = .function := H.envok.kind
  have hin : i < ds.length := (List.getElem?_eq_some_iff.mp hd).1
  have fpfs : ∀ b ∈ fp, b ∉ fsOf outer := fun b hb => (It.fpo b hb).1
  obtain ⟨⟨h', tk, rfl, ex⟩, fze, fzi, st, ac, ow, lv, pr⟩ := ci
  dsimp only at fzi st ac ow lv pr
  have hWz : ∀ b, W b → fz' b = none := fzExt_W fze Wc.fzn Wc.there
  refine It.walks.item i _ _ _ hin st fun v h₂ tk₂ hP st₂ mv => ?_
  dsimp only at mv
  have kd₂ : ∀ b o, b ∉ wr → h'.get? b = some o → ∃ o', h₂.get? b = some o' ∧ o'.data = o.data := fun b o hb ho => ⟨o, mv b o hb ho, rfl⟩
  have ow₂ : OwnOk scope (cEnv scope env C) h₂ := ow.keep fun b o hb ho => kd₂ b o (by
    rcases hb with rfl | ⟨y, hy, hc⟩
    · exact Wc.lwr
    · exact (Wc.cwr y b hy hc).1) ho
  refine wpAny_assign_Name (store_own hOk X hap ow₂ hu fun h₃ tk₃ a sb ha ow₃ vu vo => ?_)
  dsimp only at sb vo
  have hWa : W a := by
    rcases ha with rfl | ⟨y, hy, hc⟩
    · exact Wc.loc
    · exact Wc.cells y a hy hc
  have haD : a ≠ D := by
    rcases ha with rfl | ⟨y, hy, hc⟩
    · exact Wc.ld
    · exact (Wc.cwr y a hy hc).2
  have hawr : a ∉ wr := by
    rcases ha with rfl | ⟨y, hy, hc⟩
    · exact Wc.lwr
    · exact (Wc.cwr y a hy hc).1
  have fpa : ∀ b ∈ fp, b ≠ a := by
    intro b hb e
    subst e
    rcases (It.fpo b hb).2.1 with q | q
    · exact hawr q
    · exact q (Wc.fzn _ hWa)
  have fpD : ∀ b ∈ fp, b ≠ D := by
    intro b hb e
    subst e
    rcases (It.fpo b hb).2.1 with q | q
    · exact Wc.dwr q
    · exact q (Wc.fzn _ Wc.acc)
  have e₃ : ExtW W (fsOf outer) h' h₃ := (ExtW.of_moved mv Wc.wrs).trans (.of_but sb hWa)
  have fzi₃ : FzIn fz' h₃ := e₃.fzIn hWz fzi
  have rv : Rep fz' v d := (It.item i v d hP hd).mono fze.le
  -- the state ahead of the tests
  have ci₃ : CI scope (cEnv scope env C) fzI s₁ (fsOf outer) W St D pre (i + 1) fz' ys { s₁ with heap := h₃, toks := tk₃ } := by
    refine ⟨⟨h₃, tk₃, rfl, ex.trans e₃⟩, fze, fzi₃, It.walks.frame _ _ _ st₂ fun b hb o ho => sb.extBut b o (fpa b hb) ho, ?_, ow₃, fun b hb => ?_, fun j x d' hj => ?_⟩
    · obtain ⟨k, hk⟩ := ac
      exact ⟨k, sb.extBut _ _ (Ne.symm haD) (mv _ _ Wc.dwr hk)⟩
    · by_cases q : b = a
      · subst q
        rcases ha with rfl | ⟨y, hy, hc⟩
        · obtain ⟨m, o, _, _, ho, _⟩ := ow₃.ns; exact ⟨o, ho⟩
        · obtain ⟨c, v', hc', o, ho, _⟩ := ow₃.cells y hy
          rw [hc] at hc'; cases hc'; exact ⟨o, ho⟩
      · by_cases hbw : b ∈ wr
        · obtain ⟨o, ho⟩ := It.ex _ _ st₂ b hbw; exact ⟨o, sb.extBut b o q ho⟩
        · obtain ⟨o, ho⟩ := lv b hb; exact ⟨o, sb.extBut b o q (mv b o hbw ho)⟩
    · obtain ⟨v', a', b'⟩ := pr j x d' hj
      obtain ⟨po, pn⟩ := hpo _ (List.mem_of_getElem? hj)
      refine ⟨v', vo x v' pn po (a'.keep fun b o hb ho => kd₂ b o ?_ ho), b'⟩
      rcases hb with ⟨_, rfl⟩ | ⟨k, hb⟩
      · exact Wc.lwr
      · rcases po with q | q
        · rw [cEnv_kind hOk, q] at k; cases k
        · exact (Wc.cwr x b q hb).1
  have e₀ : Ext (fsOf outer) s₀.heap h₃ := fun b o e => by
    obtain ⟨sl, q1, q2⟩ := kp b o e
    obtain ⟨sl', q3, q4⟩ := (ex.trans e₃) b _ q1 (Wc.old b o e)
    exact ⟨sl', q3, fun hb => (q4 hb).trans (q2 hb)⟩
  have f₀ : FzExt s₀.heap fz fz' := fI.trans kp fze
  obtain ⟨h₁, t₁, rfl⟩ := hs₁
  have hl₃ : ∀ (j : Nat) x d', (pre ++ [(u, d)])[j]? = some (x, d') → ∃ v, Var (cEnv scope env C) h₃ x v ∧ Rep fz' v d' := by
    intro j x d' hj
    by_cases q : j < pre.length
    · rw [List.getElem?_append_left q] at hj; exact ci₃.pre j x d' hj
    · rw [List.getElem?_append_right (by omega)] at hj
      cases z : j - pre.length with
      | zero => rw [z] at hj; cases hj; exact ⟨v, vu, rv⟩
      | succ k => rw [z] at hj; simp at hj
  have H₃ := comp_here (tk := tk₃) H X e₀ f₀ fzi₃ ow₃ (pre ++ [(u, d)]) hl₃ htl
  have hnames : (cEnv scope env C).scope.names = relab env.scope.names scope.names := relabel_names hOk
  unfold compGo at hgo
  have fin : ∀ (b : Bool) (fz₄ : Fz) (s₄ : Shared), Rel (fsOf outer) fz' { s₀ with heap := h₃, toks := tk₃ } fz₄ s₄ → (∃ c, ev T cond (σ ++ (pre ++ [(u, d)]).map fun p => .val p.2) = .ok c ∧ truth c = some b) →
      (if b = true then wpAny (model prog w) A (eval e (cEnv scope env C)) (fun x s₅ => wpAny (model prog w) A (call (.builtin "list.append") [.ref D, x]) (fun _ s₆ => Next s₆) EE s₅) EE s₄ else Next s₄) := by
    intro b fz₄ s₄ r₄ ⟨c, hc1, hc2⟩
    have ci₄ := ci₃.step fpfs Wc.dfs It.walks r₄
    have hr₄ := hr.mono r₄.fz.le
    simp only [hc1, hc2] at hgo
    cases b with
    | false =>
      simp only [Bool.false_eq_true, if_false] at hgo ⊢
      exact hN _ _ _ _ _ ci₄ hr₄ hgo rfl
    | true =>
      simp only [if_true] at hgo ⊢
      cases ze : ev T elt (σ ++ (pre ++ [(u, d)]).map fun p => .val p.2) with
      | bad => simp only [ze] at hgo; cases hgo
      | exc k => simp only [ze] at hgo; cases hgo
      | ok ed =>
        simp only [ze] at hgo
        have H₄ := H₃.step r₄
        refine useV (he e (by rw [hnames]; exact helt) H₄ (by rw [ze]; intro q; cases q)) (fun kk _ _ q _ => by rw [ze] at q; cases q) fun d₅ x fz₅ s₅ q r₅ rep₅ => ?_
        rw [ze] at q; cases q
        have ci₅ := ci₄.step fpfs Wc.dfs It.walks r₅
        have hr₅ := hr₄.mono r₅.fz.le
        have hl5 := hr₅.length
        obtain ⟨⟨h5, tk5, rfl, ex5⟩, fze5, fzi5, st5, ac5, ow5, lv5, pr5⟩ := ci₅
        dsimp only at fzi5 st5 ac5 ow5 lv5 pr5
        refine wpAny_list_append_plain ac5 (fun h₆ pl₆ sb₆ => ?_) (by simp only [List.size_toArray]; rw [sizeLine_eq]; omega)
        dsimp only at sb₆
        have hWz5 : ∀ b, W b → fz₅ b = none := fzExt_W fze5 Wc.fzn Wc.there
        have e6 : ExtW W (fsOf outer) h5 h₆ := .of_but sb₆ Wc.acc
        have kd6 : ∀ b o, b ≠ D → h5.get? b = some o → ∃ o', h₆.get? b = some o' ∧ o'.data = o.data := fun b o hb ho => ⟨o, sb₆.extBut b o hb ho, rfl⟩
        cases zr : compGo (fun d => ev T cond (σ ++ (pre ++ [(u, d)]).map fun p => .val p.2)) (fun d => ev T elt (σ ++ (pre ++ [(u, d)]).map fun p => .val p.2)) r with
        | bad => simp only [zr] at hgo; cases hgo
        | exc k => simp only [zr] at hgo; cases hgo
        | ok lr =>
          simp only [zr] at hgo
          split at hgo
          · rename_i o' heq
            cases heq
            cases hgo
            refine hN fz₅ (ys ++ [x]) (es ++ [ed]) _ _ ⟨⟨h₆, tk5, rfl, ex5.trans e6⟩, fze5, e6.fzIn hWz5 fzi5, It.walks.frame _ _ _ st5 fun b hb o ho => sb₆.extBut b o (fpD b hb) ho, ?_, ?_, fun b hb => ?_, fun j y d' hj => ?_⟩ (hr₅.append (.cons rep₅ .nil)) zr (by simp)
            · simpa using pl₆
            · exact ow5.keep fun b o hb ho => kd6 b o (by
                rcases hb with rfl | ⟨y, hy, hc⟩
                · exact Wc.ld
                · exact (Wc.cwr y b hy hc).2) ho
            · by_cases q : b = D
              · subst q; obtain ⟨k, hk⟩ := pl₆; exact ⟨_, hk⟩
              · obtain ⟨o, ho⟩ := lv5 b hb; exact ⟨o, sb₆.extBut b o q ho⟩
            · obtain ⟨v', a', b'⟩ := pr5 j y d' hj
              obtain ⟨po, pn⟩ := hpo _ (List.mem_of_getElem? hj)
              refine ⟨v', a'.keep fun b o hb ho => kd6 b o ?_ ho, b'⟩
              rcases hb with ⟨_, rfl⟩ | ⟨k, hb⟩
              · exact Wc.ld
              · rcases po with q | q
                · rw [cEnv_kind hOk, q] at k; cases k
                · exact (Wc.cwr y b q hb).2
          · cases hgo
  rcases hifs with ⟨rfl, hct⟩ | ⟨q, rfl, hq⟩
  · refine wpAny_tests_nil (fin true fz' _ (Rel.refl fzi₃) ⟨.bool true, ?_, rfl⟩)
    rw [isTrueX_eq hct]; unfold ev; rfl
  · cases zc : ev T cond (σ ++ (pre ++ [(u, d)]).map fun p => .val p.2) with
    | bad => simp only [zc] at hgo; cases hgo
    | exc k => simp only [zc] at hgo; cases hgo
    | ok c =>
      have htr : truth c ≠ none := by
        intro z; simp only [zc, z] at hgo; cases hgo
      refine wpAny_tests_one (useB (hc q (by rw [hnames]; exact hq) H₃ (by rw [zc]; intro z; cases z) (fun d' hd' => by rw [zc] at hd'; cases hd'; exact htr)) (fun kk _ _ z _ => by rw [zc] at z; cases z) fun d' b fz₄ s₄ z1 z2 r₄ => ?_)
      exact fin b fz₄ s₄ r₄ ⟨d', by rw [← z1], z2⟩
end
end Mine
end
section
open PySem PySem.W PySem.Calls PyProof.Rows
namespace Mine
theorem compGo_length {c e : PyData → Res} : ∀ {ds out : List PyData}, compGo c e ds = .ok (.list out) → out.length ≤ ds.length
  | [], out, h => by unfold compGo at h; cases h; exact Nat.le_refl _
  | d :: r, out, h => by
    unfold compGo at h
    split at h
    · split at h
      · split at h
        · split at h
          · rename_i es hes
            cases h
            have := compGo_length hes
            simpa using this
          · cases h
        · cases h
      · have := compGo_length h
        simp only [List.length_cons]; omega
      · cases h
    · cases h
theorem compGo_list {c e : PyData → Res} : ∀ {ds : List PyData}, compGo c e ds ≠ .bad → ∃ out, compGo c e ds = .ok (.list out)
  | [], _ => ⟨[], by unfold compGo; rfl⟩
  | d :: r, h => by
    unfold compGo at h ⊢
    split at h
    · split at h
      · split at h
        · rename_i ed he
          cases z : compGo c e r with
          | bad => simp only [z] at h; exact absurd rfl h
          | exc k => simp only [z] at h; exact absurd rfl h
          | ok l =>
            simp only [z] at h ⊢
            split at h
            · rename_i es heq; cases heq; exact ⟨_, rfl⟩
            · exact absurd rfl h
        · exact absurd rfl h
      · exact compGo_list h
      · exact absurd rfl h
    · exact absurd rfl h
section
variable {prog : Program} {w : World} {T : Tab} {base : Heap} {fzT : Fz} {n : Nat} {A : Around} {outer : List Env} {L : Addr} {env : Env} {nm : List Str} {σ : List SV} {ad : Nat → Addr} {fz : Fz} {s₀ : Shared} {scope : Scope} {t : Str}
/-- the places of a comprehension that starts here -/
noncomputable def compW (scope : Scope) (cenv : Env) (wr : List Addr) (D : Addr) (b : Addr) : Prop :=
  b ∈ wr ∨ b = D ∨ b = cenv.locals ∨ ∃ y, scope.names.lookup y = some .cell ∧ cenv.cells.lookup y = some b
theorem comp_layout {hb : Heap} {ds : List PyData} {I : Addr} {fp wr : List Addr} {P : Nat → Value → Prop} {St : Nat → Heap → Prop} (H : Here base fzT .a n A outer L env nm σ ad fz s₀) (_ : CompCx env.scope.names nm t scope)
    (kp : ∀ b o, s₀.heap.get? b = some o → hb.get? b = some o) (It : Itr prog w A (fsOf outer) fz ds s₀.heap hb I fp wr P St) :
    let D := hb.objs.size
    let C := D + 1
    let h₁ := pushCells ((hb.push { cls := .type "list", data := .seq ([] : List Value).toArray }).push { cls := .type "dict", data := .dict #[] }) scope.names
    let cenv := cEnv scope env C
    CW scope cenv fz s₀.heap h₁ (fsOf outer) wr D (compW scope cenv wr D) ∧ OwnOk scope cenv h₁ ∧ h₁.PlainList D (#[] : Array Value) ∧ (∀ b o, hb.get? b = some o → h₁.get? b = some o) ∧ St 0 h₁ ∧
      (∀ x y c, scope.names.lookup x = some .cell → scope.names.lookup y = some .cell → cenv.cells.lookup x = some c → cenv.cells.lookup y = some c → x = y) := by
  intro D C h₁ cenv
  have hC : (hb.push { cls := .type "list", data := .seq ([] : List Value).toArray }).objs.size = C := Heap.size_push ..
  have hC1 : ((hb.push { cls := .type "list", data := .seq ([] : List Value).toArray }).push { cls := .type "dict", data := .dict #[] }).objs.size = C + 1 := by rw [Heap.size_push, hC]
  have k₁ : ∀ b o, hb.get? b = some o → h₁.get? b = some o := fun b o e => pushCells_keeps _ _ b o (Heap.get?_push_of_some _ (Heap.get?_push_of_some _ e))
  have hD : h₁.get? D = some { cls := .type "list", data := .seq ([] : List Value).toArray } := pushCells_keeps _ _ _ _ (Heap.get?_push_of_some _ (Heap.get?_push_size _ rfl))
  have hL : h₁.get? C = some { cls := .type "dict", data := .dict #[] } := by
    refine pushCells_keeps _ _ _ _ ?_
    have := Heap.get?_push_size (hb.push { cls := .type "list", data := .seq ([] : List Value).toArray }) (o := { cls := .type "dict", data := .dict #[] }) rfl
    rw [hC] at this; exact this
  have cell : ∀ x, scope.names.lookup x = some .cell → ∃ c, cenv.cells.lookup x = some c ∧ C + 1 ≤ c ∧ h₁.IsCell c none ∧ (cellsFrom (C + 1) scope.names []).lookup x = some c := fun x hx => cell_new hC1 hx
  have wlt : ∀ b ∈ wr, b < D := fun b hb' => by obtain ⟨o, ho⟩ := It.ex 0 hb It.st b hb'; exact Heap.lt_size ho
  have clt : ∀ y c, scope.names.lookup y = some .cell → cenv.cells.lookup y = some c → C + 1 ≤ c := fun y c hy hc => by
    obtain ⟨c', h1, h2, _⟩ := cell y hy; rw [hc] at h1; cases h1; exact h2
  have olt : ∀ b o, s₀.heap.get? b = some o → b < D := fun b o e => Heap.lt_size (kp b o e)
  have none_ge : ∀ b, D ≤ b → s₀.heap.get? b = none := fun b hb' => by
    cases q : s₀.heap.get? b with
    | none => rfl
    | some o => exact absurd (olt b o q) (Nat.not_lt.mpr hb')
  have wnone : ∀ b, compW scope cenv wr D b → s₀.heap.get? b = none := by
    rintro b (q | q | q | ⟨y, hy, hc⟩)
    · exact It.new b q
    · exact none_ge b (Nat.le_of_eq q.symm)
    · rw [q]; exact none_ge _ (Nat.le_succ _)
    · have := clt y b hy hc; exact none_ge b (by omega)
  refine ⟨⟨fun b hb' => .inl hb', .inr (.inl rfl), .inr (.inr (.inl rfl)), fun y c hy hc => .inr (.inr (.inr ⟨y, hy, hc⟩)), fun b o e hw => ?_, fun b hw => H.fzin.none (wnone b hw), ?_, fs_old H.hi (none_ge _ (Nat.le_refl _)), fun q => Nat.lt_irrefl _ (wlt _ q), fun q => ?_, fun y c hy hc => ?_, ?_, fun b hb' => hb'⟩, ⟨?_, fun x hx => ?_⟩, ⟨_, hD⟩, k₁, ?_, fun x y c hx hy h1 h2 => ?_⟩
  · rw [wnone b hw] at e; cases e
  · rintro b (q | q | q | ⟨y, hy, hc⟩)
    · obtain ⟨o, ho⟩ := It.ex 0 hb It.st b q; exact ⟨o, k₁ _ _ ho⟩
    · rw [q]; exact ⟨_, hD⟩
    · rw [q]; exact ⟨_, hL⟩
    · obtain ⟨c', h1, _, ⟨o, ho, _⟩, _⟩ := cell y hy; rw [hc] at h1; cases h1; exact ⟨o, ho⟩
  · have := wlt _ q; exact absurd this (Nat.not_lt.mpr (Nat.le_succ _))
  · have := clt y c hy hc
    have hlt : D < c := Nat.lt_of_lt_of_le (Nat.lt_succ_of_lt (Nat.lt_succ_self D)) this
    exact ⟨fun q => Nat.lt_irrefl _ (Nat.lt_trans (wlt _ q) hlt), Nat.ne_of_gt hlt⟩
  · exact Nat.succ_ne_self _
  · exact ⟨_, _, _, _, hL, rfl, by intro e he; simp at he, fun _ => rfl⟩
  · obtain ⟨c, h1, _, h3, _⟩ := cell x hx; exact ⟨c, _, h1, h3⟩
  · exact It.walks.frame _ _ _ It.st fun b _ o ho => k₁ b o ho
  · obtain ⟨c', a1, _, _, a2⟩ := cell x hx
    obtain ⟨c'', b1, _, _, b2⟩ := cell y hy
    rw [h1] at a1; cases a1
    rw [h2] at b1; cases b1
    exact cells_apart hC1 a2 b2
theorem plain_set {iter : Expr} {env : Env} (h : plainE iter = true) (x : Value) : foldedSetIterable iter env x = pure x := by
  cases iter <;> first | rfl | (cases h; done)
/-- a comprehension over ds, from its iterator on -/
theorem comp_run {E : Value → Shared → Prop} {elt cond : X} {e iter : Expr} {pt pos : Pos} {ifs : List Expr} {ds out : List PyData} {it : Value} {s₂ : Shared}
    (H : Here base fzT .a n A outer L env nm σ ad fz s₀) (X : CompCx env.scope.names nm t scope) (ht : ownN scope t)
    (hc : SoundB prog w T base fzT n .a cond) (he : SoundX prog w T base fzT n .a elt)
    (hifs : (ifs = [] ∧ isTrueX cond = true) ∨ ∃ q, ifs = [q] ∧ Mx T (relab env.scope.names scope.names) (nm ++ [t]) cond q = true)
    (helt : Mx T (relab env.scope.names scope.names) (nm ++ [t]) elt e = true)
    (g : IterAt prog w A (fsOf outer) fz ds s₀ it s₂) (hlen : ds.length ≤ 100000)
    (hgo : compGo (fun d => ev T cond (σ ++ [.val d])) (fun d => ev T elt (σ ++ [.val d])) ds = .ok (.list out)) :
    wpAny (model prog w) A (newList []) (fun acc s₃ => wpAny (model prog w) A (newFunctionEnv scope env.globals (closAcc env scope.names []) [] env.qual none .none (some env)) (fun cenv s₄ =>
      codeAny (model prog w) A (.compStart (.ListComp e [⟨.Name t pt, iter, ifs, 0⟩] scope pos) 0 it acc { cenv with scope := relabel scope env }) (compPost (model prog w) A E none (Good (fsOf outer) fz s₀ (.list out)) acc cenv.locals) s₄) E s₃) E s₂ := by
  obtain ⟨hb, tk, I, fp, wr, P, St, rfl, kp, rfl, It⟩ := g
  obtain ⟨Wc, ow, pl, k₁, st₁, hap⟩ := comp_layout H X kp It
  refine wpAny_newList (comp_env ?_) (by decide)
  dsimp only
  rw [show (hb.push { cls := .type "list", data := .seq ([] : List Value).toArray }).objs.size = hb.objs.size + 1 from Heap.size_push ..]
  generalize hh₁ : pushCells ((hb.push { cls := .type "list", data := .seq ([] : List Value).toArray }).push { cls := .type "dict", data := .dict #[] }) scope.names = h₁ at *
  have hcl : out.length ≤ ds.length := compGo_length hgo
  have loop : codeAny (model prog w) A (.compLoop (.ListComp e [⟨.Name t pt, iter, ifs, 0⟩] scope pos) 0 (.ref I) (.ref hb.objs.size) (cEnv scope env (hb.objs.size + 1)))
      (compPost (model prog w) A E none (Good (fsOf outer) fz s₀ (.list out)) (.ref hb.objs.size) (hb.objs.size + 1)) { s₀ with heap := h₁, toks := tk } := by
    refine codeAny_compLoop_tests (fun m s' => ∃ i fz' ys es o', CI scope (cEnv scope env (hb.objs.size + 1)) fz { s₀ with heap := h₁, toks := tk } (fsOf outer) (compW scope (cEnv scope env (hb.objs.size + 1)) wr hb.objs.size) St hb.objs.size [] i fz' ys s' ∧ RepAll fz' ys es ∧ i ≤ ds.length ∧ m = ds.length + 1 - i ∧
        compGo (fun d => ev T cond (σ ++ [.val d])) (fun d => ev T elt (σ ++ [.val d])) (ds.drop i) = .ok (.list o') ∧ es ++ o' = out) ?_ (ds.length + 1) ?_
    · rintro m s' ⟨i, fz', ys, es, o', ci, hr, hi, rfl, hgo', htot⟩
      have hlo : es.length + o'.length ≤ 100000 := by
        have : (es ++ o').length = out.length := by rw [htot]
        simp only [List.length_append] at this; omega
      by_cases hlt : i < ds.length
      · obtain ⟨d, hd⟩ : ∃ d, ds[i]? = some d := ⟨_, List.getElem?_eq_getElem hlt⟩
        have hdr : ds.drop i = d :: ds.drop (i + 1) := by
          rw [List.drop_eq_getElem_cons hlt]; rw [List.getElem?_eq_getElem hlt] at hd; cases hd; rfl
        rw [hdr] at hgo'
        refine inner_turn2 (pre := []) (FzExt.refl _ _) H X hap ⟨h₁, tk, rfl⟩ (Ext.of_keeps fun b o e => k₁ b o (kp b o e)) Wc It ht (fun p hp => by cases hp) (by simp) hc he (by simpa using hifs) (by simpa using helt) ci hr hd (by simpa using hgo') hlo ?_
        intro fz'' ys' es' out' s'' ci' hr' hg' ht'
        exact ⟨ds.length + 1 - (i + 1), by omega, i + 1, fz'', ys', es', out', ci', hr', hlt, rfl, by simpa using hg', by rw [ht', htot]⟩
      · have hin : i = ds.length := by omega
        subst hin
        obtain ⟨⟨h', tk', rfl, ex⟩, fze, fzi, st, ac, ow', lv, pr⟩ := ci
        refine It.walks.done _ _ _ st fun h₂ tk₂ mv => ?_
        dsimp only at mv fzi st ac ow' lv
        rw [List.drop_of_length_le (Nat.le_refl _)] at hgo'
        unfold compGo at hgo'
        cases hgo'
        rw [List.append_nil] at htot
        subst htot
        obtain ⟨m₀, o₀, es₀, ep₀, ho₀, hd₀, r₀⟩ := ow'.ns
        refine ⟨m₀, ⟨o₀, es₀, ep₀, mv _ _ Wc.lwr ho₀, hd₀, r₀⟩, fun h₃ sb => ?_⟩
        dsimp only at sb
        have hWz := fzExt_W fze Wc.fzn Wc.there
        have e3 : ExtW (compW scope (cEnv scope env (hb.objs.size + 1)) wr hb.objs.size) (fsOf outer) h' h₃ := (ExtW.of_moved mv Wc.wrs).trans (.of_but sb Wc.loc)
        have e0 : Ext (fsOf outer) s₀.heap h₃ := ExtW.old (fun b o e => k₁ b o (kp b o e)) (ex.trans e3) Wc.old
        have hDn : s₀.heap.get? hb.objs.size = none := by
          cases q : s₀.heap.get? hb.objs.size with
          | none => rfl
          | some o => exact absurd Wc.acc (Wc.old _ _ q)
        obtain ⟨kk, hk⟩ := ac
        have hD3 := sb.extBut _ _ (Ne.symm Wc.ld) (mv _ _ Wc.dwr hk)
        have f0 : FzExt s₀.heap fz fz' := ⟨fze.le, fun p h1 h2 => by
          have := fze.new p h1 h2
          cases q : s₀.heap.get? p with
          | none => rfl
          | some o => have := k₁ _ _ (kp _ _ q); rw [fze.new p h1 h2] at this; cases this⟩
        have fA := fzAdd_ext (h := s₀.heap) (t := false) (vs := ys) hDn (hWz _ Wc.acc)
        refine ⟨h₃, tk₂, fzAdd fz' hb.objs.size false ys, rfl, e0, ⟨f0.le.trans fA.le, fun p h1 h2 => ?_⟩, fzAdd_in (e3.fzIn hWz fzi) hD3 rfl rfl, .list (fzAdd_self ..) (hr.mono fA.le)⟩
        cases q : fz' p with
        | none => exact fA.new p q h2
        | some o => exact f0.new p h1 (by rw [q]; intro z; cases z)
    · refine ⟨0, fz, [], [], out, ⟨⟨h₁, tk, rfl, ExtW.refl _ _ _⟩, FzExt.refl _ _, ?_, st₁, pl, ow, Wc.there, fun j x d hj => by simp at hj⟩, .nil, Nat.zero_le _, rfl, by simpa using hgo, rfl⟩
      exact (Ext.of_keeps (fs := []) fun b o e => k₁ b o (kp b o e)).fzIn H.fzin
  exact codeAny_compStart_list loop (It.walks.self 0 _ _ _ st₁ loop)
end
end Mine
end
section
open PySem PySem.W PySem.Calls PyProof.Rows
namespace Mine
section
variable {prog : Program} {w : World} {T : Tab} {base : Heap} {fzT : Fz} {n : Nat} {mg mb : Str → Option Value}
theorem names_local {scope : Scope} (hn : nodupB (scope.names.map (·.1)) = true) : ∀ x ∈ scope.names, x.2 = .local → scope.names.lookup x.1 = some .local := by
  intro x hx e
  obtain ⟨a, b⟩ := x
  simp only at e
  subst e
  exact lookup_mem_nodup hn hx
theorem tgt_own {scope : Scope} {t : Str} (h : tgtOk scope t = true) : ownN scope t := by
  unfold tgtOk at h
  rcases Bool.or_eq_true_iff.mp h with q | q
  · exact .inl (eq_of_beq q)
  · exact .inr (eq_of_beq q)
theorem ifs_cases {sc : Sc} {nm : List Str} {cond : X} {ifs : List Expr} (h : (match ifs with
        | [] => isTrueX cond
        | [q] => Mx T sc nm cond q
        | _ => false) = true) : (ifs = [] ∧ isTrueX cond = true) ∨ ∃ q, ifs = [q] ∧ Mx T sc nm cond q = true := by
  split at h
  · exact .inl ⟨rfl, h⟩
  · exact .inr ⟨_, rfl, h⟩
  · cases h
theorem compPost_after {M : Model} {A : Around} {E : Value → Shared → Prop} {Q Q' : Value → Shared → Prop} {acc : Value} {C : Addr} {r : Result} {s' : Shared} (hQ : ∀ v s, Q v s → Q' v s) (h : compPost M A E none Q acc C r s') : compPost M A E none Q' acc C r s' := by
  unfold compPost at h ⊢
  cases r with
  | ok f => obtain ⟨m, a, b⟩ := h; exact ⟨m, a, fun h' hs => hQ _ _ (b h' hs)⟩
  | error x => exact h
end
end Mine
end
section
open PySem PySem.W PySem.Calls PyProof.Rows
namespace Mine
/-! statements -/
inductive S where
  | assign (i : Nat) (x : X)
  | assignL (i : Nat) (x : X)
  | own (i : Nat) (x : X)
  | assign2 (i j : Nat) (x : X)
  | unpack2 (i j : Nat) (x : X)
  | aug (i : Nat) (op : Operator) (x : X)
  | append (i : Nat) (x : X)
  | extend (i : Nat) (x : X)
  | remove (i : Nat) (x : X)
  | freeze (i : Nat)
  | ret (x : X)
  | brk
  | ite (c : X) (a b : List S)
  | forX (i : Nat) (src : X) (body orelse : List S)
  | forR (i : Nat) (a b c : Int) (body orelse : List S)
  | forT (i j : Nat) (src : X) (body orelse : List S)
  | forE (i j : Nat) (src : X) (body orelse : List S)
  | while (c : X) (body : List S)
  | tryE (body : List S) (k : String) (h : List S)
  | tryF (body fin : List S)
inductive Out where
  | next (σ : List SV)
  | brk (σ : List SV)
  | ret (d : PyData)
  | exc (k : String) (σ : List SV)
  | bad
/-- a loop over ds: bind, body; the else part behind the last -/
noncomputable def loopGo (bind : List SV → PyData → Option (List SV)) (body orelse : List SV → Out) : List PyData → List SV → Out
  | [], σ => orelse σ
  | d :: r, σ => match bind σ d with
    | none => .bad
    | some σ₁ => (match body σ₁ with
      | .next σ₂ => loopGo bind body orelse r σ₂
      | .brk σ₂ => .next σ₂
      | .ret v => .ret v
      | .exc k σ₂ => .exc k σ₂
      | .bad => .bad)
noncomputable def whileGo (test : List SV → Res) (body : List SV → Out) : Nat → List SV → Out
  | 0, _ => .bad
  | n + 1, σ => match test σ with
    | .bad => .bad
    | .exc k => .exc k σ
    | .ok c => (match truth c with
      | none => .bad
      | some false => .next σ
      | some true => (match body σ with
        | .next σ₂ => whileGo test body n σ₂
        | .brk σ₂ => .next σ₂
        | .ret v => .ret v
        | .exc k σ₂ => .exc k σ₂
        | .bad => .bad))
noncomputable def removeD (x : PyData) : List PyData → Option (List PyData)
  | [] => none
  | y :: r => if PyData.eqv y x then some r else (removeD x r).map (y :: ·)
noncomputable def pairOf : PyData → Option (PyData × PyData)
  | .tuple [a, b] => some (a, b)
  | _ => none
/-- store a value (into a place that is no owned list's) -/
noncomputable def putV (σ : List SV) (i : Nat) (d : PyData) : List SV := σ.set i (.val d)
noncomputable def enumD (ds : List PyData) : List PyData := (List.range ds.length).zipWith (fun (i : Nat) d => .tuple [.int i, d]) ds
mutual
noncomputable def evS (T : Tab) : S → List SV → Out
  | .assign i x, σ => match ev T x σ with
    | .ok d => .next (putV σ i d)
    | .exc k => .exc k σ
    | .bad => .bad
  | .assignL i x, σ => match ev T x σ with
    | .ok d => .next (putV σ i d)
    | .exc _ => .bad
    | .bad => .bad
  | .own i x, σ => match ev T x σ with
    | .ok (.list ds) => .next (σ.set i (.own ds))
    | .exc k => .exc k σ
    | _ => .bad
  | .assign2 i j x, σ => match ev T x σ with
    | .ok d => .next (putV (putV σ i d) j d)
    | .exc k => .exc k σ
    | .bad => .bad
  | .unpack2 i j x, σ => match ev T x σ with
    | .ok p => (match pairOf p with
      | some (a, b) => .next (putV (putV σ i a) j b)
      | none => .bad)
    | .exc k => .exc k σ
    | .bad => .bad
  | .aug i op x, σ => match σ[i]? with
    | some (.val (.int a)) => (match ev T x σ with
      | .ok (.int b) => (match op with
        | .Add => .next (putV σ i (.int (a + b)))
        | _ => .bad)
      | .exc k => .exc k σ
      | _ => .bad)
    | _ => .bad
  | .append i x, σ => match σ[i]? with
    | some (.own ds) => (match ev T x σ with
      | .ok d => if ds.length < 100000 then .next (σ.set i (.own (ds ++ [d]))) else .bad
      | .exc k => .exc k σ
      | .bad => .bad)
    | _ => .bad
  | .extend i x, σ => match σ[i]? with
    | some (.own ds) => (match ev T x σ with
      | .ok (.list es) => if ds.length + es.length < 100000 then .next (σ.set i (.own (ds ++ es))) else .bad
      | .exc k => .exc k σ
      | _ => .bad)
    | _ => .bad
  | .remove i x, σ => match σ[i]? with
    | some (.own ds) => (match ev T x σ with
      | .ok d => if okD d && okD (.list ds) && decide (ds.length < 100000) then (match removeD d ds with
          | some es => .next (σ.set i (.own es))
          | none => .exc "ValueError" σ) else .bad
      | .exc k => .exc k σ
      | .bad => .bad)
    | _ => .bad
  | .freeze i, σ => match σ[i]? with
    | some (.own ds) => .next (putV σ i (.list ds))
    | _ => .bad
  | .ret x, σ => match ev T x σ with
    | .ok d => .ret d
    | .exc k => .exc k σ
    | .bad => .bad
  | .brk, σ => .brk σ
  | .ite c a b, σ => match ev T c σ with
    | .ok d => (match truth d with
      | some true => evSs T a σ
      | some false => evSs T b σ
      | none => .bad)
    | .exc k => .exc k σ
    | .bad => .bad
  | .forX i src body orelse, σ => match ev T src σ with
    | .ok l => (match itemsOf l with
      | some ds => loopGo (fun σ d => some (putV σ i d)) (fun σ => evSs T body σ) (fun σ => evSs T orelse σ) ds σ
      | none => .bad)
    | .exc k => .exc k σ
    | .bad => .bad
  | .forR i a b c body orelse, σ => if rangeOk a b c then loopGo (fun σ d => some (putV σ i d)) (fun σ => evSs T body σ) (fun σ => evSs T orelse σ) (rangeD a b c) σ else .bad
  | .forT i j src body orelse, σ => match ev T src σ with
    | .ok (.tuple ds) => if ds.length ≤ 1000 ∧ ds.all (fun d => (pairOf d).isSome) = true then loopGo (fun σ d => (pairOf d).map fun p => putV (putV σ i p.1) j p.2) (fun σ => evSs T body σ) (fun σ => evSs T orelse σ) ds σ else .bad
    | _ => .bad
  | .forE i j src body orelse, σ => match ev T src σ with
    | .ok (.tuple ds) => if ds.length ≤ 1000 then loopGo (fun σ d => (pairOf d).map fun p => putV (putV σ i p.1) j p.2) (fun σ => evSs T body σ) (fun σ => evSs T orelse σ) (enumD ds) σ else .bad
    | _ => .bad
  | .while c body, σ => whileGo (fun σ => ev T c σ) (fun σ => evSs T body σ) 1000 σ
  | .tryE body k h, σ => match evSs T body σ with
    | .exc k' σ₁ => if clsL k' = k ∧ (k = "IndexError" ∨ k = "ValueError") then (match evSs T h σ₁ with
      | .exc _ _ => .bad
      | o => o) else .bad
    | o => o
  | .tryF body fin, σ => match evSs T body σ with
    | .next σ₁ => evSs T fin σ₁
    | .exc k σ₁ => if clsL k ≠ k then .bad else (match evSs T fin σ₁ with
      | .next σ₂ => .exc k σ₂
      | .exc k' σ₂ => if clsL (starL k') = k' ∧ clsL k' = k' then .exc (starL k') σ₂ else .bad
      | _ => .bad)
    | _ => .bad
noncomputable def evSs (T : Tab) : List S → List SV → Out
  | [], σ => .next σ
  | s :: r, σ => match evS T s σ with
    | .next σ₁ => evSs T r σ₁
    | o => o
end
end Mine
end
section
open PySem PySem.W PySem.Calls PyProof.Rows
namespace Mine
noncomputable def WrS (env : Env) (σ : List SV) (ad : Nat → Addr) (b : Addr) : Prop :=
  b = env.locals ∨ (∃ x, isCellK (env.kindOf x) = true ∧ env.cells.lookup x = some b) ∨ ∃ (i : Nat) (ds : List PyData), σ[i]? = some (.own ds) ∧ ad i = b
/-- a function's own frame: its names, its owned lists -/
structure HereS (base : Heap) (fzT : Fz) (md : Md) (n : Nat) (A : Around) (outer : List Env) (L : Addr) (env : Env) (nm : List Str) (σ : List SV) (ad : Nat → Addr) (fz : Fz) (s : Shared) : Prop where
  here : Here base fzT md n A outer L env nm σ ad fz s
  ap : ∀ x y c, isCellK (env.kindOf x) = true → isCellK (env.kindOf y) = true → env.cells.lookup x = some c → env.cells.lookup y = some c → x = y
  vars : ∀ (i : Nat) x, nm[i]? = some x → nmIdx nm x = some i ∧ (env.kindOf x = some .local ∨ env.kindOf x = some .cell)
  inj : ∀ (i j : Nat) ds es, σ[i]? = some (.own ds) → σ[j]? = some (.own es) → ad i = ad j → i = j
  lfs : env.frame = some env.locals
  nb : ∀ b, WrS env σ ad b → base.get? b = none
structure RelS (env : Env) (fs : List Addr) (σ : List SV) (ad : Nat → Addr) (fz : Fz) (s : Shared) (σ' : List SV) (ad' : Nat → Addr) (fz' : Fz) (s' : Shared) : Prop where
  same : ∃ h' tk, s' = { s with heap := h', toks := tk }
  ext : ExtW (WrS env σ ad) fs s.heap s'.heap
  wr : ∀ b, WrS env σ' ad' b → WrS env σ ad b ∨ s.heap.get? b = none
  le : FzLe fz fz'
  new : ∀ a, fz a = none → fz' a ≠ none → s.heap.get? a = none ∨ WrS env σ ad a
  live : ∀ b, WrS env σ ad b → ∃ o, s'.heap.get? b = some o
theorem RelS.trans {env : Env} {fs : List Addr} {σ₁ σ₂ σ₃ : List SV} {a₁ a₂ a₃ : Nat → Addr} {f₁ f₂ f₃ : Fz} {s₁ s₂ s₃ : Shared} (x : RelS env fs σ₁ a₁ f₁ s₁ σ₂ a₂ f₂ s₂) (y : RelS env fs σ₂ a₂ f₂ s₂ σ₃ a₃ f₃ s₃) : RelS env fs σ₁ a₁ f₁ s₁ σ₃ a₃ f₃ s₃ := by
  have gone : ∀ b, s₂.heap.get? b = none → WrS env σ₁ a₁ b ∨ s₁.heap.get? b = none := fun b hb => by
    by_cases q : WrS env σ₁ a₁ b
    · exact .inl q
    · exact .inr (x.ext.gone q hb)
  refine ⟨?_, fun b o e hb => ?_, fun b hb => ?_, x.le.trans y.le, fun a h1 h2 => ?_, fun b hb => ?_⟩
  · obtain ⟨h, t, rfl⟩ := x.same
    obtain ⟨h', t', rfl⟩ := y.same
    exact ⟨h', t', rfl⟩
  · obtain ⟨sl, e₁, q₁⟩ := x.ext b o e hb
    obtain ⟨sl', e₂, q₂⟩ := y.ext b _ e₁ (fun q => by
      rcases x.wr b q with z | z
      · exact hb z
      · rw [e] at z; cases z)
    exact ⟨sl', e₂, fun hf => (q₂ hf).trans (q₁ hf)⟩
  · rcases y.wr b hb with q | q
    · exact x.wr b q
    · exact gone b q
  · cases q : f₂ a with
    | some o => exact x.new a h1 (by rw [q]; intro z; cases z)
    | none =>
      rcases y.new a q h2 with z | z
      · exact (gone a z).symm
      · exact (x.wr a z).symm
  · obtain ⟨o, ho⟩ := x.live b hb
    by_cases q : WrS env σ₂ a₂ b
    · exact y.live b q
    · obtain ⟨sl, e₁, _⟩ := y.ext b o ho q; exact ⟨_, e₁⟩
theorem RelS.of_rel {env : Env} {fs : List Addr} {σ : List SV} {ad : Nat → Addr} {fz fz' : Fz} {s s' : Shared} (lv : ∀ b, WrS env σ ad b → ∃ o, s.heap.get? b = some o) (r : Rel fs fz s fz' s') : RelS env fs σ ad fz s σ ad fz' s' := by
  obtain ⟨h', tk, rfl, e, f, fi⟩ := r
  exact ⟨⟨_, _, rfl⟩, .of_ext e, fun b hb => .inl hb, f.le, fun a h1 h2 => .inl (f.new a h1 h2), fun b hb => by
    obtain ⟨o, ho⟩ := lv b hb
    obtain ⟨sl, e₁, _⟩ := e b o ho
    exact ⟨_, e₁⟩⟩
/-- what was handled where the exception rose: unknown if it bears a star -/
noncomputable def hdOf (A : Around) (k : String) : Option Value := if clsL k = k then A.handled else some .none
theorem excAt_hd {A : Around} {h₀ h : Heap} {L e : Addr} {k : String} (g : ExcAt A.handled h₀ L h e k) : ExcAt (hdOf A k) h₀ L h e k := by
  obtain ⟨a, oe, vs, b, c, d, ⟨f, f2⟩, q⟩ := g
  refine ⟨a, oe, vs, b, c, d, ⟨f, fun z => ?_⟩, q⟩
  unfold hdOf at z
  split at z
  · exact f2 z
  · cases z
noncomputable def PostS (base : Heap) (fzT : Fz) (md : Md) (n : Nat) (A : Around) (outer : List Env) (L : Addr) (env : Env) (nm : List Str) (σ : List SV) (ad : Nat → Addr) (fz : Fz) (s : Shared) : Out → Flow → Shared → Prop
  | .next σ' => fun f s' => f = .next ∧ ∃ ad' fz', RelS env (fsOf outer) σ ad fz s σ' ad' fz' s' ∧ HereS base fzT md n A outer L env nm σ' ad' fz' s'
  | .brk σ' => fun f s' => f = .brk ∧ ∃ ad' fz', RelS env (fsOf outer) σ ad fz s σ' ad' fz' s' ∧ HereS base fzT md n A outer L env nm σ' ad' fz' s'
  | .ret d => fun f s' => ∃ v σ' ad' fz', f = .ret v ∧ RelS env (fsOf outer) σ ad fz s σ' ad' fz' s' ∧ HereS base fzT md n A outer L env nm σ' ad' fz' s' ∧ Rep fz' v d
  | _ => fun _ _ => False
noncomputable def PostX (base : Heap) (fzT : Fz) (md : Md) (n : Nat) (A : Around) (outer : List Env) (L : Addr) (env : Env) (nm : List Str) (σ : List SV) (ad : Nat → Addr) (fz : Fz) (s : Shared) : Out → Value → Shared → Prop
  | .exc k σ' => fun x s' => ∃ e ad' fz', x = .ref e ∧ RelS env (fsOf outer) σ ad fz s σ' ad' fz' s' ∧ HereS base fzT md n A outer L env nm σ' ad' fz' s' ∧ ExcAt (hdOf A k) s.heap L s'.heap e k ∧ ¬ WrS env σ' ad' e
  | _ => fun _ _ => False
section
variable {base : Heap} {fzT : Fz} {md : Md} {n : Nat} {A : Around} {outer : List Env} {L : Addr} {env : Env} {nm : List Str} {σ : List SV} {ad : Nat → Addr} {fz : Fz} {s : Shared}
theorem HereS.step {fz' : Fz} {s' : Shared} (H : HereS base fzT md n A outer L env nm σ ad fz s) (r : Rel (fsOf outer) fz s fz' s') : HereS base fzT md n A outer L env nm σ ad fz' s' :=
  ⟨H.here.step r, H.ap, H.vars, H.inj, H.lfs, H.nb⟩
theorem excAt_through {hd : Option Value} {h h₁ h' : Heap} {W : Addr → Prop} {fs : List Addr} {e : Addr} {k : String} (x : ExtW W fs h h₁) (hW : ∀ b o, h.get? b = some o → W b → ∃ o', h₁.get? b = some o') (g : ExcAt hd h₁ L h' e k) : ExcAt hd h L h' e k := by
  have gone : ∀ b, h₁.get? b = none → h.get? b = none := fun b hb => by
    cases q : h.get? b with
    | none => rfl
    | some o =>
      by_cases w : W b
      · obtain ⟨o', ho⟩ := hW b o q w; rw [hb] at ho; cases ho
      · obtain ⟨sl, ho, _⟩ := x b o q w; rw [hb] at ho; cases ho
  obtain ⟨nn, oe, vs, a, b, c, d, q⟩ := g
  refine ⟨gone _ nn, oe, vs, a, b, c, d, q.imp id ?_⟩
  rintro ⟨tb, ot, ts, q1, q2, q3⟩
  exact ⟨tb, ot, ts, q1, gone _ q2, q3⟩
/-- every written place stands -/
theorem HereS.live (H : HereS base fzT md n A outer L env nm σ ad fz s) : ∀ b, WrS env σ ad b → ∃ o, s.heap.get? b = some o := by
  rintro b (rfl | ⟨x, hk, hc⟩ | ⟨i, ds, hi, rfl⟩)
  · obtain ⟨m, o, _, _, ho, _⟩ := H.here.envok.ns; exact ⟨o, ho⟩
  · obtain ⟨c, v, hc', o, ho, _⟩ := H.here.envok.cells x hk; rw [hc] at hc'; cases hc'; exact ⟨o, ho⟩
  · have hlt : i < nm.length := by rw [← H.here.len]; exact (List.getElem?_eq_some_iff.mp hi).1
    obtain ⟨x, hx⟩ : ∃ x, nm[i]? = some x := ⟨_, List.getElem?_eq_getElem hlt⟩
    obtain ⟨h1, h2⟩ := H.vars i x hx
    have := H.here.inv x i _ h1 (by rcases h2 with q | q <;> rw [q] <;> rfl) hi
    obtain ⟨_, _, _, vs, ⟨k, hp⟩, _⟩ := this
    exact ⟨_, hp⟩
/-- no frozen thing is written -/
theorem HereS.frozen (H : HereS base fzT md n A outer L env nm σ ad fz s) : ∀ b, WrS env σ ad b → fz b = none := by
  intro b hb
  cases q : fz b with
  | none => rfl
  | some p =>
    exfalso
    obtain ⟨t, vs⟩ := p
    obtain ⟨o, k, ho, hc, hd⟩ := H.here.fzin _ _ _ q
    rcases hb with rfl | ⟨x, hk, hc'⟩ | ⟨i, ds, hi, rfl⟩
    · obtain ⟨m, o', es, ep, ho', hd', _⟩ := H.here.envok.ns
      rw [ho] at ho'; cases ho'; rw [hd] at hd'; cases hd'
    · obtain ⟨c, v, hcc, o', ho', hd'⟩ := H.here.envok.cells x hk
      rw [hc'] at hcc; cases hcc
      rw [ho] at ho'; cases ho'; rw [hd] at hd'; cases hd'
    · have hlt : i < nm.length := by rw [← H.here.len]; exact (List.getElem?_eq_some_iff.mp hi).1
      obtain ⟨x, hx⟩ : ∃ x, nm[i]? = some x := ⟨_, List.getElem?_eq_getElem hlt⟩
      obtain ⟨h1, h2⟩ := H.vars i x hx
      have := H.here.inv x i _ h1 (by rcases h2 with q | q <;> rw [q] <;> rfl) hi
      obtain ⟨_, _, hz, _⟩ := this
      rw [hz] at q; cases q
theorem PostS.after {σ₁ : List SV} {ad₁ : Nat → Addr} {fz₁ : Fz} {s₁ s' : Shared} {o : Out} {f : Flow} (x : RelS env (fsOf outer) σ ad fz s σ₁ ad₁ fz₁ s₁) (g : PostS base fzT md n A outer L env nm σ₁ ad₁ fz₁ s₁ o f s') : PostS base fzT md n A outer L env nm σ ad fz s o f s' := by
  cases o with
  | next σ' => obtain ⟨a, ad', fz', r, h⟩ := g; exact ⟨a, ad', fz', x.trans r, h⟩
  | brk σ' => obtain ⟨a, ad', fz', r, h⟩ := g; exact ⟨a, ad', fz', x.trans r, h⟩
  | ret d => obtain ⟨v, σ', ad', fz', a, r, h, q⟩ := g; exact ⟨v, σ', ad', fz', a, x.trans r, h, q⟩
  | exc k σ' => exact g
  | bad => exact g
theorem PostX.after {σ₁ : List SV} {ad₁ : Nat → Addr} {fz₁ : Fz} {s₁ s' : Shared} {o : Out} {f : Value} (x : RelS env (fsOf outer) σ ad fz s σ₁ ad₁ fz₁ s₁)
    (g : PostX base fzT md n A outer L env nm σ₁ ad₁ fz₁ s₁ o f s') : PostX base fzT md n A outer L env nm σ ad fz s o f s' := by
  cases o with
  | exc k σ' =>
    obtain ⟨e, ad', fz', rfl, r, h, q, w⟩ := g
    exact ⟨e, ad', fz', rfl, x.trans r, h, excAt_through x.ext (fun b o _ w => x.live b w) q, w⟩
  | next σ' => exact g
  | brk σ' => exact g
  | ret d => exact g
  | bad => exact g
end
end Mine
end
section
open PySem PySem.W PySem.Calls PyProof.Rows
namespace Mine
theorem funFrames_weak {h h' base : Heap} (k : ∀ b o, h.get? b = some o → (∀ vs, o.data ≠ .fields vs) → ∃ o', h'.get? b = some o' ∧ ∀ vs, o'.data ≠ .fields vs) : ∀ {l : List Env}, h.FunFrames base l → h'.FunFrames base l
  | [], _ => trivial
  | env :: rest, ⟨hk, ⟨L, o, hf, hn, ho, hd⟩, hr⟩ => by
    obtain ⟨o', ho', hd'⟩ := k L o ho hd
    exact ⟨hk, ⟨L, o', hf, hn, ho', hd'⟩, funFrames_weak k hr⟩
section
variable {base : Heap} {fzT : Fz} {md : Md} {n : Nat} {A : Around} {outer : List Env} {L : Addr} {env : Env} {nm : List Str} {σ : List SV} {ad : Nat → Addr} {fz : Fz} {s : Shared}
theorem WrS.set {i : Nat} {sv : SV} {ad' : Nat → Addr} {b : Addr} (hi : i < σ.length) (ha : ∀ j, j ≠ i → ad' j = ad j) (h : WrS env (σ.set i sv) ad' b) : WrS env σ ad b ∨ ∃ ds, sv = .own ds ∧ ad' i = b := by
  rcases h with q | q | ⟨j, ds, hj, hb⟩
  · exact .inl (.inl q)
  · exact .inl (.inr (.inl q))
  · by_cases e : j = i
    · subst e
      rw [List.getElem?_set_self hi] at hj
      cases hj
      exact .inr ⟨ds, rfl, hb⟩
    · rw [List.getElem?_set_ne (Ne.symm e)] at hj
      rw [ha j e] at hb
      exact .inl (.inr (.inr ⟨j, ds, hj, hb⟩))
theorem seq_not_dict {h : Heap} {a b : Addr} {vs : Array Value} {m : Str → Option Value} (hp : h.PlainList a vs) (hn : h.Ns b m) : a ≠ b := by
  rintro rfl
  obtain ⟨k, hk⟩ := hp
  obtain ⟨o, es, ep, ho, hd, _⟩ := hn
  rw [hk] at ho; cases ho; cases hd
theorem seq_not_cell {h : Heap} {a b : Addr} {vs : Array Value} {v : Option Value} (hp : h.PlainList a vs) (hn : h.IsCell b v) : a ≠ b := by
  rintro rfl
  obtain ⟨k, hk⟩ := hp
  obtain ⟨o, ho, hd⟩ := hn
  rw [hk] at ho; cases ho; cases hd
theorem dict_not_cell {h : Heap} {a b : Addr} {m : Str → Option Value} {v : Option Value} (hp : h.Ns a m) (hn : h.IsCell b v) : a ≠ b := by
  rintro rfl
  obtain ⟨o', es, ep, ho', hd', _⟩ := hp
  obtain ⟨o, ho, hd⟩ := hn
  rw [ho] at ho'; cases ho'; rw [hd] at hd'; cases hd'
/-- an owned list as it stands -/
theorem HereS.ownAt (H : HereS base fzT md n A outer L env nm σ ad fz s) {i : Nat} {ds : List PyData} (hi : σ[i]? = some (.own ds)) :
    ∃ x vs, nm[i]? = some x ∧ Var env s.heap x (.ref (ad i)) ∧ ad i ∉ fsOf outer ∧ fz (ad i) = none ∧ s.heap.PlainList (ad i) vs.toArray ∧ RepAll fz vs ds := by
  have hlt : i < nm.length := by rw [← H.here.len]; exact (List.getElem?_eq_some_iff.mp hi).1
  obtain ⟨x, hx⟩ : ∃ x, nm[i]? = some x := ⟨_, List.getElem?_eq_getElem hlt⟩
  obtain ⟨h1, h2⟩ := H.vars i x hx
  obtain ⟨a, b, c, vs, d, e⟩ := H.here.inv x i _ h1 (by rcases h2 with q | q <;> rw [q] <;> rfl) hi
  exact ⟨x, vs, hx, a, b, c, d, e⟩
/-- no written place is a record -/
theorem HereS.kinds (H : HereS base fzT md n A outer L env nm σ ad fz s) {b : Addr} (hb : WrS env σ ad b) : ∀ o, s.heap.get? b = some o → ∀ vs, o.data ≠ .fields vs := by
  intro o ho vs hd
  rcases hb with rfl | ⟨x, hk, hc'⟩ | ⟨i, ds, hi, rfl⟩
  · obtain ⟨m, o', es, ep, ho', hd', _⟩ := H.here.envok.ns
    rw [ho] at ho'; cases ho'; rw [hd] at hd'; cases hd'
  · obtain ⟨c, v, hcc, o', ho', hd'⟩ := H.here.envok.cells x hk
    rw [hc'] at hcc; cases hcc
    rw [ho] at ho'; cases ho'; rw [hd] at hd'; cases hd'
  · obtain ⟨_, _, _, _, _, _, ⟨k, hp⟩, _⟩ := H.ownAt hi
    rw [hp] at ho; cases ho; cases hd
/-- one written place is changed -/
theorem put_gen {σ' : List SV} {ad' : Nat → Addr} {h' : Heap} {tk : Nat} {a : Addr} {fz₀ : Fz} {s₀ : Shared} (R₀ : RelS env (fsOf outer) σ ad fz₀ s₀ σ ad fz s) (H : HereS base fzT md n A outer L env nm σ ad fz s) (sb : Heap.SameBut a s.heap h') (wa : WrS env σ ad a)
    (kind : ∀ o, s.heap.get? a = some o → ∃ o', h'.get? a = some o' ∧ (∀ vs, o'.data ≠ .fields vs) ∧ (∀ es ep, o.data = .dict es ep → ∃ es' ep', o'.data = .dict es' ep'))
    (env' : EnvOK L outer env h') (inv' : Inv (fsOf outer) env nm σ' ad' fz h') (wr' : ∀ b, WrS env σ' ad' b → WrS env σ ad b ∨ (s₀.heap.get? b = none ∧ base.get? b = none))
    (inj' : ∀ (i j : Nat) ds es, σ'[i]? = some (.own ds) → σ'[j]? = some (.own es) → ad' i = ad' j → i = j) (len' : σ'.length = nm.length) :
    RelS env (fsOf outer) σ ad fz₀ s₀ σ' ad' fz { s with heap := h', toks := tk } ∧ HereS base fzT md n A outer L env nm σ' ad' fz { s with heap := h', toks := tk } := by
  have keep : ∀ b o, b ≠ a → s.heap.get? b = some o → h'.get? b = some o := fun b o hb e => sb.extBut b o hb e
  have fza : fz a = none := H.frozen a wa
  have fzi : FzIn fz h' := fun b t vs e => by
    obtain ⟨o, k, ho, hc, hd⟩ := H.here.fzin b t vs e
    exact ⟨o, k, keep b o (fun q => by rw [q, fza] at e; cases e) ho, hc, hd⟩
  have G := H.here.hi
  refine ⟨⟨?_, R₀.ext.trans (.of_but sb wa), fun b hb => (wr' b hb).imp id (·.1), R₀.le, R₀.new, fun b hb => ?_⟩, ⟨H.here.sit, ⟨fun b o e => ?_, ?_, fun b hb => ?_⟩, env', inv', fzi, H.here.fzle, fun e => ?_, len'⟩, H.ap, H.vars, inj', H.lfs, fun b hb => ?_⟩
  · obtain ⟨h₀, t₀, e⟩ := R₀.same
    exact ⟨h', tk, by rw [e]⟩
  · by_cases q : b = a
    · subst q
      obtain ⟨o, ho⟩ := H.live b hb
      obtain ⟨o', ho', _⟩ := kind o ho
      exact ⟨o', ho'⟩
    · obtain ⟨o, ho⟩ := H.live b hb; exact ⟨o, keep b o q ho⟩
  · refine keep b o (fun q => ?_) (G.stays b o e)
    subst q
    rw [H.nb _ wa] at e; cases e
  · refine funFrames_weak (fun b o ho hnf => ?_) G.frames
    by_cases q : b = a
    · subst q
      obtain ⟨o', ho', h1, _⟩ := kind o ho
      exact ⟨o', ho', h1⟩
    · exact ⟨o, keep b o q ho, hnf⟩
  · obtain ⟨o, es, ep, ho, hd⟩ := G.dicts b hb
    by_cases q : b = a
    · subst q
      obtain ⟨o', ho', _, h2⟩ := kind o ho
      obtain ⟨es', ep', z⟩ := h2 es ep hd
      exact ⟨o', es', ep', ho', z⟩
    · exact ⟨o, es, ep, keep b o q ho, hd⟩
  · obtain ⟨e, o, vs, h1, h2, h3, h4⟩ := H.here.hx e
    refine ⟨e, o, vs, h1, keep e o (fun q => ?_) h2, h3, h4⟩
    subst q
    exact H.kinds wa o h2 vs h3
  · rcases wr' b hb with q | q
    · exact H.nb b q
    · exact q.2
theorem ns_agree {h : Heap} {a : Addr} {m m' : Str → Option Value} (x : h.Ns a m) (y : h.Ns a m') (z : Str) : m z = m' z := by
  obtain ⟨o1, es1, ep1, ho1, hd1, _, hf1⟩ := x
  obtain ⟨o2, es2, ep2, ho2, hd2, _, hf2⟩ := y
  rw [ho1] at ho2; cases ho2
  rw [hd1] at hd2; cases hd2
  rw [← hf1, hf2]
theorem PlainList.but {h h' : Heap} {a b : Addr} {vs : Array Value} (sb : Heap.SameBut a h h') (hp : h.PlainList b vs) (hne : b ≠ a) : h'.PlainList b vs := by
  obtain ⟨k, hk⟩ := hp; exact ⟨k, sb.extBut _ _ hne hk⟩
/-- what stands in a place of the frame -/
inductive SvNew (base : Heap) (fs : List Addr) (fz : Fz) (h : Heap) (h₀ : Heap) (W : Addr → Prop) (v : Value) (a : Addr) : SV → Prop
  | val {d : PyData} : Rep fz v d → SvNew base fs fz h h₀ W v a (.val d)
  | own {ds : List PyData} {vs : List Value} : v = .ref a → a ∉ fs → fz a = none → h.PlainList a vs.toArray → RepAll fz vs ds → ¬ W a → h₀.get? a = none → base.get? a = none → SvNew base fs fz h h₀ W v a (.own ds)
/-- a name of the frame gets a value: a datum, or a new owned list -/
theorem store_sv {M : Model} {E : Value → Shared → Prop} {x : Str} {i : Nat} {v : Value} {sv : SV} {a' : Addr} {fz₀ : Fz} {s₀ : Shared} {Q : Unit → Shared → Prop} (R₀ : RelS env (fsOf outer) σ ad fz₀ s₀ σ ad fz s) (H : HereS base fzT md n A outer L env nm σ ad fz s) (hx : nmIdx nm x = some i) (hk : env.kindOf x = some .local ∨ env.kindOf x = some .cell)
    (hv : SvNew base (fsOf outer) fz s.heap s₀.heap (WrS env σ ad) v a' sv)
    (h : ∀ s', RelS env (fsOf outer) σ ad fz₀ s₀ (σ.set i sv) (fun j => if j = i then a' else ad j) fz s' → HereS base fzT md n A outer L env nm (σ.set i sv) (fun j => if j = i then a' else ad j) fz s' → Q () s') :
    wpAny M A (storeName env x v) Q E s := by
  have hnx := nmIdx_get x nm i hx
  have hlt : i < nm.length := (List.getElem?_eq_some_iff.mp hnx).1
  have hlt' : i < σ.length := by rw [H.here.len]; exact hlt
  have O := H.here.envok
  obtain ⟨m₀, hm₀⟩ := O.ns
  have adj : ∀ j, j ≠ i → (fun j => if j = i then a' else ad j) j = ad j := fun j hj => if_neg hj
  have adi : (fun j => if j = i then a' else ad j) i = a' := if_pos rfl
  -- the whole, once the store is done at a
  have fin : ∀ h' tk a, Heap.SameBut a s.heap h' → WrS env σ ad a → (a = env.locals ∨ (isCellK (env.kindOf x) = true ∧ env.cells.lookup x = some a)) →
      (∀ o, s.heap.get? a = some o → ∃ o', h'.get? a = some o' ∧ (∀ vs, o'.data ≠ .fields vs) ∧ (∀ es ep, o.data = .dict es ep → ∃ es' ep', o'.data = .dict es' ep')) → EnvOK L outer env h' → Var env h' x v → (∀ y u, y ≠ x → Var env s.heap y u → Var env h' y u) →
      RelS env (fsOf outer) σ ad fz₀ s₀ (σ.set i sv) (fun j => if j = i then a' else ad j) fz { s with heap := h', toks := tk } ∧ HereS base fzT md n A outer L env nm (σ.set i sv) (fun j => if j = i then a' else ad j) fz { s with heap := h', toks := tk } := by
    intro h' tk a sb wa hwa kind env' vx vo
    have plain_ne : ∀ b vs, s.heap.PlainList b vs → b ≠ a := by
      intro b vs hp
      rcases hwa with rfl | ⟨q1, q2⟩
      · exact seq_not_dict hp hm₀
      · obtain ⟨c, v', hc, hv'⟩ := O.cells x q1
        rw [q2] at hc; cases hc; exact seq_not_cell hp hv'
    refine put_gen R₀ H sb wa kind env' ?_ ?_ ?_ (by simp [H.here.len])
    · intro y j sv' h1 h2 h3
      by_cases e : y = x
      · subst e
        rw [hx] at h1; cases h1
        rw [List.getElem?_set_self hlt'] at h3
        cases h3
        simp only [if_true]
        cases hv with
        | val r => exact ⟨v, vx, r⟩
        | own e1 e2 e3 e4 e5 _ _ _ =>
          subst e1
          exact ⟨vx, e2, e3, _, PlainList.but sb e4 (plain_ne _ _ e4), e5⟩
      · have hji : j ≠ i := by
          rintro rfl
          have := nmIdx_get y nm j h1
          rw [hnx] at this; cases this; exact e rfl
        rw [List.getElem?_set_ne (Ne.symm hji)] at h3
        have := H.here.inv y j sv' h1 h2 h3
        rw [adj j hji]
        cases sv' with
        | un => trivial
        | val d => obtain ⟨u, q1, q2⟩ := this; exact ⟨u, vo y u e q1, q2⟩
        | own ds => obtain ⟨q1, q2, q3, vs, q4, q5⟩ := this; exact ⟨vo y _ e q1, q2, q3, vs, PlainList.but sb q4 (plain_ne _ _ q4), q5⟩
    · intro b hb
      rcases WrS.set hlt' adj hb with q | ⟨ds, e, rfl⟩
      · exact .inl q
      · subst e
        cases hv with
        | own e1 e2 e3 e4 e5 e6 e7 e8 => rw [if_pos rfl]; exact .inr ⟨e7, e8⟩
    · intro j k ds es hj hk' e
      by_cases e1 : j = i
      · by_cases e2 : k = i
        · rw [e1, e2]
        · subst e1
          rw [List.getElem?_set_self hlt'] at hj
          rw [List.getElem?_set_ne (Ne.symm e2)] at hk'
          cases hj
          simp only [if_true, if_neg e2] at e
          cases hv with
          | own q1 q2 q3 q4 q5 q6 q7 q8 => exact absurd (.inr (.inr ⟨k, es, hk', e.symm⟩)) q6
      · by_cases e2 : k = i
        · subst e2
          rw [List.getElem?_set_self hlt'] at hk'
          rw [List.getElem?_set_ne (Ne.symm e1)] at hj
          cases hk'
          simp only [if_true, if_neg e1] at e
          cases hv with
          | own q1 q2 q3 q4 q5 q6 q7 q8 => exact absurd (.inr (.inr ⟨j, ds, hj, e⟩)) q6
        · rw [List.getElem?_set_ne (Ne.symm e1)] at hj
          rw [List.getElem?_set_ne (Ne.symm e2)] at hk'
          simp only [if_neg e1, if_neg e2] at e
          exact H.inj j k ds es hj hk' e
  rcases hk with hk | hk
  · refine wpAny_storeName_local hk hm₀ (fun h' hn sb => ?_) (by rw [O.kind]; rfl)
    have key := fun z1 z2 z3 => fin h' (s.toks + 1) env.locals sb (.inl rfl) (.inl rfl) z1 ⟨O.kind, O.globals, O.builtins, O.frame, O.head, ⟨_, hn⟩, z2⟩ (.inl ⟨hk, _, hn, by simp⟩) z3
    refine (fun k => h _ k.1 k.2) (key (fun o ho => ?_) (fun y hy => ?_) fun y u hyx hv' => ?_)
    · obtain ⟨o', es', ep', ho', hd', _⟩ := hn
      exact ⟨o', ho', fun vs q => (by rw [hd'] at q; cases q), fun _ _ _ => ⟨es', ep', hd'⟩⟩
    · obtain ⟨c, v', hc, hv'⟩ := O.cells y hy
      exact ⟨c, v', hc, hv'.sameBut sb (Ne.symm (dict_not_cell hm₀ hv'))⟩
    · rcases hv' with ⟨k, m', hm', e⟩ | ⟨k, c, hc, hv'⟩
      · refine .inl ⟨k, _, hn, ?_⟩
        rw [if_neg hyx, ns_agree hm₀ hm' y]; exact e
      · exact .inr ⟨k, c, hc, hv'.sameBut sb (Ne.symm (dict_not_cell hm₀ hv'))⟩
  · have hck : isCellK (env.kindOf x) = true := by rw [hk]; rfl
    obtain ⟨c, v₀, hc, hv₀⟩ := O.cells x hck
    refine wpAny_storeName_cell O.kind hk hc hv₀ fun h' hv' sb => ?_
    have key := fun z1 z2 z3 => fin h' s.toks c sb (.inr (.inl ⟨x, hck, hc⟩)) (.inr ⟨hck, hc⟩) z1 ⟨O.kind, O.globals, O.builtins, O.frame, O.head, ⟨_, hm₀.sameBut sb (dict_not_cell hm₀ hv₀)⟩, z2⟩ (.inr ⟨hck, c, hc, hv'⟩) z3
    refine (fun k => h _ k.1 k.2) (key (fun o ho => ?_) (fun y hy => ?_) fun y u hyx hvy => ?_)
    · obtain ⟨o', ho', hd'⟩ := hv'
      refine ⟨o', ho', fun vs q => (by rw [hd'] at q; cases q), fun es ep q => ?_⟩
      obtain ⟨o'', ho'', hd''⟩ := hv₀
      rw [ho] at ho''; cases ho''; rw [q] at hd''; cases hd''
    · obtain ⟨c', v', hc', hvy⟩ := O.cells y hy
      by_cases e : c' = c
      · subst e; exact ⟨_, _, hc', hv'⟩
      · exact ⟨c', v', hc', hvy.sameBut sb e⟩
    · rcases hvy with ⟨k, m', hm', e⟩ | ⟨k, c', hc', hvy⟩
      · exact .inl ⟨k, m', hm'.sameBut sb (dict_not_cell hm' hv₀), e⟩
      · exact .inr ⟨k, c', hc', hvy.sameBut sb fun e => hyx (H.ap y x c k hck (e ▸ hc') hc)⟩
end
end Mine
end
section
open PySem PySem.W PySem.Calls PyProof.Rows
namespace Mine
/-! which statements an S stands for -/
noncomputable def tgt (sc : Sc) (nm : List Str) (i : Nat) (t : Str) : Bool := nmIdx nm t == some i && (sc.lookup t == some .local || sc.lookup t == some .cell) && t != ("__debug__" : Str) && t != ("__classdict__" : Str)
noncomputable def isLC (e : Expr) : Bool := e.ctorIdx == 8 || e.ctorIdx == 9 || e.ctorIdx == 10
/-- no exchange of stores at this assignment -/
noncomputable def noSwap (sc : Sc) (t : Str) (v : Expr) : Bool := !isLC v || sc.lookup t == some .cell
noncomputable def isOwnX : X → Bool
  | .list _ => true
  | .bi .list _ => true
  | _ => false
noncomputable def isName (e : Expr) (sc : Sc) (k : Str) : Bool := atName (fun x _ => x == k && isGlob sc x) e
noncomputable def excStr (k : String) : Str := Str.ofString k
noncomputable def isFz (x : S) : Bool := x.ctorIdx == 9
noncomputable def atSome {α : Type} (q : α → Bool) : Option α → Bool
  | some a => q a
  | none => false
theorem atSome_inv {α : Type} {q : α → Bool} {o : Option α} (h : atSome q o = true) : ∃ a, o = some a ∧ q a = true := by
  cases o with
  | none => cases h
  | some a => exact ⟨a, rfl, h⟩
theorem cons_inv {α : Type} {l : List α} (h : (!l.isEmpty) = true) : ∃ a r, l = a :: r := by
  cases l with
  | nil => cases h
  | cons a r => exact ⟨a, r, rfl⟩
noncomputable def atStmtReturn (q : Option Expr → Pos → Bool) (e₀ : PySem.Stmt) : Bool := if h : e₀.ctorIdx = 3 then PySem.Stmt.Return.elim (motive_2 := fun _ => Bool) e₀ h q else false
theorem atStmtReturn_inv {q : Option Expr → Pos → Bool} {e₀ : PySem.Stmt} (h : atStmtReturn q e₀ = true) : ∃ o p, e₀ = .Return o p ∧ q o p = true := by
  unfold atStmtReturn at h
  split at h
  · rename_i hi
    revert h
    exact PySem.Stmt.Return.elim (motive_2 := fun t₀ => ∀ hi, PySem.Stmt.Return.elim (motive_2 := fun _ => Bool) t₀ hi q = true → ∃ o p, t₀ = .Return o p ∧ q o p = true) e₀ hi (fun o p _ h => ⟨o, p, rfl, h⟩) hi
  · cases h
noncomputable def atStmtAssign (q : List Expr → Expr → Pos → Bool) (e₀ : PySem.Stmt) : Bool := if h : e₀.ctorIdx = 5 then PySem.Stmt.Assign.elim (motive_2 := fun _ => Bool) e₀ h q else false
theorem atStmtAssign_inv {q : List Expr → Expr → Pos → Bool} {e₀ : PySem.Stmt} (h : atStmtAssign q e₀ = true) : ∃ ts v p, e₀ = .Assign ts v p ∧ q ts v p = true := by
  unfold atStmtAssign at h
  split at h
  · rename_i hi
    revert h
    exact PySem.Stmt.Assign.elim (motive_2 := fun t₀ => ∀ hi, PySem.Stmt.Assign.elim (motive_2 := fun _ => Bool) t₀ hi q = true → ∃ ts v p, t₀ = .Assign ts v p ∧ q ts v p = true) e₀ hi (fun ts v p _ h => ⟨ts, v, p, rfl, h⟩) hi
  · cases h
noncomputable def atStmtAugAssign (q : Expr → Operator → Expr → Pos → Bool) (e₀ : PySem.Stmt) : Bool := if h : e₀.ctorIdx = 7 then PySem.Stmt.AugAssign.elim (motive_2 := fun _ => Bool) e₀ h q else false
theorem atStmtAugAssign_inv {q : Expr → Operator → Expr → Pos → Bool} {e₀ : PySem.Stmt} (h : atStmtAugAssign q e₀ = true) : ∃ t op v p, e₀ = .AugAssign t op v p ∧ q t op v p = true := by
  unfold atStmtAugAssign at h
  split at h
  · rename_i hi
    revert h
    exact PySem.Stmt.AugAssign.elim (motive_2 := fun t₀ => ∀ hi, PySem.Stmt.AugAssign.elim (motive_2 := fun _ => Bool) t₀ hi q = true → ∃ t op v p, t₀ = .AugAssign t op v p ∧ q t op v p = true) e₀ hi (fun t op v p _ h => ⟨t, op, v, p, rfl, h⟩) hi
  · cases h
noncomputable def atStmtFor (q : Expr → Expr → List Stmt → List Stmt → Pos → Bool) (e₀ : PySem.Stmt) : Bool := if h : e₀.ctorIdx = 9 then PySem.Stmt.For.elim (motive_2 := fun _ => Bool) e₀ h q else false
theorem atStmtFor_inv {q : Expr → Expr → List Stmt → List Stmt → Pos → Bool} {e₀ : PySem.Stmt} (h : atStmtFor q e₀ = true) : ∃ t it b o p, e₀ = .For t it b o p ∧ q t it b o p = true := by
  unfold atStmtFor at h
  split at h
  · rename_i hi
    revert h
    exact PySem.Stmt.For.elim (motive_2 := fun t₀ => ∀ hi, PySem.Stmt.For.elim (motive_2 := fun _ => Bool) t₀ hi q = true → ∃ t it b o p, t₀ = .For t it b o p ∧ q t it b o p = true) e₀ hi (fun t it b o p _ h => ⟨t, it, b, o, p, rfl, h⟩) hi
  · cases h
noncomputable def atStmtWhile (q : Expr → List Stmt → List Stmt → Pos → Bool) (e₀ : PySem.Stmt) : Bool := if h : e₀.ctorIdx = 11 then PySem.Stmt.While.elim (motive_2 := fun _ => Bool) e₀ h q else false
theorem atStmtWhile_inv {q : Expr → List Stmt → List Stmt → Pos → Bool} {e₀ : PySem.Stmt} (h : atStmtWhile q e₀ = true) : ∃ t b o p, e₀ = .While t b o p ∧ q t b o p = true := by
  unfold atStmtWhile at h
  split at h
  · rename_i hi
    revert h
    exact PySem.Stmt.While.elim (motive_2 := fun t₀ => ∀ hi, PySem.Stmt.While.elim (motive_2 := fun _ => Bool) t₀ hi q = true → ∃ t b o p, t₀ = .While t b o p ∧ q t b o p = true) e₀ hi (fun t b o p _ h => ⟨t, b, o, p, rfl, h⟩) hi
  · cases h
noncomputable def atStmtIf (q : Expr → List Stmt → List Stmt → Pos → Bool) (e₀ : PySem.Stmt) : Bool := if h : e₀.ctorIdx = 12 then PySem.Stmt.If.elim (motive_2 := fun _ => Bool) e₀ h q else false
theorem atStmtIf_inv {q : Expr → List Stmt → List Stmt → Pos → Bool} {e₀ : PySem.Stmt} (h : atStmtIf q e₀ = true) : ∃ t b o p, e₀ = .If t b o p ∧ q t b o p = true := by
  unfold atStmtIf at h
  split at h
  · rename_i hi
    revert h
    exact PySem.Stmt.If.elim (motive_2 := fun t₀ => ∀ hi, PySem.Stmt.If.elim (motive_2 := fun _ => Bool) t₀ hi q = true → ∃ t b o p, t₀ = .If t b o p ∧ q t b o p = true) e₀ hi (fun t b o p _ h => ⟨t, b, o, p, rfl, h⟩) hi
  · cases h
noncomputable def atStmtTry (q : List Stmt → List ExceptHandler → List Stmt → List Stmt → Pos → Bool) (e₀ : PySem.Stmt) : Bool := if h : e₀.ctorIdx = 17 then PySem.Stmt.Try.elim (motive_2 := fun _ => Bool) e₀ h q else false
theorem atStmtTry_inv {q : List Stmt → List ExceptHandler → List Stmt → List Stmt → Pos → Bool} {e₀ : PySem.Stmt} (h : atStmtTry q e₀ = true) : ∃ b hs o f p, e₀ = .Try b hs o f p ∧ q b hs o f p = true := by
  unfold atStmtTry at h
  split at h
  · rename_i hi
    revert h
    exact PySem.Stmt.Try.elim (motive_2 := fun t₀ => ∀ hi, PySem.Stmt.Try.elim (motive_2 := fun _ => Bool) t₀ hi q = true → ∃ b hs o f p, t₀ = .Try b hs o f p ∧ q b hs o f p = true) e₀ hi (fun b hs o f p _ h => ⟨b, hs, o, f, p, rfl, h⟩) hi
  · cases h
noncomputable def atStmtExpr (q : Expr → Pos → Bool) (e₀ : PySem.Stmt) : Bool := if h : e₀.ctorIdx = 24 then PySem.Stmt.Expr.elim (motive_2 := fun _ => Bool) e₀ h q else false
theorem atStmtExpr_inv {q : Expr → Pos → Bool} {e₀ : PySem.Stmt} (h : atStmtExpr q e₀ = true) : ∃ e p, e₀ = .Expr e p ∧ q e p = true := by
  unfold atStmtExpr at h
  split at h
  · rename_i hi
    revert h
    exact PySem.Stmt.Expr.elim (motive_2 := fun t₀ => ∀ hi, PySem.Stmt.Expr.elim (motive_2 := fun _ => Bool) t₀ hi q = true → ∃ e p, t₀ = .Expr e p ∧ q e p = true) e₀ hi (fun e p _ h => ⟨e, p, rfl, h⟩) hi
  · cases h
noncomputable def atStmtBreak (q : Pos → Bool) (e₀ : PySem.Stmt) : Bool := if h : e₀.ctorIdx = 26 then PySem.Stmt.Break.elim (motive_2 := fun _ => Bool) e₀ h q else false
theorem atStmtBreak_inv {q : Pos → Bool} {e₀ : PySem.Stmt} (h : atStmtBreak q e₀ = true) : ∃ p, e₀ = .Break p ∧ q p = true := by
  unfold atStmtBreak at h
  split at h
  · rename_i hi
    revert h
    exact PySem.Stmt.Break.elim (motive_2 := fun t₀ => ∀ hi, PySem.Stmt.Break.elim (motive_2 := fun _ => Bool) t₀ hi q = true → ∃ p, t₀ = .Break p ∧ q p = true) e₀ hi (fun p _ h => ⟨p, rfl, h⟩) hi
  · cases h
noncomputable def atMeth (q : Str → Str → Pos → Expr → Pos → Bool) (e : Stmt) : Bool :=
  atStmtExpr (fun c _ => atCall (fun g as kw cpos => atAttribute (fun o name apos => atName (fun t _ => kw.isEmpty && at1 (fun e => q t name apos e cpos) as) o) g) c) e
theorem atMeth_inv {q : Str → Str → Pos → Expr → Pos → Bool} {e : Stmt} (h : atMeth q e = true) : ∃ t pt name apos e₀ cpos pos, e = .Expr (.Call (.Attribute (.Name t pt) name apos) [e₀] [] cpos) pos ∧ q t name apos e₀ cpos = true := by
  obtain ⟨c, pos, rfl, h⟩ := atStmtExpr_inv h
  obtain ⟨g, as, kw, cpos, rfl, h⟩ := atCall_inv h
  obtain ⟨o, name, apos, rfl, h⟩ := atAttribute_inv h
  obtain ⟨t, pt, rfl, h⟩ := atName_inv h
  have hk := andL h
  have h := andR h
  cases nil_inv hk
  obtain ⟨e₀, rfl, h⟩ := at1_inv h
  exact ⟨t, pt, name, apos, e₀, cpos, pos, rfl, h⟩
noncomputable def atSet (q : Str → Pos → Expr → Bool) (e : Stmt) : Bool := atStmtAssign (fun ts v _ => at1 (fun t₀ => atName (fun t p => q t p v) t₀) ts) e
theorem atSet_inv {q : Str → Pos → Expr → Bool} {e : Stmt} (h : atSet q e = true) : ∃ t p v pos, e = .Assign [.Name t p] v pos ∧ q t p v = true := by
  obtain ⟨ts, v, pos, rfl, h⟩ := atStmtAssign_inv h
  obtain ⟨t₀, rfl, h⟩ := at1_inv h
  obtain ⟨t, p, rfl, h⟩ := atName_inv h
  exact ⟨t, p, v, pos, rfl, h⟩
noncomputable def atPair (q : Str → Str → Bool) (e : Expr) : Bool := atTuple (fun es _ _ => at2 (fun a b => atName (fun t _ => atName (fun u _ => q t u) b) a) es) e
theorem atPair_inv {q : Str → Str → Bool} {e : Expr} (h : atPair q e = true) : ∃ t pt u pu k p, e = .Tuple [.Name t pt, .Name u pu] k p ∧ q t u = true := by
  obtain ⟨es, k, p, rfl, h⟩ := atTuple_inv h
  obtain ⟨a, b, rfl, h⟩ := at2_inv h
  obtain ⟨t, pt, rfl, h⟩ := atName_inv h
  obtain ⟨u, pu, rfl, h⟩ := atName_inv h
  exact ⟨t, pt, u, pu, k, p, rfl, h⟩
mutual
noncomputable def Ms (T : Tab) (sc : Sc) (nm : List Str) : S → Stmt → Bool
  | .assign i x, e₀ => atSet (fun t _ v => tgt sc nm i t && Mx T sc nm x v && plainE v && noSwap sc t v) e₀
  | .assignL i x, e₀ => atSet (fun t p v => atListComp (fun _ _ scope lp => tgt sc nm i t && Mx T sc nm x v && sc.lookup t == some .local && p.line == lp.line && !(scope.names.any fun (m, k) => m == t && (k == .local || k == .cell))) v) e₀
  | .own i x, e₀ => atSet (fun t _ v => tgt sc nm i t && isOwnX x && Mx T sc nm x v && plainE v && noSwap sc t v) e₀
  | .assign2 i j x, e₀ => atStmtAssign (fun ts v _ => at2 (fun a b => atName (fun t _ => atName (fun u _ => tgt sc nm i t && tgt sc nm j u && Mx T sc nm x v && plainE v && !isLC v) b) a) ts) e₀
  | .unpack2 i j x, e₀ => atStmtAssign (fun ts v _ => at1 (fun t₀ => atPair (fun t u => tgt sc nm i t && tgt sc nm j u && Mx T sc nm x v && plainE v && !isLC v && atCall (fun _ _ _ _ => true) v) t₀) ts) e₀
  | .aug i op x, e₀ => atStmtAugAssign (fun t₀ op' v _ => atName (fun t _ => tgt sc nm i t && decide (op = op') && Mx T sc nm x v && plainE v) t₀) e₀
  | .append i x, e₀ => atMeth (fun t name apos e cpos => tgt sc nm i t && name == ("append" : Str) && apos.endLine == cpos.line && Mx T sc nm x e && plainE e) e₀
  | .extend i x, e₀ => atMeth (fun t name apos e cpos => tgt sc nm i t && name == ("extend" : Str) && apos.endLine == cpos.line && Mx T sc nm x e && plainE e) e₀
  | .remove i x, e₀ => atMeth (fun t name apos e cpos => tgt sc nm i t && name == ("remove" : Str) && apos.endLine == cpos.line && Mx T sc nm x e && plainE e) e₀
  | .ret x, e₀ => atStmtReturn (fun o _ => atSome (fun e => Mx T sc nm x e && plainE e) o) e₀
  | .brk, e₀ => atStmtBreak (fun _ => true) e₀
  | .ite c a b, e₀ => atStmtIf (fun t body orelse _ => Mx T sc nm c t && Mss T sc nm a body && Mss T sc nm b orelse) e₀
  | .forX i src body orelse, e₀ => atStmtFor (fun t₀ iter b o _ => atName (fun t _ => tgt sc nm i t && Mx T sc nm src iter && plainE iter && Mss T sc nm body b && Mss T sc nm orelse o) t₀) e₀
  | .forR i a b c body orelse, e₀ => atStmtFor (fun t₀ iter bs o _ => atName (fun t _ => tgt sc nm i t && rangeE sc a b c iter && Mss T sc nm body bs && Mss T sc nm orelse o) t₀) e₀
  | .forT i j src body orelse, e₀ => atStmtFor (fun t₀ iter b o _ => atPair (fun t u => tgt sc nm i t && tgt sc nm j u && Mx T sc nm src iter && plainE iter && Mss T sc nm body b && Mss T sc nm orelse o) t₀) e₀
  | .forE i j src body orelse, e₀ => atStmtFor (fun t₀ it b o _ => atPair (fun t u => atCall (fun g as kw _ => atName (fun f _ => kw.isEmpty && at1 (fun iter => tgt sc nm i t && tgt sc nm j u && isGlob sc f && f == ("enumerate" : Str) && Mx T sc nm src iter && plainE iter && Mss T sc nm body b && Mss T sc nm orelse o) as) g) it) t₀) e₀
  | .while c body, e₀ => atStmtWhile (fun t b o _ => o.isEmpty && (Mx T sc nm c t && Mss T sc nm body b)) e₀
  | .tryE body k h, e₀ => atStmtTry (fun b hs o f _ => (o.isEmpty && f.isEmpty) && at1 (fun hd => match hd with
    | .ExceptHandler ty nm' hb _ => (nm'.isNone && !hb.isEmpty) && atSome (fun t => Mss T sc nm body b && isName t sc (excStr k) && Mss T sc nm h hb) ty) hs) e₀
  | .tryF body fin, e₀ => atStmtTry (fun b hs o f _ => (hs.isEmpty && o.isEmpty && !f.isEmpty) && (Mss T sc nm body b && Mss T sc nm fin f)) e₀
  | .freeze _, _ => false
termination_by structural x => x
noncomputable def Mss (T : Tab) (sc : Sc) (nm : List Str) : List S → List Stmt → Bool
  | [], es => es.isEmpty
  | s :: r, es => if isFz s then Mss T sc nm r es else (match es with
    | e :: es => Ms T sc nm s e && Mss T sc nm r es
    | [] => false)
termination_by structural x => x
end
section
variable (prog : Program) (w : World) (T : Tab) (base : Heap) (fzT : Fz) (n : Nat)
noncomputable def SoundS (md : Md) (x : S) : Prop :=
  ∀ {A : Around} {outer : List Env} {L : Addr} {env : Env} {nm : List Str} {σ : List SV} {ad : Nat → Addr} {fz : Fz} {s : Shared} (e : Stmt),
    Ms T env.scope.names nm x e = true → HereS base fzT md n A outer L env nm σ ad fz s → evS T x σ ≠ .bad →
    wpAny (model prog w) A (exec e env) (PostS base fzT md n A outer L env nm σ ad fz s (evS T x σ)) (PostX base fzT md n A outer L env nm σ ad fz s (evS T x σ)) s
noncomputable def SoundSs (md : Md) (xs : List S) : Prop :=
  ∀ {A : Around} {outer : List Env} {L : Addr} {env : Env} {nm : List Str} {σ : List SV} {ad : Nat → Addr} {fz : Fz} {s : Shared} (es : List Stmt),
    Mss T env.scope.names nm xs es = true → HereS base fzT md n A outer L env nm σ ad fz s → evSs T xs σ ≠ .bad →
    wpAny (model prog w) A (execs es env) (PostS base fzT md n A outer L env nm σ ad fz s (evSs T xs σ)) (PostX base fzT md n A outer L env nm σ ad fz s (evSs T xs σ)) s
end
section
variable {prog : Program} {w : World} {T : Tab} {base : Heap} {fzT : Fz} {n : Nat} {md : Md} {A : Around} {outer : List Env} {L : Addr} {env : Env} {nm : List Str} {σ : List SV} {ad : Nat → Addr} {fz : Fz} {s : Shared}
theorem tgt_is {sc : Sc} {i : Nat} {t : Str} (h : tgt sc nm i t = true) : nmIdx nm t = some i ∧ (sc.lookup t = some .local ∨ sc.lookup t = some .cell) ∧ (t == ("__debug__" : Str)) = false ∧ (t == ("__classdict__" : Str)) = false := by
  have h4 := andR h
  have h := andL h
  have h3 := andR h
  have h := andL h
  have h2 := andR h
  have h1 := andL h
  refine ⟨eq_of_beq h1, ?_, ne_beq h3, ne_beq h4⟩
  rcases Bool.or_eq_true_iff.mp h2 with q | q
  · exact .inl (eq_of_beq q)
  · exact .inr (eq_of_beq q)
/-- an expression in a statement: its value, or the statement raises -/
theorem useS {md' : Md} {x : X} {e : Expr} {o : Out} {K : Value → Shared → Prop} (hx : SoundX prog w T base fzT n md' x) (hmd : md' = md) (hm : Mx T env.scope.names nm x e = true) (H : HereS base fzT md n A outer L env nm σ ad fz s) (hb : ev T x σ ≠ .bad)
    (he : ∀ k, ev T x σ = .exc k → o = .exc k σ)
    (hK : ∀ d v fz₁ s₁, ev T x σ = .ok d → Rel (fsOf outer) fz s fz₁ s₁ → Rep fz₁ v d → K v s₁) :
    wpAny (model prog w) A (eval e env) K (PostX base fzT md n A outer L env nm σ ad fz s o) s := by
  subst hmd
  refine useV (hx e hm H.here hb) (fun kk v s' q h => ?_) hK
  rw [he kk q]
  obtain ⟨h', tk, ex, rfl, rfl, e1, e2⟩ := h
  have r : Rel (fsOf outer) fz s fz { s with heap := h', toks := tk } := ⟨h', tk, rfl, e1, FzExt.refl _ _, e1.fzIn H.here.fzin⟩
  refine ⟨ex, ad, fz, rfl, .of_rel H.live r, H.step r, excAt_hd e2, fun w => ?_⟩
  obtain ⟨o, ho⟩ := H.live ex w
  rw [e2.new] at ho; cases ho
theorem noSwap_is {t : Str} {p : Pos} {v : Expr} {line : Nat} (h : noSwap env.scope.names t v = true) : swapsWith v (some (.Name t p)) line env = pure false := by
  unfold noSwap at h
  rcases Bool.or_eq_true_iff.mp h with q | q
  · cases v <;> first | rfl | (cases q; done)
  · have hk : (env.kindOf t == some NameKind.local) = false := by
      show (env.scope.names.lookup t == some NameKind.local) = false
      rw [eq_of_beq q]; rfl
    unfold swapsWith
    cases v <;> first | rfl | (simp [hk]; done) | (simp [hk]; rfl)
theorem soundS_assign {i : Nat} {x : X} (hx : SoundX prog w T base fzT n md x) : SoundS prog w T base fzT n md (.assign i x) := by
  intro A outer L env nm σ ad fz s e hm H hbad
  obtain ⟨t, p, v, pos, rfl, hm⟩ := atSet_inv hm
  have h4 := andR hm
  have hm := andL hm
  have h3 := andR hm
  have hm := andL hm
  have h2 := andR hm
  have h1 := andL hm
  obtain ⟨t1, t2, t3, t4⟩ := tgt_is h1
  unfold evS at hbad ⊢
  refine wpAny_Assign_Name (useS hx rfl h2 H (fun q => by rw [q] at hbad; exact hbad rfl) (fun k q => by rw [q]) fun d v fz₁ s₁ q r rep => ?_) (noSwap_is h4)
  rw [q]
  exact store_sv (a' := 0) (.of_rel H.live r) (H.step r) t1 t2 (.val rep) fun s' r' h' => ⟨rfl, _, fz₁, r', h'⟩
theorem soundS_ret {x : X} (hx : SoundX prog w T base fzT n md x) : SoundS prog w T base fzT n md (.ret x) := by
  intro A outer L env nm σ ad fz s e hm H hbad
  obtain ⟨o, pos, rfl, hm⟩ := atStmtReturn_inv hm
  obtain ⟨v, rfl, hm⟩ := atSome_inv hm
  have h2 := andR hm
  have h1 := andL hm
  unfold evS at hbad ⊢
  refine wpAny_Return_some (useS hx rfl h1 H (fun q => by rw [q] at hbad; exact hbad rfl) (fun k q => by rw [q]) fun d v fz₁ s₁ q r rep => ?_)
  rw [q]
  exact ⟨v, σ, ad, fz₁, rfl, .of_rel H.live r, H.step r, rep⟩
theorem soundS_brk : SoundS prog w T base fzT n md .brk := by
  intro A outer L env nm σ ad fz s e hm H hbad
  obtain ⟨pos, rfl, hm⟩ := atStmtBreak_inv hm
  unfold evS
  exact wpAny_Break ⟨rfl, ad, fz, .of_rel H.live (Rel.refl H.here.fzin), H⟩
theorem soundSs_nil : SoundSs prog w T base fzT n md [] := by
  intro A outer L env nm σ ad fz s es hm H hbad
  cases es with
  | cons e es => unfold Mss at hm; cases hm
  | nil =>
    unfold evSs
    exact wpAny_execs_nil ⟨rfl, ad, fz, .of_rel H.live (Rel.refl H.here.fzin), H⟩
theorem finS {t : Sem Flow} {o : Out} {σ₁ : List SV} {ad₁ : Nat → Addr} {fz₁ : Fz} {s₁ : Shared} (x : RelS env (fsOf outer) σ ad fz s σ₁ ad₁ fz₁ s₁)
    (h : wpAny (model prog w) A t (PostS base fzT md n A outer L env nm σ₁ ad₁ fz₁ s₁ o) (PostX base fzT md n A outer L env nm σ₁ ad₁ fz₁ s₁ o) s₁) :
    wpAny (model prog w) A t (PostS base fzT md n A outer L env nm σ ad fz s o) (PostX base fzT md n A outer L env nm σ ad fz s o) s₁ :=
  wpAny_mono h (fun _ _ q => PostS.after x q) fun _ _ q => PostX.after x q
theorem freeze_step {i : Nat} {ds : List PyData} (H : HereS base fzT md n A outer L env nm σ ad fz s) (hi : σ[i]? = some (.own ds)) :
    ∃ fz', RelS env (fsOf outer) σ ad fz s (putV σ i (.list ds)) ad fz' s ∧ HereS base fzT md n A outer L env nm (putV σ i (.list ds)) ad fz' s := by
  obtain ⟨x, vs, hx, hv, hf, hz, ⟨k, hp⟩, hr⟩ := H.ownAt hi
  have hlt : i < σ.length := (List.getElem?_eq_some_iff.mp hi).1
  have le : FzLe fz (fzAdd fz (ad i) false vs) := fun b o e => by
    unfold fzAdd
    by_cases q : b = ad i
    · rw [q, hz] at e; cases e
    · rw [if_neg q]; exact e
  have sub : ∀ b, WrS env (putV σ i (.list ds)) ad b → WrS env σ ad b ∧ b ≠ ad i := by
    intro b hb
    have ne : ∀ b, (b = env.locals ∨ (∃ x, isCellK (env.kindOf x) = true ∧ env.cells.lookup x = some b)) → b ≠ ad i := by
      rintro b (rfl | ⟨y, hy, hc⟩) e
      · obtain ⟨m, hm⟩ := H.here.envok.ns
        exact seq_not_dict ⟨k, hp⟩ hm e.symm
      · obtain ⟨c, v, hc', hv'⟩ := H.here.envok.cells y hy
        rw [hc] at hc'; cases hc'
        exact seq_not_cell ⟨k, hp⟩ hv' e.symm
    rcases hb with q | q | ⟨j, es, hj, hb⟩
    · exact ⟨.inl q, ne b (.inl q)⟩
    · exact ⟨.inr (.inl q), ne b (.inr q)⟩
    · unfold putV at hj
      by_cases e : j = i
      · subst e; rw [List.getElem?_set_self hlt] at hj; cases hj
      · rw [List.getElem?_set_ne (Ne.symm e)] at hj
        exact ⟨.inr (.inr ⟨j, es, hj, hb⟩), fun q => e (H.inj j i es ds hj hi (hb.trans q))⟩
  refine ⟨fzAdd fz (ad i) false vs, ⟨⟨s.heap, s.toks, rfl⟩, ExtW.refl _ _ _, fun b hb => .inl (sub b hb).1, le, fun a h1 h2 => ?_, H.live⟩, ⟨H.here.sit, H.here.hi, H.here.envok, ?_, fzAdd_in H.here.fzin hp rfl rfl, H.here.fzle.trans le, H.here.hx, by simp [putV, H.here.len]⟩, H.ap, H.vars, ?_, H.lfs, fun b hb => H.nb b (sub b hb).1⟩
  · by_cases q : a = ad i
    · exact .inr (.inr (.inr ⟨i, ds, hi, q.symm⟩))
    · unfold fzAdd at h2; rw [if_neg q] at h2; exact absurd h1 h2
  · intro y j sv h1 h2 h3
    unfold putV at h3
    by_cases e : j = i
    · subst e
      rw [List.getElem?_set_self hlt] at h3
      cases h3
      have hy := nmIdx_get y nm j h1
      rw [hx] at hy; cases hy
      exact ⟨_, hv, .list (fzAdd_self ..) (hr.mono le)⟩
    · rw [List.getElem?_set_ne (Ne.symm e)] at h3
      have := H.here.inv y j sv h1 h2 h3
      cases sv with
      | un => trivial
      | val d => obtain ⟨u, a, b⟩ := this; exact ⟨u, a, b.mono le⟩
      | own es =>
        obtain ⟨a, b, c, us, d, r⟩ := this
        refine ⟨a, b, ?_, us, d, r.mono le⟩
        unfold fzAdd
        rw [if_neg fun q => e (H.inj j i es ds h3 hi q)]; exact c
  · intro j l es fs hj hl e
    unfold putV at hj hl
    by_cases e1 : j = i
    · subst e1; rw [List.getElem?_set_self hlt] at hj; cases hj
    · by_cases e2 : l = i
      · subst e2; rw [List.getElem?_set_self hlt] at hl; cases hl
      · rw [List.getElem?_set_ne (Ne.symm e1)] at hj
        rw [List.getElem?_set_ne (Ne.symm e2)] at hl
        exact H.inj j l es fs hj hl e
theorem soundSs_freeze {i : Nat} {r : List S} (hr : SoundSs prog w T base fzT n md r) : SoundSs prog w T base fzT n md (.freeze i :: r) := by
  intro A outer L env nm σ ad fz s es hm H hbad
  have hm' : Mss T env.scope.names nm r es = true := by
    unfold Mss at hm; exact hm
  cases hi : σ[i]? with
  | none => exact absurd (by simp [evSs, evS, hi]) hbad
  | some sv =>
    cases sv with
    | un => exact absurd (by simp [evSs, evS, hi]) hbad
    | val d => exact absurd (by simp [evSs, evS, hi]) hbad
    | own ds =>
      have e : evSs T (.freeze i :: r) σ = evSs T r (putV σ i (.list ds)) := by simp [evSs, evS, hi]
      rw [e] at hbad ⊢
      obtain ⟨fz', r', h'⟩ := freeze_step H hi
      exact finS r' (hr es hm' h' hbad)
theorem soundSs_cons {x : S} {r : List S} (hnf : ∀ i, x ≠ .freeze i) (hx : SoundS prog w T base fzT n md x) (hr : SoundSs prog w T base fzT n md r) : SoundSs prog w T base fzT n md (x :: r) := by
  intro A outer L env nm σ ad fz s es hm H hbad
  have hfz : isFz x = false := by
    cases hq : isFz x with
    | false => rfl
    | true => exact (S.freeze.elim (motive_1 := fun t => (∀ i, t ≠ .freeze i) → False) x (eq_of_beq hq) (fun i h => h i rfl) hnf).elim
  unfold Mss at hm
  rw [hfz] at hm
  cases es with
  | nil => cases hm
  | cons e es =>
    have hm' : Ms T env.scope.names nm x e = true ∧ Mss T env.scope.names nm r es = true := and3 hm
    unfold evSs at hbad ⊢
    have hxb : evS T x σ ≠ .bad := by intro q; rw [q] at hbad; exact hbad rfl
    refine wpAny_execs_cons (wpAny_mono (hx e hm'.1 H hxb) (fun f s₁ g => ?_) fun v s₁ g => ?_)
    · cases q : evS T x σ with
      | next σ₁ =>
        rw [q] at g hbad
        obtain ⟨rfl, ad₁, fz₁, r₁, h₁⟩ := g
        exact finS r₁ (hr es hm'.2 h₁ hbad)
      | brk σ₁ => rw [q] at g; obtain ⟨rfl, g⟩ := g; exact ⟨rfl, g⟩
      | ret d => rw [q] at g; obtain ⟨u, σ', ad', fz', rfl, g⟩ := g; exact ⟨u, σ', ad', fz', rfl, g⟩
      | exc k σ₁ => rw [q] at g; exact g.elim
      | bad => rw [q] at g; exact g.elim
    · cases q : evS T x σ with
      | exc k σ₁ => rw [q] at g; exact g
      | next σ₁ => rw [q] at g; exact g.elim
      | brk σ₁ => rw [q] at g; exact g.elim
      | ret d => rw [q] at g; exact g.elim
      | bad => rw [q] at g; exact g.elim
theorem soundSs_pick {x : S} {r : List S} (hx : isFz x = false → SoundS prog w T base fzT n md x) (hr : SoundSs prog w T base fzT n md r) : SoundSs prog w T base fzT n md (x :: r) := by
  cases q : isFz x with
  | true => exact S.freeze.elim (motive_1 := fun t => SoundSs prog w T base fzT n md (t :: r)) x (eq_of_beq q) fun i => soundSs_freeze hr
  | false => exact soundSs_cons (fun i e => by subst e; cases q) (hx q) hr
theorem soundS_ite {c : X} {a b : List S} (hc : SoundB prog w T base fzT n md c) (ha : SoundSs prog w T base fzT n md a) (hb : SoundSs prog w T base fzT n md b) : SoundS prog w T base fzT n md (.ite c a b) := by
  intro A outer L env nm σ ad fz s e hm H hbad
  obtain ⟨t, body, orelse, pos, rfl, hm⟩ := atStmtIf_inv hm
  have h3 := andR hm
  have hm := andL hm
  have h2 := andR hm
  have h1 := andL hm
  unfold evS at hbad ⊢
  refine wpAny_If (useB (hc _ h1 H.here (fun q => by rw [q] at hbad; exact hbad rfl) (fun d q z => by simp only [q, z] at hbad; exact hbad rfl)) (fun kk v s' q h => ?_) fun d t fz₁ s₁ q z r => ?_)
  · rw [q]
    obtain ⟨h', tk, ex, rfl, rfl, e1, e2⟩ := h
    have r : Rel (fsOf outer) fz s fz { s with heap := h', toks := tk } := ⟨h', tk, rfl, e1, FzExt.refl _ _, e1.fzIn H.here.fzin⟩
    refine ⟨ex, ad, fz, rfl, .of_rel H.live r, H.step r, excAt_hd e2, fun w => ?_⟩
    obtain ⟨o, ho⟩ := H.live ex w
    rw [e2.new] at ho; cases ho
  · simp only [q, z] at hbad ⊢
    cases t with
    | true => exact finS (.of_rel H.live r) (ha _ h2 (H.step r) hbad)
    | false => exact finS (.of_rel H.live r) (hb _ h3 (H.step r) hbad)
end
end Mine
end
section
open PySem PySem.W PySem.Calls PyProof.Rows
namespace Mine
section
variable {prog : Program} {w : World} {T : Tab} {base : Heap} {fzT : Fz} {n : Nat} {md : Md} {A : Around} {outer : List Env} {L : Addr} {env : Env} {nm : List Str} {σ : List SV} {ad : Nat → Addr} {fz : Fz} {s : Shared}
theorem own_upd {i : Nat} {ds ds' : List PyData} {vs' : List Value} {h' : Heap} {tk : Nat} {fz₀ : Fz} {s₀ : Shared} (R₀ : RelS env (fsOf outer) σ ad fz₀ s₀ σ ad fz s) (H : HereS base fzT md n A outer L env nm σ ad fz s) (hi : σ[i]? = some (.own ds))
    (sb : Heap.SameBut (ad i) s.heap h') (hp' : h'.PlainList (ad i) vs'.toArray) (hr' : RepAll fz vs' ds') :
    RelS env (fsOf outer) σ ad fz₀ s₀ (σ.set i (.own ds')) ad fz { s with heap := h', toks := tk } ∧ HereS base fzT md n A outer L env nm (σ.set i (.own ds')) ad fz { s with heap := h', toks := tk } := by
  obtain ⟨x, vs, hx, hv, hf, hz, ⟨k, hp⟩, hr⟩ := H.ownAt hi
  have hlt : i < σ.length := (List.getElem?_eq_some_iff.mp hi).1
  have wa : WrS env σ ad (ad i) := .inr (.inr ⟨i, ds, hi, rfl⟩)
  have O := H.here.envok
  have lne : env.locals ≠ ad i := by
    obtain ⟨m, hm⟩ := O.ns; exact fun e => seq_not_dict ⟨k, hp⟩ hm e.symm
  have cne : ∀ y c, isCellK (env.kindOf y) = true → env.cells.lookup y = some c → c ≠ ad i := fun y c hy hc e => by
    obtain ⟨c', v, hc', hv'⟩ := O.cells y hy
    rw [hc] at hc'; cases hc'
    exact seq_not_cell ⟨k, hp⟩ hv' e.symm
  have vk : ∀ y u, Var env s.heap y u → Var env h' y u := fun y u hv => hv.keep fun b o hb ho => by
    refine ⟨o, sb.extBut b o ?_ ho, rfl⟩
    rcases hb with ⟨_, rfl⟩ | ⟨q1, q2⟩
    · exact lne
    · exact cne y b q1 q2
  refine put_gen R₀ H sb wa (fun o ho => ?_) ⟨O.kind, O.globals, O.builtins, O.frame, O.head, O.ns.elim fun m hm => ⟨m, hm.sameBut sb lne⟩, fun y hy => ?_⟩ ?_ (fun b hb => ?_) ?_ (by simp [H.here.len])
  · obtain ⟨k', hk'⟩ := hp'
    refine ⟨_, hk', fun vs q => (by cases q), fun es ep q => ?_⟩
    rw [hp] at ho; cases ho; cases q
  · obtain ⟨c, v, hc, hv'⟩ := O.cells y hy
    exact ⟨c, v, hc, hv'.sameBut sb (cne y c hy hc)⟩
  · intro y j sv h1 h2 h3
    by_cases e : j = i
    · subst e
      rw [List.getElem?_set_self hlt] at h3
      cases h3
      have hy := nmIdx_get y nm j h1
      rw [hx] at hy; cases hy
      exact ⟨vk _ _ hv, hf, hz, vs', hp', hr'⟩
    · rw [List.getElem?_set_ne (Ne.symm e)] at h3
      have := H.here.inv y j sv h1 h2 h3
      cases sv with
      | un => trivial
      | val d => obtain ⟨u, a, b⟩ := this; exact ⟨u, vk _ _ a, b⟩
      | own es =>
        obtain ⟨a, b, c, us, d, r⟩ := this
        exact ⟨vk _ _ a, b, c, us, PlainList.but sb d fun q => e (H.inj j i es ds h3 hi q), r⟩
  · rcases hb with q | q | ⟨j, es, hj, hb⟩
    · exact .inl (.inl q)
    · exact .inl (.inr (.inl q))
    · by_cases e : j = i
      · subst e; exact .inl (.inr (.inr ⟨j, ds, hi, hb⟩))
      · rw [List.getElem?_set_ne (Ne.symm e)] at hj
        exact .inl (.inr (.inr ⟨j, es, hj, hb⟩))
  · intro j l es fs hj hl e
    have get : ∀ (m : Nat) gs, (σ.set i (SV.own ds'))[m]? = some (SV.own gs) → ∃ gs', σ[m]? = some (SV.own gs') := by
      intro m gs hm
      by_cases q : m = i
      · subst q; exact ⟨ds, hi⟩
      · rw [List.getElem?_set_ne (Ne.symm q)] at hm; exact ⟨gs, hm⟩
    obtain ⟨a, ha⟩ := get j es hj
    obtain ⟨b, hb⟩ := get l fs hl
    exact H.inj j l a b ha hb e
theorem not_interactive (H : EnvOK L outer env s.heap) : interactive env = false := by
  unfold interactive; rw [H.kind]; rfl
theorem load_own {M : Model} {E : Value → Shared → Prop} {i : Nat} {ds : List PyData} {x : Str} {p : Pos} {Q : Value → Shared → Prop} (H : HereS base fzT md n A outer L env nm σ ad fz s) (hi : σ[i]? = some (.own ds)) (ht : tgt env.scope.names nm i x = true) (h : Q (.ref (ad i)) s) :
    wpAny M A (eval (.Name x p) env) Q E s := by
  obtain ⟨t1, t2, t3, t4⟩ := tgt_is ht
  obtain ⟨y, vs, hy, hv, _⟩ := H.ownAt hi
  have := nmIdx_get x nm i t1
  rw [hy] at this; cases this
  exact wpAny_Name (load_var H.here.envok hv t4 h) t3
theorem soundS_append {i : Nat} {x : X} (hx : SoundX prog w T base fzT n md x) : SoundS prog w T base fzT n md (.append i x) := by
  intro A outer L env nm σ ad fz s e hm H hbad
  obtain ⟨t, pt, name, apos, e₀, cpos, pos, rfl, hm⟩ := atMeth_inv hm
  have h5 := andR hm
  have hm := andL hm
  have h4 := andR hm
  have hm := andL hm
  have h3 := andR hm
  have hm := andL hm
  have h2 := andR hm
  have h1 := andL hm
  cases (eq_of_beq h2)
  unfold evS at hbad ⊢
  cases hi : σ[i]? with
  | none => rw [hi] at hbad; exact absurd rfl hbad
  | some sv =>
    cases sv with
    | un => rw [hi] at hbad; exact absurd rfl hbad
    | val d => rw [hi] at hbad; exact absurd rfl hbad
    | own ds =>
      simp only [hi] at hbad ⊢
      have tr : backTo cpos (starEach [e₀] env) = [(false, eval e₀ env)] := by rw [plain_star h5]; rfl
      refine wpAny_Expr_any (wpAny_Call_append rfl (by rw [tr]; rfl) h3 tr (load_own H hi h1 ?_)) (not_interactive H.here.envok)
      obtain ⟨_, vs, _, _, _, _, ⟨k, hp⟩, hr⟩ := H.ownAt hi
      refine ⟨ad i, vs.toArray, rfl, ⟨_, k, hp, rfl, rfl, rfl⟩, ?_⟩
      refine useS hx rfl h4 H (fun q => by rw [q] at hbad; exact hbad rfl) (fun k q => by rw [q]) fun d v fz₁ s₁ q r rep => ?_
      rw [q] at hbad ⊢
      have H₁ := H.step r
      obtain ⟨_, vs₁, _, _, _, _, hp₁, hr₁⟩ := H₁.ownAt hi
      have hlen := hr₁.length
      by_cases hz : ds.length < 100000
      · simp only [if_pos hz]
        refine wpAny_list_append_plain hp₁ (fun h' hp' sb => ?_) (by simp only [List.size_toArray]; rw [sizeLine_eq]; omega)
        obtain ⟨a, b⟩ := own_upd (tk := s₁.toks) (vs' := vs₁ ++ [v]) (.of_rel H.live r) H₁ hi sb (by simpa using hp') (hr₁.append (.cons rep .nil))
        exact ⟨rfl, ad, fz₁, a, b⟩
      · simp only [if_neg hz] at hbad; exact absurd rfl hbad
theorem soundS_own_list {i : Nat} {es : List X} (hes : SoundL prog w T base fzT n md es) : SoundS prog w T base fzT n md (.own i (.list es)) := by
  intro A outer L env nm σ ad fz s e hm H hbad
  obtain ⟨t, pt, v, pos, rfl, hm⟩ := atSet_inv hm
  have h5 := andR hm
  have hm := andL hm
  have h4 := andR hm
  have hm := andL hm
  have h3 := andR hm
  have hm := andL hm
  have h2 := andR hm
  have h1 := andL hm
  obtain ⟨t1, t2, t3, t4⟩ := tgt_is h1
  unfold evS ev at hbad ⊢
  obtain ⟨es', lpos, rfl, h3⟩ := atList_inv h3
  refine wpAny_Assign_Name (wpAny_List (useL (hes _ _ h3 H.here (fun q => by rw [q] at hbad; exact hbad rfl)) (fun kk v s' q h => ?_) fun ds vs fz₁ s₁ q r rep => ?_)) (noSwap_is h5)
  · rw [q]
    obtain ⟨h', tk, ex, rfl, rfl, e1, e2⟩ := h
    have r : Rel (fsOf outer) fz s fz { s with heap := h', toks := tk } := ⟨h', tk, rfl, e1, FzExt.refl _ _, e1.fzIn H.here.fzin⟩
    refine ⟨ex, ad, fz, rfl, .of_rel H.live r, H.step r, excAt_hd e2, fun w => ?_⟩
    obtain ⟨o, ho⟩ := H.live ex w
    rw [e2.new] at ho; cases ho
  · rw [q, Res.bind_ok] at hbad ⊢
    have hl := rep.length
    by_cases hz : ds.length ≤ 100000
    · simp only [if_pos hz]
      refine ⟨by rw [sizeLine_eq]; omega, ?_⟩
      have r2 : Rel (fsOf outer) fz₁ s₁ fz₁ { s₁ with heap := s₁.heap.push { cls := .type "list", data := .seq vs.toArray } } :=
        ⟨_, s₁.toks, rfl, Ext.of_keeps fun b o e => Heap.get?_push_of_some _ e, FzExt.refl _ _, (Ext.of_keeps (fs := []) fun b o e => Heap.get?_push_of_some _ e).fzIn r.fzin⟩
      have R := r.trans r2
      have new₁ : s₁.heap.get? s₁.heap.objs.size = none := size_none _ (Nat.le_refl _)
      have new₀ : s.heap.get? s₁.heap.objs.size = none := r.ext.none new₁
      have H₁ := H.step r
      refine store_sv (.of_rel H.live R) (H.step R) t1 t2 (.own rfl (fs_old H₁.here.hi new₁) (r.fzin.none new₁) ⟨0, Heap.get?_push_size _ rfl⟩ rep (fun w => ?_) new₀ ?_) fun s' r' h' => ⟨rfl, _, fz₁, r', h'⟩
      · obtain ⟨o, ho⟩ := H₁.live _ w; rw [new₁] at ho; cases ho
      · cases q : base.get? s₁.heap.objs.size with
        | none => rfl
        | some o => have := H₁.here.hi.stays _ _ q; rw [new₁] at this; cases this
    · simp only [if_neg hz] at hbad; exact absurd rfl hbad
end
end Mine
end
section
open PySem PySem.W PySem.Calls PyProof.Rows
namespace Mine
section
variable {prog : Program} {w : World} {T : Tab} {base : Heap} {fzT : Fz} {n : Nat} {md : Md} {A : Around} {outer : List Env} {L : Addr} {env : Env} {nm : List Str} {σ : List SV} {ad : Nat → Addr} {fz : Fz} {s : Shared}
theorem funFrames_weak2 {h h' base : Heap} : ∀ {l : List Env}, (∀ b o, b ∈ fsOf l → h.get? b = some o → (∀ vs, o.data ≠ .fields vs) → ∃ o', h'.get? b = some o' ∧ ∀ vs, o'.data ≠ .fields vs) → h.FunFrames base l → h'.FunFrames base l
  | [], _, _ => trivial
  | env :: rest, k, ⟨hk, ⟨L, o, hf, hn, ho, hd⟩, hr⟩ => by
    have e : fsOf (env :: rest) = L :: fsOf rest := by unfold fsOf; rw [List.filterMap_cons, hf]
    obtain ⟨o', ho', hd'⟩ := k L o (by rw [e]; exact .head _) ho hd
    exact ⟨hk, ⟨L, o', hf, hn, ho', hd'⟩, funFrames_weak2 (fun b o hb => k b o (by rw [e]; exact .tail _ hb)) hr⟩
/-- something elsewhere changes: neither the frame's places nor what is frozen -/
theorem HereS.other {W : Addr → Prop} {h' : Heap} {tk : Nat} (H : HereS base fzT md n A outer L env nm σ ad fz s) (e : ExtW W (fsOf outer) s.heap h') (h1 : ∀ b, W b → ¬ WrS env σ ad b) (h2 : ∀ b, W b → fz b = none) (h3 : ∀ b, W b → b ∉ fsOf outer) (h4 : ∀ b, W b → base.get? b = none)
    (h5 : md = .b → ∀ a, A.handled = some (.ref a) → ¬ W a) : HereS base fzT md n A outer L env nm σ ad fz { s with heap := h', toks := tk } := by
  have nw : ∀ b, WrS env σ ad b → ¬ W b := fun b hb hw => h1 b hw hb
  have O := H.here.envok
  have vk : ∀ y u, isVar (env.kindOf y) = true → Var env s.heap y u → Var env h' y u := by
    intro y u _ hv
    rcases hv with ⟨k, m, hm, q⟩ | ⟨k, c, hc, hv⟩
    · exact .inl ⟨k, m, e.ns (nw _ (.inl rfl)) hm, q⟩
    · exact .inr ⟨k, c, hc, e.isCell (nw _ (.inr (.inl ⟨y, k, hc⟩))) hv⟩
  refine ⟨⟨H.here.sit, ⟨fun b o q => ?_, ?_, fun b hb => ?_⟩, ⟨O.kind, O.globals, O.builtins, O.frame, O.head, O.ns.elim fun m hm => ⟨m, e.ns (nw _ (.inl rfl)) hm⟩, fun y hy => ?_⟩, ?_, e.fzIn h2 H.here.fzin, H.here.fzle, fun q => ?_, H.here.len⟩, H.ap, H.vars, H.inj, H.lfs, H.nb⟩
  · have hb : ¬ W b := fun hw => by rw [h4 b hw] at q; cases q
    refine e.get hb (fun hm => ?_) (H.here.hi.stays b o q)
    rw [(H.here.hi.frames.mem hm).1] at q; cases q
  · refine funFrames_weak2 ?_ H.here.hi.frames
    intro b o hb ho hnf
    obtain ⟨sl, q, _⟩ := e b o ho (fun hw => h3 b hw hb)
    exact ⟨_, q, hnf⟩
  · obtain ⟨o, es, ep, ho, hd⟩ := H.here.hi.dicts b hb
    obtain ⟨sl, q, _⟩ := e b o ho (fun hw => h3 b hw hb)
    exact ⟨_, es, ep, q, hd⟩
  · obtain ⟨c, v, hc, hv⟩ := O.cells y hy
    exact ⟨c, v, hc, e.isCell (nw _ (.inr (.inl ⟨y, hy, hc⟩))) hv⟩
  · intro y j sv q1 q2 q3
    have := H.here.inv y j sv q1 q2 q3
    cases sv with
    | un => trivial
    | val d => obtain ⟨u, a, b⟩ := this; exact ⟨u, vk _ _ q2 a, b⟩
    | own es =>
      obtain ⟨a, b, c, us, d, r⟩ := this
      exact ⟨vk _ _ q2 a, b, c, us, e.plain (nw _ (.inr (.inr ⟨j, es, q3, rfl⟩))) b d, r⟩
  · obtain ⟨a, o, vs, k1, k2, k3, k4⟩ := H.here.hx q
    obtain ⟨sl, z, _⟩ := e a o k2 (h5 q a k1)
    exact ⟨a, _, vs, k1, z, k3, k4⟩
theorem RelS.other {W : Addr → Prop} {σ₀ : List SV} {ad₀ : Nat → Addr} {fz₀ : Fz} {s₀ : Shared} {h' : Heap} {tk : Nat} (R : RelS env (fsOf outer) σ₀ ad₀ fz₀ s₀ σ ad fz s) (e : ExtW W (fsOf outer) s.heap h') (hw : ∀ b, W b → s₀.heap.get? b = none) (hlv : ∀ b, WrS env σ₀ ad₀ b → ¬ W b) :
    RelS env (fsOf outer) σ₀ ad₀ fz₀ s₀ σ ad fz { s with heap := h', toks := tk } := by
  refine ⟨?_, fun b o q hb => ?_, R.wr, R.le, R.new, fun b hb => ?_⟩
  · obtain ⟨h₀, t₀, z⟩ := R.same; exact ⟨h', tk, by rw [z]⟩
  · obtain ⟨sl, q1, q2⟩ := R.ext b o q hb
    obtain ⟨sl', q3, q4⟩ := e b _ q1 (fun hw' => by rw [hw b hw'] at q; cases q)
    exact ⟨sl', q3, fun hf => (q4 hf).trans (q2 hf)⟩
  · obtain ⟨o, ho⟩ := R.live b hb
    obtain ⟨sl, q, _⟩ := e b o ho (hlv b hb)
    exact ⟨_, q⟩
/-- an exception with an entry: its flight is fl -/
noncomputable def Fly (base : Heap) (fzT : Fz) (md : Md) (n : Nat) (A : Around) (outer : List Env) (L : Addr) (env : Env) (nm : List Str) (σ : List SV) (ad : Nat → Addr) (fz : Fz) (s : Shared) (k : String) (σ' : List SV) (fl : Value) (e : Addr) (s' : Shared) : Prop :=
  ∃ ad' fz' tb oe ot vs ts, RelS env (fsOf outer) σ ad fz s σ' ad' fz' s' ∧ HereS base fzT md n A outer L env nm σ' ad' fz' s' ∧ ¬ WrS env σ' ad' e ∧ s.heap.get? e = none ∧ s.heap.get? tb = none ∧ tb ≠ e ∧ ¬ WrS env σ' ad' tb ∧
    s'.heap.get? e = some oe ∧ oe.cls = .type (clsL k) ∧ oe.data = .fields vs ∧ (vs.size = 6 ∧ (hdOf A k = none → vs[2]? = some .none)) ∧ vs[1]? = some (.ref tb) ∧ s'.heap.get? tb = some ot ∧ ot.data = .fields ts ∧ ts[3]? = some fl
theorem rec_apart {h : Heap} {fz : Fz} {e : Addr} {oe : Obj} {vs : Array Value} (hf : FzIn fz h) (he : h.get? e = some oe) (hd : oe.data = .fields vs) : fz e = none := by
  cases q : fz e with
  | none => rfl
  | some p => obtain ⟨t, us⟩ := p; obtain ⟨o', k', ho', _, hd'⟩ := hf _ _ _ q; rw [he] at ho'; cases ho'; rw [hd] at hd'; cases hd'
theorem fly_set {E : Value → Shared → Prop} {k : String} {σ' : List SV} {fl : Value} {e : Addr} {s' : Shared} (fo : Option Addr) (H : HereS base fzT md n A outer L env nm σ ad fz s) (g : Fly base fzT md n A outer L env nm σ ad fz s k σ' fl e s') {A' : Around} :
    wpAny (model prog w) A' (setFlight (.ref e) fo) (fun _ s'' => Fly base fzT md n A outer L env nm σ ad fz s k σ' (fo.elim .none fun f => rawInt f) e s'') E s' := by
  obtain ⟨ad', fz', tb, oe, ot, vs, ts, R, H', we, en, tn, tne, wt, k1, k2, k3, k4, k5, k6, k7, k8⟩ := g
  unfold setFlight
  refine wpAny_bind (wpAny_field k1 k3 k5 ?_)
  rw [if_pos (show (Value.ref tb != Value.none) = true from by simp)]
  have h3 : 3 < ts.size := (Array.getElem?_eq_some_iff.mp k8).1
  refine wpAny_setField k6 k7 h3 ?_
  have hd2 := Obj.data_mapFields k7 (·.setIfInBounds 3 (fo.elim Value.none fun f => rawInt f))
  have ht2 := Heap.get?_update_self (Obj.mapFields (·.setIfInBounds 3 (fo.elim Value.none fun f => rawInt f))) k6 (Obj.isFreed_of_fields hd2)
  have ex2 : ExtW (fun b => b = tb) (fsOf outer) s'.heap (s'.heap.update tb (Obj.mapFields (·.setIfInBounds 3 (fo.elim Value.none fun f => rawInt f)))) := .of_but (Heap.SameBut.update ..) rfl
  have tfs : tb ∉ fsOf outer := fun hm => by
    obtain ⟨o', es, ep, ho', hd'⟩ := H.here.hi.dicts tb hm
    rw [tn] at ho'; cases ho'
  have tbase : base.get? tb = none := by
    cases q : base.get? tb with
    | none => rfl
    | some o' => have := H.here.hi.stays _ _ q; rw [tn] at this; cases this
  refine ⟨ad', fz', tb, oe, _, vs, _, R.other (tk := s'.toks) ex2 (fun b hb => hb ▸ tn) (fun b hb hw => by
      obtain ⟨o', ho'⟩ := H.live b hb
      rw [show b = tb from hw, tn] at ho'; cases ho'), H'.other (tk := s'.toks) ex2 (fun b hb => hb ▸ wt) (fun b hb => hb ▸ rec_apart H'.here.fzin k6 k7) (fun b hb => hb ▸ tfs) (fun b hb => hb ▸ tbase) (fun hmd a ha hw => by
        obtain ⟨a', o', us, q1, q2, _⟩ := H.here.hx hmd
        rw [ha] at q1; cases q1
        rw [show a = tb from hw, tn] at q2; cases q2), we, en, tn, tne, wt, ?_, k2, k3, k4, k5, ht2, hd2, ?_⟩
  · rw [Heap.get?_update_other _ _ tne]; exact k1
  · simp [h3]
theorem fly_back {k : String} {σ' : List SV} {e : Addr} {s' : Shared} (g : Fly base fzT md n A outer L env nm σ ad fz s k σ' (rawInt L) e s') : PostX base fzT md n A outer L env nm σ ad fz s (.exc k σ') (.ref e) s' := by
  obtain ⟨ad', fz', tb, oe, ot, vs, ts, R, H', we, en, tn, tne, wt, k1, k2, k3, k4, k5, k6, k7, k8⟩ := g
  exact ⟨e, ad', fz', rfl, R, H', ⟨en, oe, vs, k1, k2, k3, k4, .inr ⟨tb, ot, ts, k5, tn, tne, k6, k7, k8⟩⟩, we⟩
theorem exc_note {E : Value → Shared → Prop} {k : String} {σ' : List SV} {e : Addr} {s' : Shared} (H : HereS base fzT md n A outer L env nm σ ad fz s) (g : PostX base fzT md n A outer L env nm σ ad fz s (.exc k σ') (.ref e) s') :
    wpAny (model prog w) A (noteFrame (.ref e) env) (fun _ s'' => Fly base fzT md n A outer L env nm σ ad fz s k σ' (rawInt L) e s'') E s' := by
  obtain ⟨e', ad', fz', he', R, H', hx, hwe⟩ := g
  cases he'
  obtain ⟨hn, oe, vs, he, hc, hd, ⟨hsz, hcx⟩, hcase⟩ := hx
  have hL : env.frame = some L := H.here.envok.frame
  obtain ⟨fe, rest, hou, hfe⟩ := H.here.envok.head
  have hfr := H'.here.sit.frames
  have hfs : e ∉ fsOf outer := fun hm => by
    obtain ⟨o', es, ep, ho', hd'⟩ := H'.here.hi.dicts e hm
    rw [he] at ho'; cases ho'; rw [hd] at hd'; cases hd'
  have hbe : base.get? e = none := by
    cases q : base.get? e with
    | none => rfl
    | some o' => have := H.here.hi.stays _ _ q; rw [hn] at this; cases this
  rcases hcase with h1 | ⟨tb, ot, ts, h1, tn, tne, ht, hdt, h3⟩
  · unfold noteFrame
    simp only [hL]
    refine wpAny_bind (wpAny_field he hd h1 ?_)
    rw [if_neg (by decide)]
    have hfr' : A.frames = some (fe :: rest) := by rw [hfr, hou]
    have hff : s'.heap.FunFrames base (fe :: rest) := by have := H'.here.hi.frames; rw [hou] at this; exact this
    have hfo : PySem.frameOf env = PySem.frameOf fe := by unfold PySem.frameOf; rw [hL, hfe]
    rw [hfo]
    refine wpAny_bind (wpAny_frameOf_fun hfr' hff hfe fun h₁ hs₁ => ?_)
    refine wpAny_bind (wpAny_entryPlaceOf fun pl hpl => ?_)
    unfold EntryCells.newEntry newFields
    refine wpAny_bind (wpAny_newObj_type ?_ (hpl.sizeOk5 _ _ _ _ _))
    have es₁ : Ext (fsOf outer) s'.heap h₁ := by
      have := Ext.slotsOnly hs₁
      rw [show fsOf outer = (fe :: rest).filterMap (·.frame) from by rw [hou]; rfl]; exact this
    have he₁ : h₁.get? e = some oe := es₁.get hfs he
    generalize hob : ({ cls := .type "traceback", dict := none, data := .fields ([Value.none, .ref L, .none, rawInt L, .none] ++ (if pl.isEmpty then List.replicate 6 Value.none else pl)).toArray } : Obj) = ob
    have he₂ := Heap.get?_push_of_some (h := h₁) ob he₁
    refine wpAny_setField he₂ hd (by omega) ?_
    have hTe : h₁.objs.size ≠ e := Nat.ne_of_gt (Heap.lt_size he₁)
    have Tn' : h₁.get? h₁.objs.size = none := size_none _ (Nat.le_refl _)
    have Tn1 : s'.heap.get? h₁.objs.size = none := es₁.none Tn'
    have Tn : s.heap.get? h₁.objs.size = none := by
      cases q : s.heap.get? h₁.objs.size with
      | none => rfl
      | some o' =>
        by_cases hw : WrS env σ ad h₁.objs.size
        · obtain ⟨o2, ho2⟩ := R.live _ hw; rw [Tn1] at ho2; cases ho2
        · obtain ⟨sl, q2, _⟩ := R.ext _ o' q hw; rw [Tn1] at q2; cases q2
    have hd₃ := Obj.data_mapFields hd (·.setIfInBounds 1 (Value.ref h₁.objs.size))
    have he₃ := Heap.get?_update_self (Obj.mapFields (·.setIfInBounds 1 (Value.ref h₁.objs.size))) he₂ (Obj.isFreed_of_fields hd₃)
    have hT₂ : (h₁.push ob).get? h₁.objs.size = some ob := Heap.get?_push_size _ (by rw [← hob]; rfl)
    have hT₃ : ((h₁.push ob).update e (Obj.mapFields (·.setIfInBounds 1 (Value.ref h₁.objs.size)))).get? h₁.objs.size = some ob := by
      rw [Heap.get?_update_other _ _ (Ne.symm hTe)]; exact hT₂
    have ex3 : ExtW (fun b => b = e) (fsOf outer) s'.heap ((h₁.push ob).update e (Obj.mapFields (·.setIfInBounds 1 (Value.ref h₁.objs.size)))) :=
      ((ExtW.of_ext es₁).trans (.of_ext (Ext.of_keeps fun b o' q => Heap.get?_push_of_some _ q))).trans (.of_but (Heap.SameBut.update ..) rfl)
    refine ⟨ad', fz', h₁.objs.size, _, ob, _, _, R.other (tk := s'.toks) ex3 (fun b hb => hb ▸ hn) (fun b hb hw => by
        obtain ⟨o', ho'⟩ := H.live b hb
        rw [show b = e from hw, hn] at ho'; cases ho'), H'.other (tk := s'.toks) ex3 (fun b hb => hb ▸ hwe) (fun b hb => hb ▸ rec_apart H'.here.fzin he hd) (fun b hb => hb ▸ hfs) (fun b hb => hb ▸ hbe) (fun hmd a ha hw => by
          obtain ⟨a', o', us, q1, q2, _⟩ := H.here.hx hmd
          rw [ha] at q1; cases q1
          rw [show a = e from hw, hn] at q2; cases q2), hwe, hn, Tn, hTe, (fun hw => by obtain ⟨o2, ho2⟩ := H'.live _ hw; rw [Tn1] at ho2; cases ho2), he₃, (Obj.cls_mapFields _ _).trans hc, hd₃, ⟨by simp [hsz], fun z => by have := hcx z; simpa using this⟩, by simp [hsz], hT₃, (by rw [← hob]), by simp⟩
  · refine wpAny_noteFrame_inFlight hL he hd h1 ht hdt h3 ?_
    exact ⟨ad', fz', tb, oe, ot, vs, ts, R, H', hwe, hn, tn, tne, fun hw => H'.kinds hw ot ht ts hdt, he, hc, hd, ⟨hsz, hcx⟩, h1, ht, hdt, h3⟩
/-- an exception goes through a loop of its own frame -/
theorem exc_pass {o : Out} {x : Value} {s' : Shared} (H : HereS base fzT md n A outer L env nm σ ad fz s) (g : PostX base fzT md n A outer L env nm σ ad fz s o x s') :
    notedBy (model prog w) A env (cameBackBy (model prog w) A env (PostX base fzT md n A outer L env nm σ ad fz s o)) x s' := by
  cases o with
  | next σ' => exact g.elim
  | brk σ' => exact g.elim
  | ret d => exact g.elim
  | bad => exact g.elim
  | exc k σ' =>
    obtain ⟨ee, _, _, rfl, _⟩ := id g
    unfold notedBy
    refine wpAny_mono (exc_note H g) (fun _ s₂ fl => ?_) fun _ _ f => f
    unfold cameBackBy
    obtain ⟨_, _, _, _, _, _, _, _, _, _, _, _, _, _, j1, _, j3, _, j5, _⟩ := id fl
    refine wpAny_bind (wpAny_field j1 j3 j5 ?_)
    rw [if_neg (by simp), H.here.envok.frame]
    exact wpAny_mono (fly_set (E := fun _ _ => False) (some L) H fl) (fun _ s₃ fl => fly_back fl) fun _ _ f => f.elim
end
end Mine
end
section
open PySem PySem.W PySem.Calls PyProof.Rows
namespace Mine
section
variable {prog : Program} {w : World} {T : Tab} {base : Heap} {fzT : Fz} {n : Nat} {md : Md} {A : Around} {outer : List Env} {L : Addr} {env : Env} {nm : List Str} {σ : List SV} {ad : Nat → Addr} {fz : Fz} {s₀ : Shared} {mg mb : Str → Option Value}
theorem RelS.refl {s : Shared} (H : HereS base fzT md n A outer L env nm σ ad fz s) : RelS env (fsOf outer) σ ad fz s σ ad fz s := .of_rel H.live (Rel.refl H.here.fzin)
/-- the iterator's own places stay apart from the frame's -/
structure Apart (env : Env) (wr : List Addr) (σ : List SV) (ad : Nat → Addr) (fz : Fz) : Prop where
  w : ∀ b ∈ wr, ¬ WrS env σ ad b
  z : ∀ b ∈ wr, fz b = none
theorem Apart.step {wr : List Addr} {σ' : List SV} {ad' : Nat → Addr} {fz' : Fz} {s s' : Shared} (P : Apart env wr σ ad fz) (ex : ∀ b ∈ wr, ∃ o, s.heap.get? b = some o) (R : RelS env (fsOf outer) σ ad fz s σ' ad' fz' s') : Apart env wr σ' ad' fz' := by
  refine ⟨fun b hb hw => ?_, fun b hb => ?_⟩
  · rcases R.wr b hw with q | q
    · exact P.w b hb q
    · obtain ⟨o, ho⟩ := ex b hb; rw [q] at ho; cases ho
  · cases q : fz' b with
    | none => rfl
    | some p =>
      rcases R.new b (P.z b hb) (by rw [q]; intro z; cases z) with z | z
      · obtain ⟨o, ho⟩ := ex b hb; rw [z] at ho; cases ho
      · exact absurd z (P.w b hb)
theorem for_sound {t : Str} {pt : Pos} {i : Nat} {body orelse : List S} {b o : List Stmt} {ds : List PyData} {it : Value} {s₂ : Shared}
    (H : HereS base fzT .a n A outer L env nm σ ad fz s₀) (ht : tgt env.scope.names nm i t = true) (hb : SoundSs prog w T base fzT n .a body) (ho : SoundSs prog w T base fzT n .a orelse)
    (mb : Mss T env.scope.names nm body b = true) (mo : Mss T env.scope.names nm orelse o = true) (g : IterAt prog w A (fsOf outer) fz ds s₀ it s₂)
    (hbad : loopGo (fun σ d => some (putV σ i d)) (fun σ => evSs T body σ) (fun σ => evSs T orelse σ) ds σ ≠ .bad) :
    codeAny (model prog w) A (.forLoop (.Name t pt) it b o env) (fun r s' => match r with
      | .ok f => PostS base fzT .a n A outer L env nm σ ad fz s₀ (loopGo (fun σ d => some (putV σ i d)) (fun σ => evSs T body σ) (fun σ => evSs T orelse σ) ds σ) f s'
      | .error e => cameBackBy (model prog w) A env (PostX base fzT .a n A outer L env nm σ ad fz s₀ (loopGo (fun σ d => some (putV σ i d)) (fun σ => evSs T body σ) (fun σ => evSs T orelse σ) ds σ)) e s') s₂ := by
  obtain ⟨hb', tk, I, fp, wr, P, St, rfl, kp, rfl, It⟩ := g
  obtain ⟨t1, t2, t3, t4⟩ := tgt_is ht
  generalize hout : loopGo (fun σ d => some (putV σ i d)) (fun σ => evSs T body σ) (fun σ => evSs T orelse σ) ds σ = out at hbad ⊢
  have fpfs : ∀ b ∈ fp, b ∉ fsOf outer := fun b hb => (It.fpo b hb).1
  have wfs : ∀ b ∈ wr, b ∉ fsOf outer := fun b hb => fpfs b (It.walks.sub b hb)
  have wbase : ∀ b ∈ wr, base.get? b = none := fun b hb => by
    cases q : base.get? b with
    | none => rfl
    | some o => have := H.here.hi.stays _ _ q; rw [It.new b hb] at this; cases this
  -- a move of the iterator
  have move : ∀ {σ' : List SV} {ad' : Nat → Addr} {fz' : Fz} {s' : Shared} {h₂ : Heap} {tk₂ : Nat}, RelS env (fsOf outer) σ ad fz s₀ σ' ad' fz' s' → HereS base fzT .a n A outer L env nm σ' ad' fz' s' → Apart env wr σ' ad' fz' →
      (∀ b o, b ∉ wr → s'.heap.get? b = some o → h₂.get? b = some o) → RelS env (fsOf outer) σ ad fz s₀ σ' ad' fz' { s' with heap := h₂, toks := tk₂ } ∧ HereS base fzT .a n A outer L env nm σ' ad' fz' { s' with heap := h₂, toks := tk₂ } := by
    intro σ' ad' fz' s' h₂ tk₂ R' H' Pt mv
    have e : ExtW (fun b => b ∈ wr) (fsOf outer) s'.heap h₂ := .of_moved mv fun b hb => hb
    exact ⟨R'.other e (fun b hb => It.new b hb) (fun b hb hw => by obtain ⟨o, ho⟩ := H.live b hb; rw [It.new b hw] at ho; cases ho), H'.other e Pt.w Pt.z wfs wbase fun q => by cases q⟩
  refine codeAny_forLoop (fun m s' => ∃ j σ' ad' fz', RelS env (fsOf outer) σ ad fz s₀ σ' ad' fz' s' ∧ HereS base fzT .a n A outer L env nm σ' ad' fz' s' ∧ St j s'.heap ∧ Apart env wr σ' ad' fz' ∧ j ≤ ds.length ∧ m = ds.length + 1 - j ∧
    loopGo (fun σ d => some (putV σ i d)) (fun σ => evSs T body σ) (fun σ => evSs T orelse σ) (ds.drop j) σ' = out) ?_ (ds.length + 1) ?_
  · rintro m s' ⟨j, σ', ad', fz', R', H', st, Pt, hj, rfl, hgo⟩
    by_cases hlt : j < ds.length
    · obtain ⟨d, hd⟩ : ∃ d, ds[j]? = some d := ⟨_, List.getElem?_eq_getElem hlt⟩
      have hdr : ds.drop j = d :: ds.drop (j + 1) := by
        rw [List.drop_eq_getElem_cons hlt]; rw [List.getElem?_eq_getElem hlt] at hd; cases hd; rfl
      rw [hdr] at hgo
      unfold loopGo at hgo
      refine It.walks.item j s' _ _ hlt st fun v h₂ tk₂ hP st₂ mv => ?_
      obtain ⟨R₂, H₂⟩ := move (tk₂ := tk₂) R' H' Pt mv
      refine wpAny_assign_Name (store_sv (a' := 0) (RelS.refl H₂) H₂ t1 t2 (.val ((It.item j v d hP hd).mono R'.le)) fun s₃ R₃ H₃ => ?_)
      have fpk : ∀ b ∈ fp, ¬ WrS env σ' ad' b := fun b hb hw => by
        rcases (It.fpo b hb).2.1 with q | q
        · exact Pt.w b q hw
        · cases z : fz b with
          | none => exact q z
          | some p => have := R'.le b p z; rw [H'.frozen b hw] at this; cases this
      have st₃ : St (j + 1) s₃.heap := It.walks.frame _ _ _ st₂ fun b hb o ho => R₃.ext.get (fpk b hb) (fpfs b hb) ho
      have Pt₃ : Apart env wr (σ'.set i (.val d)) _ fz' := Pt.step (It.ex _ _ st₂) R₃
      have hbody : evSs T body (putV σ' i d) ≠ .bad := by
        intro q; simp only [q] at hgo; rw [← hgo] at hbad; exact hbad rfl
      refine wpAny_mono (hb b mb H₃ hbody) (fun f s₄ k => ?_) fun x s₄ k => ?_
      · cases q : evSs T body (putV σ' i d) with
        | next σ₄ =>
          simp only [q] at hgo
          rw [show evSs T body (σ'.set i (.val d)) = .next σ₄ from q] at k
          obtain ⟨rfl, ad₄, fz₄, R₄, H₄⟩ := k
          have fpk₃ : ∀ b ∈ fp, ¬ WrS env (σ'.set i (.val d)) _ b := fun b hb hw => by
            rcases R₃.wr b hw with z | z
            · exact fpk b hb z
            · rcases (It.fpo b hb).2.1 with q | q
              · obtain ⟨o, ho⟩ := It.ex _ _ st₂ b q; rw [z] at ho; cases ho
              · cases z' : fz b with
                | none => exact q z'
                | some p => have := R'.le b p z'; rw [H₃.frozen b hw] at this; cases this
          refine ⟨ds.length + 1 - (j + 1), by omega, j + 1, σ₄, ad₄, fz₄, (R₂.trans R₃).trans R₄, H₄, It.walks.frame _ _ _ st₃ fun b hb o ho => R₄.ext.get (fpk₃ b hb) (fpfs b hb) ho, Pt₃.step (It.ex _ _ st₃) R₄, hlt, rfl, hgo⟩
        | brk σ₄ =>
          simp only [q] at hgo
          rw [show evSs T body (σ'.set i (.val d)) = .brk σ₄ from q] at k
          obtain ⟨rfl, ad₄, fz₄, R₄, H₄⟩ := k
          rw [← hgo]
          exact ⟨rfl, ad₄, fz₄, (R₂.trans R₃).trans R₄, H₄⟩
        | ret dd =>
          simp only [q] at hgo
          rw [show evSs T body (σ'.set i (.val d)) = .ret dd from q] at k
          obtain ⟨u, σ₄, ad₄, fz₄, rfl, R₄, H₄, rep⟩ := k
          rw [← hgo]
          exact ⟨u, σ₄, ad₄, fz₄, rfl, (R₂.trans R₃).trans R₄, H₄, rep⟩
        | exc k' σ₄ => rw [show evSs T body (σ'.set i (.val d)) = .exc k' σ₄ from q] at k; exact k.elim
        | bad => exact absurd q hbody
      · cases q : evSs T body (putV σ' i d) with
        | exc k' σ₄ =>
          simp only [q] at hgo
          rw [show evSs T body (σ'.set i (.val d)) = .exc k' σ₄ from q] at k
          rw [← hgo]
          exact exc_pass H (PostX.after (R₂.trans R₃) k)
        | next σ₄ => rw [show evSs T body (σ'.set i (.val d)) = .next σ₄ from q] at k; exact k.elim
        | brk σ₄ => rw [show evSs T body (σ'.set i (.val d)) = .brk σ₄ from q] at k; exact k.elim
        | ret dd => rw [show evSs T body (σ'.set i (.val d)) = .ret dd from q] at k; exact k.elim
        | bad => exact absurd q hbody
    · have hjn : j = ds.length := by omega
      subst hjn
      rw [List.drop_of_length_le (Nat.le_refl _)] at hgo
      unfold loopGo at hgo
      refine It.walks.done s' _ _ st fun h₂ tk₂ mv => ?_
      obtain ⟨R₂, H₂⟩ := move (tk₂ := tk₂) R' H' Pt mv
      rw [← hgo] at hbad ⊢
      refine wpAny_mono (ho o mo H₂ hbad) (fun f s₃ k => PostS.after R₂ k) fun x s₃ k => exc_pass H (PostX.after R₂ k)
  · have k0 : Rel (fsOf outer) fz s₀ fz { s₀ with heap := hb', toks := tk } := ⟨hb', tk, rfl, Ext.of_keeps kp, FzExt.refl _ _, (Ext.of_keeps (fs := []) kp).fzIn H.here.fzin⟩
    refine ⟨0, σ, ad, fz, .of_rel H.live k0, H.step k0, It.st, ⟨fun b hb hw => ?_, fun b hb => H.here.fzin.none (It.new b hb)⟩, Nat.zero_le _, rfl, by simpa using hout⟩
    obtain ⟨o, ho⟩ := H.live b hw; rw [It.new b hb] at ho; cases ho
theorem soundS_forX {i : Nat} {src : X} {body orelse : List S} (hs : SoundX prog w T base fzT n .a src) (hb : SoundSs prog w T base fzT n .a body) (ho : SoundSs prog w T base fzT n .a orelse) : SoundS prog w T base fzT n .a (.forX i src body orelse) := by
  intro A outer L env nm σ ad fz s e hm H hbad
  obtain ⟨t₀, iter, bs, os, pos, rfl, hm⟩ := atStmtFor_inv hm
  obtain ⟨t, pt, rfl, hm⟩ := atName_inv hm
  have h5 := andR hm
  have hm := andL hm
  have h4 := andR hm
  have hm := andL hm
  have h3 := andR hm
  have hm := andL hm
  have h2 := andR hm
  have h1 := andL hm
  unfold evS at hbad ⊢
  refine wpAny_For (useS hs rfl h2 H (fun q => by rw [q] at hbad; exact hbad rfl) (fun k q => by rw [q]) fun d v fz₁ s₁ q r rep => ?_) (plain_set h3)
  rw [q] at hbad ⊢
  have H₁ := H.step r
  cases z : itemsOf d with
  | none => simp only [z] at hbad; exact absurd trivial (by simpa using hbad)
  | some ds =>
    simp only [z] at hbad ⊢
    refine wpAny_mono (iter_good (E := fun _ _ => False) (H₁.here.sit.handled rfl) H₁.here.hi H₁.here.fzin rep z) (fun it s₂ g => ?_) fun _ _ f => f.elim
    refine codeAny_mono (for_sound H₁ h1 hb ho h4 h5 g hbad) fun rr s' k => ?_
    cases rr with
    | ok f => exact PostS.after (.of_rel H.live r) k
    | error x => exact wpAny_mono k (fun _ _ k => PostX.after (.of_rel H.live r) k) fun _ _ k => PostX.after (.of_rel H.live r) k
theorem soundS_forR (G : GOK prog w T base fzT mg mb n) {i : Nat} {a b c : Int} {body orelse : List S} (hb : SoundSs prog w T base fzT n .a body) (ho : SoundSs prog w T base fzT n .a orelse) : SoundS prog w T base fzT n .a (.forR i a b c body orelse) := by
  intro A outer L env nm σ ad fz s e hm H hbad
  obtain ⟨t₀, iter, bs, os, pos, rfl, hm⟩ := atStmtFor_inv hm
  obtain ⟨t, pt, rfl, hm⟩ := atName_inv hm
  have h5 := andR hm
  have hm := andL hm
  have h4 := andR hm
  have hm := andL hm
  have h2 := andR hm
  have h1 := andL hm
  unfold evS at hbad ⊢
  by_cases hr : rangeOk a b c = true
  · rw [if_pos hr] at hbad ⊢
    have hk := hr
    unfold rangeOk at hk
    have k4 := andR hk
    have hk := andL hk
    have k3 := andR hk
    have hk := andL hk
    have k2 := andR hk
    have k1 := andL hk
    have k2' := andR k2
    have k2 := andL k2
    have hp : ∀ x, foldedSetIterable iter env x = pure x := range_set h2
    refine wpAny_For (wpAny_mono (range_good (E := fun _ _ => False) G H.here.hi H.here.envok h2 (of_decide_eq_true k2) (of_decide_eq_true k2')) (fun v s₁ g => ?_) fun _ _ f => f.elim) hp
    refine wpAny_mono (iter_range (E := fun _ _ => False) (fz := fz) (H.here.sit.handled rfl) H.here.hi hr g) (fun it s₂ g => ?_) fun _ _ f => f.elim
    exact for_sound H h1 hb ho h4 h5 g hbad
  · rw [if_neg hr] at hbad; exact absurd rfl hbad
end
end Mine
end
section
open PySem PySem.W PySem.Calls PyProof.Rows
namespace Mine
section
variable {prog : Program} {w : World} {T : Tab} {base : Heap} {fzT : Fz} {n : Nat} {md : Md} {A : Around} {outer : List Env} {L : Addr} {env : Env} {nm : List Str} {σ : List SV} {ad : Nat → Addr} {fz : Fz} {mg mb : Str → Option Value}
/-- an exception of an expression is one of its statement -/
theorem bad_postX {s s' : Shared} {k : String} {v : Value} (H : HereS base fzT md n A outer L env nm σ ad fz s) (h : Bad A.handled (fsOf outer) L s k v s') : PostX base fzT md n A outer L env nm σ ad fz s (.exc k σ) v s' := by
  obtain ⟨h', tk, ex, rfl, rfl, e1, e2⟩ := h
  have r : Rel (fsOf outer) fz s fz { s with heap := h', toks := tk } := ⟨h', tk, rfl, e1, FzExt.refl _ _, e1.fzIn H.here.fzin⟩
  refine ⟨ex, ad, fz, rfl, .of_rel H.live r, H.step r, excAt_hd e2, fun w => ?_⟩
  obtain ⟨o, ho⟩ := H.live ex w
  rw [e2.new] at ho; cases ho
theorem soundS_while {c : X} {body : List S} (hc : SoundB prog w T base fzT n md c) (hb : SoundSs prog w T base fzT n md body) : SoundS prog w T base fzT n md (.while c body) := by
  intro A outer L env nm σ ad fz s e hm H hbad
  obtain ⟨t, b, o, pos, rfl, hm⟩ := atStmtWhile_inv hm
  have ho := andL hm
  have hm := andR hm
  cases nil_inv ho
  have h2 := andR hm
  have h1 := andL hm
  unfold evS at hbad ⊢
  refine wpAny_While ?_
  generalize hout : whileGo (fun σ => ev T c σ) (fun σ => evSs T body σ) 1000 σ = out at hbad ⊢
  refine codeAny_whileLoop (fun m s' => ∃ σ' ad' fz', RelS env (fsOf outer) σ ad fz s σ' ad' fz' s' ∧ HereS base fzT md n A outer L env nm σ' ad' fz' s' ∧ whileGo (fun σ => ev T c σ) (fun σ => evSs T body σ) m σ' = out) ?_ 1000 ⟨σ, ad, fz, RelS.refl H, H, hout⟩
  rintro m s' ⟨σ', ad', fz', R', H', hgo⟩
  cases m with
  | zero => unfold whileGo at hgo; exact absurd hgo.symm hbad
  | succ m =>
    unfold whileGo at hgo
    cases q : ev T c σ' with
    | bad => simp only [q] at hgo; exact absurd hgo.symm hbad
    | exc k =>
      simp only [q] at hgo
      refine useB (hc t h1 H'.here (by rw [q]; intro z; cases z) (fun d z => by rw [q] at z; cases z)) (fun kk v s'' z h => ?_) fun d t' fz₁ s₁ z => by rw [q] at z; cases z
      rw [q] at z; cases z
      rw [← hgo]
      exact exc_pass H (PostX.after R' (bad_postX H' h))
    | ok d =>
      simp only [q] at hgo
      refine useB (hc t h1 H'.here (by rw [q]; intro z; cases z) (fun d' z y => by rw [q] at z; cases z; simp only [y] at hgo; exact hbad hgo.symm)) (fun kk v s'' z h => by rw [q] at z; cases z) fun d' t' fz₁ s₁ z y r => ?_
      rw [q] at z; cases z
      simp only [y] at hgo
      have H₁ := H'.step r
      have R₁ := R'.trans (.of_rel H'.live r)
      cases t' with
      | false =>
        simp only [Bool.false_eq_true, if_false]
        rw [← hgo]
        exact wpAny_execs_nil ⟨rfl, ad', fz₁, R₁, H₁⟩
      | true =>
        simp only [if_true]
        have hbody : evSs T body σ' ≠ .bad := by
          intro z; simp only [z] at hgo; exact hbad hgo.symm
        refine wpAny_mono (hb b h2 H₁ hbody) (fun f s₄ k => ?_) fun x s₄ k => ?_
        · cases z : evSs T body σ' with
          | next σ₄ =>
            rw [z] at k; simp only [z] at hgo
            obtain ⟨rfl, ad₄, fz₄, R₄, H₄⟩ := k
            exact ⟨m, Nat.lt_succ_self _, σ₄, ad₄, fz₄, R₁.trans R₄, H₄, hgo⟩
          | brk σ₄ =>
            rw [z] at k; simp only [z] at hgo
            obtain ⟨rfl, ad₄, fz₄, R₄, H₄⟩ := k
            rw [← hgo]
            exact ⟨rfl, ad₄, fz₄, R₁.trans R₄, H₄⟩
          | ret dd =>
            rw [z] at k; simp only [z] at hgo
            obtain ⟨u, σ₄, ad₄, fz₄, rfl, R₄, H₄, rep⟩ := k
            rw [← hgo]
            exact ⟨u, σ₄, ad₄, fz₄, rfl, R₁.trans R₄, H₄, rep⟩
          | exc k' σ₄ => rw [z] at k; exact k.elim
          | bad => exact absurd z hbody
        · cases z : evSs T body σ' with
          | exc k' σ₄ =>
            rw [z] at k; simp only [z] at hgo
            rw [← hgo]
            exact exc_pass H (PostX.after R₁ k)
          | next σ₄ => rw [z] at k; exact k.elim
          | brk σ₄ => rw [z] at k; exact k.elim
          | ret dd => rw [z] at k; exact k.elim
          | bad => exact absurd z hbody
theorem soundS_aug {i : Nat} {op : Operator} {x : X} (hx : SoundX prog w T base fzT n md x) : SoundS prog w T base fzT n md (.aug i op x) := by
  intro A outer L env nm σ ad fz s e hm H hbad
  obtain ⟨t₀, op', v, pos, rfl, hm⟩ := atStmtAugAssign_inv hm
  obtain ⟨t, pt, rfl, hm⟩ := atName_inv hm
  have h4 := andR hm
  have hm := andL hm
  have h3 := andR hm
  have hm := andL hm
  have h2 := andR hm
  have h1 := andL hm
  obtain ⟨t1, t2, t3, t4⟩ := tgt_is h1
  cases (of_decide_eq_true h2)
  unfold evS at hbad ⊢
  split at hbad
  · rename_i a hi
    obtain ⟨v₀, hv₀, r₀⟩ := H.here.inv _ i _ t1 (by rcases t2 with q | q <;> (show isVar (List.lookup _ _) = true; rw [q]; rfl)) hi
    obtain ⟨ta, rfl⟩ := rep_int_inv r₀
    refine wpAny_AugAssign_Name (load_var H.here.envok hv₀ t4 ?_)
    refine useS hx rfl h3 H (fun q => by rw [q] at hbad; exact hbad rfl) (fun k q => by rw [q]) fun d v fz₁ s₁ q r rep => ?_
    rw [q] at hbad ⊢
    cases d with
    | int b =>
      obtain ⟨tb, rfl⟩ := rep_int_inv rep
      cases op with
      | Add =>
        refine wpAny_iadd_int ?_
        have r2 := r.trans (Rel.same r.fzin (s₁.toks + 1))
        exact store_sv (a' := 0) (.of_rel H.live r2) (H.step r2) t1 t2 (.val (.int _ _)) fun s' r' h' => ⟨rfl, _, fz₁, r', h'⟩
      | _ => exact absurd rfl hbad
    | _ => exact absurd rfl hbad
  · exact absurd rfl hbad
theorem soundS_assign2 {i j : Nat} {x : X} (hx : SoundX prog w T base fzT n md x) : SoundS prog w T base fzT n md (.assign2 i j x) := by
  intro A outer L env nm σ ad fz s e hm H hbad
  obtain ⟨ts, v, pos, rfl, hm⟩ := atStmtAssign_inv hm
  obtain ⟨a₀, b₀, rfl, hm⟩ := at2_inv hm
  obtain ⟨t, pt, rfl, hm⟩ := atName_inv hm
  obtain ⟨u, pu, rfl, hm⟩ := atName_inv hm
  have h5 := andR hm
  have hm := andL hm
  have h4 := andR hm
  have hm := andL hm
  have h3 := andR hm
  have hm := andL hm
  have h2 := andR hm
  have h1 := andL hm
  obtain ⟨t1, t2, t3, t4⟩ := tgt_is h1
  obtain ⟨u1, u2, u3, u4⟩ := tgt_is h2
  unfold evS at hbad ⊢
  refine wpAny_Assign_two (useS hx rfl h3 H (fun q => by rw [q] at hbad; exact hbad rfl) (fun k q => by rw [q]) fun d v fz₁ s₁ q r rep => ?_) rfl
  rw [q]
  refine wpAny_assign_Name (store_sv (a' := 0) (.of_rel H.live r) (H.step r) t1 t2 (.val rep) fun s₂ r₂ h₂ => ?_)
  refine wpAny_assign_Name (store_sv (a' := 0) (RelS.refl h₂) h₂ u1 u2 (.val rep) fun s₃ r₃ h₃ => ?_)
  exact ⟨rfl, _, fz₁, r₂.trans r₃, h₃⟩
end
end Mine
end
section
open PySem PySem.W PySem.Calls PyProof.Rows
namespace Mine
section
variable {prog : Program} {w : World} {T : Tab} {base : Heap} {fzT : Fz} {n : Nat} {md : Md} {A : Around} {outer : List Env} {L : Addr} {env : Env} {nm : List Str} {σ : List SV} {ad : Nat → Addr} {fz : Fz} {s : Shared} {mg mb : Str → Option Value}
/-- the frame under a handled exception -/
theorem HereS.mark {md' : Md} {e : Addr} (H : HereS base fzT md n A outer L env nm σ ad fz s) (h1 : md' = .a → False) (h2 : md' = .b → ∃ o vs, s.heap.get? e = some o ∧ o.data = .fields vs ∧ vs[2]? = some .none) :
    HereS base fzT md' n (A.mark (some (.ref e))) outer L env nm σ ad fz s :=
  ⟨⟨⟨H.here.sit.frames, fun q => (h1 q).elim, H.here.sit.depth, H.here.sit.units⟩, H.here.hi, H.here.envok, H.here.inv, H.here.fzin, H.here.fzle, fun q => by
    obtain ⟨o, vs, a, b, c⟩ := h2 q; exact ⟨e, o, vs, rfl, a, b, c⟩, H.here.len⟩, H.ap, H.vars, H.inj, H.lfs, H.nb⟩
theorem HereS.unmark {md' : Md} {A' : Around} (H' : HereS base fzT md' n A' outer L env nm σ ad fz s) (S : Sit md A outer n) (hx : md = .b → HX A s.heap) : HereS base fzT md n A outer L env nm σ ad fz s :=
  ⟨⟨S, H'.here.hi, H'.here.envok, H'.here.inv, H'.here.fzin, H'.here.fzle, hx, H'.here.len⟩, H'.ap, H'.vars, H'.inj, H'.lfs, H'.nb⟩
end
end Mine
end
section
open PySem PySem.W PySem.Calls PyProof.Rows
namespace Mine
section
variable {prog : Program} {w : World} {T : Tab} {base : Heap} {fzT : Fz} {n : Nat} {md : Md} {A : Around} {outer : List Env} {L : Addr} {env : Env} {nm : List Str} {σ : List SV} {ad : Nat → Addr} {fz : Fz} {s : Shared} {mg mb : Str → Option Value}
theorem excFacts (k : String) (h : k = "IndexError" ∨ k = "ValueError") : isSubtype (.type k) (.type "BaseException") = pure true ∧ isSubtype (.type ((Manifest.find? k).elim "type" fun x => x.metatype)) (.type "tuple") = pure false ∧ isSubtype (.type k) (.type k) = pure true := by
  rcases h with rfl | rfl
  · exact ⟨PySem.F.isExc_IndexError, PySem.F.notTuple_IndexError, PySem.F.self_IndexError⟩
  · exact ⟨PySem.F.isExc_ValueError, PySem.F.notTuple_ValueError, PySem.F.self_ValueError⟩
theorem excName {E : Value → Shared → Prop} {t : Expr} {k : String} {Q : Value → Shared → Prop} {A' : Around} (G : GOK prog w T base fzT mg mb n) (h : k = "IndexError" ∨ k = "ValueError") (hi : HI base outer s.heap) (O : EnvOK L outer env s.heap) (hn : isName t env.scope.names (excStr k) = true) (hQ : Q (.type k) s) :
    wpAny (model prog w) A' (eval t env) Q E s := by
  obtain ⟨x, px, rfl, hn⟩ := atName_inv hn
  have h2 := andR hn
  have h1 := andL hn
  cases (eq_of_beq h1)
  rcases h with rfl | rfl
  · exact built_name G hi O h2 G.exi.1 G.exi.2 hQ
  · exact built_name G hi O h2 G.exv.1 G.exv.2 hQ
theorem PostS.unmark {md' : Md} {A' : Around} {o : Out} {f : Flow} {s' : Shared} (S : Sit .a A outer n) (g : PostS base fzT md' n A' outer L env nm σ ad fz s o f s') : PostS base fzT .a n A outer L env nm σ ad fz s o f s' := by
  cases o with
  | next σ' => obtain ⟨a, ad', fz', r, h⟩ := g; exact ⟨a, ad', fz', r, h.unmark S fun q => by cases q⟩
  | brk σ' => obtain ⟨a, ad', fz', r, h⟩ := g; exact ⟨a, ad', fz', r, h.unmark S fun q => by cases q⟩
  | ret d => obtain ⟨v, σ', ad', fz', a, r, h, q⟩ := g; exact ⟨v, σ', ad', fz', a, r, h.unmark S (fun q => by cases q), q⟩
  | exc k σ' => exact g
  | bad => exact g
theorem soundS_tryE (G : GOK prog w T base fzT mg mb n) {k : String} {body h : List S} (hb : SoundSs prog w T base fzT n .a body) (hh : SoundSs prog w T base fzT n .c h) : SoundS prog w T base fzT n .a (.tryE body k h) := by
  intro A outer L env nm σ ad fz s e hm H hbad
  obtain ⟨b, hs', o, f, pos, rfl, hm⟩ := atStmtTry_inv hm
  have ho := andL hm
  have hm := andR hm
  have hf := andR ho
  have ho := andL ho
  cases nil_inv ho
  cases nil_inv hf
  obtain ⟨⟨ty, nm', hb', hpos⟩, rfl, hm⟩ := at1_inv hm
  have hn := andL hm
  have hm := andR hm
  have hne := andR hn
  have hn := andL hn
  cases none_inv hn
  obtain ⟨h₀, hs, rfl⟩ := cons_inv hne
  obtain ⟨t, rfl, hm⟩ := atSome_inv hm
  have h3 := andR hm
  have hm := andL hm
  have h2 := andR hm
  have h1 := andL hm
  unfold evS at hbad ⊢
  have hbody : evSs T body σ ≠ .bad := by intro q; rw [q] at hbad; exact hbad rfl
  refine wpAny_Try_except (wpAny_mono (hb b h1 H hbody) (fun f s₁ g => ?_) fun x s₁ g => ?_)
  · cases q : evSs T body σ with
    | next σ₁ => rw [q] at g; obtain ⟨rfl, g⟩ := g; exact wpAny_execs_nil ⟨rfl, g⟩
    | brk σ₁ => rw [q] at g; obtain ⟨rfl, g⟩ := g; exact ⟨rfl, g⟩
    | ret d => rw [q] at g; obtain ⟨v, σ', ad', fz', rfl, g⟩ := g; exact ⟨v, σ', ad', fz', rfl, g⟩
    | exc k' σ₁ => rw [q] at g; exact g.elim
    | bad => exact absurd q hbody
  · cases q : evSs T body σ with
    | next σ₁ => rw [q] at g; exact g.elim
    | brk σ₁ => rw [q] at g; exact g.elim
    | ret d => rw [q] at g; exact g.elim
    | bad => exact absurd q hbody
    | exc k' σ₁ =>
      rw [q] at g hbad
      dsimp only at hbad ⊢
      by_cases hk : clsL k' = k ∧ (k = "IndexError" ∨ k = "ValueError")
      · rw [if_pos hk] at hbad ⊢
        obtain ⟨ee, ad₁, fz₁, rfl, g'⟩ := id g
        refine wpAny_mono (exc_note H g) (fun _ s₂ fl => wpAny_mono (fly_set (E := fun _ _ => False) none H fl) (fun _ s₃ fl => ?_) fun _ _ f => f.elim) fun _ _ f => f
        obtain ⟨x1, x2, x3⟩ := excFacts k hk.2
        have fl' := fl
        obtain ⟨ad', fz', tb, oe, ot, vs, ts, R, H', we, en, tn, tne, wt, k1, k2, k3, k4, k5, k6, k7, k8⟩ := fl'
        refine wpAny_handleBy_builtin (X := k) (T := k) (b := true) x1 x2 x3 (excName G hk.2 H'.here.hi H'.here.envok h2 ⟨rfl, ⟨oe, k1, by rw [k2, hk.1]⟩, ?_⟩)
        simp only [if_true]
        refine wpAny_mono (fly_set (E := fun _ _ => False) none H fl) (fun _ s₄ fl => ?_) fun _ _ f => f.elim
        obtain ⟨ad', fz', tb, oe, ot, vs, ts, R, H', we, en, tn, tne, wt, k1, k2, k3, k4, k5, k6, k7, k8⟩ := fl
        have hhb : evSs T h σ₁ ≠ .bad := by intro z; rw [z] at hbad; exact hbad rfl
        have H₄ : HereS base fzT .c n (A.mark (some (.ref ee))) outer L env nm σ₁ ad' fz' s₄ := H'.mark (fun z => by cases z) (fun z => by cases z)
        refine wpAny_mono (hh (h₀ :: hs) h3 H₄ hhb) (fun f s₅ g => ?_) fun x s₅ g => ?_
        · have g' := PostS.unmark H.here.sit g
          cases z : evSs T h σ₁ with
          | exc k2 σ2 => rw [z] at g'; exact g'.elim
          | bad => exact absurd z hhb
          | next σ2 => rw [z] at g'; exact PostS.after R g'
          | brk σ2 => rw [z] at g'; exact PostS.after R g'
          | ret d2 => rw [z] at g'; exact PostS.after R g'
        · cases z : evSs T h σ₁ with
          | exc k2 σ2 => rw [z] at hbad; exact absurd rfl hbad
          | bad => exact absurd z hhb
          | next σ2 => rw [z] at g; exact g.elim
          | brk σ2 => rw [z] at g; exact g.elim
          | ret d2 => rw [z] at g; exact g.elim
      · rw [if_neg hk] at hbad; exact absurd rfl hbad
/-- an exception keeps standing while others work -/
theorem fly_keep {md' : Md} {A' : Around} {k : String} {σ₁ σ₂ : List SV} {ad₁ ad₂ : Nat → Addr} {fz₁ fz₂ : Fz} {fl : Value} {e : Addr} {s₁ s₂ : Shared} (S : Sit .a A outer n) (H : HereS base fzT .a n A outer L env nm σ ad fz s)
    (R₁ : RelS env (fsOf outer) σ ad fz s σ₁ ad₁ fz₁ s₁) (we : ¬ WrS env σ₁ ad₁ e) {tb : Addr} {oe ot : Obj} {vs ts : Array Value} (en : s.heap.get? e = none) (tn : s.heap.get? tb = none) (tne : tb ≠ e) (wt : ¬ WrS env σ₁ ad₁ tb)
    (k1 : s₁.heap.get? e = some oe) (k2 : oe.cls = .type (clsL k)) (k3 : oe.data = .fields vs) (k4 : vs.size = 6 ∧ (hdOf A k = none → vs[2]? = some .none)) (k5 : vs[1]? = some (.ref tb)) (k6 : s₁.heap.get? tb = some ot) (k7 : ot.data = .fields ts) (k8 : ts[3]? = some fl)
    (R₂ : RelS env (fsOf outer) σ₁ ad₁ fz₁ s₁ σ₂ ad₂ fz₂ s₂) (H₂ : HereS base fzT md' n A' outer L env nm σ₂ ad₂ fz₂ s₂) : Fly base fzT .a n A outer L env nm σ ad fz s k σ₂ fl e s₂ := by
  have nfs : ∀ b, s.heap.get? b = none → b ∉ fsOf outer := fun b hb hm => by
    obtain ⟨o', es, ep, ho', hd'⟩ := H.here.hi.dicts b hm
    rw [hb] at ho'; cases ho'
  have e2 := R₂.ext.get we (nfs e en) k1
  have t2 := R₂.ext.get wt (nfs tb tn) k6
  refine ⟨ad₂, fz₂, tb, oe, ot, vs, ts, R₁.trans R₂, H₂.unmark S (fun q => by cases q), fun hw => ?_, en, tn, tne, fun hw => ?_, e2, k2, k3, k4, k5, t2, k7, k8⟩
  · exact H₂.kinds hw oe e2 vs k3
  · exact H₂.kinds hw ot t2 ts k7
theorem soundS_tryF {body fin : List S} (hb : SoundSs prog w T base fzT n .a body) (hf : SoundSs prog w T base fzT n .a fin) (hf' : SoundSs prog w T base fzT n .b fin) : SoundS prog w T base fzT n .a (.tryF body fin) := by
  intro A outer L env nm σ ad fz s e hm H hbad
  obtain ⟨b, hs', o, f, pos, rfl, hm⟩ := atStmtTry_inv hm
  have ho := andL hm
  have hm := andR hm
  have hne := andR ho
  have ho := andL ho
  have hh' := andL ho
  have ho := andR ho
  cases nil_inv ho
  cases nil_inv hh'
  obtain ⟨f₀, fs, rfl⟩ := cons_inv hne
  have h2 := andR hm
  have h1 := andL hm
  unfold evS at hbad ⊢
  have hbody : evSs T body σ ≠ .bad := by intro q; rw [q] at hbad; exact hbad rfl
  refine wpAny_Try_finally (wpAny_mono (hb b h1 H hbody) (fun f s₁ g => ?_) fun x s₁ g => ?_)
  · cases q : evSs T body σ with
    | next σ₁ =>
      rw [q] at g hbad
      dsimp only at hbad ⊢
      obtain ⟨rfl, ad₁, fz₁, R₁, H₁⟩ := g
      refine wpAny_execs_nil (wpAny_mono (hf (f₀ :: fs) h2 H₁ hbad) (fun f s₂ g => ?_) fun x s₂ g => exc_pass H (PostX.after R₁ g))
      have g' := PostS.after R₁ g
      cases z : evSs T fin σ₁ with
      | next σ2 => rw [z] at g'; obtain ⟨rfl, g'⟩ := g'; exact ⟨rfl, g'⟩
      | brk σ2 => rw [z] at g'; obtain ⟨rfl, g'⟩ := g'; exact ⟨rfl, g'⟩
      | ret d2 => rw [z] at g'; obtain ⟨v, σ', ad', fz', rfl, g'⟩ := g'; exact ⟨v, σ', ad', fz', rfl, g'⟩
      | exc k2 σ2 => rw [z] at g'; exact g'.elim
      | bad => exact absurd z hbad
    | brk σ₁ => rw [q] at hbad; exact absurd rfl hbad
    | ret d => rw [q] at hbad; exact absurd rfl hbad
    | exc k' σ₁ => rw [q] at g; exact g.elim
    | bad => exact absurd q hbody
  · cases q : evSs T body σ with
    | next σ₁ => rw [q] at g; exact g.elim
    | brk σ₁ => rw [q] at g; exact g.elim
    | ret d => rw [q] at g; exact g.elim
    | bad => exact absurd q hbody
    | exc k σ₁ =>
      rw [q] at g hbad
      dsimp only at hbad ⊢
      by_cases hk : clsL k ≠ k
      · rw [if_pos hk] at hbad; exact absurd rfl hbad
      · rw [if_neg hk] at hbad ⊢
        have hk' : clsL k = k := Classical.not_not.mp hk
        obtain ⟨ee, _, _, rfl, _⟩ := id g
        have hhd : A.handled = none := H.here.sit.handled rfl
        have hnone : hdOf A k = none := by unfold hdOf; rw [if_pos hk']; exact hhd
        refine wpAny_mono (exc_note H g) (fun _ s₂ fl => ?_) fun _ _ f => f
        refine ⟨(by intro z; cases z), wpAny_mono (exc_note H (fly_back fl)) (fun _ s₃ fl => wpAny_mono (fly_set (E := fun _ _ => False) none H fl) (fun _ s₄ fl => ?_) fun _ _ f => f.elim) fun _ _ f => f⟩
        obtain ⟨ad', fz', tb, oe, ot, vs, ts, R, H', we, en, tn, tne, wt, k1, k2, k3, k4, k5, k6, k7, k8⟩ := fl
        have hfb : evSs T fin σ₁ ≠ .bad := by intro z; rw [z] at hbad; exact hbad rfl
        have H₄ : HereS base fzT .b n (A.mark (some (.ref ee))) outer L env nm σ₁ ad' fz' s₄ := H'.mark (fun z => by cases z) (fun _ => ⟨oe, vs, k1, k3, k4.2 hnone⟩)
        refine wpAny_mono (hf' (f₀ :: fs) h2 H₄ hfb) (fun f s₅ g => ?_) fun x s₅ g => ?_
        · cases z : evSs T fin σ₁ with
          | next σ₂ =>
            rw [z] at g
            obtain ⟨rfl, ad₅, fz₅, R₅, H₅⟩ := g
            have fl5 := fly_keep (k := k) H.here.sit H R we en tn tne wt k1 k2 k3 k4 k5 k6 k7 k8 R₅ H₅
            dsimp only
            unfold PySem.passOn
            obtain ⟨ad6, fz6, tb6, oe6, ot6, vs6, ts6, R6, H6, we6, en6, tn6, tne6, wt6, j1, j2, j3, j4, j5, j6, j7, j8⟩ := id fl5
            refine wpAny_bind (wpAny_field j1 j3 j5 ?_)
            rw [if_neg (by simp)]
            rw [H.here.envok.frame]
            refine wpAny_bind (wpAny_mono (fly_set (E := fun _ _ => False) (some L) H fl5) (fun _ s₆ fl => ?_) fun _ _ f => f.elim)
            exact wpAny_throw (fly_back fl)
          | brk σ₂ => rw [z] at hbad; exact absurd rfl hbad
          | ret d => rw [z] at hbad; exact absurd rfl hbad
          | exc k2' σ₂ => rw [z] at g; exact g.elim
          | bad => exact absurd z hfb
        · cases z : evSs T fin σ₁ with
          | next σ₂ => rw [z] at g; exact g.elim
          | brk σ₂ => rw [z] at g; exact g.elim
          | ret d => rw [z] at g; exact g.elim
          | bad => exact absurd z hfb
          | exc k2' σ₂ =>
            rw [z] at g hbad
            dsimp only at hbad ⊢
            by_cases hs : clsL (starL k2') = k2' ∧ clsL k2' = k2'
            · rw [if_pos hs] at hbad ⊢
              obtain ⟨e2, _, _, rfl, _⟩ := id g
              unfold notedBy
              refine wpAny_mono (exc_note H₄ g) (fun _ s₆ fl => ?_) fun _ _ f => f
              unfold cameBackBy
              obtain ⟨ad6, fz6, tb6, oe6, ot6, vs6, ts6, R6, H6, we6, en6, tn6, tne6, wt6, j1, j2, j3, j4, j5, j6, j7, j8⟩ := id fl
              refine wpAny_bind (wpAny_field j1 j3 j5 ?_)
              rw [if_neg (by simp)]
              rw [H.here.envok.frame]
              refine wpAny_mono (fly_set (E := fun _ _ => False) (some L) H₄ fl) (fun _ s₇ fl => ?_) fun _ _ f => f.elim
              obtain ⟨ad7, fz7, tb7, oe7, ot7, vs7, ts7, R7, H7, we7, en7, tn7, tne7, wt7, j1, j2, j3, j4, j5, j6, j7, j8⟩ := fl
              have gone : ∀ b, s₄.heap.get? b = none → s.heap.get? b = none := fun b hb => by
                cases y : s.heap.get? b with
                | none => rfl
                | some o' =>
                  by_cases hw : WrS env σ ad b
                  · obtain ⟨o2, ho2⟩ := R.live _ hw; rw [hb] at ho2; cases ho2
                  · obtain ⟨sl, q2, _⟩ := R.ext _ o' y hw; rw [hb] at q2; cases q2
              refine ⟨e2, ad7, fz7, rfl, R.trans R7, H7.unmark H.here.sit (fun q => by cases q), ⟨gone _ en7, oe7, vs7, j1, by rw [j2, hs.1, hs.2], j3, ⟨j4.1, fun y => ?_⟩, .inr ⟨tb7, ot7, ts7, j5, gone _ tn7, tne7, j6, j7, j8⟩⟩, we7⟩
              exfalso
              unfold hdOf at y
              rw [if_neg (by rw [hs.1]; intro y'; have := congrArg String.length y'; simp [starL] at this)] at y
              cases y
            · rw [if_neg hs] at hbad; exact absurd rfl hbad
end
end Mine
end
section
open PySem PySem.W PySem.Calls PyProof.Rows
namespace Mine
/-- a def of the text -/
structure FnAt (base : Heap) (a : Addr) (params : List Str) (body : List Stmt) (scope : Scope) : Prop where
  fn : ∃ o fd, base.get? a = some o ∧ o.data = .func fd ∧ fd.body = .stmts body ∧ fd.scope = scope ∧ fd.globals = mainGlobals ∧ fd.closure = [] ∧ fd.builtins = builtinsNs ∧ base.CodeRec fd.code fd.qualname ∧
    ∀ vs, vs.length = params.length → bindArgs fd ⟨vs, []⟩ = pure (params.zip vs)
  co : scope.isCoroutine = false
  gen : scope.isGenerator = false
  kind : scope.kind = .function
  nolimit : base.NoLimit
/-- the names of a def: its parameters first; local or cell, each once -/
noncomputable def namesOk (scope : Scope) (params nm : List Str) : Bool :=
  nodupB nm && (params.isPrefixOf nm) && nm.all (fun x => scope.names.lookup x == some .local || scope.names.lookup x == some .cell) &&
  scope.names.all (fun x => x.2 != .free) && nodupB (scope.names.map (·.1))
theorem nmIdx_nodup : ∀ {nm : List Str}, nodupB nm = true → ∀ (i : Nat) x, nm[i]? = some x → nmIdx nm x = some i
  | [], _, i, x, h => by simp at h
  | y :: r, hn, 0, x, h => by
    obtain ⟨h1, h2⟩ := nodupB_cons hn
    simp at h
    subst h
    unfold nmIdx
    cases q : nmIdx r y with
    | none => simp
    | some j => exact absurd (List.mem_of_getElem? (nmIdx_get y r j q)) h1
  | y :: r, hn, i + 1, x, h => by
    obtain ⟨h1, h2⟩ := nodupB_cons hn
    unfold nmIdx
    rw [nmIdx_nodup h2 i x (by simpa using h)]
theorem bindL_skip {K : Str → Option NameKind} : ∀ (l : List (Str × Value)) (m : Str → Option Value) (x : Str), x ∉ l.map (·.1) → bindL K l m x = m x
  | [], _, _, _ => rfl
  | (n, v) :: r, m, x, h => by
    unfold bindL
    rw [bindL_skip r _ x (fun q => h (by simp; right; simpa using q))]
    have hx : x ≠ n := fun e => h (by simp [e])
    split
    · simp [hx]
    · rfl
theorem bindC_skip {K : Str → Option NameKind} : ∀ (l : List (Str × Value)) (m : Str → Option Value) (x : Str), x ∉ l.map (·.1) → bindC K l m x = m x
  | [], _, _, _ => rfl
  | (n, v) :: r, m, x, h => by
    unfold bindC
    rw [bindC_skip r _ x (fun q => h (by simp; right; simpa using q))]
    have hx : x ≠ n := fun e => h (by simp [e])
    split
    · rfl
    · simp [hx]
theorem bindL_at {K : Str → Option NameKind} : ∀ (l : List (Str × Value)) (m : Str → Option Value) (i : Nat) (x : Str) (v : Value), nodupB (l.map (·.1)) = true → l[i]? = some (x, v) → K x = some .local → bindL K l m x = some v
  | [], _, i, _, _, _, h, _ => by simp at h
  | (n, u) :: r, m, 0, x, v, hn, h, hk => by
    obtain ⟨h1, h2⟩ := nodupB_cons hn
    simp at h
    obtain ⟨rfl, rfl⟩ := h
    unfold bindL
    rw [bindL_skip r _ _ h1, if_pos hk]; simp
  | (n, u) :: r, m, i + 1, x, v, hn, h, hk => by
    obtain ⟨h1, h2⟩ := nodupB_cons hn
    unfold bindL
    exact bindL_at r _ i x v h2 (by simpa using h) hk
theorem bindC_at {K : Str → Option NameKind} : ∀ (l : List (Str × Value)) (m : Str → Option Value) (i : Nat) (x : Str) (v : Value), nodupB (l.map (·.1)) = true → l[i]? = some (x, v) → K x = some .cell → bindC K l m x = some v
  | [], _, i, _, _, _, h, _ => by simp at h
  | (n, u) :: r, m, 0, x, v, hn, h, hk => by
    obtain ⟨h1, h2⟩ := nodupB_cons hn
    simp at h
    obtain ⟨rfl, rfl⟩ := h
    unfold bindC
    rw [bindC_skip r _ _ h1, if_neg (by rw [hk]; intro z; cases z)]; simp
  | (n, u) :: r, m, i + 1, x, v, hn, h, hk => by
    obtain ⟨h1, h2⟩ := nodupB_cons hn
    unfold bindC
    exact bindC_at r _ i x v h2 (by simpa using h) hk
theorem nodup_prefix : ∀ {p nm : List Str}, p.isPrefixOf nm = true → nodupB nm = true → nodupB p = true
  | [], _, _, _ => rfl
  | x :: p, [], h, _ => by simp [List.isPrefixOf] at h
  | x :: p, y :: r, h, hn => by
    obtain ⟨h1, h2⟩ := nodupB_cons hn
    simp only [List.isPrefixOf, Bool.and_eq_true, beq_iff_eq] at h
    obtain ⟨rfl, h⟩ := h
    have hp := nodup_prefix h h2
    have : x ∉ p := fun q => h1 (List.IsPrefix.subset (List.isPrefixOf_iff_prefix.mp h) q)
    unfold nodupB
    simp [this, hp]
section
variable {prog : Program} {w : World} {T : Tab} {base : Heap} {fzT : Fz} {n : Nat}
noncomputable def initσ (ds : List PyData) (nm : List Str) : List SV := ds.map SV.val ++ List.replicate (nm.length - ds.length) SV.un
/-- the contract of a def out of its body -/
theorem call_ok {a : Addr} {params nm : List Str} {body : List Stmt} {scope : Scope} {ss : List S} {ds : List PyData} {d : PyData} (hS : SoundSs prog w T base fzT n .a ss) (F : FnAt base a params body scope) (hn : namesOk scope params nm = true) (hm : Mss T scope.names nm ss body = true)
    (hl : ds.length = params.length) (hev : evSs T ss (initσ ds nm) = .ret d) : CallOK prog w base fzT a (n + 1) ds d := by
  intro A outer s vs fz E S hi hf hz hr
  obtain ⟨o, fd, ho, hd, hb, hsc, hgl, hcl, hbu, hcd, hbind⟩ := F.fn
  have n5 := andR hn
  have hn := andL hn
  have n4 := andR hn
  have hn := andL hn
  have n3 := andR hn
  have hn := andL hn
  have n2 := andR hn
  have n1 := andL hn
  have hvl : vs.length = params.length := by rw [hr.length, hl]
  have hpre := List.isPrefixOf_iff_prefix.mp n2
  have hplen : params.length ≤ nm.length := hpre.length_le
  have kinds : ∀ x ∈ nm, scope.names.lookup x = some .local ∨ scope.names.lookup x = some .cell := fun x hx => by
    have := List.all_eq_true.mp n3 x hx
    rcases Bool.or_eq_true_iff.mp this with q | q
    · exact .inl (eq_of_beq q)
    · exact .inr (eq_of_beq q)
  subst hsc
  have hcd' : s.heap.CodeRec fd.code fd.qualname := by
    obtain ⟨c, o', us, t, e1, e2, e3⟩ := hcd
    exact ⟨c, o', us, t, e1, hi.stays _ _ e2, e3⟩
  refine wpAny_call (codeAny_call_function (Nat.lt_trans (by have := S.depth; omega) (by decide : 900 < recursionLimit)) (hi.stays _ _ ho) hd F.co F.gen hb hcd' ?_)
  rw [hbind vs hvl, hcl]
  refine wpAny_pure (wpAny_newFunctionEnv_cells F.kind (fun x hx => ?_) fun env he s' x => ?_)
  · have hxm : x.1 ∈ params := (List.of_mem_zip hx).1
    rcases kinds x.1 (hpre.subset hxm) with q | q
    · exact .inl q
    · exact .inr ⟨q, cellsFrom_some _ _ _ (.inl q)⟩
  subst he
  obtain ⟨h₁, tk, rfl⟩ := x.toInCall.same
  have hns := x.toInCall.ns
  have kp := x.toInCall.keep
  dsimp only at hns kp
  refine ⟨(F.nolimit.keeps hi.stays).keeps kp, codeAny_func ?_⟩
  generalize henv : newEnv fd.scope s.heap.objs.size fd.globals (cellsFrom (s.heap.objs.size + 1) fd.scope.names []) (fd.qualname ++ ".<locals>.") (some a) fd.code none fd.builtins = env at *
  have eL : env.locals = s.heap.objs.size := by rw [← henv]; rfl
  have eS : env.scope = fd.scope := by rw [← henv]; rfl
  have eC : env.cells = cellsFrom (s.heap.objs.size + 1) fd.scope.names [] := by rw [← henv]; rfl
  have eG : env.globals = mainGlobals := by rw [← henv]; exact hgl
  have eB : env.builtins = builtinsNs := by rw [← henv]; exact hbu
  have eF : env.frame = some s.heap.objs.size := by rw [← henv]; rfl
  have eK : ∀ y, env.kindOf y = fd.scope.names.lookup y := fun y => by show env.scope.names.lookup y = _; rw [eS]
  have Lnew : s.heap.get? s.heap.objs.size = none := size_none _ (Nat.le_refl _)
  have baseN : ∀ b, s.heap.get? b = none → base.get? b = none := fun b hb => by
    cases q : base.get? b with
    | none => rfl
    | some o' => have := hi.stays _ _ q; rw [hb] at this; cases this
  have nofree : ∀ y, fd.scope.names.lookup y ≠ some .free := fun y q => by
    have := List.all_eq_true.mp n4 _ (mem_lookup q)
    simp at this
  have cellK : ∀ y, isCellK (env.kindOf y) = true → fd.scope.names.lookup y = some .cell := fun y hy => by
    rw [eK] at hy
    cases q : fd.scope.names.lookup y with
    | none => rw [q] at hy; cases hy
    | some kk =>
      cases kk with
      | cell => rfl
      | free => exact absurd q (nofree y)
      | «local» => rw [q] at hy; cases hy
      | globalExplicit => rw [q] at hy; cases hy
      | globalImplicit => rw [q] at hy; cases hy
  have cellAt : ∀ y, fd.scope.names.lookup y = some .cell → ∃ c, env.cells.lookup y = some c ∧ s.heap.objs.size < c := fun y hy => by
    obtain ⟨c, hc⟩ := Option.isSome_iff_exists.mp (cellsFrom_some (x := y) fd.scope.names (s.heap.objs.size + 1) [] (.inl hy))
    rw [← eC] at hc
    exact ⟨c, hc, by have := x.above y c (mem_lookup hc); rw [eL] at this; exact this⟩
  have outW : ∀ b, WrS env (initσ ds nm) (fun _ => 0) b → s.heap.get? b = none ∧ base.get? b = none := by
    rintro b (rfl | ⟨y, hy, hc⟩ | ⟨i, es, hi', _⟩)
    · rw [eL]; exact ⟨Lnew, baseN _ Lnew⟩
    · obtain ⟨c, hc', hlt⟩ := cellAt y (cellK y hy)
      rw [hc] at hc'; cases hc'
      have := size_none s.heap (Nat.le_of_lt hlt)
      exact ⟨this, baseN _ this⟩
    · exfalso
      unfold initσ at hi'
      rcases Nat.lt_or_ge i (ds.map SV.val).length with q | q
      · rw [List.getElem?_append_left q, List.getElem?_map] at hi'
        cases z : ds[i]? <;> rw [z] at hi' <;> cases hi'
      · rw [List.getElem?_append_right q] at hi'
        have := List.mem_of_getElem? hi'
        rw [List.mem_replicate] at this; cases this.2
  have H : HereS base fzT .a n (A.deeper env) (env :: outer) s.heap.objs.size env nm (initσ ds nm) (fun _ => 0) fz { s with heap := h₁, toks := tk } := by
    refine ⟨⟨⟨?_, fun _ => S.handled rfl, ?_, ?_⟩, ⟨fun b o' e => kp b o' (hi.stays b o' e), ?_, fun b hb' => ?_⟩, ⟨by rw [eS]; exact F.kind, eG, eB, eF, ⟨env, outer, rfl, eF⟩, ⟨_, hns⟩, fun y hy => ?_⟩, ?_, (Ext.of_keeps (fs := []) kp).fzIn hf, hz, (fun q => by cases q), ?_⟩, ?_, fun i y hy => ⟨nmIdx_nodup n1 i y hy, ?_⟩, fun i j es fs hi' hj e => ?_, by rw [eF, eL], fun b hb' => (outW b hb').2⟩
    · exact Around.frames_deeper S.frames
    · have := S.depth; show A.depth + 1 + n < 900; omega
    · have := S.units; show A.units + 3 + 80 * n + 300 < cLine; omega
    · refine Heap.FunFrames.cons (by rw [eS, F.kind]; intro z; cases z) eF (eL ▸ hns) (baseN _ Lnew) ?_
      exact hi.frames.of_keeps fun b o' ho' _ => ⟨o', kp b o' ho', rfl⟩
    · unfold fsOf at hb'
      rw [List.filterMap_cons, eF] at hb'
      rcases List.mem_cons.mp hb' with e | hb'
      · subst e
        obtain ⟨o', es, ep, ho', hd', _⟩ := hns
        rw [eL] at ho'
        exact ⟨o', es, ep, ho', hd'⟩
      · obtain ⟨o', es, ep, ho', hd'⟩ := hi.dicts b hb'
        exact ⟨o', es, ep, kp _ _ ho', hd'⟩
    · obtain ⟨c, hc, _⟩ := cellAt y (cellK y hy)
      exact ⟨c, _, hc, x.cell y c hc⟩
    · intro y i sv q1 q2 q3
      have hy := nmIdx_get y nm i q1
      unfold initσ at q3
      rcases Nat.lt_or_ge i (ds.map SV.val).length with q | q
      · rw [List.getElem?_append_left q, List.getElem?_map] at q3
        cases z : ds[i]? with
        | none => rw [z] at q3; cases q3
        | some dd =>
          rw [z] at q3; cases q3
          obtain ⟨v, hv, rv⟩ := hr.get z
          have hip : i < params.length := by rw [List.length_map] at q; omega
          have hpi : params[i]? = some y := by
            obtain ⟨t, ht⟩ := hpre
            rw [← ht, List.getElem?_append_left hip] at hy; exact hy
          have hzip : (params.zip vs)[i]? = some (y, v) := by
            rw [List.getElem?_zip_eq_some]; exact ⟨hpi, hv⟩
          have hnd : nodupB ((params.zip vs).map (·.1)) = true := by
            rw [List.map_fst_zip (by omega)]; exact nodup_prefix n2 n1
          refine ⟨v, ?_, rv⟩
          rcases kinds y (List.mem_of_getElem? hy) with k | k
          · exact .inl ⟨by rw [eK]; exact k, _, hns, bindL_at _ _ i y v hnd hzip (by rw [eK]; exact k)⟩
          · obtain ⟨c, hc, _⟩ := cellAt y k
            have := x.cell y c hc
            rw [bindC_at _ _ i y v hnd hzip (by rw [eK]; exact k)] at this
            exact .inr ⟨by rw [eK, k]; rfl, c, hc, this⟩
      · rw [List.getElem?_append_right q] at q3
        have := List.mem_of_getElem? q3
        rw [List.mem_replicate] at this
        rw [this.2]; trivial
    · unfold initσ; simp; omega
    · intro y z c hy hz' h1 h2
      exact name_of_addr x.apart (mem_lookup h1) (mem_lookup h2)
    · rw [eK]; exact kinds y (List.mem_of_getElem? hy)
    · exfalso
      unfold initσ at hi'
      rcases Nat.lt_or_ge i (ds.map SV.val).length with q | q
      · rw [List.getElem?_append_left q, List.getElem?_map] at hi'
        cases z : ds[i]? <;> rw [z] at hi' <;> cases hi'
      · rw [List.getElem?_append_right q] at hi'
        have := List.mem_of_getElem? hi'
        rw [List.mem_replicate] at this; cases this.2
  refine wpAny_mono (hS body (by rw [eS]; exact hm) H (by rw [hev]; intro z; cases z)) (fun f s₂ g => ?_) fun v s₂ g => by rw [hev] at g; exact g.elim
  rw [hev] at g
  obtain ⟨v, σ', ad', fz', rfl, R, H', rep⟩ := g
  obtain ⟨h₂, t₂, rfl⟩ := R.same
  refine ⟨h₂, t₂, fz', rfl, fun b o' e => ?_, ⟨R.le, fun p h1 h2 => ?_⟩, H'.here.fzin, rep⟩
  · have hnw : ¬ WrS env (initσ ds nm) (fun _ => 0) b := fun hw => by rw [(outW b hw).1] at e; cases e
    obtain ⟨sl, q1, q2⟩ := R.ext b o' (kp b o' e) hnw
    refine ⟨sl, q1, fun hb' => q2 fun hm' => ?_⟩
    unfold fsOf at hm' hb'
    rw [List.filterMap_cons, eF] at hm'
    rcases List.mem_cons.mp hm' with z | z
    · subst z; rw [Lnew] at e; cases e
    · exact hb' z
  · rcases R.new p h1 h2 with q | q
    · cases z : s.heap.get? p with
      | none => rfl
      | some o' => have := kp _ _ z; rw [q] at this; cases this
    · exact (outW p q).1
end
end Mine
end
section
open PySem PySem.W PySem.Calls PyProof.Rows
namespace Mine
section
variable {prog : Program} {w : World} {T : Tab} {base : Heap} {fzT : Fz} {n : Nat} {md : Md} {mg mb : Str → Option Value}
/-- an owned list is looked into -/
theorem sound_outside {a : X} {i : Nat} (ha : SoundX prog w T base fzT n md a) : SoundX prog w T base fzT n md (.outside a i) := by
  intro A outer L env nm σ ad fz s e hm H hbad
  obtain ⟨l, ops, rs, pos, rfl, hm⟩ := atCompare_inv hm
  obtain ⟨op', rfl, hm⟩ := at1_inv hm
  obtain ⟨r, rfl, hm⟩ := at1_inv hm
  obtain ⟨x, px, rfl, hm⟩ := atName_inv hm
  have hop := andL hm
  have hm := andR hm
  cases (of_decide_eq_true hop : op' = .NotIn)
  have h5 := andR hm
  have hm := andL hm
  have h4 := andR hm
  have hm := andL hm
  have h3 := andR hm
  have hm := andL hm
  have h2 := andR hm
  have h1 := andL hm
  unfold ev at hbad ⊢
  refine wpAny_Compare1 (useV (ha _ h1 H (bind_bad hbad)) (fun _ _ _ e h => excOf e h) fun x v fz₁ s₁ e r rep => ?_) rfl
  rw [e, Res.bind_ok] at hbad ⊢
  have H₁ := H.step r
  split at hbad
  · rename_i ds hs
    obtain ⟨hv, hf, hz, vs, ⟨k, hp⟩, hr⟩ := H₁.inv _ i _ (eq_of_beq h2) h3 hs
    refine wpAny_Name (load_var H₁.envok hv (ne_beq h5) ?_) (ne_beq h4)
    -- frozen for the while of the look
    have hin : FzIn (fzAdd fz₁ (ad i) false vs) s₁.heap := fzAdd_in H₁.fzin hp rfl rfl
    have le : FzLe fz₁ (fzAdd fz₁ (ad i) false vs) := fun b o q => by
      unfold fzAdd
      by_cases z : b = ad i
      · rw [z, hz] at q; cases q
      · rw [if_neg z]; exact q
    cases z : opCmp .NotIn x (.list ds) with
    | bad => exact absurd z hbad
    | exc k => exact (opCmp_exc z).elim
    | ok d =>
      obtain ⟨b, rfl⟩ := opCmp_bool z
      refine wpAny_mono (cmp_good (fs := fsOf outer) (E := fun _ _ => False) H.sit.units70 hin (rep.mono le) (.list (fzAdd_self ..) (hr.mono le)) z) (fun u s₂ g => ?_) fun _ _ q => q.elim
      obtain ⟨fz₂, ⟨h', tk, rfl, e1, _, _⟩, q⟩ := good_iff.mp g
      cases rep_bool_inv q
      exact good_iff.mpr ⟨fz₁, r.trans ⟨h', tk, rfl, e1, FzExt.refl _ _, e1.fzIn r.fzin⟩, .bool _⟩
  · exact absurd rfl hbad
theorem soundB_outside {a : X} {i : Nat} (ha : SoundX prog w T base fzT n md a) : SoundB prog w T base fzT n md (.outside a i) := by
  intro A outer L env nm σ ad fz s e hm H hbad ht
  obtain ⟨l, ops, rs, pos, rfl, hm⟩ := atCompare_inv hm
  obtain ⟨op', rfl, hm⟩ := at1_inv hm
  obtain ⟨r, rfl, hm⟩ := at1_inv hm
  obtain ⟨x, px, rfl, hm⟩ := atName_inv hm
  have hop := andL hm
  have hm := andR hm
  cases (of_decide_eq_true hop : op' = .NotIn)
  have h5 := andR hm
  have hm := andL hm
  have h4 := andR hm
  have hm := andL hm
  have h3 := andR hm
  have hm := andL hm
  have h2 := andR hm
  have h1 := andL hm
  unfold ev at hbad ⊢
  refine wpAny_isTrue_Compare1 (useV (ha _ h1 H (bind_bad hbad)) (fun _ _ _ e h => excOf e h) fun x v fz₁ s₁ e r rep => ?_) rfl
  rw [e, Res.bind_ok] at hbad ⊢
  have H₁ := H.step r
  split at hbad
  · rename_i ds hs
    obtain ⟨hv, hf, hz, vs, ⟨k, hp⟩, hr⟩ := H₁.inv _ i _ (eq_of_beq h2) h3 hs
    refine wpAny_Name (load_var H₁.envok hv (ne_beq h5) ?_) (ne_beq h4)
    have hin : FzIn (fzAdd fz₁ (ad i) false vs) s₁.heap := fzAdd_in H₁.fzin hp rfl rfl
    have le : FzLe fz₁ (fzAdd fz₁ (ad i) false vs) := fun b o q => by
      unfold fzAdd
      by_cases z : b = ad i
      · rw [z, hz] at q; cases q
      · rw [if_neg z]; exact q
    cases z : opCmp .NotIn x (.list ds) with
    | bad => exact absurd z hbad
    | exc k => exact (opCmp_exc z).elim
    | ok d =>
      obtain ⟨b, rfl⟩ := opCmp_bool z
      refine wpAny_mono (cmp_good (fs := fsOf outer) (E := fun _ _ => False) H.sit.units70 hin (rep.mono le) (.list (fzAdd_self ..) (hr.mono le)) z) (fun u s₂ g => ?_) fun _ _ q => q.elim
      obtain ⟨fz₂, ⟨h', tk, rfl, e1, _, _⟩, q⟩ := good_iff.mp g
      cases rep_bool_inv q
      exact wpAny_truthy_bool ⟨rfl, fz₁, r.trans ⟨h', tk, rfl, e1, FzExt.refl _ _, e1.fzIn r.fzin⟩⟩
  · exact absurd rfl hbad
/-- an owned copy: list(e) -/
theorem soundS_own_copy (G : GOK prog w T base fzT mg mb n) {i : Nat} {a : X} (ha : SoundX prog w T base fzT n .a a) : SoundS prog w T base fzT n .a (.own i (.bi .list a)) := by
  intro A outer L env nm σ ad fz s e hm H hbad
  obtain ⟨t, pt, v, pos, rfl, hm⟩ := atSet_inv hm
  have h5 := andR hm
  have hm := andL hm
  have h4 := andR hm
  have hm := andL hm
  have h3 := andR hm
  have hm := andL hm
  have h2 := andR hm
  have h1 := andL hm
  obtain ⟨t1, t2, t3, t4⟩ := tgt_is h1
  unfold evS ev at hbad ⊢
  obtain ⟨g, as, kw, cpos, rfl, h3⟩ := atCall_inv h3
  obtain ⟨x, px, rfl, h3⟩ := atName_inv h3
  have hk := andL h3
  have h3 := andR h3
  cases nil_inv hk
  obtain ⟨e₀, rfl, h3⟩ := at1_inv h3
  have g4 := andR h3
  have h3 := andL h3
  have g3 := andR h3
  have h3 := andL h3
  have g2 := andR h3
  have g1 := andL h3
  cases (eq_of_beq g2)
  refine wpAny_Assign_Name (Call_ (built_name G H.here.hi H.here.envok g1 (G.bis .list).1 (G.bis .list).2 (callWith_type1 (args_cons (useS ha rfl g3 H (fun q => by rw [q] at hbad; exact hbad rfl) (fun k q => by rw [q]; rfl) fun d v fz₁ s₁ q r rep => args_nil ?_) (plain_star g4)) (plain_star g4)))) (noSwap_is h5)
  rw [q, Res.bind_ok] at hbad ⊢
  cases d with
  | list ds =>
    by_cases hz : ds.length ≤ 100000
    · simp only [opBi, if_pos hz] at hbad ⊢
      obtain ⟨l, vs, rfl, e1, r1⟩ := rep_list_inv rep
      have hlen := r1.length
      obtain ⟨o, k, ho, hc, hd⟩ := r.fzin _ _ _ e1
      refine call_list_seq l (.inl rfl) ho hc hd (fun h' c' hk hn => ?_) (by simp only [List.size_toArray]; rw [sizeLine_eq]; omega)
      have r2 : Rel (fsOf outer) fz₁ s₁ fz₁ { s₁ with heap := h' } := ⟨_, s₁.toks, rfl, Ext.of_keeps hk, FzExt.refl _ _, (Ext.of_keeps (fs := []) hk).fzIn r.fzin⟩
      have R := r.trans r2
      have new₁ : s₁.heap.get? s₁.heap.objs.size = none := size_none _ (Nat.le_refl _)
      have new₀ : s.heap.get? s₁.heap.objs.size = none := r.ext.none new₁
      have H₁ := H.step r
      refine store_sv (.of_rel H.live R) (H.step R) t1 t2 (.own rfl (fs_old H₁.here.hi new₁) (r.fzin.none new₁) ⟨c', hn⟩ r1 (fun w => ?_) new₀ ?_) fun s' r' h' => ⟨rfl, _, fz₁, r', h'⟩
      · obtain ⟨o, ho⟩ := H₁.live _ w; rw [new₁] at ho; cases ho
      · cases q : base.get? s₁.heap.objs.size with
        | none => rfl
        | some o => have := H₁.here.hi.stays _ _ q; rw [new₁] at this; cases this
    · simp only [opBi, if_neg hz] at hbad; exact absurd rfl hbad
  | _ => exact absurd rfl hbad
theorem entry_unchain : entryFor table "proto.unchain" = some Builtin.«proto.unchain» := entryFor_of_tree (by kernel_rfl)
theorem raiseNew_under {α : Type} {A : Around} {E : Value → Shared → Prop} {s : Shared} {Q : α → Shared → Prop} {a e₀ : Addr} {o o₀ : Obj} {vs vs₀ : Array Value}
    (hh : A.handled = some (.ref e₀)) (g1 : s.heap.get? e₀ = some o₀) (g2 : o₀.data = .fields vs₀) (g3 : vs₀[2]? = some .none) (hne : e₀ ≠ a)
    (ho : s.heap.get? a = some o) (hd : o.data = .fields vs) (hz : 2 < vs.size)
    (h : E (.ref a) { s with heap := s.heap.update a (Obj.mapFields (·.setIfInBounds 2 (.ref e₀))) }) : wpAny (model prog w) A (raiseNew (.ref a) : Sem α) Q E s := by
  unfold raiseNew
  refine wpAny_bind (wpAny_handled ?_)
  rw [hh]
  dsimp only
  rw [if_pos (by simp only [bne_iff_ne, ne_eq, Value.ref.injEq]; exact hne)]
  refine wpAny_bind (wpAny_holding (wpAny_runValue (codeAny_builtin entry_unchain ?_)))
  unfold Builtin.«proto.unchain»
  dsimp only
  refine wpAny_bind (wpAny_field g1 g2 g3 ?_)
  rw [if_pos (by rfl)]
  refine wpAny_bind (wpAny_pure (wpAny_pure ?_))
  refine wpAny_bind ?_
  unfold updateField
  refine wpAny_bind (wpAny_load ho ?_)
  rw [hd]; dsimp only
  rw [if_pos hz]
  refine wpAny_update ho ?_
  exact wpAny_throw h
end
end Mine
end
section
open PySem PySem.W PySem.Calls PyProof.Rows
namespace Mine
section
variable {prog : Program} {w : World} {T : Tab} {base : Heap} {fzT : Fz} {n : Nat} {md : Md} {mg mb : Str → Option Value}
/-- an exception rises while another one, without a context, is handled -/
theorem raise_under {α : Type} {A A' : Around} {E : Value → Shared → Prop} {s : Shared} {msg : String} {fs : List Addr} {L : Addr} {Q : α → Shared → Prop} {k : String} (hp : PlainExc k) (hk : clsL k = k) (hx : HX A s.heap) (hA : A'.handled = A.handled)
    (h : ∀ v s', Bad A.handled fs L s k v s' → E v s') : wpAny (model prog w) A' (raiseErrorWords k msg : Sem α) Q E s := by
  obtain ⟨e₀, o₀, vs₀, hh, g1, g2, g3⟩ := hx
  unfold raiseErrorWords
  refine wpAny_bind (wpAny_mkText (wpAny_bind ?_))
  unfold newExc newTuple
  refine wpAny_bind (wpAny_newObj_type ?_)
  refine wpAny_bind (m := firstArgMember _ _) (wpAny_of_eq (a := Value.none) (by simp only [firstArgMember, hp.first]; rfl) ?_)
  rw [hp.own]
  refine wpAny_newObj_type ?_
  generalize hot : ({ cls := .type "tuple", data := Data.seq _ } : Obj) = ot
  generalize hoe : ({ cls := .type k, data := Data.fields _ } : Obj) = oe
  have n1 : ot.isFreed = false := by rw [← hot]; rfl
  have n2 : oe.isFreed = false := by rw [← hoe]; rfl
  have le : s.heap.objs.size ≤ (s.heap.push ot).objs.size := by show s.heap.objs.size ≤ (s.heap.objs.push ot).size; rw [Array.size_push]; exact Nat.le_succ _
  have new : s.heap.get? (s.heap.push ot).objs.size = none := size_none _ le
  have hne : e₀ ≠ (s.heap.push ot).objs.size := fun q => by rw [← q, g1] at new; cases new
  obtain ⟨vs, hv, hz⟩ : ∃ vs, oe.data = .fields vs ∧ vs.size = 6 ∧ vs[1]? = some .none := ⟨_, by rw [← hoe], by simp, by simp⟩
  have hc : oe.cls = .type k := by rw [← hoe]
  have keep : ∀ b o, s.heap.get? b = some o → ((s.heap.push ot).push oe).get? b = some o := fun b o e => Heap.get?_push_of_some _ (Heap.get?_push_of_some _ e)
  refine raiseNew_under (e₀ := e₀) (o₀ := o₀) (vs₀ := vs₀) (by rw [hA]; exact hh) (keep _ _ g1) g2 g3 hne (Heap.get?_push_size _ n2) hv (by omega) ?_
  refine h _ _ ⟨_, s.toks + 1, _, rfl, rfl, Ext.of_keeps fun b o e => ?_, new, _, vs.setIfInBounds 2 (.ref e₀), Heap.get?_update_self _ (Heap.get?_push_size _ n2) ?_, ?_, ?_, ⟨?_, fun q => ?_⟩, .inl ?_⟩
  · refine (Heap.get?_update_other _ _ (fun q => ?_)).trans (keep b o e)
    rw [← q, new] at e; cases e
  · obtain ⟨c, d, dt, sl⟩ := oe; simp only at hv; subst hv; rfl
  · rw [hk]; obtain ⟨c, d, dt, sl⟩ := oe; simp only at hv; subst hv; exact hc
  · obtain ⟨c, d, dt, sl⟩ := oe; simp only at hv; subst hv; rfl
  · simp [hz.1]
  · rw [hh] at q; cases q
  · rw [Array.getElem?_setIfInBounds_ne (by decide)]; exact hz.2
theorem getItem_list_out_b {A A' : Around} {E : Value → Shared → Prop} {s : Shared} {fs : List Addr} {L l : Addr} {items : Array Value} {k : Int} {t : Tok} {Q : Value → Shared → Prop} (hx : HX A s.heap) (hA : A'.handled = A.handled) (hl : s.heap.IsList l items)
    (hout : (items.size : Int) ≤ k) (hhi : k < 2 ^ 63) (hE : ∀ v s', Bad A.handled fs L s "IndexError" v s' → E v s') :
    wpAny (model prog w) A' (getItem (.ref l) (.int k t)) Q E s := by
  obtain ⟨o, ho, hc, ne, hd⟩ := id hl
  unfold getItem
  try with_reducible refine wpAny_holding ?_
  first | refine wpAny_bind (wpAny_pure ?_) | skip
  refine wpAny_bind (wpAny_sequenceKey hl.typeIs (by decide) ?_)
  refine wpAny_bind (wpAny_callSpecial?_slot (name := Str.ofString "__getitem__") hl.typeIs slot_list_getitem
    (wpAny_call_entry slot_list_getitem hl.typeIs entry_list_getitem ?_ (args_list_getitem _ _)))
  show wpAny _ _ (Builtin.List.listSubscript? (.int k t) >>= _) _ _ s
  refine wpAny_bind (wpAny_listSubscript_int (fitsIndex_both (by omega) hhi) ?_)
  clear hhi
  obtain ⟨j, rfl⟩ : ∃ j : Nat, k = Int.ofNat j := ⟨k.toNat, by simp only [Int.ofNat_eq_natCast]; omega⟩
  have hx' : items[j]? = none := Array.getElem?_eq_none (by have : (items.size : Int) ≤ (j : Int) := hout; omega)
  show wpAny _ _ ((seqItemAt l j >>= fun r => pure (r.map (j, ·))) >>= _) _ _ s
  refine wpAny_bind (wpAny_bind (wpAny_seqItemAt ho hd (wpAny_pure ?_)))
  rw [hx']
  first
    | exact wpAny_bind (wpAny_rule (raise_under plainExc_IndexError (by decide) hx hA hE))
    | exact wpAny_bind (wpAny_rule (wpAny_bind (raise_under plainExc_IndexError (by decide) hx hA hE)))
    | exact wpAny_bind (wpAny_bind (wpAny_rule (raise_under plainExc_IndexError (by decide) hx hA hE)))
    | exact wpAny_rule (raise_under plainExc_IndexError (by decide) hx hA hE)
theorem sound_idx_b {a b : X} (ha : SoundX prog w T base fzT n .b a) (hb : SoundX prog w T base fzT n .b b) : SoundX prog w T base fzT n .b (.idx a b) := by
  intro A outer L env nm σ ad fz s e hm H hbad
  obtain ⟨v, i, pos, rfl, hm⟩ := atSubscript_inv hm
  have h3 := andR hm
  have hm := andL hm
  have h2 := andR hm
  have h1 := andL hm
  unfold ev at hbad ⊢
  refine Subscript_ (useV (ha _ h1 H (bind_bad hbad)) (fun _ _ _ e h => excOf e h) fun x v fz₁ s₁ e r rep => ?_)
  rw [e, Res.bind_ok] at hbad ⊢
  refine useV (hb _ h2 (H.step r) (bind_bad hbad)) (fun _ _ _ e h => PostE.after r (excOf e h)) fun y u fz₂ s₂ e' r' rep' => ?_
  rw [e', Res.bind_ok] at hbad ⊢
  refine finV (r.trans r') ?_
  cases z : opIdx x y with
  | bad => exact absurd z hbad
  | ok d => exact idx_good (plain_sub h3) r'.fzin (rep.mono r'.fz.le) rep' z
  | exc k =>
    unfold opIdx at z
    split at z
    · split at z
      · rename_i hk
        split at z
        · cases z
        · rename_i hn
          cases z
          obtain ⟨l, vs, rfl, e1, r1⟩ := rep_list_inv (rep.mono r'.fz.le)
          obtain ⟨t, rfl⟩ := rep_int_inv rep'
          have hl := r1.length
          have hlt : _ := List.getElem?_eq_none_iff.mp hn
          have hX : HX A s₂.heap := ((H.step r).step r').hx rfl
          refine tail_any (r'.fzin.isList e1).typeIs slot_list_getitem.lookup (getItem_list_out_b hX rfl (r'.fzin.isList e1) (by simp only [List.size_toArray]; omega) (by omega) fun v s' hx => hx) (plain_sub h3 _ _)
      · cases z
    · split at z <;> (try split at z) <;> cases z
    · split at z <;> (try split at z) <;> cases z
    · cases z
end
end Mine
end
section
open PySem PySem.W PySem.Calls PyProof.Rows
namespace Mine
section
variable {prog : Program} {w : World} {T : Tab} {base : Heap} {fzT : Fz} {n : Nat} {md : Md} {mg mb : Str → Option Value} {A : Around} {outer : List Env} {L : Addr} {env : Env} {nm : List Str} {σ : List SV} {ad : Nat → Addr} {fz : Fz} {s : Shared}
theorem list_extend_gen (l : Addr) (items : Array Value) (n : Nat) (b : Addr) (items2 : Array Value) (n2 : Nat) (d : Option Addr) (sl : Array (Option Value)) (hc0 : ¬(!items.isEmpty && Builtin.List.listTooLong (items.size + items2.size)) = true) (hc1 : items.size ≤ sizeLine) (hs2 : items.size + items2.size ≤ sizeLine + 1) :
    Meets (Builtin.«list.extend» ⟨[.ref l, .ref b], []⟩) (fun _ R s => s.heap.get? l = some { cls := .type "list", dict := none, data := .seq items n, slots := #[] } ∧ s.heap.get? b = some { cls := .type "list", dict := d, data := .seq items2 n2, slots := sl } ∧ R (.ok (.ret Value.none)) { s with heap := s.heap.update l (Obj.mapSeq fun x => x ++ items2), toks := s.toks }) :=
  .of_wp fun prog w A R s h => by
    obtain ⟨hp, g, dr, tk, os⟩ := s; obtain ⟨hl, hb, h⟩ := h; have f1 := AutoSeq1.idx_int; have f2 := AutoSeq1.sub_tuple_tuple; have f3 := AutoSeq1.sub_list_list; have f4 := AutoSeq1.sub_tuple_list; have f5 := AutoSeq1.sub_list_tuple
    have hz' : (items ++ items2).size ≤ sizeLine + 1 := by rw [Array.size_append]; exact hs2
    wp_walk using (wpAny_updateSeq hl rfl (hz := hc1) (_hz' := hz')), wpAny_loadPart' hl, wpAny_loadPart' hb
    exact ⟨_, rfl, h⟩
theorem not_tooLong {k m : Nat} (h : k + m < 100000) (e : Bool) : ¬(!e && Builtin.List.listTooLong (k + m)) = true := by
  have : Builtin.List.listTooLong (k + m) = false := by unfold Builtin.List.listTooLong; simp [sizeLine_eq]; omega
  rw [this]; cases e <;> decide
theorem plain_update {h : Heap} {a : Addr} {xs : Array Value} (f : Array Value → Array Value) (hp : h.PlainList a xs) : (h.update a (Obj.mapSeq f)).PlainList a (f xs) ∧ Heap.SameBut a h (h.update a (Obj.mapSeq f)) := by
  obtain ⟨k, hk⟩ := hp
  exact ⟨⟨_, IsL.update hk f⟩, Heap.SameBut.update ..⟩
theorem soundS_extend {i : Nat} {x : X} (hx : SoundX prog w T base fzT n md x) : SoundS prog w T base fzT n md (.extend i x) := by
  intro A outer L env nm σ ad fz s e hm H hbad
  obtain ⟨t, pt, name, apos, e₀, cpos, pos, rfl, hm⟩ := atMeth_inv hm
  have h5 := andR hm
  have hm := andL hm
  have h4 := andR hm
  have hm := andL hm
  have h3 := andR hm
  have hm := andL hm
  have h2 := andR hm
  have h1 := andL hm
  cases (eq_of_beq h2)
  unfold evS at hbad ⊢
  cases hi : σ[i]? with
  | none => rw [hi] at hbad; exact absurd rfl hbad
  | some sv =>
    cases sv with
    | un => rw [hi] at hbad; exact absurd rfl hbad
    | val d => rw [hi] at hbad; exact absurd rfl hbad
    | own ds =>
      simp only [hi] at hbad ⊢
      have tr : backTo cpos (starEach [e₀] env) = [(false, eval e₀ env)] := by rw [plain_star h5]; rfl
      refine wpAny_Expr_any (wpAny_Call_method rfl (by rw [tr]; rfl) h3 F.plainAttrs_list F.slot_list_extend F.type_list_extend (load_own H hi h1 ?_)) (not_interactive H.here.envok)
      obtain ⟨_, vs, _, _, _, _, ⟨k, hp⟩, hr⟩ := H.ownAt hi
      refine ⟨⟨_, hp, rfl⟩, fun a q => by cases q; exact ⟨_, hp, rfl⟩, ?_⟩
      rw [tr]
      refine seqMethod1_meets F.slot_list_extend F.entry_list_extend ?_
      refine useS hx rfl h4 H (fun q => by rw [q] at hbad; exact hbad rfl) (fun k q => by rw [q]) fun d v fz₁ s₁ q r rep => ?_
      rw [q] at hbad ⊢
      have H₁ := H.step r
      obtain ⟨_, vs₁, _, _, _, _, hp₁, hr₁⟩ := H₁.ownAt hi
      have hlen := hr₁.length
      cases d with
      | list es =>
        by_cases hz : ds.length + es.length < 100000
        · simp only [if_pos hz]
          obtain ⟨b, us, rfl, e1, r1⟩ := rep_list_inv rep
          have hlen2 := r1.length
          obtain ⟨⟨c, dd, dt, sl⟩, kb, ho, hc, hd⟩ := r.fzin _ _ _ e1
          simp only at hc hd; subst hc hd
          obtain ⟨k₁, hk₁⟩ := id hp₁
          refine ⟨⟨_, hk₁, rfl⟩, F.args_list_extend_2 _ _, _, list_extend_gen (ad i) _ k₁ b _ kb dd sl (by simp only [List.size_toArray]; rw [hlen, hlen2]; exact not_tooLong hz _) (by simp only [List.size_toArray]; rw [sizeLine_eq]; omega) (by simp only [List.size_toArray]; rw [sizeLine_eq]; omega), hk₁, ho, ?_⟩
          obtain ⟨u1, u2⟩ := plain_update (· ++ us.toArray) hp₁
          obtain ⟨a, b⟩ := own_upd (tk := s₁.toks) (vs' := vs₁ ++ us) (.of_rel H.live r) H₁ hi u2 (by simpa using u1) (hr₁.append r1)
          exact ⟨rfl, ad, fz₁, a, b⟩
        · simp only [if_neg hz] at hbad; exact absurd rfl hbad
      | _ => exact absurd rfl hbad
end
end Mine
end
section
open PySem PySem.W PySem.Calls PyProof.Rows
namespace Mine
section
variable {prog : Program} {w : World} {T : Tab} {base : Heap} {fzT : Fz} {n : Nat} {md : Md} {mg mb : Str → Option Value} {A : Around} {outer : List Env} {L : Addr} {env : Env} {nm : List Str} {σ : List SV} {ad : Nat → Addr} {fz : Fz} {s : Shared}
theorem removeLoop {fz : Fz} {l : Addr} {n : Nat} {v : Value} {d : PyData} (rv : Rep fz v d) (kd : d.canLay0 = true) (dd : d.depth ≤ 6) :
    ∀ (post : List Value) (ds : List PyData) (pre : List Value), RepAll fz post ds → PyData.canLayAll0 ds = true → (pre ++ post).length ≤ 100000 → Meets (Builtin.«list.remove.loop» ⟨[.ref l, v, rawInt pre.length], []⟩)
      (fun A R s => IsL s.heap l (pre ++ post).toArray n ∧ FzIn fz s.heap ∧ A.units + 70 < cLine ∧
        (∀ j es, removeD d ds = some es → RepAll fz (post.eraseIdx j) es → R (.ok (.ret .none)) { s with heap := s.heap.update l (Obj.mapSeq fun xs => xs.eraseIdxIfInBounds (pre.length + j)) }) ∧
        (removeD d ds = none → raisesNew "ValueError" A R s))
  | [], ds, pre, hr, hk, hz => by
    cases hr
    intro prog w A R s h
    obtain ⟨hp, g, dr, tk, os⟩ := s; obtain ⟨hl, hf, hu, _, h⟩ := h
    wp_walk using AutoSeq1.wpAny_loadPart' hl
    have hi : (pre ++ []).toArray[((pre.length : Nat) : Int).toNat]? = none := by simp
    rw [hi]
    wp_walk
    exact_raiseError plainExc_ValueError (h rfl).1 (h rfl).2
  | y :: post, ds, pre, hr, hk, hz => by
    cases hr with
    | cons ry hr =>
    rename_i dy ds
    intro prog w A R s h
    obtain ⟨hp, g, dr, tk, os⟩ := s; obtain ⟨hl, hf, hu, h1, h2⟩ := h
    wp_walk using AutoSeq1.wpAny_loadPart' hl
    have hi : (pre ++ y :: post).toArray[((pre.length : Nat) : Int).toNat]? = some y := by simp
    rw [hi]
    obtain ⟨_, q1⟩ := ry.reads hf; obtain ⟨_, q2⟩ := rv.reads hf
    have ky : dy.canLay0 = true ∧ PyData.canLayAll0 ds = true := by simpa [PyData.canLayAll0] using hk
    refine wpAny_bind (SeqAt.eqBoolOverData prog w _ _ _ _ _ _ _ _ _ _ q1 q2 ky.1 kd (by have : A.in1.units ≤ A.units + 1 := Nat.le_refl _; omega) ?_)
    cases he : PyData.eqv dy d with
    | true =>
      have hr0 : removeD d (dy :: ds) = some ds := by unfold removeD; rw [if_pos he]
      have hs1 : (pre ++ y :: post).toArray.size ≤ sizeLine := by simp only [List.size_toArray]; rw [sizeLine_eq]; omega
      have hz' : ((pre ++ y :: post).toArray.eraseIdxIfInBounds ((pre.length : Nat) : Int).toNat).size ≤ sizeLine + 1 := Nat.le_trans (MeetsSeq.size_erased _ _) (Nat.le_succ_of_le hs1)
      wp_walk using (wpAny_updateSeq hl rfl (hz := hs1) (_hz' := hz')), AutoSeq1.wpAny_loadPart' hl
      exact h1 0 ds hr0 (by simpa using hr)
    | false =>
      have hr0 : removeD d (dy :: ds) = (removeD d ds).map (dy :: ·) := by rw [removeD, he]; rfl
      wp_walk
      have hc : ((pre.length : Int) + 1) = (((pre ++ [y]).length : Nat) : Int) := by simp
      rw [hc]
      refine ⟨plainId_quiet MeetsSeq.plain_remove_loop _, codeAny_builtin MeetsSeq.entry_remove_loop ?_⟩
      rw [Around.under_plainId MeetsSeq.plain_remove_loop _]
      refine removeLoop rv kd dd post ds (pre ++ [y]) hr ky.2 (by simpa using hz) prog w A R _ ⟨by simpa using hl, hf, hu, fun j es q1 q2 => ?_, fun q => ?_⟩
      · have := h1 (j + 1) (dy :: es) (by rw [hr0, q1]; rfl) (by simpa using RepAll.cons ry q2)
        have ej : (pre ++ [y]).length + j = pre.length + (j + 1) := by simp; omega
        rw [ej]; exact this
      · exact h2 (by rw [hr0, q]; rfl)
theorem listRemove {fz : Fz} {l : Addr} {n : Nat} {v : Value} {d : PyData} {vs : List Value} {ds : List PyData} (rv : Rep fz v d) (kd : okD d = true) (kl : okD (.list ds) = true) (hr : RepAll fz vs ds) (hz : ds.length ≤ 100000) : Meets (Builtin.«list.remove» ⟨[.ref l, v], []⟩)
      (fun A R s => IsL s.heap l vs.toArray n ∧ FzIn fz s.heap ∧ A.units + 70 < cLine ∧
        (∀ j es, removeD d ds = some es → RepAll fz (vs.eraseIdx j) es → R (.ok (.ret .none)) { s with heap := s.heap.update l (Obj.mapSeq fun xs => xs.eraseIdxIfInBounds j) }) ∧
        (removeD d ds = none → raisesNew "ValueError" A R s)) := by
  intro prog w A R s h
  obtain ⟨hp, g, dr, tk, os⟩ := s; obtain ⟨hl, hf, hu, h1, h2⟩ := h
  have hlen := hr.length
  wp_walk using AutoSeq1.wpAny_loadPart' hl
  refine ⟨plainId_quiet MeetsSeq.plain_remove_loop _, codeAny_builtin MeetsSeq.entry_remove_loop ?_⟩
  rw [Around.under_plainId MeetsSeq.plain_remove_loop _]
  refine removeLoop rv (okD_lay kd).1 (okD_lay kd).2 vs ds [] hr (okD_list_lay kl) (by simp only [List.nil_append]; omega) prog w A R _ ⟨hl, hf, hu, fun j es q1 q2 => ?_, h2⟩
  have := h1 j es q1 q2
  simpa using this
theorem soundS_remove {i : Nat} {x : X} (hx : SoundX prog w T base fzT n .a x) : SoundS prog w T base fzT n .a (.remove i x) := by
  intro A outer L env nm σ ad fz s e hm H hbad
  obtain ⟨t, pt, name, apos, e₀, cpos, pos, rfl, hm⟩ := atMeth_inv hm
  have h5 := andR hm
  have hm := andL hm
  have h4 := andR hm
  have hm := andL hm
  have h3 := andR hm
  have hm := andL hm
  have h2 := andR hm
  have h1 := andL hm
  cases (eq_of_beq h2)
  unfold evS at hbad ⊢
  cases hi : σ[i]? with
  | none => rw [hi] at hbad; exact absurd rfl hbad
  | some sv =>
    cases sv with
    | un => rw [hi] at hbad; exact absurd rfl hbad
    | val d => rw [hi] at hbad; exact absurd rfl hbad
    | own ds =>
      simp only [hi] at hbad ⊢
      have tr : backTo cpos (starEach [e₀] env) = [(false, eval e₀ env)] := by rw [plain_star h5]; rfl
      refine wpAny_Expr_any (wpAny_Call_method rfl (by rw [tr]; rfl) h3 F.plainAttrs_list F.slot_list_remove F.type_list_remove (load_own H hi h1 ?_)) (not_interactive H.here.envok)
      obtain ⟨_, vs, _, _, _, _, ⟨k, hp⟩, hr⟩ := H.ownAt hi
      refine ⟨⟨_, hp, rfl⟩, fun a q => by cases q; exact ⟨_, hp, rfl⟩, ?_⟩
      rw [tr]
      refine seqMethod1_meets F.slot_list_remove F.entry_list_remove ?_
      refine useS hx rfl h4 H (fun q => by rw [q] at hbad; exact hbad rfl) (fun k q => by rw [q]) fun d v fz₁ s₁ q r rep => ?_
      rw [q] at hbad ⊢
      have H₁ := H.step r
      obtain ⟨_, vs₁, _, _, _, _, hp₁, hr₁⟩ := H₁.ownAt hi
      by_cases hz : (okD d && okD (.list ds) && decide (ds.length < 100000)) = true
      · simp only [if_pos hz] at hbad ⊢
        have hz3 := andR hz
        have hz1 := andL hz
        have hz2 := andR hz1
        have hz1 := andL hz1
        have hz3 := of_decide_eq_true hz3
        obtain ⟨k₁, hk₁⟩ := id hp₁
        refine ⟨⟨_, hk₁, rfl⟩, F.args_list_remove_2 _ _, _, listRemove (l := ad i) (n := k₁) rep hz1 hz2 hr₁ (by omega), hk₁, H₁.here.fzin, H₁.here.sit.units70, fun j es q1 q2 => ?_, fun q => ⟨H₁.here.sit.handled rfl, fun h' tk e hx => ?_⟩⟩
        · rw [q1]
          obtain ⟨u1, u2⟩ := plain_update (fun xs => xs.eraseIdxIfInBounds j) hp₁
          obtain ⟨a, b⟩ := own_upd (tk := s₁.toks) (vs' := vs₁.eraseIdx j) (.of_rel H.live r) H₁ hi u2 (by simpa using u1) q2
          exact ⟨rfl, ad, fz₁, a, b⟩
        · rw [q]
          have B : Bad A.handled (fsOf outer) L s "ValueError" (.ref e) { s₁ with heap := h', toks := tk } := PostE.after (r := .exc "ValueError") r (newExc_bad (hd := A.handled) (fs := fsOf outer) (L := L) (tk := tk) (by decide) hx)
          show PostX base fzT .a n A outer L env nm σ ad fz s (.exc "ValueError" σ) (.ref e) { s₁ with heap := h', toks := tk }
          obtain ⟨h'', tk', ex, e0, e00, e1, e2⟩ := B
          cases e00
          have r2 : Rel (fsOf outer) fz₁ s₁ fz₁ { s₁ with heap := h', toks := tk } := ⟨h', tk, rfl, Ext.of_keeps hx.keeps, FzExt.refl _ _, (Ext.of_keeps (fs := []) hx.keeps).fzIn r.fzin⟩
          have R := r.trans r2
          have e3 : h' = h'' := congrArg (·.heap) e0
          subst e3
          refine ⟨e, ad, fz₁, rfl, .of_rel H.live R, H.step R, excAt_hd e2, fun w => ?_⟩
          obtain ⟨o, ho⟩ := H.live e w
          rw [e2.new] at ho; cases ho
      · simp only [if_neg hz] at hbad; exact absurd rfl hbad
end
end Mine
end
section
open PySem PySem.W PySem.Calls PyProof.Rows
namespace Mine
section
variable {prog : Program} {w : World} {T : Tab} {base : Heap} {fzT : Fz} {n : Nat} {md : Md} {mg mb : Str → Option Value} {A : Around} {outer : List Env} {L : Addr} {env : Env} {nm : List Str} {σ : List SV} {ad : Nat → Addr} {fz : Fz} {s : Shared}
/-- a comprehension whose list is handed on -/
noncomputable def SoundC (prog : Program) (w : World) (T : Tab) (base : Heap) (fzT : Fz) (n : Nat) (x : X) : Prop :=
  ∀ {A : Around} {outer : List Env} {L : Addr} {env : Env} {nm : List Str} {σ : List SV} {ad : Nat → Addr} {fz : Fz} {s : Shared} (e : Expr) (gens : List Comprehension) (scope : Scope) (pos : Pos),
    Mx T env.scope.names nm x (.ListComp e gens scope pos) = true → Here base fzT .a n A outer L env nm σ ad fz s → ∀ out, ev T x σ = .ok (.list out) → ∀ {E : Value → Shared → Prop} (use : Option (Value → Sem Unit)) (Q : Value → Shared → Prop),
    (∀ acc C r s', compPost (model prog w) A (fun _ _ => False) none (Good (fsOf outer) fz s (.list out)) acc C r s' → compPost (model prog w) A E use Q acc C r s') →
    wpAny (model prog w) A (comprehension (.ListComp e gens scope pos) scope env (firstIterPos gens pos) (newList []) (firstAsync gens) (firstIter gens env) use) Q E s
theorem soundC_comp {src cond elt : X} (hs : SoundX prog w T base fzT n .a src) (hc : SoundB prog w T base fzT n .a cond) (he : SoundX prog w T base fzT n .a elt) : SoundC prog w T base fzT n (.comp src cond elt) := by
  intro A outer L env nm σ ad fz s e₁ gens₁ scope₁ pos₁ hm H out ho E use Q hQ
  obtain ⟨e₀, gens, scope, pos, hE, hm⟩ := atListComp_inv hm
  cases hE
  obtain ⟨⟨tg, iter, ifs, asy⟩, rfl, hm⟩ := at1_inv hm
  obtain ⟨t, pt, htg, hm⟩ := atName_inv hm
  cases (htg : tg = _)
  have hz := andL hm
  have hm := andR hm
  cases (of_decide_eq_true hz : asy = 0)
  have h7 := andR hm
  have hm := andL hm
  have h6 := andR hm
  have hm := andL hm
  have h5 := andR hm
  have hm := andL hm
  have h4 := andR hm
  have hm := andL hm
  have h3 := andR hm
  have hm := andL hm
  have h2 := andR hm
  have h1 := andL hm
  have X := compCx_of h3
  unfold ev at ho
  have hb1 : ev T src σ ≠ .bad := fun q => by rw [q] at ho; cases ho
  refine wpAny_comprehension_free (use := use) rfl (plain_set h2) (clos_is (cells_some X H.envok)) X.kind (names_local X.nodup) ?_
  refine useV (hs iter h1 H hb1) (fun k _ _ e h => by rw [e] at ho; cases ho) fun d v fz₁ s₁ q r rep => ?_
  rw [q, Res.then_ok] at ho
  have H₁ := H.step r
  cases z : itemsOf d with
  | none => simp only [z] at ho; cases ho
  | some ds =>
    simp only [z] at ho
    have hlen : ds.length ≤ 100000 := by
      unfold itemsOf at z
      split at z <;> first | (split at z <;> first | (cases z; assumption) | cases z) | cases z
    refine wpAny_mono (iter_good (E := fun _ _ => False) (H₁.sit.handled rfl) H₁.hi H₁.fzin rep z) (fun it s₂ g => ?_) fun _ _ f => f.elim
    refine wpAny_mono (comp_run (E := fun _ _ => False) (pt := pt) (iter := iter) (pos := pos₁) H₁ X (tgt_own h4) hc he (ifs_cases h7) h5 g hlen ho) (fun acc s₃ k => ?_) fun _ _ f => f.elim
    refine wpAny_mono k (fun cenv s₄ k => ?_) fun _ _ f => f.elim
    exact codeAny_mono k fun rr s' k => hQ _ _ _ _ (compPost_after (fun _ _ g => Good.after r g) k)
theorem soundC_compR (G : GOK prog w T base fzT mg mb n) {a b c : Int} {cond elt : X} (hc : SoundB prog w T base fzT n .a cond) (he : SoundX prog w T base fzT n .a elt) : SoundC prog w T base fzT n (.compR a b c cond elt) := by
  intro A outer L env nm σ ad fz s e₁ gens₁ scope₁ pos₁ hm H out ho E use Q hQ
  obtain ⟨e₀, gens, scope, pos, hE, hm⟩ := atListComp_inv hm
  cases hE
  obtain ⟨⟨tg, iter, ifs, asy⟩, rfl, hm⟩ := at1_inv hm
  obtain ⟨t, pt, htg, hm⟩ := atName_inv hm
  cases (htg : tg = _)
  have hz := andL hm
  have hm := andR hm
  cases (of_decide_eq_true hz : asy = 0)
  have h7 := andR hm
  have hm := andL hm
  have h6 := andR hm
  have hm := andL hm
  have h5 := andR hm
  have hm := andL hm
  have h4 := andR hm
  have hm := andL hm
  have h3 := andR hm
  have h1 := andL hm
  have X := compCx_of h3
  unfold ev at ho
  have hp : ∀ x, foldedSetIterable iter env x = pure x := range_set h1
  refine wpAny_comprehension_free (use := use) rfl hp (clos_is (cells_some X H.envok)) X.kind (names_local X.nodup) ?_
  by_cases hr : rangeOk a b c = true
  · rw [if_pos hr] at ho
    have hk := hr
    unfold rangeOk at hk
    have k4 := andR hk
    have hk := andL hk
    have k3 := andR hk
    have hk := andL hk
    have k2 := andR hk
    have k1 := andL hk
    have k2' := andR k2
    have k2 := andL k2
    have hlen : (rangeD a b c).length ≤ 100000 := by
      have := of_decide_eq_true k4; unfold rangeD; simp only [List.length_map, List.length_range]; omega
    refine wpAny_mono (range_good (E := fun _ _ => False) G H.hi H.envok h1 (of_decide_eq_true k2) (of_decide_eq_true k2')) (fun v s₁ g => ?_) fun _ _ f => f.elim
    refine wpAny_mono (iter_range (E := fun _ _ => False) (fz := fz) (H.sit.handled rfl) H.hi hr g) (fun it s₂ g => ?_) fun _ _ f => f.elim
    refine wpAny_mono (comp_run (E := fun _ _ => False) (pt := pt) (iter := iter) (pos := pos₁) H X (tgt_own h4) hc he (ifs_cases h7) h5 g hlen ho) (fun acc s₃ k => ?_) fun _ _ f => f.elim
    refine wpAny_mono k (fun cenv s₄ k => ?_) fun _ _ f => f.elim
    exact codeAny_mono k fun rr s' k => hQ _ _ _ _ k
  · rw [if_neg hr] at ho; cases ho
theorem compPost_E {M : Model} {A : Around} {E : Value → Shared → Prop} {Q Q' : Value → Shared → Prop} {acc : Value} {C : Addr} {r : Result} {s' : Shared} (hQ : ∀ v s, Q v s → Q' v s) (h : compPost M A (fun _ _ => False) none Q acc C r s') : compPost M A E none Q' acc C r s' := by
  unfold compPost at h ⊢
  cases r with
  | ok f => obtain ⟨m, a, b⟩ := h; exact ⟨m, a, fun h' hs => hQ _ _ (b h' hs)⟩
  | error x =>
    obtain ⟨m, hn, h⟩ := h
    exact ⟨m, hn, fun h' hs cenv hc => wpAny_mono (h h' hs cenv hc) (fun _ _ f => f) fun _ _ f => f.elim⟩
/-- a comprehension as an expression -/
theorem soundX_C {x : X} (hx : SoundC prog w T base fzT n x) (hl : ∀ σ, ev T x σ ≠ .bad → ∃ out, ev T x σ = .ok (.list out)) (he : ∀ sc nm e, Mx T sc nm x e = true → ∃ e₀ gens scope pos, e = .ListComp e₀ gens scope pos) : SoundX prog w T base fzT n .a x := by
  intro A outer L env nm σ ad fz s e hm H hbad
  obtain ⟨e₀, gens, scope, pos, rfl⟩ := he _ _ _ hm
  obtain ⟨out, ho⟩ := hl σ hbad
  rw [eval_ListComp, ho]
  exact hx e₀ gens scope pos hm H out ho none _ fun acc C r s' k => compPost_E (fun _ _ g => g) k
theorem swaps_is {t : Str} {p : Pos} {e : Expr} {gens : List Comprehension} {scope : Scope} {lp : Pos} {line : Nat} (hk : env.blockKind = .function) (h1 : env.scope.names.lookup t = some .local) (h2 : (p.line == lp.line) = true) (h3 : (!(scope.names.any fun (m, k) => m == t && (k == .local || k == .cell))) = true) :
    swapsWith (.ListComp e gens scope lp) (some (.Name t p)) line env = pure true := by
  have hl : (env.kindOf t == some NameKind.local) = true := by show (env.scope.names.lookup t == some NameKind.local) = true; rw [h1]; rfl
  have e : swapsWith (.ListComp e gens scope lp) (some (.Name t p)) line env = pure (env.blockKind == .function && env.kindOf t == some .local && p.line == lp.line && !(scope.names.any fun (m, k) => m == t && (k == .local || k == .cell))) := rfl
  rw [e, hk, hl, h2, h3]
  rfl
theorem post_used {E : Value → Shared → Prop} {i : Nat} {t : Str} {p : Pos} {acc : Value} {C : Addr} {r : Result} {s' : Shared} {d : PyData} (H : HereS base fzT md n A outer L env nm σ ad fz s) (ht : tgt env.scope.names nm i t = true)
    (h : compPost (model prog w) A (fun _ _ => False) none (Good (fsOf outer) fz s d) acc C r s') :
    compPost (model prog w) A E (some (assign (.Name t p) env)) (fun _ s'' => ∃ ad' fz', RelS env (fsOf outer) σ ad fz s (putV σ i d) ad' fz' s'' ∧ HereS base fzT md n A outer L env nm (putV σ i d) ad' fz' s'') acc C r s' := by
  obtain ⟨t1, t2, t3, t4⟩ := tgt_is ht
  unfold compPost at h ⊢
  cases r with
  | error x =>
    obtain ⟨m, hn, h⟩ := h
    refine ⟨m, hn, fun h' hs cenv hc => ?_⟩
    exact wpAny_mono (h h' hs cenv hc) (fun _ _ f => f) fun _ _ f => f.elim
  | ok f =>
    obtain ⟨m, hn, h⟩ := h
    have hC : s.heap.get? C = none := by
      cases q : s.heap.get? C with
      | none => rfl
      | some o =>
        obtain ⟨o', es, ep, ho, hd, _⟩ := id hn
        obtain ⟨fz₁, ⟨h1, tk1, e1, x1, _, _⟩, _⟩ := good_iff.mp (h (s'.heap.update C (fun o => { o with data := .seq #[] })) (Heap.SameBut.update ..))
        obtain ⟨fz₂, ⟨h2, tk2, e2, x2, _, _⟩, _⟩ := good_iff.mp (h _ (Heap.SameBut.refl _ _))
        have e1' : s'.heap.update C (fun o => { o with data := .seq #[] }) = h1 := congrArg (·.heap) e1
        have e2' : s'.heap = h2 := congrArg (·.heap) e2
        rw [← e1'] at x1; rw [← e2'] at x2
        obtain ⟨sl1, g1, _⟩ := x1 C o q
        obtain ⟨sl2, g2, _⟩ := x2 C o q
        rw [Heap.get?_update_self _ ho rfl] at g1
        rw [ho] at g2
        have a1 := congrArg (fun o => o.map (·.data)) g1
        have a2 := congrArg (fun o => o.map (·.data)) g2
        simp only [Option.map_some, Option.some.injEq] at a1 a2
        rw [← a2, hd] at a1; cases a1
    obtain ⟨fz₁, R, rep⟩ := good_iff.mp (h _ (Heap.SameBut.refl _ _))
    have H₁ := H.step R
    have nC : ¬ WrS env σ ad C := fun w => by
      obtain ⟨o, ho⟩ := H.live C w; rw [hC] at ho; cases ho
    refine wpAny_assign_Name (store_sv (a' := 0) (RelS.refl H₁) H₁ t1 t2 (.val rep) fun s'' r' h' => ?_)
    have hC' : s''.heap.Ns C m := r'.ext.ns nC hn
    refine ⟨m, hC', fun h2 hs2 => ⟨fun j => if j = i then 0 else ad j, fz₁, ?_, ?_⟩⟩
    · refine RelS.other (W := (· = C)) (tk := s''.toks) (RelS.trans (.of_rel H.live R) r') (ExtW.of_but hs2 rfl) (fun b q => by rw [q]; exact hC) fun b hb q => ?_
      rw [q] at hb; exact nC hb
    · obtain ⟨oC, es, ep, hoC, hdC, _⟩ := id hn
      refine HereS.other (W := (· = C)) (tk := s''.toks) h' (ExtW.of_but hs2 rfl) (fun b q hb => ?_) (fun b q => ?_) (fun b q => ?_) (fun b q => ?_) fun q a ha z => ?_
      · rw [q] at hb
        rcases r'.wr C hb with z | z
        · exact nC z
        · rw [hoC] at z; cases z
      · rw [q]
        cases z : fz₁ C with
        | none => rfl
        | some y =>
          obtain ⟨tt, vs⟩ := y
          obtain ⟨o, k, g1, _, g3⟩ := R.fzin C tt vs z
          rw [hoC] at g1; cases g1; rw [hdC] at g3; cases g3
      · rw [q]; exact fs_old H.here.hi hC
      · rw [q]
        cases z : base.get? C with
        | none => rfl
        | some o => have := H.here.hi.stays _ _ z; rw [hC] at this; cases this
      · obtain ⟨e, o, vs, g1, g2, _⟩ := H.here.hx q
        rw [ha] at g1; cases g1
        rw [z, hC] at g2; cases g2
theorem soundS_assignL {i : Nat} {x : X} (hx : SoundC prog w T base fzT n x) (hxl : ∀ σ, ev T x σ ≠ .bad → ∃ out, ev T x σ = .ok (.list out)) : SoundS prog w T base fzT n .a (.assignL i x) := by
  intro A outer L env nm σ ad fz s e hm H hbad
  obtain ⟨t, p, v, pos, rfl, hm⟩ := atSet_inv hm
  obtain ⟨e₀, gens, scope, lp, rfl, hm⟩ := atListComp_inv hm
  have h5 := andR hm
  have hm := andL hm
  have h4 := andR hm
  have hm := andL hm
  have h3 := andR hm
  have hm := andL hm
  have h2 := andR hm
  have h1 := andL hm
  unfold evS at hbad ⊢
  cases z : ev T x σ with
  | bad => rw [z] at hbad; exact absurd rfl hbad
  | exc k => rw [z] at hbad; exact absurd rfl hbad
  | ok d =>
    obtain ⟨out, hz⟩ := hxl σ (by rw [z]; intro q; cases q)
    rw [z] at hz; cases hz
    rw [exec_Assign_Name_used _ _ _ _ (swaps_is (by unfold Env.blockKind; rw [H.here.envok.kind]; rfl) (eq_of_beq h3) h4 h5)]
    refine wpAny_bind (wpAny_standAt (wpAny_bind ?_))
    unfold evalThenUse
    refine wpAny_bind (wpAny_mono (hx e₀ gens scope lp h2 H.here out z (some (assign (.Name t p) env)) _ fun acc C r s' k => post_used H h1 k) (fun v s' k => ?_) fun _ _ f => f)
    obtain ⟨ad', fz', R, H'⟩ := k
    exact wpAny_pure (wpAny_pure ⟨rfl, ad', fz', R, H'⟩)
theorem compGo_isList {c e : PyData → Res} {ds : List PyData} {d : PyData} (h : compGo c e ds = .ok d) : ∃ out, d = .list out := by
  obtain ⟨out, ho⟩ := compGo_list (c := c) (e := e) (ds := ds) (by rw [h]; intro q; cases q)
  rw [ho] at h; cases h; exact ⟨out, rfl⟩
theorem comp_isList {src cond elt : X} (σ : List SV) (h : ev T (.comp src cond elt) σ ≠ .bad) : ∃ out, ev T (.comp src cond elt) σ = .ok (.list out) := by
  rw [ev] at h ⊢
  cases q : ev T src σ with
  | bad => rw [q] at h; exact absurd rfl h
  | exc k => rw [q] at h; exact absurd rfl h
  | ok l =>
    rw [q] at h
    rw [Res.then_ok] at h ⊢
    cases z : itemsOf l with
    | none => simp only [z] at h; exact absurd trivial (by simpa using h)
    | some ds => simp only [z] at h ⊢; exact compGo_list h
theorem compR_isList {a b c : Int} {cond elt : X} (σ : List SV) (h : ev T (.compR a b c cond elt) σ ≠ .bad) : ∃ out, ev T (.compR a b c cond elt) σ = .ok (.list out) := by
  rw [ev] at h ⊢
  split at h
  · rename_i q; rw [if_pos q]; exact compGo_list h
  · exact absurd rfl h
end
end Mine
end
section
open PySem PySem.W PySem.Calls PyProof.Rows
namespace Mine
section
variable {prog : Program} {w : World} {T : Tab} {base : Heap} {fzT : Fz} {n : Nat} {md : Md} {mg mb : Str → Option Value} {A : Around} {outer : List Env} {L : Addr} {env : Env} {nm : List Str} {σ : List SV} {ad : Nat → Addr} {fz : Fz} {s : Shared}
theorem glued_cat : ∀ (l : List Str), Builtin.Str.glued ⟨#[]⟩ l = catS l := by
  have go : ∀ (l : List Str) (a : Array Nat), l.foldl (fun acc p => acc ++ (#[] : Array Nat) ++ p.cps) a = a ++ (catS l).cps := by
    intro l
    induction l with
    | nil => intro a; simp [catS]
    | cons x r ih => intro a; rw [List.foldl_cons, ih]; simp [catS, Array.append_assoc]
  intro l
  cases l with
  | nil => rfl
  | cons x r =>
    unfold Builtin.Str.glued
    simp only [List.drop_succ_cons, List.drop_zero, List.headD_cons]
    rw [go]; rfl
theorem strs_inv {fz : Fz} : ∀ {vs : List Value} {ds : List PyData} {l : List Str}, RepAll fz vs ds → strsOf ds = some l → ∃ p : List (Str × Tok), vs = strValues p ∧ p.map (·.1) = l
  | [], _, l, r, h => by cases r; unfold strsOf at h; cases h; exact ⟨[], rfl, rfl⟩
  | v :: vs, _, l, r, h => by
    cases r with
    | cons ra rb =>
    rename_i d ds
    cases d <;> try (unfold strsOf at h; cases h; done)
    rename_i x
    unfold strsOf at h
    cases q : strsOf ds with
    | none => rw [q] at h; cases h
    | some l' =>
      rw [q] at h; cases h
      obtain ⟨p, rfl, rfl⟩ := strs_inv rb q
      obtain ⟨t, rfl⟩ := rep_str_inv ra
      exact ⟨(x, t) :: p, rfl, rfl⟩
theorem fold_len (l : List Str) (h : l.all (fun x => x.length ≤ 100) = true) : ∀ a, l.foldl (fun acc (x : Str) => acc + x.length + 0) a ≤ a + 100 * l.length := by
  induction l with
  | nil => intro a; exact Nat.le_refl _
  | cons x r ih =>
    intro a
    simp only [List.all_cons, Bool.and_eq_true, decide_eq_true_eq] at h
    have := ih h.2 (a + x.length + 0)
    simp only [List.foldl_cons, List.length_cons]
    omega
theorem cat_len (l : List Str) (h : l.all (fun x => x.length ≤ 100) = true) : (catS l).length ≤ 100 * l.length := by
  induction l with
  | nil => exact Nat.le_refl _
  | cons x r ih =>
    simp only [List.all_cons, Bool.and_eq_true, decide_eq_true_eq] at h
    have := ih h.2
    have e : (catS (x :: r)).length = x.length + (catS r).length := by show (x.cps ++ (catS r).cps).size = _; rw [Array.size_append]; rfl
    rw [e, List.length_cons]
    have := h.1
    omega
theorem sound_join {a : X} (ha : SoundX prog w T base fzT n md a) : SoundX prog w T base fzT n md (.join a) := by
  intro A outer L env nm σ ad fz s e hm H hbad
  obtain ⟨g, as, kw, pos, rfl, hm⟩ := atCall_inv hm
  obtain ⟨zz, name, apos, rfl, hm⟩ := atAttribute_inv hm
  obtain ⟨c, k0, p0, rfl, hm⟩ := atConstant_inv hm
  obtain ⟨z, rfl, hm⟩ := atConstStr_inv hm
  have hk := andL hm
  have hm := andR hm
  cases nil_inv hk
  obtain ⟨e₀, rfl, hm⟩ := at1_inv hm
  have h5 := andR hm
  have hm := andL hm
  have h4 := andR hm
  have hm := andL hm
  have h3 := andR hm
  have hm := andL hm
  have h2 := andR hm
  have h1 := andL hm
  cases (eq_of_beq h2)
  cases (eq_of_beq h1)
  unfold ev at hbad ⊢
  have tr : backTo pos (starEach [e₀] env) = [(false, eval e₀ env)] := by rw [plain_star h5]; rfl
  refine wpAny_Call_method rfl (by rw [tr]; rfl) h3 F.plainAttrs_str F.slot_str_join F.type_str_join (wpAny_Constant_str ?_)
  refine ⟨rfl, fun a q => (by cases q), ?_⟩
  rw [tr]
  refine seqMethod1_meets F.slot_str_join F.entry_str_join ?_
  have r0 : Rel (fsOf outer) fz s fz { s with toks := s.toks + 1 } := ⟨s.heap, _, rfl, Ext.refl _ _, FzExt.refl _ _, H.fzin⟩
  refine useV (ha _ h4 (H.step r0) (bind_bad hbad)) (fun _ _ _ e h => PostE.after r0 (excOf e h)) fun x v fz₁ s₁ e r rep => ?_
  rw [e, Res.bind_ok] at hbad ⊢
  cases x with
  | list ds =>
    unfold opJoin at hbad ⊢
    cases q : strsOf ds with
    | none => simp only [q] at hbad; exact absurd rfl hbad
    | some l =>
      simp only [q] at hbad ⊢
      split at hbad
      · rename_i hz
        obtain ⟨b, us, rfl, e1, r1⟩ := rep_list_inv rep
        obtain ⟨p, rfl, rfl⟩ := strs_inv r1 q
        rw [if_pos hz]
        have z1 := fold_len _ hz.2 0
        have z2 := cat_len _ hz.2
        have z3 := hz.1
        have R := r0.trans r
        refine ⟨rfl, F.args_str_join_2 _ _, _, meets_str_join_list ⟨#[]⟩ s.toks b p (by unfold Builtin.Str.tooLong; rw [sizeLine_eq]; simp only [List.foldl_toArray]; have : (⟨#[]⟩ : Str).length = 0 := rfl; rw [this]; simp only [gt_iff_lt, decide_eq_false_iff_not, Nat.not_lt]; omega), r.fzin.isList e1, ?_⟩
        have fin : ∀ t tk, wants (PostV (fsOf outer) fz s (.ok (.str (catS (p.map (·.1)))))) (PostE A.handled (fsOf outer) L s (.ok (.str (catS (p.map (·.1)))))) (.ok (.ret (.str (catS (p.map (·.1))) t))) { s₁ with toks := tk } := fun t tk =>
          good_iff.mpr ⟨fz₁, R.trans ⟨s₁.heap, tk, rfl, Ext.refl _ _, FzExt.refl _ _, r.fzin⟩, .str _ _⟩
        cases p with
        | nil => exact ⟨Nat.zero_le _, fin _ _⟩
        | cons x p =>
          cases p with
          | nil =>
            have := fin x.2 s₁.toks
            have ec : catS (([x] : List (Str × Tok)).map (·.1)) = x.1 := by show (⟨x.1.cps ++ #[]⟩ : Str) = x.1; rw [Array.append_empty]
            rw [ec] at this ⊢; exact this
          | cons y p =>
            have ec := glued_cat ((x :: y :: p).map (·.1))
            refine ⟨?_, ?_⟩
            · rw [ec, sizeLine_eq]; omega
            · rw [ec]; exact fin _ _
      · exact absurd rfl hbad
  | _ => exact absurd rfl hbad
end
end Mine
end
section
open PySem PySem.W PySem.Calls PyProof.Rows
namespace Mine
section
variable {prog : Program} {w : World} {T : Tab} {base : Heap} {fzT : Fz} {n : Nat} {md : Md} {mg mb : Str → Option Value} {A : Around} {outer : List Env} {L : Addr} {env : Env} {nm : List Str} {σ : List SV} {ad : Nat → Addr} {fz : Fz} {s s₀ : Shared}
structure PItr (prog : Program) (w : World) (A : Around) (fs : List Addr) (fz : Fz) (ds : List PyData) (h₀ h : Heap) (I : Addr) (fp wr : List Addr) (Pt : Nat → Array Value → Prop) (St : Nat → Heap → Prop) (Mid : Nat → Addr → Heap → Prop) : Prop where
  walks : WalksU prog w A I fp wr ds.length Pt St Mid
  item : ∀ (i : Nat) vals d p, Pt i vals → ds[i]? = some d → pairOf d = some p → ∃ v1 v2, vals = #[v1, v2] ∧ Rep fz v1 p.1 ∧ Rep fz v2 p.2
  new : ∀ b ∈ wr, h₀.get? b = none
  fpo : ∀ b ∈ fp, b ∉ fs ∧ (b ∈ wr ∨ fz b ≠ none) ∧ ∃ o, h.get? b = some o
  st : St 0 h
  ex : ∀ i h, St i h → ∀ b ∈ wr, ∃ o, h.get? b = some o
noncomputable def PIterAt (prog : Program) (w : World) (A : Around) (fs : List Addr) (fz : Fz) (ds : List PyData) (s : Shared) (it : Value) (s' : Shared) : Prop :=
  ∃ h' tk I fp wr Pt St Mid, s' = { s with heap := h', toks := tk } ∧ (∀ b o, s.heap.get? b = some o → h'.get? b = some o) ∧ it = .ref I ∧ PItr prog w A fs fz ds s.heap h' I fp wr Pt St Mid
theorem for_pairs {t u : Str} {pt pu : Pos} {kk : Nat} {tp : Pos} {i i' : Nat} {body orelse : List S} {b o : List Stmt} {ds : List PyData} {it : Value} {s₂ : Shared}
    (H : HereS base fzT .a n A outer L env nm σ ad fz s₀) (ht : tgt env.scope.names nm i t = true) (hu : tgt env.scope.names nm i' u = true) (hb : SoundSs prog w T base fzT n .a body) (ho : SoundSs prog w T base fzT n .a orelse)
    (mb : Mss T env.scope.names nm body b = true) (mo : Mss T env.scope.names nm orelse o = true) (g : PIterAt prog w A (fsOf outer) fz ds s₀ it s₂)
    (hbad : loopGo (fun σ d => (pairOf d).map fun p => putV (putV σ i p.1) i' p.2) (fun σ => evSs T body σ) (fun σ => evSs T orelse σ) ds σ ≠ .bad) :
    codeAny (model prog w) A (.forLoop (.Tuple [.Name t pt, .Name u pu] kk tp) it b o env) (fun r s' => match r with
      | .ok f => PostS base fzT .a n A outer L env nm σ ad fz s₀ (loopGo (fun σ d => (pairOf d).map fun p => putV (putV σ i p.1) i' p.2) (fun σ => evSs T body σ) (fun σ => evSs T orelse σ) ds σ) f s'
      | .error e => cameBackBy (model prog w) A env (PostX base fzT .a n A outer L env nm σ ad fz s₀ (loopGo (fun σ d => (pairOf d).map fun p => putV (putV σ i p.1) i' p.2) (fun σ => evSs T body σ) (fun σ => evSs T orelse σ) ds σ)) e s') s₂ := by
  obtain ⟨hb', tk, I, fp, wr, Pt', St, Mid, rfl, kp, rfl, It⟩ := g
  obtain ⟨t1, t2, t3, t4⟩ := tgt_is ht
  obtain ⟨u1, u2, u3, u4⟩ := tgt_is hu
  generalize hout : loopGo (fun σ d => (pairOf d).map fun p => putV (putV σ i p.1) i' p.2) (fun σ => evSs T body σ) (fun σ => evSs T orelse σ) ds σ = out at hbad ⊢
  have fpfs : ∀ b ∈ fp, b ∉ fsOf outer := fun b hb => (It.fpo b hb).1
  have wfs : ∀ b ∈ wr, b ∉ fsOf outer := fun b hb => fpfs b (It.walks.sub b hb)
  have wbase : ∀ b ∈ wr, base.get? b = none := fun b hb => by
    cases q : base.get? b with
    | none => rfl
    | some o => have := H.here.hi.stays _ _ q; rw [It.new b hb] at this; cases this
  -- a move of the iterator
  have move : ∀ {σ' : List SV} {ad' : Nat → Addr} {fz' : Fz} {s' : Shared} {h₂ : Heap} {tk₂ : Nat}, RelS env (fsOf outer) σ ad fz s₀ σ' ad' fz' s' → HereS base fzT .a n A outer L env nm σ' ad' fz' s' → Apart env wr σ' ad' fz' →
      (∀ b o, b ∉ wr → s'.heap.get? b = some o → h₂.get? b = some o) → RelS env (fsOf outer) σ ad fz s₀ σ' ad' fz' { s' with heap := h₂, toks := tk₂ } ∧ HereS base fzT .a n A outer L env nm σ' ad' fz' { s' with heap := h₂, toks := tk₂ } := by
    intro σ' ad' fz' s' h₂ tk₂ R' H' Pt mv
    have e : ExtW (fun b => b ∈ wr) (fsOf outer) s'.heap h₂ := .of_moved mv fun b hb => hb
    exact ⟨R'.other e (fun b hb => It.new b hb) (fun b hb hw => by obtain ⟨o, ho⟩ := H.live b hb; rw [It.new b hw] at ho; cases ho), H'.other e Pt.w Pt.z wfs wbase fun q => by cases q⟩
  refine codeAny_forLoop_any (fun m s' => ∃ j σ' ad' fz', RelS env (fsOf outer) σ ad fz s₀ σ' ad' fz' s' ∧ HereS base fzT .a n A outer L env nm σ' ad' fz' s' ∧ St j s'.heap ∧ Apart env wr σ' ad' fz' ∧ j ≤ ds.length ∧ m = ds.length + 1 - j ∧
    loopGo (fun σ d => (pairOf d).map fun p => putV (putV σ i p.1) i' p.2) (fun σ => evSs T body σ) (fun σ => evSs T orelse σ) (ds.drop j) σ' = out) ?_ (ds.length + 1) ?_
  · rintro m s' ⟨j, σ', ad', fz', R', H', st, Pt, hj, rfl, hgo⟩
    by_cases hlt : j < ds.length
    · obtain ⟨d, hd⟩ : ∃ d, ds[j]? = some d := ⟨_, List.getElem?_eq_getElem hlt⟩
      have hdr : ds.drop j = d :: ds.drop (j + 1) := by
        rw [List.drop_eq_getElem_cons hlt]; rw [List.getElem?_eq_getElem hlt] at hd; cases hd; rfl
      rw [hdr] at hgo
      unfold loopGo at hgo
      obtain ⟨dp, hdp⟩ : ∃ p, pairOf d = some p := by
        cases q : pairOf d with
        | none => simp only [q, Option.map_none] at hgo; rw [← hgo] at hbad; exact absurd rfl hbad
        | some p => exact ⟨p, rfl⟩
      simp only [hdp, Option.map_some] at hgo
      refine It.walks.item j s' _ _ hlt st fun Tt vals h₂ tk₂ hP hT mid mv => ?_
      refine It.walks.go _ _ _ j Tt _ _ _ mid fun h₃ st₃ mv₃ => ?_
      obtain ⟨v1, v2, rfl, rp1, rp2⟩ := It.item j vals d dp hP hd hdp
      have hT₃ : h₃.IsTuple Tt #[v1, v2] := hT.at fun o e => mv₃ _ o (It.walks.apart _ _ _ mid) e
      refine wpAny_assign_Tuple (H.here.sit.handled rfl) hT₃ rfl rfl fun h₄ ext => ?_
      have k₄ : ∀ b o, h₃.get? b = some o → h₄.get? b = some o := fun b o e => ext b o (Nat.ne_of_lt (Heap.lt_size e)) e
      have st₄ : St (j + 1) h₄ := It.walks.frame _ _ _ st₃ fun b _ o e => k₄ b o e
      obtain ⟨R₂, H₂⟩ := move (tk₂ := tk₂) R' H' Pt (fun b o hb e => k₄ b o (mv₃ b o hb (mv b o hb e)))
      refine wpAny_bind (wpAny_holding (wpAny_assign_Name (store_sv (a' := 0) (RelS.refl H₂) H₂ t1 t2 (.val (rp1.mono R'.le)) fun s₂' R₂' H₂' => ?_)))
      refine wpAny_bind (wpAny_holding (wpAny_assign_Name (store_sv (a' := 0) (RelS.refl H₂') H₂' u1 u2 (.val (rp2.mono R'.le)) fun s₃ R₃' H₃ => wpAny_pure ?_)))
      have R₃ := R₂'.trans R₃'
      have fpk : ∀ b ∈ fp, ¬ WrS env σ' ad' b := fun b hb hw => by
        rcases (It.fpo b hb).2.1 with q | q
        · exact Pt.w b q hw
        · cases z : fz b with
          | none => exact q z
          | some p => have := R'.le b p z; rw [H'.frozen b hw] at this; cases this
      have st₅ : St (j + 1) s₃.heap := It.walks.frame _ _ _ st₄ fun b hb o ho => R₃.ext.get (fpk b hb) (fpfs b hb) ho
      have Pt₃ : Apart env wr ((σ'.set i (.val dp.1)).set i' (.val dp.2)) _ fz' := Pt.step (It.ex _ _ st₄) R₃
      have hbody : evSs T body (putV (putV σ' i dp.1) i' dp.2) ≠ .bad := by
        intro q; simp only [q] at hgo; rw [← hgo] at hbad; exact hbad rfl
      refine wpAny_mono (hb b mb H₃ hbody) (fun f s₄ k => ?_) fun x s₄ k => ?_
      · cases q : evSs T body (putV (putV σ' i dp.1) i' dp.2) with
        | next σ₄ =>
          simp only [q] at hgo
          rw [show evSs T body ((σ'.set i (.val dp.1)).set i' (.val dp.2)) = .next σ₄ from q] at k
          obtain ⟨rfl, ad₄, fz₄, R₄, H₄⟩ := k
          have fpk₃ : ∀ b ∈ fp, ¬ WrS env ((σ'.set i (.val dp.1)).set i' (.val dp.2)) _ b := fun b hb hw => by
            rcases R₃.wr b hw with z | z
            · exact fpk b hb z
            · rcases (It.fpo b hb).2.1 with q | q
              · obtain ⟨o, ho⟩ := It.ex _ _ st₄ b q; rw [z] at ho; cases ho
              · cases z' : fz b with
                | none => exact q z'
                | some p => have := R'.le b p z'; rw [H₃.frozen b hw] at this; cases this
          refine ⟨ds.length + 1 - (j + 1), by omega, j + 1, σ₄, ad₄, fz₄, (R₂.trans R₃).trans R₄, H₄, It.walks.frame _ _ _ st₅ fun b hb o ho => R₄.ext.get (fpk₃ b hb) (fpfs b hb) ho, Pt₃.step (It.ex _ _ st₅) R₄, hlt, rfl, hgo⟩
        | brk σ₄ =>
          simp only [q] at hgo
          rw [show evSs T body ((σ'.set i (.val dp.1)).set i' (.val dp.2)) = .brk σ₄ from q] at k
          obtain ⟨rfl, ad₄, fz₄, R₄, H₄⟩ := k
          rw [← hgo]
          exact ⟨rfl, ad₄, fz₄, (R₂.trans R₃).trans R₄, H₄⟩
        | ret dd =>
          simp only [q] at hgo
          rw [show evSs T body ((σ'.set i (.val dp.1)).set i' (.val dp.2)) = .ret dd from q] at k
          obtain ⟨u, σ₄, ad₄, fz₄, rfl, R₄, H₄, rep⟩ := k
          rw [← hgo]
          exact ⟨u, σ₄, ad₄, fz₄, rfl, (R₂.trans R₃).trans R₄, H₄, rep⟩
        | exc k' σ₄ => rw [show evSs T body ((σ'.set i (.val dp.1)).set i' (.val dp.2)) = .exc k' σ₄ from q] at k; exact k.elim
        | bad => exact absurd q hbody
      · cases q : evSs T body (putV (putV σ' i dp.1) i' dp.2) with
        | exc k' σ₄ =>
          simp only [q] at hgo
          rw [show evSs T body ((σ'.set i (.val dp.1)).set i' (.val dp.2)) = .exc k' σ₄ from q] at k
          rw [← hgo]
          exact exc_pass H (PostX.after (R₂.trans R₃) k)
        | next σ₄ => rw [show evSs T body ((σ'.set i (.val dp.1)).set i' (.val dp.2)) = .next σ₄ from q] at k; exact k.elim
        | brk σ₄ => rw [show evSs T body ((σ'.set i (.val dp.1)).set i' (.val dp.2)) = .brk σ₄ from q] at k; exact k.elim
        | ret dd => rw [show evSs T body ((σ'.set i (.val dp.1)).set i' (.val dp.2)) = .ret dd from q] at k; exact k.elim
        | bad => exact absurd q hbody
    · have hjn : j = ds.length := by omega
      subst hjn
      rw [List.drop_of_length_le (Nat.le_refl _)] at hgo
      unfold loopGo at hgo
      refine It.walks.done s' _ _ st fun h₂ tk₂ mv => ?_
      obtain ⟨R₂, H₂⟩ := move (tk₂ := tk₂) R' H' Pt mv
      rw [← hgo] at hbad ⊢
      refine wpAny_mono (ho o mo H₂ hbad) (fun f s₃ k => PostS.after R₂ k) fun x s₃ k => exc_pass H (PostX.after R₂ k)
  · have k0 : Rel (fsOf outer) fz s₀ fz { s₀ with heap := hb', toks := tk } := ⟨hb', tk, rfl, Ext.of_keeps kp, FzExt.refl _ _, (Ext.of_keeps (fs := []) kp).fzIn H.here.fzin⟩
    refine ⟨0, σ, ad, fz, .of_rel H.live k0, H.step k0, It.st, ⟨fun b hb hw => ?_, fun b hb => H.here.fzin.none (It.new b hb)⟩, Nat.zero_le _, rfl, by simpa using hout⟩
    obtain ⟨o, ho⟩ := H.live b hw; rw [It.new b hb] at ho; cases ho
end
end Mine
end
section
open PySem PySem.W PySem.Calls PyProof.Rows
namespace Mine
section
variable {prog : Program} {w : World} {T : Tab} {base : Heap} {fzT : Fz} {n : Nat} {md : Md} {mg mb : Str → Option Value} {A : Around} {outer : List Env} {L : Addr} {env : Env} {nm : List Str} {σ : List SV} {ad : Nat → Addr} {fz : Fz} {s s₀ : Shared}
theorem letGo_tupleiter {E : Value → Shared → Prop} {elts : List Expr} {x1} {pos : Pos} {I l Tt : Addr} {i : Nat} {Q : Unit → Shared → Prop} (hit : s.heap.IsTupleIter I l i) (hQ : Q () s) :
    wpAny (model prog w) A (letOwnedTupleGo (.Tuple elts x1 pos) (.ref I) (.ref Tt)) Q E s := by
  obtain ⟨o, ho, hc, hd⟩ := hit
  unfold letOwnedTupleGo
  refine wpAny_bind (wpAny_load ho ?_)
  rw [hc, hd]
  dsimp only
  rw [if_neg (by
    intro h
    have h := (Bool.and_eq_true_iff.mp h).1
    exact absurd h (by decide))]
  exact wpAny_pure hQ
theorem walks_tuple_pairs (hh : A.handled = none) (I ax : Addr) (hne : ax ≠ I) (items : Array Value) (Ts : Nat → Addr) (vals : Nat → Array Value)
    (hit : ∀ j, j < items.size → items[j]? = some (.ref (Ts j))) (hTI : ∀ j, j < items.size → Ts j ≠ I) :
    WalksU prog w A I (I :: ax :: (List.range items.size).map Ts) [I] items.size (fun j v => v = vals j ∧ j < items.size)
      (fun j h => h.IsTupleIter I ax j ∧ h.IsTuple ax items ∧ ∀ k, k < items.size → h.IsTuple (Ts k) (vals k))
      (fun j Tt h => (j < items.size ∧ Tt = Ts j) ∧ h.IsTupleIter I ax (j + 1) ∧ h.IsTuple ax items ∧ ∀ k, k < items.size → h.IsTuple (Ts k) (vals k)) where
  sub := fun b hb => by simp at hb; simp [hb]
  frame := fun _ _ _ st hk => ⟨st.1.at fun o e => hk I (by simp) o e, st.2.1.at fun o e => hk ax (by simp) o e,
    fun k hk' => (st.2.2 k hk').at fun o e => hk (Ts k) (List.mem_cons_of_mem _ (List.mem_cons_of_mem _ (List.mem_map.mpr ⟨k, List.mem_range.mpr hk', rfl⟩))) o e⟩
  item := fun i s Q E hi st hQ => by
    refine wpAny_pyNext_tuple_item st.1 st.2.1 (x := .ref (Ts i)) (hit i hi) fun h' hit' hs' => ?_
    have tup : ∀ k, k < items.size → h'.IsTuple (Ts k) (vals k) := fun k hk' => (st.2.2 k hk').extBut hs'.extBut (hTI k hk')
    exact hQ (Ts i) (vals i) h' s.toks ⟨rfl, hi⟩ (tup i hi) ⟨⟨hi, rfl⟩, hit', st.2.1.extBut hs'.extBut hne, tup⟩ fun b o hb e => hs'.extBut b o (fun h => hb (by simp [h])) e
  go := fun _ _ _ _ _ s Q _ hm hQ => letGo_tupleiter hm.2.1 (hQ s.heap hm.2 fun _ _ _ e => e)
  apart := fun j Tt _ hm hmem => by
    rcases List.mem_cons.mp hmem with e | e
    · exact hTI j hm.1.1 (hm.1.2 ▸ e)
    · cases e
  done := fun s Q E st hQ => wpAny_pyNext_tuple_end hh st.1 st.2.1 (by simp) fun h' he' => hQ h' s.toks fun b o hb e => he' b o (fun h => hb (by simp [h])) e
  self := fun _ _ _ _ st hQ => wpAny_pyIter_tupleiter st.1 hQ
noncomputable def adrOf : Value → Addr
  | .ref a => a
  | _ => 0
noncomputable def partsOf (fz : Fz) (a : Addr) : Array Value := match fz a with
  | some (_, vs) => vs.toArray
  | none => #[]
theorem pair_is {d : PyData} {p : PyData × PyData} (h : pairOf d = some p) : d = .tuple [p.1, p.2] := by
  unfold pairOf at h
  split at h
  · cases h; rfl
  · cases h
theorem iter_pairs {E : Value → Shared → Prop} {v : Value} {ds : List PyData} (hh : A.handled = none) (hi : HI base outer s.heap) (hf : FzIn fz s.heap) (r : Rep fz v (.tuple ds)) (hp : ds.all (fun d => (pairOf d).isSome) = true) :
    wpAny (model prog w) A (pyIter v) (PIterAt prog w A (fsOf outer) fz ds s) E s := by
  have new : s.heap.get? s.heap.objs.size = none := size_none _ (Nat.le_refl _)
  obtain ⟨l, vs, rfl, e1, r1⟩ := rep_tuple_inv r
  have hl : s.heap.IsTuple l vs.toArray := by
    obtain ⟨o, n, ho, hc, hd⟩ := hf _ _ _ e1; exact ⟨o, ho, hc, n, hd⟩
  have hlt : l < s.heap.objs.size := by obtain ⟨o, ho, _⟩ := hl; exact Heap.lt_size ho
  have each : ∀ k, k < vs.toArray.size → ∃ a v1 v2 d1 d2, vs[k]? = some (.ref a) ∧ fz a = some (true, [v1, v2]) ∧ ds[k]? = some (.tuple [d1, d2]) ∧ Rep fz v1 d1 ∧ Rep fz v2 d2 := by
    intro k hk
    have hk' : k < vs.length := by simpa using hk
    obtain ⟨d, h1, h2⟩ := r1.get' (List.getElem?_eq_getElem hk')
    have h3 := List.all_eq_true.mp hp d (List.mem_of_getElem? h1)
    obtain ⟨p, hp'⟩ := Option.isSome_iff_exists.mp h3
    cases pair_is hp'
    obtain ⟨a, us, e2, e3, r2⟩ := rep_tuple_inv h2
    cases r2 with
    | cons ra r2 =>
    cases r2 with
    | cons rb r2 =>
    cases r2
    exact ⟨a, _, _, _, _, by rw [List.getElem?_eq_getElem hk', e2], e3, h1, ra, rb⟩
  have hT : ∀ k, k < vs.toArray.size → s.heap.IsTuple (adrOf (vs[k]?.getD .none)) (partsOf fz (adrOf (vs[k]?.getD .none))) := fun k hk => by
    obtain ⟨a, v1, v2, d1, d2, h1, h2, _⟩ := each k hk
    rw [h1]
    obtain ⟨o, n, ho, hc, hd⟩ := hf _ _ _ h2
    exact ⟨o, ho, hc, n, by simp only [Option.getD_some, adrOf, partsOf, h2]; exact hd⟩
  refine wpAny_pyIter_tuple hl ?_
  have W := walks_tuple_pairs (prog := prog) (w := w) (A := A) hh s.heap.objs.size l (Nat.ne_of_lt hlt) vs.toArray (fun k => adrOf (vs[k]?.getD .none)) (fun k => partsOf fz (adrOf (vs[k]?.getD .none)))
    (fun k hk => by obtain ⟨a, v1, v2, d1, d2, h1, _⟩ := each k hk; simp only [h1, Option.getD_some, adrOf]; simpa using h1)
    (fun k hk q => by obtain ⟨o, ho, _⟩ := hT k hk; rw [q, new] at ho; cases ho)
  rw [show vs.toArray.size = ds.length by simp [r1.length]] at W each hT
  refine ⟨_, s.toks, _, _, _, _, _, _, rfl, fun b o e => Heap.get?_push_of_some _ e, rfl, W, fun i vals d p hP hd hp' => ?_, fun b hb => ?_, fun b hb => ?_, ?_, ?_⟩
  · obtain ⟨rfl, hi'⟩ := hP
    obtain ⟨a, v1, v2, d1, d2, h1, h2, h3, h4, h5⟩ := each i hi'
    rw [hd] at h3; cases h3
    cases (pair_is hp')
    exact ⟨v1, v2, by simp [h1, adrOf, partsOf, h2], h4, h5⟩
  · rw [List.mem_singleton.mp hb]; exact new
  · rcases List.mem_cons.mp hb with e | hb
    · subst e; exact ⟨fs_old hi new, .inl (.head _), _, Heap.get?_push_size _ rfl⟩
    · rcases List.mem_cons.mp hb with e | hb
      · subst e
        obtain ⟨o, ho, _⟩ := hl
        exact ⟨fs_not_list hi hf e1, .inr (by rw [e1]; intro z; cases z), _, Heap.get?_push_of_some _ ho⟩
      · obtain ⟨k, hk, rfl⟩ := List.mem_map.mp hb
        obtain ⟨a, v1, v2, d1, d2, h1, h2, _⟩ := each k (List.mem_range.mp hk)
        obtain ⟨o, n, ho, _⟩ := hf _ _ _ h2
        simp only [h1, Option.getD_some, adrOf]
        exact ⟨fs_not_list hi hf h2, .inr (by rw [h2]; intro z; cases z), _, Heap.get?_push_of_some _ ho⟩
  · exact ⟨⟨_, Heap.get?_push_size _ rfl, rfl, rfl⟩, hl.push _, fun k hk => (hT k hk).push _⟩
  · intro i h hst b hb; rw [List.mem_singleton.mp hb]; obtain ⟨⟨o, ho, _⟩, _⟩ := hst; exact ⟨o, ho⟩
theorem soundS_forT {i j : Nat} {src : X} {body orelse : List S} (hs : SoundX prog w T base fzT n .a src) (hb : SoundSs prog w T base fzT n .a body) (ho : SoundSs prog w T base fzT n .a orelse) : SoundS prog w T base fzT n .a (.forT i j src body orelse) := by
  intro A outer L env nm σ ad fz s e hm H hbad
  obtain ⟨t₀, iter, bs, os, pos, rfl, hm⟩ := atStmtFor_inv hm
  obtain ⟨t, pt, u, pu, kt, tp, rfl, hm⟩ := atPair_inv hm
  have h6 := andR hm
  have hm := andL hm
  have h5 := andR hm
  have hm := andL hm
  have h4 := andR hm
  have hm := andL hm
  have h3 := andR hm
  have hm := andL hm
  have h2 := andR hm
  have h1 := andL hm
  unfold evS at hbad ⊢
  refine wpAny_For (useS hs rfl h3 H (fun q => by rw [q] at hbad; exact hbad rfl) (fun k q => by rw [q] at hbad; exact absurd rfl hbad) fun d v fz₁ s₁ q r rep => ?_) (plain_set h4)
  rw [q] at hbad ⊢
  have H₁ := H.step r
  cases d with
  | tuple ds =>
    by_cases hz : ds.length ≤ 1000 ∧ ds.all (fun d => (pairOf d).isSome) = true
    · simp only [if_pos hz] at hbad ⊢
      refine wpAny_mono (iter_pairs (E := fun _ _ => False) (H₁.here.sit.handled rfl) H₁.here.hi H₁.here.fzin rep hz.2) (fun it s₂ g => ?_) fun _ _ f => f.elim
      refine codeAny_mono (for_pairs H₁ h1 h2 hb ho h5 h6 g hbad) fun rr s' k => ?_
      cases rr with
      | ok f => exact PostS.after (.of_rel H.live r) k
      | error x => exact wpAny_mono k (fun _ _ k => PostX.after (.of_rel H.live r) k) fun _ _ k => PostX.after (.of_rel H.live r) k
    · simp only [if_neg hz] at hbad; exact absurd rfl hbad
  | _ => exact absurd rfl hbad
end
end Mine
end
section
open PySem PySem.W PySem.Calls PyProof.Rows
namespace Mine
section
variable {prog : Program} {w : World} {T : Tab} {base : Heap} {fzT : Fz} {n : Nat} {md : Md} {mg mb : Str → Option Value} {A : Around} {outer : List Env} {L : Addr} {env : Env} {nm : List Str} {σ : List SV} {ad : Nat → Addr} {fz : Fz} {s s₀ : Shared}
theorem nextOf_tuple_item {E : Value → Shared → Prop} {it t : Addr} {i : Nat} {items : Array Value} {x : Value} {Q : Value → Shared → Prop} (hit : s.heap.IsTupleIter it t i) (ht : s.heap.IsTuple t items) (hx : items[i]? = some x)
    (hQ : ∀ h', h'.IsTupleIter it t (i + 1) → Heap.SameBut it s.heap h' → Q x { s with heap := h' }) :
    wpAny (model prog w) A (Builtin.SmallTypes.nextOf (.ref it)) Q E s := by
  obtain ⟨o, ho, hc, hd⟩ := id hit
  obtain ⟨ol, hol, _, nl, hdl⟩ := ht
  unfold Builtin.SmallTypes.nextOf
  refine wpAny_bind (wpAny_callSpecial?_slot (name := Str.ofString "__next__") hit.typeIs F.slot_tuple_iterator_next
    (wpAny_call_entry F.slot_tuple_iterator_next hit.typeIs F.entry_tuple_iterator_next ?_ (F.args_tuple_iterator_next_1 _)))
  show wpAny _ _ (field (.ref it) 0 >>= _) _ _ s
  refine wpAny_bind (wpAny_field ho hd (x := .ref t) rfl ?_)
  show wpAny _ _ (if (Value.ref t == Value.none) = true then _ else _) _ _ s
  rw [if_neg (show ¬ ((Value.ref t == Value.none) = true) from Bool.false_ne_true)]
  show wpAny _ _ (field (.ref it) 1 >>= _) _ _ s
  refine wpAny_bind (wpAny_field ho hd (x := .int i 0) rfl ?_)
  show wpAny _ _ (seqItems? (.ref t) >>= _) _ _ s
  refine wpAny_bind (wpAny_seqItems hol hdl ?_)
  simp only [Int.toNat_natCast, hx]
  refine wpAny_bind (wpAny_setField ho hd (by simp) (wpAny_pure ⟨x, rfl, wpAny_pure (hQ _ ?_ (Heap.SameBut.update ..))⟩))
  exact ⟨_, Heap.get?_update_self _ ho (Obj.isFreed_of_fields (Obj.data_mapFields hd _)), (Obj.cls_mapFields ..).trans hc, by
    rw [Obj.data_mapFields hd]; simp [rawInt]⟩
theorem nextOf_tuple_end {E : Value → Shared → Prop} {it t : Addr} {i : Nat} {items : Array Value} {Q : Value → Shared → Prop} (hh : A.handled = none) (hit : s.heap.IsTupleIter it t i) (ht : s.heap.IsTuple t items) (hx : items[i]? = none)
    (hE : ∀ h' e, Heap.ExtBut it s.heap h' → (∃ o, h'.get? e = some o ∧ o.cls = .type "StopIteration") → E (.ref e) { s with heap := h' }) :
    wpAny (model prog w) A (Builtin.SmallTypes.nextOf (.ref it)) Q E s := by
  obtain ⟨o, ho, hc, hd⟩ := id hit
  obtain ⟨ol, hol, _, nl, hdl⟩ := ht
  unfold Builtin.SmallTypes.nextOf
  refine wpAny_bind (wpAny_callSpecial?_slot (name := Str.ofString "__next__") hit.typeIs F.slot_tuple_iterator_next
    (wpAny_call_entry F.slot_tuple_iterator_next hit.typeIs F.entry_tuple_iterator_next ?_ (F.args_tuple_iterator_next_1 _)))
  show wpAny _ _ (field (.ref it) 0 >>= _) _ _ s
  refine wpAny_bind (wpAny_field ho hd (x := .ref t) rfl ?_)
  show wpAny _ _ (if (Value.ref t == Value.none) = true then _ else _) _ _ s
  rw [if_neg (show ¬ ((Value.ref t == Value.none) = true) from Bool.false_ne_true)]
  show wpAny _ _ (field (.ref it) 1 >>= _) _ _ s
  refine wpAny_bind (wpAny_field ho hd (x := .int i 0) rfl ?_)
  show wpAny _ _ (seqItems? (.ref t) >>= _) _ _ s
  refine wpAny_bind (wpAny_seqItems hol hdl ?_)
  simp only [Int.toNat_natCast, hx]
  refine wpAny_bind (wpAny_rule (wpAny_bind (wpAny_setField ho hd (by simp) ?_)))
  show wpAny _ _ (newExc (.type "StopIteration") [] >>= _) _ _ _
  refine wpAny_bind ?_
  simp only [newExc, newTuple]
  refine wpAny_bind (wpAny_newObj_type ?_ (by size_fits))
  refine wpAny_bind (m := firstArgMember _ _) (wpAny_of_eq (a := Value.none) (by first | rfl | (simp only [firstArgMember]; rfl)) ?_)
  refine wpAny_newObj_type ?_ (by size_fits)
  simp only [raiseNew]
  refine wpAny_bind (wpAny_handled ?_)
  first | rw [show A.in1.handled = none from hh] | rw [hh]
  refine wpAny_bind (wpAny_pure (wpAny_throw ?_))
  exact hE _ _ (((Heap.SameBut.update ..).extBut.push _).push _) ⟨_, Heap.get?_push_size _ rfl, rfl⟩
theorem draws_tuple (hh : A.handled = none) (it l : Addr) (hne : l ≠ it) (items : Array Value) :
    Draws prog w A it [it, l] items.size (fun i v => items[i]? = some v) (fun i h => h.IsTupleIter it l i ∧ h.IsTuple l items) where
  live := fun _ _ st => let ⟨o, ho, _⟩ := st.1; ⟨o, ho⟩
  frame := fun _ _ _ st hk => ⟨st.1.at fun o e => hk it (by simp) o e, st.2.at fun o e => hk l (by simp) o e⟩
  item := fun i s Q E hi st hQ => by
    refine nextOf_tuple_item st.1 st.2 (x := items[i]) (by simp [hi]) fun h' hit' hs' => ?_
    exact hQ _ h' s.toks (by simp [hi]) ⟨hit', st.2.extBut hs'.extBut hne⟩ hs'
  done := fun s Q E st hE => nextOf_tuple_end hh st.1 st.2 (by simp) hE
set_option maxRecDepth 100000 in
theorem meets_enum_newT (l : Addr) (items : Array Value) (n : Nat) (dct : Option Addr) (sl : Array (Option Value)) :
    Meets (Builtin.«enumerate.__new__» ⟨[.type "enumerate", .ref l], []⟩) (fun _ R s => s.heap.get? l = some { cls := .type "tuple", dict := dct, data := .seq items n, slots := sl } ∧
      R (.ok (.ret (.ref (s.heap.push { cls := .type "tuple_iterator", data := .fields #[.ref l, .int 0 0] }).objs.size)))
        { s with heap := (s.heap.push { cls := .type "tuple_iterator", data := .fields #[.ref l, .int 0 0] }).push { cls := .type "enumerate", data := .fields #[.none, .bool false, .ref s.heap.objs.size, rawInt 0, .none, .none] } }) :=
  .of_wp fun prog w A R s h => by
    obtain ⟨hp, g, d, tk, os⟩ := s; obtain ⟨hl, h⟩ := h
    have hsub := sub_enumerate
    have hL : Heap.IsTuple (Shared.heap ⟨hp, g, d, tk, os⟩) l items := ⟨_, hl, rfl, n, rfl⟩
    wp_walk using AutoSeq1.wpAny_loadPart' hl
    refine wpAny_stack_any fun st => wpAny_pure ?_
    split
    · rename_i c _ _ _ _ _
      cases (c == Value.type "enumerate")
      · wp_walk using AutoSeq1.wpAny_loadPart' hl, wpAny_pyIter_tuple hL
        exact ⟨_, rfl, h⟩
      · wp_walk using AutoSeq1.wpAny_loadPart' hl, wpAny_pyIter_tuple hL
        exact ⟨_, rfl, h⟩
    · wp_walk using AutoSeq1.wpAny_loadPart' hl, wpAny_pyIter_tuple hL
      exact ⟨_, rfl, h⟩
theorem call_enum_tuple {E : Value → Shared → Prop} {l : Addr} {items : Array Value} {Q : Value → Shared → Prop} (hL : s.heap.IsTuple l items)
    (h : ∀ h', IsEnum h' (s.heap.objs.size + 1) s.heap.objs.size 0 .none → h'.IsTupleIter s.heap.objs.size l 0 → h'.objs.size = s.heap.objs.size + 2 →
      (∀ b o, s.heap.get? b = some o → h'.get? b = some o) → Q (.ref (s.heap.objs.size + 1)) { s with heap := h' }) :
    wpAny (model prog w) A (call (.type "enumerate") [.ref l]) Q E s := by
  obtain ⟨⟨c, dct, dt, sl⟩, hl, hc, n, hd⟩ := hL
  replace hc : c = .type "tuple" := hc
  replace hd : dt = .seq items n := hd
  subst hc hd
  refine callType_new F.called_enumerate (by decide) (F.typeCall_enumerate_1 _) (F.newCall_enumerate_1 _) (fun obj => F.args_object_init_2 obj _) F.entry_enumerate_new
    (meets_enum_newT l items n dct sl) ⟨hl, ?_⟩
  have hz : (s.heap.push { cls := .type "tuple_iterator", data := .fields #[.ref l, .int 0 0] }).objs.size = s.heap.objs.size + 1 := Heap.size_push ..
  show _ ∧ _
  rw [hz]
  have he : IsEnum ((s.heap.push { cls := .type "tuple_iterator", data := .fields #[.ref l, .int 0 0] }).push
      { cls := .type "enumerate", data := .fields #[.none, .bool false, .ref s.heap.objs.size, rawInt 0, .none, .none] }) (s.heap.objs.size + 1) s.heap.objs.size 0 .none := by
    have := Heap.get?_push_size (s.heap.push { cls := .type "tuple_iterator", data := .fields #[.ref l, .int 0 0] })
      (o := { cls := .type "enumerate", data := .fields #[.none, .bool false, .ref s.heap.objs.size, rawInt 0, .none, .none] }) rfl
    rw [hz] at this; exact this
  refine ⟨⟨_, he, rfl⟩, h _ he ⟨_, Heap.get?_push_of_some _ (Heap.get?_push_size _ rfl), rfl, rfl⟩ (by rw [Heap.size_push, hz]) fun b o x => Heap.get?_push_of_some _ (Heap.get?_push_of_some _ x)⟩
end
end Mine
end
section
open PySem PySem.W PySem.Calls PyProof.Rows
namespace Mine
section
variable {prog : Program} {w : World} {T : Tab} {base : Heap} {fzT : Fz} {n : Nat} {md : Md} {mg mb : Str → Option Value} {A : Around} {outer : List Env} {L : Addr} {env : Env} {nm : List Str} {σ : List SV} {ad : Nat → Addr} {fz : Fz} {s s₀ : Shared}
theorem enumD_length (ds : List PyData) : (enumD ds).length = ds.length := by unfold enumD; simp
theorem enumD_get {ds : List PyData} {i : Nat} {d x : PyData} (h : (enumD ds)[i]? = some d) (hx : ds[i]? = some x) : d = .tuple [.int i, x] := by
  unfold enumD at h
  have hlt := (List.getElem?_eq_some_iff.mp hx).1
  rw [List.getElem?_zipWith, List.getElem?_range hlt, hx] at h
  cases h; rfl
theorem iter_enum {E : Value → Shared → Prop} {v : Value} {ds : List PyData} (hh : A.handled = none) (hi : HI base outer s.heap) (hf : FzIn fz s.heap) (r : Rep fz v (.tuple ds)) :
    wpAny (model prog w) A (call (.type "enumerate") [v]) (fun x s₁ => wpAny (model prog w) A (pyIter x) (PIterAt prog w A (fsOf outer) fz (enumD ds) s) E s₁) E s := by
  obtain ⟨l, vs, rfl, e1, r1⟩ := rep_tuple_inv r
  have hl : s.heap.IsTuple l vs.toArray := by
    obtain ⟨o, n, ho, hc, hd⟩ := hf _ _ _ e1; exact ⟨o, ho, hc, n, hd⟩
  have hlt : l < s.heap.objs.size := by obtain ⟨o, ho, _⟩ := hl; exact Heap.lt_size ho
  refine call_enum_tuple hl fun h' he hit _ kp => ?_
  refine wpAny_pyIter_enum he ?_
  have D := draws_tuple (prog := prog) (w := w) (A := A.in1) hh s.heap.objs.size l (Nat.ne_of_lt hlt) vs.toArray
  have W := (WalksT.enumerateD D (s.heap.objs.size + 1) (Nat.succ_ne_self _) (by
    intro q
    rcases List.mem_cons.mp q with q | q
    · exact absurd q (Nat.succ_ne_self _)
    · have q := List.mem_singleton.mp q; rw [← q] at hlt; exact absurd hlt (Nat.not_lt.mpr (Nat.le_succ _))) (by simp)).toU
  rw [show vs.toArray.size = (enumD ds).length by simp [enumD_length, r1.length]] at W
  have n0 : s.heap.get? s.heap.objs.size = none := size_none _ (Nat.le_refl _)
  have n1 : s.heap.get? (s.heap.objs.size + 1) = none := size_none _ (Nat.le_succ _)
  have hl' : h'.IsTuple l vs.toArray := hl.at fun o e => kp _ o e
  refine ⟨h', s.toks, _, _, _, _, _, _, rfl, kp, rfl, W, fun i vals d p hP hd hp' => ?_, fun b hb => ?_, fun b hb => ?_, ?_, ?_⟩
  · obtain ⟨t, x, hx, rfl⟩ := hP
    obtain ⟨dx, h1, h2⟩ := r1.get' (by simpa using hx)
    cases enumD_get hd h1
    unfold pairOf at hp'; cases hp'
    exact ⟨_, _, rfl, .int _ _, h2⟩
  · rcases List.mem_cons.mp hb with q | q
    · rw [q]; exact n1
    · rw [List.mem_singleton.mp q]; exact n0
  · rcases List.mem_cons.mp hb with q | q
    · subst q; exact ⟨fs_old hi n1, .inl (.head _), _, he⟩
    · rcases List.mem_cons.mp q with q | q
      · subst q
        obtain ⟨o, ho, _⟩ := hit
        exact ⟨fs_old hi n0, .inl (.tail _ (.head _)), _, ho⟩
      · rw [List.mem_singleton.mp q]
        obtain ⟨o, ho, _⟩ := hl
        exact ⟨fs_not_list hi hf e1, .inr (by rw [e1]; intro z; cases z), _, kp _ _ ho⟩
  · exact ⟨⟨_, he⟩, hit, hl'⟩
  · intro i h hst b hb
    obtain ⟨⟨old, he'⟩, ⟨o, ho, _⟩, _⟩ := hst
    rcases List.mem_cons.mp hb with q | q
    · rw [q]; exact ⟨_, he'⟩
    · rw [List.mem_singleton.mp q]; exact ⟨o, ho⟩
theorem soundS_forE (G : GOK prog w T base fzT mg mb n) {i j : Nat} {src : X} {body orelse : List S} (hs : SoundX prog w T base fzT n .a src) (hb : SoundSs prog w T base fzT n .a body) (ho : SoundSs prog w T base fzT n .a orelse) : SoundS prog w T base fzT n .a (.forE i j src body orelse) := by
  intro A outer L env nm σ ad fz s e hm H hbad
  obtain ⟨t₀, it, bs, os, pos, rfl, hm⟩ := atStmtFor_inv hm
  obtain ⟨t, pt, u, pu, kt, tp, rfl, hm⟩ := atPair_inv hm
  obtain ⟨g, as, kw, cpos, rfl, hm⟩ := atCall_inv hm
  obtain ⟨f, pf, rfl, hm⟩ := atName_inv hm
  have hk := andL hm
  have hm := andR hm
  cases nil_inv hk
  obtain ⟨iter, rfl, hm⟩ := at1_inv hm
  have h8 := andR hm
  have hm := andL hm
  have h7 := andR hm
  have hm := andL hm
  have h6 := andR hm
  have hm := andL hm
  have h5 := andR hm
  have hm := andL hm
  have h4 := andR hm
  have hm := andL hm
  have h3 := andR hm
  have hm := andL hm
  have h2 := andR hm
  have h1 := andL hm
  cases (eq_of_beq h4)
  unfold evS at hbad ⊢
  refine wpAny_For (Call_ (built_name G H.here.hi H.here.envok h3 G.enu.1 G.enu.2 (callWith_type1 (args_cons (useS hs rfl h5 H (fun q => by rw [q] at hbad; exact hbad rfl) (fun k q => by rw [q] at hbad; exact absurd rfl hbad) fun d v fz₁ s₁ q r rep => args_nil ?_) (plain_star h6)) (plain_star h6)))) (fun _ => rfl)
  rw [q] at hbad ⊢
  have H₁ := H.step r
  cases d with
  | tuple ds =>
    by_cases hz : ds.length ≤ 1000
    · simp only [if_pos hz] at hbad ⊢
      refine wpAny_mono (iter_enum (E := fun _ _ => False) (H₁.here.sit.handled rfl) H₁.here.hi H₁.here.fzin rep) (fun x s₂ g => ?_) fun _ _ f => f.elim
      refine wpAny_mono g (fun it s₃ g => ?_) fun _ _ f => f.elim
      refine codeAny_mono (for_pairs H₁ h1 h2 hb ho h7 h8 g hbad) fun rr s' k => ?_
      cases rr with
      | ok f => exact PostS.after (.of_rel H.live r) k
      | error x => exact wpAny_mono k (fun _ _ k => PostX.after (.of_rel H.live r) k) fun _ _ k => PostX.after (.of_rel H.live r) k
    · simp only [if_neg hz] at hbad; exact absurd rfl hbad
  | _ => exact absurd rfl hbad
end
end Mine
end
section
open PySem PySem.W PySem.Calls PyProof.Rows
namespace Mine
section
variable {prog : Program} {w : World} {A : Around} {E : Value → Shared → Prop} {R : Result → Shared → Prop} {s : Shared}
/-! the turns of a comprehension with two generators -/
theorem turn2_outer (elt t₁ i₁ t₂ i₂ : Expr) (scope : Scope) (pos : Pos) (it acc : Value) (env : Env) :
    compTurn (.ListComp elt [⟨t₁, i₁, [], 0⟩, ⟨t₂, i₂, [], 0⟩] scope pos) 0 it acc env = (do
      standAt i₁.pos
      match ← pyNext it with
      | none => pure (.done .next)
      | some v =>
        letOwnedTupleGo t₁ it v
        assign t₁ env v
        let x ← eval i₂ env
        standAt i₂.pos
        let x ← foldedSetIterable i₂ env x
        let _ ← runOwn (.compStart (.ListComp elt [⟨t₁, i₁, [], 0⟩, ⟨t₂, i₂, [], 0⟩] scope pos) 1 (← holding [x] (pyIter x)) acc env) env
        again (.compLoop (.ListComp elt [⟨t₁, i₁, [], 0⟩, ⟨t₂, i₂, [], 0⟩] scope pos) 0 it acc env)) := by rfl
theorem turn2_inner (elt t₁ i₁ t₂ i₂ : Expr) (scope : Scope) (pos : Pos) (it acc : Value) (env : Env) :
    compTurn (.ListComp elt [⟨t₁, i₁, [], 0⟩, ⟨t₂, i₂, [], 0⟩] scope pos) 1 it acc env = (do
      standAt i₂.pos
      match ← pyNext it with
      | none => pure (.done .next)
      | some v =>
        letOwnedTupleGo t₂ it v
        assign t₂ env v
        (do let _ ← call (.builtin "list.append") [acc, ← eval elt env])
        again (.compLoop (.ListComp elt [⟨t₁, i₁, [], 0⟩, ⟨t₂, i₂, [], 0⟩] scope pos) 1 it acc env)) := by rfl
theorem loop2_inner {elt t₁ i₁ t₂ i₂ : Expr} {scope : Scope} {pos : Pos} {it acc : Value} {env : Env} (I : Nat → Shared → Prop)
    (turn : ∀ n s, I n s → wpAny (model prog w) A (pyNext it) (fun r s₁ => match r with
      | none => R (.ok .next) s₁
      | some v => wpAny (model prog w) A (assign t₂ env v) (fun _ s₂ =>
            wpAny (model prog w) A (eval elt env) (fun x s₄ =>
              wpAny (model prog w) A (call (.builtin "list.append") [acc, x]) (fun _ s₅ => ∃ m, m < n ∧ I m s₅) (notedBy (model prog w) A env fun e s' => R (.error e) s') s₄) (notedBy (model prog w) A env fun e s' => R (.error e) s') s₂) (notedBy (model prog w) A env fun e s' => R (.error e) s') s₁) (notedBy (model prog w) A env fun e s' => R (.error e) s') s)
    (n : Nat) (h : I n s) (ht : ∀ v, letOwnedTupleGo t₂ it v = pure () := by intro _; rfl) :
    codeAny (model prog w) A (.compLoop (.ListComp elt [⟨t₁, i₁, [], 0⟩, ⟨t₂, i₂, [], 0⟩] scope pos) 1 it acc env) R s := by
  refine codeAny_loop rfl I (fun n s hI => ?_) n h
  show wpAny _ A ((compTurn (.ListComp elt [⟨t₁, i₁, [], 0⟩, ⟨t₂, i₂, [], 0⟩] scope pos) 1 it acc env).onRaise (fun x => do noteFrame x env; theTreesLotGoes x)) _ _ s
  refine wpAny_noted ?_
  rw [turn2_inner]
  refine wpAny_bind (wpAny_standAt (wpAny_bind (wpAny_mono (turn n s hI) (fun r s₁ h₁ => ?_) fun _ _ h' => h')))
  cases r with
  | none => exact wpAny_pure h₁
  | some v =>
    refine wpAny_bind (wpAny_of_eq (ht v) ?_)
    refine wpAny_bind (wpAny_mono h₁ (fun _ s₂ h₂ => ?_) fun _ _ h' => h')
    exact wpAny_bind (wpAny_bind (wpAny_mono h₂ (fun x s₄ h₄ => wpAny_bind (wpAny_mono h₄ (fun _ s₅ h₅ => wpAny_pure (wpAny_pure ⟨rfl, h₅⟩)) fun _ _ h' => h')) fun _ _ h' => h'))
theorem loop2_outer {elt t₁ i₁ t₂ i₂ : Expr} {scope : Scope} {pos : Pos} {it acc : Value} {env : Env} (I : Nat → Shared → Prop)
    (turn : ∀ n s, I n s → wpAny (model prog w) A (pyNext it) (fun r s₁ => match r with
      | none => R (.ok .next) s₁
      | some v => wpAny (model prog w) A (assign t₁ env v) (fun _ s₂ =>
            wpAny (model prog w) A (eval i₂ env) (fun x s₃ => wpAny (model prog w) A (pyIter x) (fun it₂ s₄ =>
              codeAny (model prog w) (A.mark none) (.compStart (.ListComp elt [⟨t₁, i₁, [], 0⟩, ⟨t₂, i₂, [], 0⟩] scope pos) 1 it₂ acc env) (fun r s' => match r with
                | .ok _ => ∃ m, m < n ∧ I m s'
                | .error _ => False) s₄) (notedBy (model prog w) A env fun e s' => R (.error e) s') s₃) (notedBy (model prog w) A env fun e s' => R (.error e) s') s₂) (notedBy (model prog w) A env fun e s' => R (.error e) s') s₁) (notedBy (model prog w) A env fun e s' => R (.error e) s') s)
    (n : Nat) (h : I n s) (hs : ∀ x, foldedSetIterable i₂ env x = pure x) (ht : ∀ v, letOwnedTupleGo t₁ it v = pure () := by intro _; rfl) :
    codeAny (model prog w) A (.compLoop (.ListComp elt [⟨t₁, i₁, [], 0⟩, ⟨t₂, i₂, [], 0⟩] scope pos) 0 it acc env) R s := by
  refine codeAny_loop rfl I (fun n s hI => ?_) n h
  show wpAny _ A ((compTurn (.ListComp elt [⟨t₁, i₁, [], 0⟩, ⟨t₂, i₂, [], 0⟩] scope pos) 0 it acc env).onRaise (fun x => do noteFrame x env; theTreesLotGoes x)) _ _ s
  refine wpAny_noted ?_
  rw [turn2_outer]
  refine wpAny_bind (wpAny_standAt (wpAny_bind (wpAny_mono (turn n s hI) (fun r s₁ h₁ => ?_) fun _ _ h' => h')))
  cases r with
  | none => exact wpAny_pure h₁
  | some v =>
    refine wpAny_bind (wpAny_of_eq (ht v) ?_)
    refine wpAny_bind (wpAny_mono h₁ (fun _ s₂ h₂ => ?_) fun _ _ h' => h')
    refine wpAny_bind (wpAny_mono h₂ (fun x s₃ h₃ => ?_) fun _ _ h' => h')
    refine wpAny_bind (wpAny_standAt (wpAny_bind (wpAny_of_eq (hs x) (wpAny_bind (wpAny_holding (wpAny_mono h₃ (fun it₂ s₄ h₄ => ?_) fun _ _ h' => h'))))))
    refine wpAny_bind (wpAny_runOwn (codeAny_mono h₄ fun r s' k => ?_))
    cases r with
    | ok f => exact wpAny_pure ⟨rfl, k⟩
    | error x => exact k.elim
theorem start2_inner {elt t₁ i₁ t₂ i₂ : Expr} {scope : Scope} {pos : Pos} {it acc : Value} {env : Env}
    (h0 : codeAny (model prog w) A (.compLoop (.ListComp elt [⟨t₁, i₁, [], 0⟩, ⟨t₂, i₂, [], 0⟩] scope pos) 1 it acc env) R s)
    (h : wpAny (model prog w) A (pyIter it) (fun it' s' => codeAny (model prog w) A (.compLoop (.ListComp elt [⟨t₁, i₁, [], 0⟩, ⟨t₂, i₂, [], 0⟩] scope pos) 1 it' acc env) R s')
      (notedBy (model prog w) A env fun x s' => R (.error x) s') s) :
    codeAny (model prog w) A (.compStart (.ListComp elt [⟨t₁, i₁, [], 0⟩, ⟨t₂, i₂, [], 0⟩] scope pos) 1 it acc env) R s := by
  refine codeAny_of_tree ?_
  show wpAny _ _ ((compStart (.ListComp elt [⟨t₁, i₁, [], 0⟩, ⟨t₂, i₂, [], 0⟩] scope pos) 1 it acc env).onRaise (fun x => do noteFrame x env; standAt theWindowsPlace)) _ _ s
  refine wpAny_notedAt ?_
  unfold compStart
  show wpAny _ _ (ask >>= _) _ _ s
  refine wpAny_bind (wpAny_askSetting (wpAny_ite ?_))
  split
  · first
      | exact wpAny_bind (wpAny_pure (wpAny_pure (And.intro rfl h0)))
      | exact wpAny_pure (And.intro rfl h0)
  · first
      | exact wpAny_bind (wpAny_rule (wpAny_bind (wpAny_standAt (wpAny_bind (wpAny_mono h (fun it' s' h' => wpAny_pure (And.intro rfl h')) fun _ _ x => x)))))
      | (refine wpAny_bind (wpAny_rule ?_); show wpAny _ _ (standAt i₂.pos >>= _) _ _ s; exact wpAny_bind (wpAny_standAt (wpAny_bind (wpAny_mono h (fun it' s' h' => wpAny_pure (And.intro rfl h')) fun _ _ x => x))))
end
end Mine
end
section
open PySem PySem.W PySem.Calls PyProof.Rows
namespace Mine
section
variable {prog : Program} {w : World} {T : Tab} {base : Heap} {fzT : Fz} {n : Nat} {A : Around} {outer : List Env} {L : Addr} {env : Env} {nm : List Str} {σ : List SV} {ad : Nat → Addr} {fz : Fz} {s₀ s₁ : Shared} {scope : Scope} {t : Str} {C D : Addr}
  {wr fp : List Addr} {W : Addr → Prop} {I : Addr} {ds : List PyData} {P : Nat → Value → Prop} {St : Nat → Heap → Prop} {hit : Heap} {pre : List (Str × PyData)}
theorem untest {M : Model} {f : Expr → Bool → Sem (ForInStep Bool)} {α : Type} {tr : Sem α} {Q : α → Shared → Prop} {E EE : Value → Shared → Prop} {N : Shared → Prop} {s : Shared}
    (h : wpAny M A (forIn ([] : List Expr) true f) (fun ok s₄ => if ok = true then wpAny M A tr Q E s₄ else N s₄) EE s) : wpAny M A tr Q E s :=
  fun Γ p hΓ => by
    have := h Γ p hΓ
    have q : (if true = true then wpAny M A tr Q E s else N s) := this
    rw [if_pos rfl] at q
    exact q Γ p hΓ
theorem inner_turn3 {fzI : Fz} (fI : FzExt s₀.heap fz fzI) {u : Str} {pu : Pos} {elt : X} {e : Expr} {i : Nat} {fz' : Fz} {ys : List Value} {es out r : List PyData} {d : PyData} {s' : Shared} {Next RR : Shared → Prop} {EE : Value → Shared → Prop}
    (H : Here base fzT .a n A outer L env nm σ ad fz s₀) (X : CompCx env.scope.names nm t scope)
    (hap : ∀ x y c, scope.names.lookup x = some .cell → scope.names.lookup y = some .cell → (cEnv scope env C).cells.lookup x = some c → (cEnv scope env C).cells.lookup y = some c → x = y)
    (hs₁ : ∃ h₁ t₁, s₁ = { s₀ with heap := h₁, toks := t₁ }) (kp : Ext (fsOf outer) s₀.heap s₁.heap)
    (Wc : CW scope (cEnv scope env C) fzI s₀.heap s₁.heap (fsOf outer) wr D W) (It : Itr prog w A (fsOf outer) fzI ds s₀.heap hit I fp wr P St)
    (hu : ownN scope u) (hpo : ∀ p ∈ pre, ownN scope p.1 ∧ p.1 ≠ u) (htl : t ∈ pre.map (·.1))
    (he : SoundX prog w T base fzT n .a elt)
    (helt : Mx T (relab env.scope.names scope.names) (nm ++ (pre.map (·.1) ++ [u])) elt e = true)
    (ci : CI scope (cEnv scope env C) fzI s₁ (fsOf outer) W St D pre i fz' ys s') (hr : RepAll fz' ys es) (hd : ds[i]? = some d)
    (hgo : compGo (fun _ => .ok (.bool true)) (fun d => ev T elt (σ ++ (pre.map (fun p => SV.val p.2) ++ [.val d]))) (d :: r) = .ok (.list out)) (hsz : es.length + out.length ≤ 100000)
    (hN : ∀ fz'' ys' es' out' s'', CI scope (cEnv scope env C) fzI s₁ (fsOf outer) W St D pre (i + 1) fz'' ys' s'' → RepAll fz'' ys' es' →
      compGo (fun _ => .ok (.bool true)) (fun d => ev T elt (σ ++ (pre.map (fun p => SV.val p.2) ++ [.val d]))) r = .ok (.list out') → es' ++ out' = es ++ out → Next s'') :
    wpAny (model prog w) A (pyNext (.ref I)) (fun o s₂ => match o with
      | none => RR s₂
      | some v => wpAny (model prog w) A (assign (.Name u pu) (cEnv scope env C) v) (fun _ s₃ =>
          wpAny (model prog w) A (eval e (cEnv scope env C)) (fun x s₅ => wpAny (model prog w) A (call (.builtin "list.append") [.ref D, x]) (fun _ s₆ => Next s₆) EE s₅) EE s₃) EE s₂) EE s' := by
  have e1 : ∀ d : PyData, (σ ++ (pre ++ [(u, d)]).map fun (p : Str × PyData) => SV.val p.2) = (σ ++ (pre.map (fun p => SV.val p.2) ++ [.val d])) := fun d => by simp
  have e2 : ∀ σ' : List SV, ev T (.bool true) σ' = .ok (.bool true) := fun σ' => by unfold ev; rfl
  have f1 : (fun d => ev T elt (σ ++ (pre ++ [(u, d)]).map fun (p : Str × PyData) => SV.val p.2)) = (fun d => ev T elt (σ ++ (pre.map (fun p => SV.val p.2) ++ [.val d]))) := by funext d; rw [e1]
  have f2 : (fun d => ev T (.bool true) (σ ++ (pre ++ [(u, d)]).map fun (p : Str × PyData) => SV.val p.2)) = (fun _ => .ok (.bool true)) := by funext d; rw [e2]
  have key := inner_turn2 (T := T) (σ := σ) (cond := .bool true) (elt := elt) (e := e) (ifs := []) (u := u) (pu := pu) (r := r) (out := out) (Next := Next) (RR := RR) (EE := EE) fI H X hap hs₁ kp Wc It hu hpo (by simp only [List.map_append, List.mem_append]; exact .inl htl) (soundB_plain rfl (sound_bool _)) he (.inl ⟨rfl, rfl⟩) (by simpa using helt) ci hr hd (by rw [f1, f2]; exact hgo) hsz (by rw [f1, f2]; exact hN)
  refine wpAny_mono key (fun o s₂ h₂ => ?_) fun _ _ q => q
  cases o with
  | none => exact h₂
  | some v => exact wpAny_mono h₂ (fun _ s₃ h₃ => untest h₃) fun _ _ q => q
theorem inner_loop2 {fzI : Fz} (fI : FzExt s₀.heap fz fzI) {u : Str} {pu pos : Pos} {elt : X} {e t₁ i₁ i₂ : Expr} {fz' : Fz} {ys : List Value} {es out : List PyData} {s' : Shared} {R : Result → Shared → Prop}
    (H : Here base fzT .a n A outer L env nm σ ad fz s₀) (X : CompCx env.scope.names nm t scope)
    (hap : ∀ x y c, scope.names.lookup x = some .cell → scope.names.lookup y = some .cell → (cEnv scope env C).cells.lookup x = some c → (cEnv scope env C).cells.lookup y = some c → x = y)
    (hs₁ : ∃ h₁ t₁, s₁ = { s₀ with heap := h₁, toks := t₁ }) (kp : Ext (fsOf outer) s₀.heap s₁.heap)
    (Wc : CW scope (cEnv scope env C) fzI s₀.heap s₁.heap (fsOf outer) wr D W) (It : Itr prog w A (fsOf outer) fzI ds s₀.heap hit I fp wr P St)
    (hu : ownN scope u) (hpo : ∀ p ∈ pre, ownN scope p.1 ∧ p.1 ≠ u) (htl : t ∈ pre.map (·.1))
    (he : SoundX prog w T base fzT n .a elt)
    (helt : Mx T (relab env.scope.names scope.names) (nm ++ (pre.map (·.1) ++ [u])) elt e = true)
    (ci : CI scope (cEnv scope env C) fzI s₁ (fsOf outer) W St D pre 0 fz' ys s') (hr : RepAll fz' ys es)
    (hgo : compGo (fun _ => .ok (.bool true)) (fun d => ev T elt (σ ++ (pre.map (fun p => SV.val p.2) ++ [.val d]))) ds = .ok (.list out)) (hsz : es.length + out.length ≤ 100000)
    (hR : ∀ fz'' ys' s'' h₂ tk₂, CI scope (cEnv scope env C) fzI s₁ (fsOf outer) W St D pre ds.length fz'' ys' s'' → RepAll fz'' ys' (es ++ out) →
      (∀ b o, b ∉ wr → s''.heap.get? b = some o → h₂.get? b = some o) → R (.ok .next) { s'' with heap := h₂, toks := tk₂ }) :
    codeAny (model prog w) A (.compLoop (.ListComp e [⟨t₁, i₁, [], 0⟩, ⟨.Name u pu, i₂, [], 0⟩] scope pos) 1 (.ref I) (.ref D) (cEnv scope env C)) R s' := by
  refine loop2_inner (fun m s'' => ∃ i fz'' ys' es' o', CI scope (cEnv scope env C) fzI s₁ (fsOf outer) W St D pre i fz'' ys' s'' ∧ RepAll fz'' ys' es' ∧ i ≤ ds.length ∧ m = ds.length + 1 - i ∧
    compGo (fun _ => .ok (.bool true)) (fun d => ev T elt (σ ++ (pre.map (fun p => SV.val p.2) ++ [.val d]))) (ds.drop i) = .ok (.list o') ∧ es' ++ o' = es ++ out) ?_ (ds.length + 1) ⟨0, fz', ys, es, out, ci, hr, Nat.zero_le _, rfl, by simpa using hgo, rfl⟩
  rintro m s'' ⟨i, fz'', ys', es', o', ci', hr', hi, rfl, hgo', htot⟩
  have hlo : es'.length + o'.length ≤ 100000 := by
    have : (es' ++ o').length = (es ++ out).length := by rw [htot]
    simp only [List.length_append] at this; omega
  by_cases hlt : i < ds.length
  · obtain ⟨d, hd⟩ : ∃ d, ds[i]? = some d := ⟨_, List.getElem?_eq_getElem hlt⟩
    have hdr : ds.drop i = d :: ds.drop (i + 1) := by
      rw [List.drop_eq_getElem_cons hlt]; rw [List.getElem?_eq_getElem hlt] at hd; cases hd; rfl
    rw [hdr] at hgo'
    refine inner_turn3 (r := ds.drop (i + 1)) (out := o') fI H X hap hs₁ kp Wc It hu hpo htl he helt ci' hr' hd hgo' hlo ?_
    intro fz₃ ys₃ es₃ out₃ s₃ ci₃ hr₃ hg₃ ht₃
    exact ⟨ds.length + 1 - (i + 1), by omega, i + 1, fz₃, ys₃, es₃, out₃, ci₃, hr₃, hlt, rfl, hg₃, by rw [ht₃, htot]⟩
  · have hin : i = ds.length := by omega
    subst hin
    rw [List.drop_of_length_le (Nat.le_refl _)] at hgo'
    unfold compGo at hgo'
    cases hgo'
    rw [List.append_nil] at htot
    subst htot
    have st := ci'.st
    refine It.walks.done _ _ _ st fun h₂ tk₂ mv => ?_
    exact hR _ _ _ _ _ ci' hr' mv
end
end Mine
end
section
open PySem PySem.W PySem.Calls PyProof.Rows
namespace Mine
theorem compGo2_length {c : PyData → Res} {e : PyData → PyData → Res} : ∀ {ds out : List PyData}, compGo2 c e ds = .ok (.list out) → out.length ≤ 100000
  | [], out, h => by unfold compGo2 at h; cases h; exact Nat.zero_le _
  | d :: r, out, h => by
    unfold compGo2 at h
    split at h
    · split at h
      · split at h
        · split at h
          · split at h
            · cases h; simpa using ‹_›
            · cases h
          · cases h
        · cases h
      · cases h
    · cases h
theorem compGo2_list {c : PyData → Res} {e : PyData → PyData → Res} {ds : List PyData} (h : compGo2 c e ds ≠ .bad) : ∃ out, compGo2 c e ds = .ok (.list out) := by
  cases ds with
  | nil => exact ⟨[], by unfold compGo2; rfl⟩
  | cons d r =>
    unfold compGo2 at h ⊢
    split at h
    · split at h
      · split at h
        · split at h
          · split at h
            · simp_all
            · exact absurd rfl h
          · exact absurd rfl h
        · exact absurd rfl h
      · exact absurd rfl h
    · exact absurd rfl h
/-- the parts of a turn of the outer loop -/
theorem compGo2_cons {c : PyData → Res} {e : PyData → PyData → Res} {d : PyData} {r out : List PyData} (h : compGo2 c e (d :: r) = .ok (.list out)) :
    ∃ l ds es fs, c d = .ok l ∧ itemsOf l = some ds ∧ compGo (fun _ => .ok (.bool true)) (e d) ds = .ok (.list es) ∧ compGo2 c e r = .ok (.list fs) ∧ out = es ++ fs ∧ es.length + fs.length ≤ 100000 := by
  unfold compGo2 at h
  split at h
  · rename_i l hl
    split at h
    · rename_i ds hds
      split at h
      · rename_i es hes
        split at h
        · rename_i fs hfs
          split at h
          · rename_i hz
            cases h
            exact ⟨l, ds, es, fs, hl, hds, hes, hfs, rfl, hz⟩
          · cases h
        · cases h
      · cases h
    · cases h
  · cases h
section
variable {prog : Program} {w : World} {T : Tab} {base : Heap} {fzT : Fz} {n : Nat} {A : Around} {outer : List Env} {L : Addr} {env : Env} {nm : List Str} {σ : List SV} {ad : Nat → Addr} {fz : Fz} {s₀ s₁ : Shared} {scope : Scope} {t : Str} {C D : Addr}
  {wr fp : List Addr} {I : Addr} {ds : List PyData} {P : Nat → Value → Prop} {St : Nat → Heap → Prop} {hit : Heap}
theorem mark_none_eq (h : A.handled = none) : A.mark none = A := by
  first | exact Around.mark_none h | exact Around.mark_none _ | (cases A; simp_all [Around.mark])
theorem outer_turn {u : Str} {pt pu pos : Pos} {src₂ elt : X} {e i₁ i₂ : Expr} {i : Nat} {fz' : Fz} {ys : List Value} {es out r : List PyData} {d : PyData} {s' : Shared} {Next RR : Shared → Prop} {EE : Value → Shared → Prop}
    (H : Here base fzT .a n A outer L env nm σ ad fz s₀) (X : CompCx env.scope.names nm t scope)
    (hap : ∀ x y c, scope.names.lookup x = some .cell → scope.names.lookup y = some .cell → (cEnv scope env C).cells.lookup x = some c → (cEnv scope env C).cells.lookup y = some c → x = y)
    (hs₁ : ∃ h₁ t₁, s₁ = { s₀ with heap := h₁, toks := t₁ }) (kp : ∀ b o, s₀.heap.get? b = some o → s₁.heap.get? b = some o)
    (Wc : CW scope (cEnv scope env C) fz s₀.heap s₁.heap (fsOf outer) wr D (compW scope (cEnv scope env C) wr D)) (It : Itr prog w A (fsOf outer) fz ds s₀.heap hit I fp wr P St)
    (ht : ownN scope t) (hu : ownN scope u) (htu : t ≠ u)
    (hs : SoundX prog w T base fzT n .a src₂) (he : SoundX prog w T base fzT n .a elt)
    (hsrc : Mx T (relab env.scope.names scope.names) (nm ++ [t]) src₂ i₂ = true)
    (helt : Mx T (relab env.scope.names scope.names) (nm ++ [t, u]) elt e = true)
    (ci : CI scope (cEnv scope env C) fz s₁ (fsOf outer) (compW scope (cEnv scope env C) wr D) St D [] i fz' ys s') (hr : RepAll fz' ys es) (hd : ds[i]? = some d)
    (hgo : compGo2 (fun d => ev T src₂ (σ ++ [.val d])) (fun d e => ev T elt (σ ++ [.val d, .val e])) (d :: r) = .ok (.list out)) (hsz : es.length + out.length ≤ 100000)
    (hN : ∀ fz'' ys' es' out' s'', CI scope (cEnv scope env C) fz s₁ (fsOf outer) (compW scope (cEnv scope env C) wr D) St D [] (i + 1) fz'' ys' s'' → RepAll fz'' ys' es' →
      compGo2 (fun d => ev T src₂ (σ ++ [.val d])) (fun d e => ev T elt (σ ++ [.val d, .val e])) r = .ok (.list out') → es' ++ out' = es ++ out → Next s'') :
    wpAny (model prog w) A (pyNext (.ref I)) (fun o s₂ => match o with
      | none => RR s₂
      | some v => wpAny (model prog w) A (assign (.Name t pt) (cEnv scope env C) v) (fun _ s₃ =>
          wpAny (model prog w) A (eval i₂ (cEnv scope env C)) (fun x s₃ => wpAny (model prog w) A (pyIter x) (fun it₂ s₄ =>
            codeAny (model prog w) (A.mark none) (.compStart (.ListComp e [⟨.Name t pt, i₁, [], 0⟩, ⟨.Name u pu, i₂, [], 0⟩] scope pos) 1 it₂ (.ref D) (cEnv scope env C)) (fun r s' => match r with
              | .ok _ => Next s'
              | .error _ => False) s₄) EE s₃) EE s₃) EE s₂) EE s' := by
  have hOk : env.scope.kind = .function := H.envok.kind
  have hin : i < ds.length := (List.getElem?_eq_some_iff.mp hd).1
  have fpfs : ∀ b ∈ fp, b ∉ fsOf outer := fun b hb => (It.fpo b hb).1
  obtain ⟨l, ds₂, es₂, fs₂, hl, hds₂, hes₂, hfs₂, rfl, hz₂⟩ := compGo2_cons hgo
  obtain ⟨⟨h', tk, rfl, ex⟩, fze, fzi, st, ac, ow, lv, pr⟩ := ci
  dsimp only at fzi st ac ow lv pr
  have hWz : ∀ b, compW scope (cEnv scope env C) wr D b → fz' b = none := fzExt_W fze Wc.fzn Wc.there
  refine It.walks.item i _ _ _ hin st fun v h₂ tk₂ hP st₂ mv => ?_
  dsimp only at mv
  have kd₂ : ∀ b o, b ∉ wr → h'.get? b = some o → ∃ o', h₂.get? b = some o' ∧ o'.data = o.data := fun b o hb ho => ⟨o, mv b o hb ho, rfl⟩
  have ow₂ : OwnOk scope (cEnv scope env C) h₂ := ow.keep fun b o hb ho => kd₂ b o (by
    rcases hb with rfl | ⟨y, hy, hc⟩
    · exact Wc.lwr
    · exact (Wc.cwr y b hy hc).1) ho
  refine wpAny_assign_Name (store_own hOk X hap ow₂ ht fun h₃ tk₃ a sb ha ow₃ vu vo => ?_)
  dsimp only at sb vo
  have hWa : compW scope (cEnv scope env C) wr D a := by
    rcases ha with rfl | ⟨y, hy, hc⟩
    · exact Wc.loc
    · exact Wc.cells y a hy hc
  have haD : a ≠ D := by
    rcases ha with rfl | ⟨y, hy, hc⟩
    · exact Wc.ld
    · exact (Wc.cwr y a hy hc).2
  have hawr : a ∉ wr := by
    rcases ha with rfl | ⟨y, hy, hc⟩
    · exact Wc.lwr
    · exact (Wc.cwr y a hy hc).1
  have fpo' : ∀ b ∈ fp, compW scope (cEnv scope env C) wr D b → b ∈ wr := by
    intro b hb hw
    rcases (It.fpo b hb).2.1 with q | q
    · exact q
    · exact absurd (Wc.fzn _ hw) q
  have fpa : ∀ b ∈ fp, b ≠ a := fun b hb e => hawr (fpo' a (e ▸ hb) hWa)
  have e₃ : ExtW (compW scope (cEnv scope env C) wr D) (fsOf outer) h' h₃ := (ExtW.of_moved mv Wc.wrs).trans (.of_but sb hWa)
  have fzi₃ : FzIn fz' h₃ := e₃.fzIn hWz fzi
  have rv : Rep fz' v d := (It.item i v d hP hd).mono fze.le
  have ci₃ : CI scope (cEnv scope env C) fz s₁ (fsOf outer) (compW scope (cEnv scope env C) wr D) St D [(t, d)] (i + 1) fz' ys { s₁ with heap := h₃, toks := tk₃ } := by
    refine ⟨⟨h₃, tk₃, rfl, ex.trans e₃⟩, fze, fzi₃, It.walks.frame _ _ _ st₂ fun b hb o ho => sb.extBut b o (fpa b hb) ho, ?_, ow₃, fun b hb => ?_, fun j x d' hj => ?_⟩
    · obtain ⟨k, hk⟩ := ac
      exact ⟨k, sb.extBut _ _ (Ne.symm haD) (mv _ _ Wc.dwr hk)⟩
    · by_cases q : b = a
      · subst q
        rcases ha with rfl | ⟨y, hy, hc⟩
        · obtain ⟨m, o, _, _, ho, _⟩ := ow₃.ns; exact ⟨o, ho⟩
        · obtain ⟨c, v', hc', o, ho, _⟩ := ow₃.cells y hy
          rw [hc] at hc'; cases hc'; exact ⟨o, ho⟩
      · by_cases hbw : b ∈ wr
        · obtain ⟨o, ho⟩ := It.ex _ _ st₂ b hbw; exact ⟨o, sb.extBut b o q ho⟩
        · obtain ⟨o, ho⟩ := lv b hb; exact ⟨o, sb.extBut b o q (mv b o hbw ho)⟩
    · cases j with
      | zero => cases hj; exact ⟨v, vu, rv⟩
      | succ k => simp at hj
  have e₀ : Ext (fsOf outer) s₀.heap h₃ := ExtW.old kp (ex.trans e₃) Wc.old
  have f₀ : FzExt s₀.heap fz fz' := ⟨fze.le, fun p h1 h2 => by
    have := fze.new p h1 h2
    cases q : s₀.heap.get? p with
    | none => rfl
    | some o => have := kp _ _ q; rw [fze.new p h1 h2] at this; cases this⟩
  obtain ⟨h₁, t₁, rfl⟩ := hs₁
  have H₃ := comp_here (tk := tk₃) H X e₀ f₀ fzi₃ ow₃ [(t, d)] (fun j x d' hj => ci₃.pre j x d' hj) (by simp)
  have hnames : (cEnv scope env C).scope.names = relab env.scope.names scope.names := relabel_names hOk
  refine useV (hs i₂ (by rw [hnames]; exact hsrc) H₃ (by show ev T src₂ (σ ++ [.val d]) ≠ .bad; rw [hl]; intro q; cases q)) (fun kk _ _ q _ => by rw [show ev T src₂ (σ ++ [(t, d)].map fun (p : Str × PyData) => SV.val p.2) = ev T src₂ (σ ++ [.val d]) from rfl, hl] at q; cases q) fun l' x fz₄ s₄ q r₄ rep₄ => ?_
  rw [show ev T src₂ (σ ++ [(t, d)].map fun (p : Str × PyData) => SV.val p.2) = ev T src₂ (σ ++ [.val d]) from rfl, hl] at q
  cases q
  have ci₄ := ci₃.step fpfs Wc.dfs It.walks r₄
  have hr₄ := hr.mono r₄.fz.le
  have H₄ := H₃.step r₄
  refine wpAny_mono (iter_good (E := fun _ _ => False) (H₄.sit.handled rfl) H₄.hi H₄.fzin rep₄ hds₂) (fun it₂ s₅ g => ?_) fun _ _ f => f.elim
  obtain ⟨hb₅, tk₅, I₂, fp₂, wr₂, P₂, St₂, rfl, kp₅, rfl, It₂⟩ := g
  rw [mark_none_eq (H.sit.handled rfl)]
  have E04 : Ext (fsOf outer) s₀.heap s₄.heap := e₀.trans r₄.ext
  have E05 : Ext (fsOf outer) s₀.heap hb₅ := E04.trans (Ext.of_keeps kp₅)
  have F04 : FzExt s₀.heap fz fz₄ := f₀.trans e₀ r₄.fz
  have It₂' : Itr prog w A (fsOf outer) fz₄ ds₂ s₀.heap hb₅ I₂ fp₂ wr₂ P₂ St₂ := ⟨It₂.walks, It₂.item, fun b hb => E04.none (It₂.new b hb), It₂.fpo, It₂.st, It₂.ex⟩
  obtain ⟨⟨h4, tk4, e4, ex4⟩, fze4, fzi4, st4, ac4, ow4, lv4, pr4⟩ := ci₄
  have n4 : ∀ b, compW scope (cEnv scope env C) wr D b → b ∉ wr₂ := fun b hb hm => by
    obtain ⟨o, ho⟩ := lv4 b hb; rw [It₂.new b hm] at ho; cases ho
  have z4 : ∀ b, compW scope (cEnv scope env C) wr D b → fz₄ b = none := fzExt_W fze4 Wc.fzn Wc.there
  have Wc₂ : CW scope (cEnv scope env C) fz₄ s₀.heap hb₅ (fsOf outer) wr₂ D (compW scope (cEnv scope env C) wr₂ D) := by
    refine ⟨fun b hb => .inl hb, .inr (.inl rfl), .inr (.inr (.inl rfl)), fun y c hy hc => .inr (.inr (.inr ⟨y, hy, hc⟩)), fun b o e hw => ?_, fun b hw => ?_, fun b hw => ?_, Wc.dfs, n4 _ Wc.acc, n4 _ Wc.loc, fun y c hy hc => ⟨n4 _ (Wc.cells y c hy hc), (Wc.cwr y c hy hc).2⟩, Wc.ld, fun b hb => hb⟩
    · rcases hw with q | q
      · rw [It₂'.new b q] at e; cases e
      · exact Wc.old b o e (.inr q)
    · rcases hw with q | q
      · cases z : fz₄ b with
        | none => rfl
        | some p => obtain ⟨tt, us⟩ := p; obtain ⟨o, k, ho, _⟩ := r₄.fzin _ _ _ z; rw [It₂.new b q] at ho; cases ho
      · exact z4 b (.inr q)
    · rcases hw with q | q
      · exact It₂.ex 0 _ It₂.st b q
      · obtain ⟨o, ho⟩ := lv4 b (.inr q); exact ⟨o, kp₅ _ _ ho⟩
  have kd5 : ∀ b o, s₄.heap.get? b = some o → ∃ o', hb₅.get? b = some o' ∧ o'.data = o.data := fun b o ho => ⟨o, kp₅ b o ho, rfl⟩
  have fz5 : FzIn fz₄ hb₅ := (Ext.of_keeps (fs := []) kp₅).fzIn r₄.fzin
  have ci5 : CI scope (cEnv scope env C) fz₄ { s₄ with heap := hb₅, toks := tk₅ } (fsOf outer) (compW scope (cEnv scope env C) wr₂ D) St₂ D [(t, d)] 0 fz₄ ys { s₄ with heap := hb₅, toks := tk₅ } := by
    refine ⟨⟨hb₅, tk₅, rfl, ExtW.refl _ _ _⟩, FzExt.refl _ _, fz5, It₂.st, ?_, ow4.keep fun b o _ ho => kd5 b o ho, Wc₂.there, fun j y d' hj => ?_⟩
    · obtain ⟨k, hk⟩ := ac4; exact ⟨k, kp₅ _ _ hk⟩
    · obtain ⟨v', a', b'⟩ := pr4 j y d' hj
      exact ⟨v', a'.keep fun b o _ ho => kd5 b o ho, b'⟩
  have hs5 : ∃ h₁ t₁, ({ s₄ with heap := hb₅, toks := tk₅ } : Shared) = { s₀ with heap := h₁, toks := t₁ } := ⟨hb₅, tk₅, by rw [e4]⟩
  have loop : codeAny (model prog w) A (.compLoop (.ListComp e [⟨.Name t pt, i₁, [], 0⟩, ⟨.Name u pu, i₂, [], 0⟩] scope pos) 1 (.ref I₂) (.ref D) (cEnv scope env C)) (fun r s' => match r with
              | .ok _ => Next s'
              | .error _ => False) { s₄ with heap := hb₅, toks := tk₅ } := by
    refine inner_loop2 (pre := [(t, d)]) (es := es) (out := es₂) F04 H X hap hs5 E05 Wc₂ It₂' hu (fun p hp => by rw [List.mem_singleton.mp hp]; exact ⟨ht, htu⟩) (by simp) he helt ci5 hr₄ hes₂ (by simp only [List.length_append] at hsz; omega) ?_
    intro fz₆ ys₆ s₆ h₇ tk₇ ci6 hr6 mv7
    obtain ⟨⟨h6, tk6, rfl, ex6⟩, fze6, fzi6, st6, ac6, ow6, lv6, pr6⟩ := ci6
    dsimp only at fzi6 st6 ac6 ow6 lv6 mv7
    refine hN fz₆ ys₆ (es ++ es₂) fs₂ _ ?_ hr6 hfs₂ (by rw [List.append_assoc])
    have ex47 : ∀ b o, s₄.heap.get? b = some o → ¬ compW scope (cEnv scope env C) wr D b → ∃ sl, h₇.get? b = some { o with slots := sl } ∧ (b ∉ fsOf outer → sl = o.slots) := fun b o ho hb => by
      have nw : b ∉ wr₂ := fun hm => by rw [It₂.new b hm] at ho; cases ho
      obtain ⟨sl, q1, q2⟩ := ex6 b o (kp₅ b o ho) (fun hw => hw.elim nw fun q => hb (.inr q))
      exact ⟨sl, mv7 b _ nw q1, q2⟩
    have ex14 : ExtW (compW scope (cEnv scope env C) wr D) (fsOf outer) h₁ s₄.heap := by rw [e4]; exact ex4
    have ex17 : ExtW (compW scope (cEnv scope env C) wr D) (fsOf outer) h₁ h₇ := ex14.trans ex47
    have w6 : ∀ b o, compW scope (cEnv scope env C) wr D b → b ∉ wr → h6.get? b = some o → h₇.get? b = some o := fun b o hb _ ho => mv7 b o (n4 b hb) ho
    have stOld : ∀ b ∈ fp, ∀ o, s₄.heap.get? b = some o → h₇.get? b = some o := fun b hb o ho => by
      have nw : b ∉ wr₂ := fun hm => by rw [It₂.new b hm] at ho; cases ho
      have nw2 : ¬ compW scope (cEnv scope env C) wr₂ D b := fun hw => hw.elim nw fun q => by
        have := fpo' b hb (.inr q)
        rcases q with q | q | ⟨y, hy, hc⟩
        · rw [q] at this; exact Wc.dwr this
        · rw [q] at this; exact Wc.lwr this
        · exact (Wc.cwr y b hy hc).1 this
      exact mv7 b o nw (ex6.get nw2 (fpfs b hb) (kp₅ b o ho))
    have st7 : St (i + 1) h₇ := It.walks.frame _ _ _ st4 stOld
    have fz7 : FzIn fz₆ h₇ := by
      have hz6 := fzExt_W fze6 Wc₂.fzn Wc₂.there
      exact (ExtW.of_moved (W := (· ∈ wr₂)) (fs := []) mv7 fun b hb => hb).fzIn (fun b hb => hz6 b (.inl hb)) fzi6
    refine ⟨⟨h₇, tk₇, by rw [e4], ex17⟩, ?_, fz7, st7, ?_, ow6.keep fun b o hb ho => ⟨o, mv7 b o (n4 b (by
        rcases hb with q | q
        · exact .inr (.inr (.inl q))
        · exact .inr (.inr (.inr q)))) ho, rfl⟩, fun b hb => ?_, fun j y d' hj => by simp at hj⟩
    · refine FzExt.throughW (W := compW scope (cEnv scope env C) wr D) (h' := s₄.heap) fze4 ex14 lv4 ?_
      refine ⟨fze6.le, fun p h1 h2 => ?_⟩
      have := fze6.new p h1 h2
      cases q : s₄.heap.get? p with
      | none => rfl
      | some o => have := kp₅ _ _ q; dsimp only at *; simp_all
    · obtain ⟨k, hk⟩ := ac6; exact ⟨k, mv7 _ _ (n4 _ Wc.acc) hk⟩
    · by_cases q : b ∈ wr
      · exact It.ex _ _ st7 b q
      · obtain ⟨o, ho⟩ := lv6 b (by
          rcases hb with z | z
          · exact absurd z q
          · exact .inr z)
        exact ⟨o, mv7 b o (n4 b hb) ho⟩
  exact start2_inner loop (It₂.walks.self 0 _ _ _ It₂.st loop)
end
end Mine
end
section
open PySem PySem.W PySem.Calls PyProof.Rows
namespace Mine
section
variable {prog : Program} {w : World} {T : Tab} {base : Heap} {fzT : Fz} {n : Nat} {A : Around} {outer : List Env} {L : Addr} {env : Env} {nm : List Str} {σ : List SV} {ad : Nat → Addr} {fz : Fz} {s₀ : Shared} {scope : Scope} {t : Str}
theorem comp2_run {E : Value → Shared → Prop} {u : Str} {src₂ elt : X} {e i₁ i₂ : Expr} {pt pu pos : Pos} {ds out : List PyData} {it : Value} {s₂ : Shared}
    (H : Here base fzT .a n A outer L env nm σ ad fz s₀) (X : CompCx env.scope.names nm t scope) (ht : ownN scope t) (hu : ownN scope u) (htu : t ≠ u)
    (hs : SoundX prog w T base fzT n .a src₂) (he : SoundX prog w T base fzT n .a elt)
    (hsrc : Mx T (relab env.scope.names scope.names) (nm ++ [t]) src₂ i₂ = true) (hp : plainE i₂ = true)
    (helt : Mx T (relab env.scope.names scope.names) (nm ++ [t, u]) elt e = true)
    (g : IterAt prog w A (fsOf outer) fz ds s₀ it s₂)
    (hgo : compGo2 (fun d => ev T src₂ (σ ++ [.val d])) (fun d e => ev T elt (σ ++ [.val d, .val e])) ds = .ok (.list out)) :
    wpAny (model prog w) A (newList []) (fun acc s₃ => wpAny (model prog w) A (newFunctionEnv scope env.globals (closAcc env scope.names []) [] env.qual none .none (some env)) (fun cenv s₄ =>
      codeAny (model prog w) A (.compStart (.ListComp e [⟨.Name t pt, i₁, [], 0⟩, ⟨.Name u pu, i₂, [], 0⟩] scope pos) 0 it acc { cenv with scope := relabel scope env }) (compPost (model prog w) A E none (Good (fsOf outer) fz s₀ (.list out)) acc cenv.locals) s₄) E s₃) E s₂ := by
  obtain ⟨hb, tk, I, fp, wr, P, St, rfl, kp, rfl, It⟩ := g
  obtain ⟨Wc, ow, pl, k₁, st₁, hap⟩ := comp_layout H X kp It
  refine wpAny_newList (comp_env ?_) (by decide)
  dsimp only
  rw [show (hb.push { cls := .type "list", data := .seq ([] : List Value).toArray }).objs.size = hb.objs.size + 1 from Heap.size_push ..]
  generalize hh₁ : pushCells ((hb.push { cls := .type "list", data := .seq ([] : List Value).toArray }).push { cls := .type "dict", data := .dict #[] }) scope.names = h₁ at *
  have hcl : out.length ≤ 100000 := compGo2_length hgo
  have loop : codeAny (model prog w) A (.compLoop (.ListComp e [⟨.Name t pt, i₁, [], 0⟩, ⟨.Name u pu, i₂, [], 0⟩] scope pos) 0 (.ref I) (.ref hb.objs.size) (cEnv scope env (hb.objs.size + 1)))
      (compPost (model prog w) A E none (Good (fsOf outer) fz s₀ (.list out)) (.ref hb.objs.size) (hb.objs.size + 1)) { s₀ with heap := h₁, toks := tk } := by
    refine loop2_outer (fun m s' => ∃ i fz' ys es o', CI scope (cEnv scope env (hb.objs.size + 1)) fz { s₀ with heap := h₁, toks := tk } (fsOf outer) (compW scope (cEnv scope env (hb.objs.size + 1)) wr hb.objs.size) St hb.objs.size [] i fz' ys s' ∧ RepAll fz' ys es ∧ i ≤ ds.length ∧ m = ds.length + 1 - i ∧
        compGo2 (fun d => ev T src₂ (σ ++ [.val d])) (fun d e => ev T elt (σ ++ [.val d, .val e])) (ds.drop i) = .ok (.list o') ∧ es ++ o' = out) ?_ (ds.length + 1) ?_ (plain_set hp)
    · rintro m s' ⟨i, fz', ys, es, o', ci, hr, hi, rfl, hgo', htot⟩
      have hlo : es.length + o'.length ≤ 100000 := by
        have : (es ++ o').length = out.length := by rw [htot]
        simp only [List.length_append] at this; omega
      by_cases hlt : i < ds.length
      · obtain ⟨d, hd⟩ : ∃ d, ds[i]? = some d := ⟨_, List.getElem?_eq_getElem hlt⟩
        have hdr : ds.drop i = d :: ds.drop (i + 1) := by
          rw [List.drop_eq_getElem_cons hlt]; rw [List.getElem?_eq_getElem hlt] at hd; cases hd; rfl
        rw [hdr] at hgo'
        refine outer_turn H X hap ⟨h₁, tk, rfl⟩ (fun b o e => k₁ b o (kp b o e)) Wc It ht hu htu hs he hsrc helt ci hr hd hgo' hlo ?_
        intro fz'' ys' es' out' s'' ci' hr' hg' ht'
        exact ⟨ds.length + 1 - (i + 1), by omega, i + 1, fz'', ys', es', out', ci', hr', hlt, rfl, hg', by rw [ht', htot]⟩
      · have hin : i = ds.length := by omega
        subst hin
        obtain ⟨⟨h', tk', rfl, ex⟩, fze, fzi, st, ac, ow', lv, pr⟩ := ci
        refine It.walks.done _ _ _ st fun h₂ tk₂ mv => ?_
        dsimp only at mv fzi st ac ow' lv
        rw [List.drop_of_length_le (Nat.le_refl _)] at hgo'
        unfold compGo2 at hgo'
        cases hgo'
        rw [List.append_nil] at htot
        subst htot
        obtain ⟨m₀, o₀, es₀, ep₀, ho₀, hd₀, r₀⟩ := ow'.ns
        refine ⟨m₀, ⟨o₀, es₀, ep₀, mv _ _ Wc.lwr ho₀, hd₀, r₀⟩, fun h₃ sb => ?_⟩
        dsimp only at sb
        have hWz := fzExt_W fze Wc.fzn Wc.there
        have e3 : ExtW (compW scope (cEnv scope env (hb.objs.size + 1)) wr hb.objs.size) (fsOf outer) h' h₃ := (ExtW.of_moved mv Wc.wrs).trans (.of_but sb Wc.loc)
        have e0 : Ext (fsOf outer) s₀.heap h₃ := ExtW.old (fun b o e => k₁ b o (kp b o e)) (ex.trans e3) Wc.old
        have hDn : s₀.heap.get? hb.objs.size = none := by
          cases q : s₀.heap.get? hb.objs.size with
          | none => rfl
          | some o => exact absurd Wc.acc (Wc.old _ _ q)
        obtain ⟨kk, hk⟩ := ac
        have hD3 := sb.extBut _ _ (Ne.symm Wc.ld) (mv _ _ Wc.dwr hk)
        have f0 : FzExt s₀.heap fz fz' := ⟨fze.le, fun p h1 h2 => by
          have := fze.new p h1 h2
          cases q : s₀.heap.get? p with
          | none => rfl
          | some o => have := k₁ _ _ (kp _ _ q); rw [fze.new p h1 h2] at this; cases this⟩
        have fA := fzAdd_ext (h := s₀.heap) (t := false) (vs := ys) hDn (hWz _ Wc.acc)
        refine ⟨h₃, tk₂, fzAdd fz' hb.objs.size false ys, rfl, e0, ⟨f0.le.trans fA.le, fun p h1 h2 => ?_⟩, fzAdd_in (e3.fzIn hWz fzi) hD3 rfl rfl, .list (fzAdd_self ..) (hr.mono fA.le)⟩
        cases q : fz' p with
        | none => exact fA.new p q h2
        | some o => exact f0.new p h1 (by rw [q]; intro z; cases z)
    · refine ⟨0, fz, [], [], out, ⟨⟨h₁, tk, rfl, ExtW.refl _ _ _⟩, FzExt.refl _ _, ?_, st₁, pl, ow, Wc.there, fun j x d hj => by simp at hj⟩, .nil, Nat.zero_le _, rfl, by simpa using hgo, rfl⟩
      exact (Ext.of_keeps (fs := []) fun b o e => k₁ b o (kp b o e)).fzIn H.fzin
  exact codeAny_compStart_list loop (It.walks.self 0 _ _ _ st₁ loop)
theorem soundC_comp2 {src₁ src₂ elt : X} (hs₁ : SoundX prog w T base fzT n .a src₁) (hs₂ : SoundX prog w T base fzT n .a src₂) (he : SoundX prog w T base fzT n .a elt) : SoundC prog w T base fzT n (.comp2 src₁ src₂ elt) := by
  intro A outer L env nm σ ad fz s e₁ gens₁ scope₁ pos₁ hm H out ho E use Q hQ
  obtain ⟨e₀, gens, scope, pos, hE, hm⟩ := atListComp_inv hm
  cases hE
  obtain ⟨⟨tg, iter, ifs, asy⟩, ⟨tg', iter₂, ifs', asy'⟩, rfl, hm⟩ := at2_inv hm
  obtain ⟨t, pt, htg, hm⟩ := atName_inv hm
  obtain ⟨u, pu, htg', hm⟩ := atName_inv hm
  cases (htg : tg = _)
  cases (htg' : tg' = _)
  have hz := andL hm
  have hm := andR hm
  have z4 := andR hz
  have hz := andL hz
  have z3 := andR hz
  have hz := andL hz
  have z2 := andR hz
  have z1 := andL hz
  cases (of_decide_eq_true z1 : asy = 0)
  cases (of_decide_eq_true z2 : asy' = 0)
  cases (nil_inv z3 : ifs = [])
  cases (nil_inv z4 : ifs' = [])
  have h10 := andR hm
  have hm := andL hm
  have h9 := andR hm
  have hm := andL hm
  have h8 := andR hm
  have hm := andL hm
  have h7 := andR hm
  have hm := andL hm
  have h6 := andR hm
  have hm := andL hm
  have h5 := andR hm
  have hm := andL hm
  have h4 := andR hm
  have hm := andL hm
  have h3 := andR hm
  have hm := andL hm
  have h2 := andR hm
  have h1 := andL hm
  have X := compCx_of h3
  unfold ev at ho
  have hb1 : ev T src₁ σ ≠ .bad := fun q => by rw [q] at ho; cases ho
  refine wpAny_comprehension_free (use := use) rfl (plain_set h2) (clos_is (cells_some X H.envok)) X.kind (names_local X.nodup) ?_
  refine useV (hs₁ iter h1 H hb1) (fun k _ _ e h => by rw [e] at ho; cases ho) fun d v fz₁ s₁ q r rep => ?_
  rw [q, Res.then_ok] at ho
  have H₁ := H.step r
  cases z : itemsOf d with
  | none => simp only [z] at ho; cases ho
  | some ds =>
    simp only [z] at ho
    refine wpAny_mono (iter_good (E := fun _ _ => False) (H₁.sit.handled rfl) H₁.hi H₁.fzin rep z) (fun it s₂ g => ?_) fun _ _ f => f.elim
    refine wpAny_mono (comp2_run (E := fun _ _ => False) (pt := pt) (pu := pu) (i₁ := iter) (pos := pos₁) H₁ X (tgt_own h4) (tgt_own h5) (fun q => by rw [q] at h6; simp at h6) hs₂ he h7 h8 h9 g ho) (fun acc s₃ k => ?_) fun _ _ f => f.elim
    refine wpAny_mono k (fun cenv s₄ k => ?_) fun _ _ f => f.elim
    exact codeAny_mono k fun rr s' k => hQ _ _ _ _ (compPost_after (fun _ _ g => Good.after r g) k)
theorem comp2_isList {src₁ src₂ elt : X} (σ : List SV) (h : ev T (.comp2 src₁ src₂ elt) σ ≠ .bad) : ∃ out, ev T (.comp2 src₁ src₂ elt) σ = .ok (.list out) := by
  rw [ev] at h ⊢
  cases q : ev T src₁ σ with
  | bad => rw [q] at h; exact absurd rfl h
  | exc k => rw [q] at h; exact absurd rfl h
  | ok l =>
    rw [q] at h
    rw [Res.then_ok] at h ⊢
    cases z : itemsOf l with
    | none => simp only [z] at h; exact absurd trivial (by simpa using h)
    | some ds => simp only [z] at h ⊢; exact compGo2_list h
end
end Mine
end
section
open PySem PySem.W PySem.Calls PyProof.Rows
namespace Mine
/-! what is sound -/
noncomputable def isA : Md → Bool
  | .a => true
  | .b => false
  | .c => false
noncomputable def notC : Md → Bool
  | .a => true
  | .b => true
  | .c => false
theorem isA_inv {md : Md} (h : isA md = true) : md = .a := by cases md <;> first | rfl | cases h
noncomputable def okT : X → Bool
  | .cmp _ _ _ => true
  | .outside _ _ => true
  | .not a => okT a
  | .and a b => okT a && okT b
  | .or a b => okT a && okT b
  | .var _ => true
  | .int _ => true
  | .str _ => true
  | .bool _ => true
  | .list _ => true
  | .tup _ => true
  | .idx _ _ => true
  | .slice _ _ _ => true
  | .call _ _ => true
  | .bi _ _ => true
  | .bin _ _ _ => true
  | .nothing => false
  | .glob _ => false
  | .cmp2 _ _ _ _ _ => false
  | .ite _ _ _ => false
  | .ints _ => false
  | .compR _ _ _ _ _ => false
  | .comp _ _ _ => false
  | .comp2 _ _ _ => false
  | .join _ => false
noncomputable def isComp : X → Bool := fun x => x.ctorIdx == 21 || x.ctorIdx == 22 || x.ctorIdx == 23
mutual
noncomputable def okX (md : Md) : X → Bool
  | .var _ => true
  | .int _ => true
  | .str _ => true
  | .bool _ => true
  | .nothing => true
  | .glob _ => true
  | .list es => okXs md es
  | .tup es => okXs md es
  | .bin _ a b => okX md a && okX md b
  | .cmp _ a b => okX md a && okX md b
  | .cmp2 _ _ _ _ _ => false
  | .outside a _ => okX md a
  | .not a => okX md a
  | .and a b => okX md a && okX md b
  | .or a b => okX md a && okX md b
  | .ite c a b => okX md c && okT c && okX md a && okX md b
  | .idx a b => notC md && (okX md a && okX md b)
  | .slice a lo hi => okX md a && okX md lo && okX md hi
  | .call _ args => isA md && okXs md args
  | .bi _ a => isA md && okX md a
  | .ints _ => isA md
  | .compR _ _ _ c e => isA md && (okX md c && okT c && okX md e)
  | .comp s c e => isA md && (okX md s && okX md c && okT c && okX md e)
  | .comp2 s t e => isA md && (okX md s && okX md t && okX md e)
  | .join a => okX md a
termination_by structural x => x
noncomputable def okXs (md : Md) : List X → Bool
  | [] => true
  | x :: xs => okX md x && okXs md xs
termination_by structural x => x
end
section
variable {prog : Program} {w : World} {T : Tab} {base : Heap} {fzT : Fz} {n : Nat} {mg mb : Str → Option Value}
/-- an expression: its value, its truth; of a comprehension its list -/
structure SoundAll (prog : Program) (w : World) (T : Tab) (base : Heap) (fzT : Fz) (n : Nat) (md : Md) (y : X) : Prop where
  x : SoundX prog w T base fzT n md y
  b : okT y = true → SoundB prog w T base fzT n md y
  c : isComp y = true → SoundC prog w T base fzT n y ∧ ∀ σ, ev T y σ ≠ .bad → ∃ out, ev T y σ = .ok (.list out)
theorem SoundAll.plain {md : Md} {x : X} (hp : plainT x = true) (hc : isComp x = false) (hx : SoundX prog w T base fzT n md x) : SoundAll prog w T base fzT n md x :=
  ⟨hx, fun _ => soundB_plain hp hx, fun h => by rw [hc] at h; cases h⟩
theorem SoundAll.only {md : Md} {x : X} (ht : okT x = false) (hc : isComp x = false) (hx : SoundX prog w T base fzT n md x) : SoundAll prog w T base fzT n md x :=
  ⟨hx, (fun h => by rw [ht] at h; cases h), (fun h => by rw [hc] at h; cases h)⟩
theorem SoundAll.both {md : Md} {x : X} (hc : isComp x = false) (hx : SoundX prog w T base fzT n md x) (hb : okT x = true → SoundB prog w T base fzT n md x) : SoundAll prog w T base fzT n md x :=
  ⟨hx, hb, fun h => by rw [hc] at h; cases h⟩
theorem SoundAll.comp {x : X} (ht : okT x = false) (hx : SoundC prog w T base fzT n x) (hl : ∀ σ, ev T x σ ≠ .bad → ∃ out, ev T x σ = .ok (.list out)) (he : ∀ sc nm e, Mx T sc nm x e = true → ∃ e₀ gens scope pos, e = .ListComp e₀ gens scope pos) : SoundAll prog w T base fzT n .a x :=
  ⟨soundX_C hx hl he, (fun h => by rw [ht] at h; cases h), fun _ => ⟨hx, hl⟩⟩
theorem lc_of {q : Expr → List Comprehension → Scope → Pos → Bool} {e : Expr} (h : atListComp q e = true) : ∃ e₀ gens scope pos, e = .ListComp e₀ gens scope pos := by
  obtain ⟨a, b, c, d, e, _⟩ := atListComp_inv h; exact ⟨a, b, c, d, e⟩
mutual
theorem soundX_all (G : GOK prog w T base fzT mg mb n) (md : Md) : ∀ (x : X), okX md x = true → SoundAll prog w T base fzT n md x
  | .var i, _ => .plain rfl rfl (sound_var i)
  | .int i, _ => .plain rfl rfl (sound_int i)
  | .str i, _ => .plain rfl rfl (sound_str i)
  | .bool i, _ => .plain rfl rfl (sound_bool i)
  | .nothing, _ => .only rfl rfl sound_nothing
  | .glob g, _ => .only rfl rfl (sound_glob G g)
  | .list es, h => .plain rfl rfl (sound_list (soundL_all G md es h))
  | .tup es, h => .plain rfl rfl (sound_tup (soundL_all G md es h))
  | .bin op a b, h => .plain rfl rfl (sound_bin (soundX_all G md a (and3 h).1).x (soundX_all G md b (and3 h).2).x)
  | .cmp op a b, h => .both rfl (sound_cmp (soundX_all G md a (and3 h).1).x (soundX_all G md b (and3 h).2).x) fun _ => soundB_cmp (soundX_all G md a (and3 h).1).x (soundX_all G md b (and3 h).2).x
  | .cmp2 _ _ _ _ _, h => nomatch (show false = true from h)
  | .outside a i, h => .both rfl (sound_outside (soundX_all G md a h).x) fun _ => soundB_outside (soundX_all G md a h).x
  | .not a, h => .both rfl (sound_not (soundX_all G md a h).x) fun t => soundB_not ((soundX_all G md a h).b t)
  | .and a b, h => .both rfl (sound_and (soundX_all G md a (and3 h).1).x (soundX_all G md b (and3 h).2).x) fun t => soundB_and ((soundX_all G md a (and3 h).1).b (and3 t).1) ((soundX_all G md b (and3 h).2).b (and3 t).2)
  | .or a b, h => .both rfl (sound_or (soundX_all G md a (and3 h).1).x (soundX_all G md b (and3 h).2).x) fun t => soundB_or ((soundX_all G md a (and3 h).1).b (and3 t).1) ((soundX_all G md b (and3 h).2).b (and3 t).2)
  | .ite c a b, h => .only rfl rfl (sound_ite ((soundX_all G md c (and3 (and3 (and3 h).1).1).1).b (and3 (and3 (and3 h).1).1).2) (soundX_all G md a (and3 (and3 h).1).2).x (soundX_all G md b (and3 h).2).x)
  | .idx a b, h => match md, and3 h with
    | .a, h => .plain rfl rfl (sound_idx (soundX_all G .a a (and3 h.2).1).x (soundX_all G .a b (and3 h.2).2).x)
    | .b, h => .plain rfl rfl (sound_idx_b (soundX_all G .b a (and3 h.2).1).x (soundX_all G .b b (and3 h.2).2).x)
    | .c, h => nomatch (show false = true from h.1)
  | .slice a lo hi, h => .plain rfl rfl (sound_slice (soundX_all G md a (and3 (and3 h).1).1).x (soundX_all G md lo (and3 (and3 h).1).2).x (soundX_all G md hi (and3 h).2).x)
  | .call f args, h => match md, isA_inv (and3 h).1, (and3 h).2 with
    | _, rfl, h => .plain rfl rfl (sound_call G (f := f) (soundL_all G .a args h))
  | .bi b a, h => match md, isA_inv (and3 h).1, (and3 h).2 with
    | _, rfl, h => .plain rfl rfl (sound_bi G (b := b) (soundX_all G .a a h).x)
  | .ints k, h => match md, isA_inv h with
    | _, rfl => .only rfl rfl (sound_ints G)
  | .compR a b c cond elt, h => match md, isA_inv (and3 h).1, (and3 h).2 with
    | _, rfl, h => .comp rfl (soundC_compR G ((soundX_all G .a cond (and3 (and3 h).1).1).b (and3 (and3 h).1).2) (soundX_all G .a elt (and3 h).2).x) compR_isList fun _ _ _ h => lc_of h
  | .comp src cond elt, h => match md, isA_inv (and3 h).1, (and3 h).2 with
    | _, rfl, h => .comp rfl (soundC_comp (soundX_all G .a src (and3 (and3 (and3 h).1).1).1).x ((soundX_all G .a cond (and3 (and3 (and3 h).1).1).2).b (and3 (and3 h).1).2) (soundX_all G .a elt (and3 h).2).x) comp_isList fun _ _ _ h => lc_of h
  | .comp2 s t e, h => match md, isA_inv (and3 h).1, (and3 h).2 with
    | _, rfl, h => .comp rfl (soundC_comp2 (soundX_all G .a s (and3 (and3 h).1).1).x (soundX_all G .a t (and3 (and3 h).1).2).x (soundX_all G .a e (and3 h).2).x) comp2_isList fun _ _ _ h => lc_of h
  | .join a, h => .only rfl rfl (sound_join (soundX_all G md a h).x)
termination_by structural x => x
theorem soundL_all (G : GOK prog w T base fzT mg mb n) (md : Md) : ∀ (xs : List X), okXs md xs = true → SoundL prog w T base fzT n md xs
  | [], _ => soundL_nil
  | x :: xs, h => soundL_cons (soundX_all G md x (and3 h).1).x (soundL_all G md xs (and3 h).2)
termination_by structural x => x
end
end
end Mine
end
section
open PySem PySem.W PySem.Calls PyProof.Rows
namespace Mine
noncomputable def okOwn (md : Md) : X → Bool
  | .list es => okXs md es
  | .bi b a => isA md && (b.ctorIdx == 5 && okX md a)
  | _ => false
mutual
noncomputable def okS (md : Md) : S → Bool
  | .assign _ x => okX md x
  | .assignL _ x => isA md && (isComp x && okX md x)
  | .own _ x => okOwn md x
  | .assign2 _ _ x => okX md x
  | .unpack2 _ _ _ => false
  | .aug _ _ x => okX md x
  | .append _ x => okX md x
  | .extend _ x => okX md x
  | .remove _ x => isA md && okX md x
  | .freeze _ => false
  | .ret x => okX md x
  | .brk => true
  | .ite c a b => okX md c && okT c && okSs md a && okSs md b
  | .forX _ src b o => isA md && (okX md src && okSs md b && okSs md o)
  | .forR _ _ _ _ b o => isA md && (okSs md b && okSs md o)
  | .forT _ _ src b o => isA md && (okX md src && okSs md b && okSs md o)
  | .forE _ _ src b o => isA md && (okX md src && okSs md b && okSs md o)
  | .while c b => okX md c && okT c && okSs md b
  | .tryE b _ h => isA md && (okSs .a b && okSs .c h)
  | .tryF b f => isA md && (okSs .a b && okSs .a f && okSs .b f)
termination_by structural x => x
noncomputable def okSs (md : Md) : List S → Bool
  | [] => true
  | s :: r => (isFz s || okS md s) && okSs md r
termination_by structural x => x
end
section
variable {prog : Program} {w : World} {T : Tab} {base : Heap} {fzT : Fz} {n : Nat} {mg mb : Str → Option Value}
theorem soundS_own (G : GOK prog w T base fzT mg mb n) {md : Md} {i : Nat} {x : X} (h : okOwn md x = true) : SoundS prog w T base fzT n md (.own i x) := by
  cases x with
  | list es => exact soundS_own_list (soundL_all G md es h)
  | bi b a =>
    have h' : (isA md && (b.ctorIdx == 5 && okX md a)) = true := h
    have h2 := andR h'
    have h1 := andL h'
    have h3 := andR h2
    have h2 := andL h2
    cases isA_inv h1
    have hb : b = .list := by cases b <;> first | rfl | cases h2
    subst hb
    have q : SoundS prog w T base fzT n .a (.own i (.bi .list a)) := soundS_own_copy G (soundX_all G .a a h3).x
    exact @q
  | _ => cases h
mutual
theorem soundS_all (G : GOK prog w T base fzT mg mb n) : ∀ (x : S) (md : Md), okS md x = true → SoundS prog w T base fzT n md x
  | .assign i x, md, h => soundS_assign (soundX_all G md x h).x
  | .assignL i x, md, h => match md, isA_inv (and3 h).1, (and3 h).2 with
    | _, rfl, h => soundS_assignL ((soundX_all G .a x (and3 h).2).c (and3 h).1).1 ((soundX_all G .a x (and3 h).2).c (and3 h).1).2
  | .own i x, md, h => soundS_own G h
  | .assign2 i j x, md, h => soundS_assign2 (soundX_all G md x h).x
  | .unpack2 _ _ _, md, h => nomatch (show false = true from h)
  | .aug i op x, md, h => soundS_aug (soundX_all G md x h).x
  | .append i x, md, h => soundS_append (soundX_all G md x h).x
  | .extend i x, md, h => soundS_extend (soundX_all G md x h).x
  | .remove i x, md, h => match md, isA_inv (and3 h).1, (and3 h).2 with
    | _, rfl, h => soundS_remove (soundX_all G .a x h).x
  | .freeze i, md, h => nomatch (show false = true from h)
  | .ret x, md, h => soundS_ret (soundX_all G md x h).x
  | .brk, md, _ => soundS_brk
  | .ite c a b, md, h => soundS_ite ((soundX_all G md c (and3 (and3 (and3 h).1).1).1).b (and3 (and3 (and3 h).1).1).2) (soundSs_all G a md (and3 (and3 h).1).2) (soundSs_all G b md (and3 h).2)
  | .forX i src b o, md, h => match md, isA_inv (and3 h).1, (and3 h).2 with
    | _, rfl, h => soundS_forX (soundX_all G .a src (and3 (and3 h).1).1).x (soundSs_all G b .a (and3 (and3 h).1).2) (soundSs_all G o .a (and3 h).2)
  | .forR i x y z b o, md, h => match md, isA_inv (and3 h).1, (and3 h).2 with
    | _, rfl, h => soundS_forR G (soundSs_all G b .a (and3 h).1) (soundSs_all G o .a (and3 h).2)
  | .forT i j src b o, md, h => match md, isA_inv (and3 h).1, (and3 h).2 with
    | _, rfl, h => soundS_forT (soundX_all G .a src (and3 (and3 h).1).1).x (soundSs_all G b .a (and3 (and3 h).1).2) (soundSs_all G o .a (and3 h).2)
  | .forE i j src b o, md, h => match md, isA_inv (and3 h).1, (and3 h).2 with
    | _, rfl, h => soundS_forE G (soundX_all G .a src (and3 (and3 h).1).1).x (soundSs_all G b .a (and3 (and3 h).1).2) (soundSs_all G o .a (and3 h).2)
  | .while c b, md, h => soundS_while ((soundX_all G md c (and3 (and3 h).1).1).b (and3 (and3 h).1).2) (soundSs_all G b md (and3 h).2)
  | .tryE b k e, md, h => match md, isA_inv (and3 h).1, (and3 h).2 with
    | _, rfl, h => soundS_tryE G (soundSs_all G b .a (and3 h).1) (soundSs_all G e .c (and3 h).2)
  | .tryF b f, md, h => match md, isA_inv (and3 h).1, (and3 h).2 with
    | _, rfl, h => soundS_tryF (soundSs_all G b .a (and3 (and3 h).1).1) (soundSs_all G f .a (and3 (and3 h).1).2) (soundSs_all G f .b (and3 h).2)
termination_by structural x => x
theorem soundSs_all (G : GOK prog w T base fzT mg mb n) : ∀ (xs : List S) (md : Md), okSs md xs = true → SoundSs prog w T base fzT n md xs
  | [], md, _ => soundSs_nil
  | x :: xs, md, h => soundSs_pick (fun hx => soundS_all G x md ((Bool.or_eq_true_iff.mp (and3 h).1).resolve_left (by rw [hx]; intro q; cases q))) (soundSs_all G xs md (and3 h).2)
termination_by structural x => x
end
/-! a text of defs -/
structure Def where
  name : Str
  params : List Str
  nm : List Str
  body : List S
noncomputable def Fn (ds : List Def) (gn : List Str) (gv : List PyData) : Nat → Nat → List PyData → Option PyData
  | 0, _, _ => none
  | k + 1, f, as => match ds[f]? with
    | none => none
    | some d => if as.length = d.params.length then (match evSs ⟨ds.map (·.name), gn, gv, Fn ds gn gv k⟩ d.body (initσ as d.nm) with
      | .ret r => some r
      | _ => none) else none
noncomputable def Tn (ds : List Def) (gn : List Str) (gv : List PyData) (k : Nat) : Tab := ⟨ds.map (·.name), gn, gv, Fn ds gn gv k⟩
/-- the def d is the text's -/
structure DefAt (p : Program) (ds : List Def) (gn : List Str) (gv : List PyData) (d : Def) (r : DefRec) : Prop where
  mem : r ∈ recsOf p
  name : r.name = d.name
  co : r.scope.isCoroutine = false
  gen : r.scope.isGenerator = false
  kind : r.scope.kind = .function
  names : namesOk r.scope d.params d.nm = true
  ms : ∀ k, Mss (Tn ds gn gv k) r.scope.names d.nm d.body r.body = true
  ok : okSs .a d.body = true
  bind : ∀ pm code doc vs, vs.length = d.params.length → bindArgs (docDef r.name r.params r.body r.scope pm code doc) ⟨vs, []⟩ = pure (d.params.zip vs)
theorem Sit.less {md : Md} {A : Around} {outer : List Env} {m : Nat} (h : Sit md A outer (m + 1)) : Sit md A outer m :=
  ⟨h.frames, h.handled, by have := h.depth; omega, by have := h.units; omega⟩
structure Ground0 (p : Program) (base : Heap) (fzT : Fz) (mg mb : Str → Option Value) (gn : List Str) (gv : List PyData) : Prop where
  gl : base.Ns mainGlobals mg
  bu : base.Ns builtinsNs mb
  nolimit : base.NoLimit
  bis : ∀ b : Bi, mg b.name = none ∧ mb b.name = some b.callee
  rng : mg "range" = none ∧ mb "range" = some (.type "range")
  enu : mg "enumerate" = none ∧ mb "enumerate" = some (.type "enumerate")
  exi : mg "IndexError" = none ∧ mb "IndexError" = some (.type "IndexError")
  exv : mg "ValueError" = none ∧ mb "ValueError" = some (.type "ValueError")
  gls : ∀ (g : Nat) x d, gn[g]? = some x → gv[g]? = some d → ∃ v, mg x = some v ∧ Rep fzT v d
  fn : ∀ d ∈ recsOf p, ∃ a o pm code doc, mg d.name = some (.ref a) ∧ base.get? a = some o ∧ o.data = .func (docDef d.name d.params d.body d.scope pm code doc) ∧ base.CodeRec code d.name
theorem tower {p : Program} {ds : List Def} {gn : List Str} {gv : List PyData} (B : Ground0 p base fzT mg mb gn gv) (hd : ∀ d ∈ ds, ∃ r, DefAt p ds gn gv d r) : ∀ k, GOK prog w (Tn ds gn gv k) base fzT mg mb k := by
  intro k
  induction k with
  | zero =>
    refine ⟨B.gl, B.bu, B.bis, B.rng, B.enu, B.exi, B.exv, fun f x hx => ?_, B.gls⟩
    have hx' : (ds.map (·.name))[f]? = some x := hx
    rw [List.getElem?_map] at hx'
    obtain ⟨d, h1, rfl⟩ := Option.map_eq_some_iff.mp hx'
    obtain ⟨r, D⟩ := hd d (List.mem_of_getElem? h1)
    obtain ⟨a, o, pm, code, doc, g1, g2, g3, g4⟩ := B.fn r D.mem
    refine ⟨a, o, _, by rw [← D.name]; exact g1, g2, g3, fun as x h => ?_⟩
    have : (none : Option PyData) = some x := h
    cases this
  | succ k ih =>
    refine ⟨B.gl, B.bu, B.bis, B.rng, B.enu, B.exi, B.exv, fun f x hx => ?_, B.gls⟩
    have hx' : (ds.map (·.name))[f]? = some x := hx
    rw [List.getElem?_map] at hx'
    obtain ⟨d, h1, rfl⟩ := Option.map_eq_some_iff.mp hx'
    obtain ⟨r, D⟩ := hd d (List.mem_of_getElem? h1)
    obtain ⟨a, o, pm, code, doc, g1, g2, g3, g4⟩ := B.fn r D.mem
    refine ⟨a, o, _, by rw [← D.name]; exact g1, g2, g3, fun as x h => ?_⟩
    have h' : Fn ds gn gv (k + 1) f as = some x := h
    unfold Fn at h'
    rw [h1] at h'
    dsimp only at h'
    split at h'
    · rename_i hl
      split at h'
      · rename_i rr hev
        cases h'
        refine call_ok (T := Tn ds gn gv k) (soundSs_all ih d.body .a D.ok) (body := r.body) ⟨⟨o, _, g2, g3, rfl, rfl, rfl, rfl, rfl, g4, fun vs hv => D.bind pm code doc vs hv⟩, D.co, D.gen, D.kind, B.nolimit⟩ D.names (D.ms k) hl hev
      · cases h'
    · cases h'
end
end Mine
end
section
open PySem PySem.W PySem.Calls PyProof.Rows
namespace Mine
/-! the text's defs, checked -/
noncomputable def recAt (p : Program) (d : Def) : Option DefRec := (recsOf p).find? fun r => r.name == d.name
noncomputable def defOk (ds : List Def) (gn : List Str) (gv : List PyData) (k : Nat) (d : Def) (r : DefRec) : Bool :=
  (r.name == d.name) && !r.scope.isCoroutine && !r.scope.isGenerator && (r.scope.kind == .function) && namesOk r.scope d.params d.nm && Mss (Tn ds gn gv k) r.scope.names d.nm d.body r.body && okSs .a d.body && decide (d.params.length ≤ 2)
noncomputable def defsOk (p : Program) (ds : List Def) (gn : List Str) (gv : List PyData) (k : Nat) (l : List Def) : Bool :=
  l.all fun d => match recAt p d with
    | some r => defOk ds gn gv k d r
    | none => false
/-- the parameters, bound -/
noncomputable def bindOf (p : Program) (pm code doc v u : Value) (d : Def) : Sem (List (Str × Value)) := match recAt p d with
  | some r => bindArgs (docDef r.name r.params r.body r.scope pm code doc) ⟨[v, u].take d.params.length, []⟩
  | none => pure []
theorem defAt_of {p : Program} {ds : List Def} {gn : List Str} {gv : List PyData} {l : List Def} (h : ∀ k, defsOk p ds gn gv k l = true) (hb : ∀ pm code doc v u, l.map (bindOf p pm code doc v u) = l.map fun d => pure (d.params.zip ([v, u].take d.params.length))) : ∀ d ∈ l, ∃ r, DefAt p ds gn gv d r := by
  intro d hd
  have hk := fun k => List.all_eq_true.mp (h k) d hd
  have hb' := fun pm code doc v u => List.map_inj_left.mp (hb pm code doc v u) d hd
  cases q : recAt p d with
  | none => have := hk 0; rw [q] at this; cases this
  | some r =>
    have hk' : ∀ k, defOk ds gn gv k d r = true := fun k => by have := hk k; rw [q] at this; exact this
    have h0 := hk' 0
    have a8 := of_decide_eq_true (andR h0)
    have h0 := andL h0
    have a7 := andR h0
    have h0 := andL (andL h0)
    have a5 := andR h0
    have h0 := andL h0
    have a4 := eq_of_beq (andR h0)
    have h0 := andL h0
    have a3 : r.scope.isGenerator = false := by simpa using andR h0
    have h0 := andL h0
    have a2 : r.scope.isCoroutine = false := by simpa using andR h0
    refine ⟨r, List.mem_of_find?_eq_some q, eq_of_beq (andL h0), a2, a3, a4, a5, fun k => andR (andL (andL (hk' k))), a7, fun pm code doc vs hv => ?_⟩
    have e : [vs.headD .none, (vs.drop 1).headD .none].take d.params.length = vs := by
      rw [← hv]
      rw [← hv] at a8
      rcases vs with _ | ⟨a, _ | ⟨b, _ | ⟨c, r⟩⟩⟩
      · rfl
      · rfl
      · rfl
      · exact absurd a8 (by simp)
    have := hb' pm code doc (vs.headD .none) ((vs.drop 1).headD .none)
    unfold bindOf at this
    rw [q, e] at this
    exact this
/-! what stands at the call -/
noncomputable def fzOf (h : Heap) : Fz := fun a => match h.get? a with
  | some o => (match o.cls, o.data with
    | .type c, .seq vs _ => if c = "tuple" then some (true, vs.toList) else if c = "list" then some (false, vs.toList) else none
    | _, _ => none)
  | none => none
theorem fzOf_in (h : Heap) : FzIn (fzOf h) h := by
  intro a t vs e
  unfold fzOf at e
  split at e
  · rename_i o ho
    split at e
    · rename_i c xs n hc hd
      split at e
      · rename_i q; cases e; exact ⟨o, n, ho, by rw [hc, q]; rfl, by rw [hd]⟩
      · split at e
        · rename_i q; cases e; exact ⟨o, n, ho, by rw [hc, q]; rfl, by rw [hd]⟩
        · cases e
    · cases e
  · cases e
theorem fzOf_tuple {h : Heap} {a : Addr} {o : Obj} {vs : Array Value} {n : Nat} (ho : h.get? a = some o) (hc : o.cls = .type "tuple") (hd : o.data = .seq vs n) : fzOf h a = some (true, vs.toList) := by
  unfold fzOf; simp [ho, hc, hd]
theorem fzOf_list {h : Heap} {a : Addr} {o : Obj} {vs : Array Value} {n : Nat} (ho : h.get? a = some o) (hc : o.cls = .type "list") (hd : o.data = .seq vs n) : fzOf h a = some (false, vs.toList) := by
  unfold fzOf; simp [ho, hc, hd]
theorem rep_of_reads {h : Heap} : ∀ (n : Nat) {v : Value} {d : PyData} {as : List Addr}, okN n d = true → Reads h v d as → Rep (fzOf h) v d := by
  have all : ∀ m, (∀ {v : Value} {d : PyData} {as : List Addr}, okN m d = true → Reads h v d as → Rep (fzOf h) v d) → ∀ (vs : List Value) (ds : List PyData) (as : List Addr), (∀ d ∈ ds, okN m d = true) → ReadsAll h vs ds as → RepAll (fzOf h) vs ds := by
    intro m ih vs
    induction vs with
    | nil => intro ds as _ r; cases r; exact .nil
    | cons v vs hi => intro ds as hd r; cases r with | cons r1 r2 => exact .cons (ih (hd _ (.head _)) r1) (hi _ _ (fun d q => hd d (.tail _ q)) r2)
  intro n
  induction n with
  | zero =>
    intro v d as hk r
    cases r with
    | none => exact .none
    | bool b => exact .bool b
    | int i t => exact .int i t
    | str x t => exact .str x t
    | list _ _ _ _ => cases hk
    | tuple _ _ _ _ => cases hk
    | dict _ _ _ _ _ => cases hk
  | succ n ih =>
    intro v d as hk r
    cases r with
    | none => exact .none
    | bool b => exact .bool b
    | int i t => exact .int i t
    | str x t => exact .str x t
    | list ho hc hd r => exact .list (fzOf_list ho hc hd) (all n ih _ _ _ (List.all_eq_true.mp hk) r)
    | tuple ho hc hd r => exact .tuple (fzOf_tuple ho hc hd) (all n ih _ _ _ (List.all_eq_true.mp hk) r)
    | dict _ _ _ _ _ => cases hk
end Mine
end
section
open PySem PySem.W PySem.Calls PyProof.Rows
namespace Mine
noncomputable def freeOk (p : Program) (loose : List Str) (x : Str) : Bool :=
  !startupNames.contains x && !loose.contains x && !((recsOf p).map (·.name)).contains x && !((litsOf p).map (·.1)).contains x && !((clssOf p loose).map (·.name)).contains x
noncomputable def wantedFree : List Str := ["len", "sorted", "sum", "max", "min", "list", "range", "enumerate", "IndexError", "ValueError"]
noncomputable def freesOk (p : Program) (loose : List Str) : Bool := wantedFree.all (freeOk p loose)
theorem bi_boot (b : Bi) : bootBuiltins b.name = some b.callee := by
  cases b <;> kernel_rfl
theorem rng_boot : bootBuiltins "range" = some (.type "range") := by kernel_rfl
theorem enu_boot : bootBuiltins "enumerate" = some (.type "enumerate") := by kernel_rfl
theorem exi_boot : bootBuiltins "IndexError" = some (.type "IndexError") := by kernel_rfl
theorem exv_boot : bootBuiltins "ValueError" = some (.type "ValueError") := by kernel_rfl
theorem free_of {p : Program} {loose : List Str} {mean : ExcName → Option Value} {mg mb : Str → Option Value} {h : Heap} (T : Top p loose mean mg mb h) {x : Str} (hx : freeOk p loose x = true) : mg x = none := by
  unfold freeOk at hx
  simp only [Bool.and_eq_true, Bool.not_eq_true', List.contains_eq_mem, decide_eq_false_iff_not] at hx
  obtain ⟨⟨⟨⟨a1, a2⟩, a3⟩, a4⟩, a5⟩ := hx
  exact T.free x a1 a2 a3 a4 a5
theorem ground0 {p : Program} {loose : List Str} {mean : ExcName → Option Value} {mg mb : Str → Option Value} {h : Heap} {gn : List Str} {gv : List PyData} (T : Top p loose mean mg mb h) (hf : freesOk p loose = true)
    (hg : ∀ (g : Nat) x d, gn[g]? = some x → gv[g]? = some d → ∃ v, mg x = some v ∧ Rep (fzOf h) v d) : Ground0 p h (fzOf h) mg mb gn gv := by
  have fr : ∀ x ∈ wantedFree, mg x = none := fun x hx => free_of T (List.all_eq_true.mp hf x hx)
  have bt : ∀ x : Str, x ≠ "__name__" → mb x = bootBuiltins x := T.builtins
  refine ⟨T.g, T.b, T.nolimit, fun b => ⟨fr _ ?_, ?_⟩, ⟨fr _ (by decide +kernel), ?_⟩, ⟨fr _ (by decide +kernel), ?_⟩, ⟨fr _ (by decide +kernel), ?_⟩, ⟨fr _ (by decide +kernel), ?_⟩, hg, T.fn⟩
  · cases b <;> decide +kernel
  · rw [bt _ (by cases b <;> decide +kernel)]; exact bi_boot b
  · rw [bt _ (by decide +kernel)]; exact rng_boot
  · rw [bt _ (by decide +kernel)]; exact enu_boot
  · rw [bt _ (by decide +kernel)]; exact exi_boot
  · rw [bt _ (by decide +kernel)]; exact exv_boot
/-- the law's call, once its evaluation yields true -/
theorem law_call {p prog : Program} {w : World} {loose : List Str} {mean : ExcName → Option Value} {mg mb : Str → Option Value} {s : Shared} {ds : List Def} {gn : List Str} {gv : List PyData} {f : Nat} {x : Str} {fa : Addr} {vs : List Value} {as : List PyData} {d : PyData} {E : Value → Shared → Prop}
    (T : Top p loose mean mg mb s.heap) (hf : freesOk p loose = true) (hg : ∀ (g : Nat) x d, gn[g]? = some x → gv[g]? = some d → ∃ v, mg x = some v ∧ Rep (fzOf s.heap) v d)
    (hd : ∀ k, defsOk p ds gn gv k ds = true) (hb : ∀ pm code doc v u, ds.map (bindOf p pm code doc v u) = ds.map fun d => pure (d.params.zip ([v, u].take d.params.length))) (hx : (ds.map (·.name))[f]? = some x) (hm : mg x = some (.ref fa)) (hr : RepAll (fzOf s.heap) vs as) (hev : Fn ds gn gv 7 f as = some d) :
    wpAny (model prog w) callerA (call (.ref fa) vs) (Good [] (fzOf s.heap) s d) E s := by
  have G := tower (prog := prog) (w := w) (ground0 T hf hg) (defAt_of hd hb) 7
  obtain ⟨a, o, fd, g1, g2, g3, g4⟩ := G.fns f x hx
  rw [hm] at g1; cases g1
  refine g4 as d hev callerA [] s vs (fzOf s.heap) E ⟨rfl, fun _ => rfl, by decide +kernel, by decide +kernel⟩ ⟨fun b o e => e, trivial, fun b hb => by simp [fsOf] at hb⟩ (fzOf_in _) (FzLe.refl _) hr
end Mine
end
section
open PySem PySem.W PySem.Calls PyProof.Rows
namespace Mine.L1
noncomputable def b_S_IFMT : List S :=
  [
    .ret (.bin .BitAnd (.var 0) (.int 61440))]
noncomputable def d_S_IFMT : Def := ⟨"S_IFMT", ["mode"], ["mode"], b_S_IFMT⟩
noncomputable def b_filemode : List S :=
  [
    .own 1 (.list []),
    .forE 2 3 (.glob 0)
      [
        .forT 4 5 (.var 3)
          [
            .ite (.cmp .Eq (.var 2) (.int 0))
              [
                .ite (.cmp .Eq (.call 0 [(.var 0)]) (.var 4))
                  [
                    .append 1 (.var 5),
                    .brk]
                  []]
              [
                .ite (.cmp .Eq (.bin .BitAnd (.var 0) (.var 4)) (.var 4))
                  [
                    .append 1 (.var 5),
                    .brk]
                  []]]
          [
            .ite (.cmp .Eq (.var 2) (.int 0))
              [
                .append 1 (.str "?")]
              [
                .append 1 (.str "-")]]]
      [],
    .freeze 1,
    .ret (.join (.var 1))]
noncomputable def d_filemode : Def := ⟨"filemode", ["mode"], ["mode", "perm", "index", "table", "bit", "char"], b_filemode⟩
noncomputable def b_deduplicate_unhashable : List S :=
  [
    .own 1 (.list []),
    .forX 2 (.var 0)
      [
        .ite (.outside (.var 2) 1)
          [
            .append 1 (.var 2)]
          []]
      [],
    .freeze 1,
    .ret (.var 1)]
noncomputable def d_deduplicate_unhashable : Def := ⟨"_deduplicate_unhashable", ["unhashable_params"], ["unhashable_params", "new_unhashable", "t"], b_deduplicate_unhashable⟩
noncomputable def b_compare_args_orderless : List S :=
  [
    .assign 2 (.call 2 [(.var 0)]),
    .assign 3 (.call 2 [(.var 1)]),
    .own 4 (.bi .list (.var 3)),
    .tryE
      [
        .forX 5 (.var 2)
          [
            .remove 4 (.var 5)]
          []] "ValueError"
      [
        .ret (.bool false)],
    .freeze 4,
    .ret (.not (.var 4))]
noncomputable def d_compare_args_orderless : Def := ⟨"_compare_args_orderless", ["first_args", "second_args"], ["first_args", "second_args", "first_unhashable", "second_unhashable", "t", "elem"], b_compare_args_orderless⟩
noncomputable def b_sorted_list_difference : List S :=
  [
    .assign2 2 3 (.int 0),
    .own 4 (.list []),
    .own 5 (.list []),
    .while (.bool true)
      [
        .tryE
          [
            .assign 6 (.idx (.var 0) (.var 2)),
            .assign 7 (.idx (.var 1) (.var 3)),
            .ite (.cmp .Lt (.var 6) (.var 7))
              [
                .append 4 (.var 6),
                .aug 2 .Add (.int 1),
                .while (.cmp .Eq (.idx (.var 0) (.var 2)) (.var 6))
                  [
                    .aug 2 .Add (.int 1)]]
              [
                .ite (.cmp .Gt (.var 6) (.var 7))
                  [
                    .append 5 (.var 7),
                    .aug 3 .Add (.int 1),
                    .while (.cmp .Eq (.idx (.var 1) (.var 3)) (.var 7))
                      [
                        .aug 3 .Add (.int 1)]]
                  [
                    .aug 2 .Add (.int 1),
                    .tryF
                      [
                        .while (.cmp .Eq (.idx (.var 0) (.var 2)) (.var 6))
                          [
                            .aug 2 .Add (.int 1)]]
                      [
                        .aug 3 .Add (.int 1),
                        .while (.cmp .Eq (.idx (.var 1) (.var 3)) (.var 7))
                          [
                            .aug 3 .Add (.int 1)]]]]] "IndexError"
          [
            .extend 4 (.slice (.var 0) (.var 2) .nothing),
            .extend 5 (.slice (.var 1) (.var 3) .nothing),
            .brk]],
    .freeze 4,
    .freeze 5,
    .ret (.tup [(.var 4), (.var 5)])]
noncomputable def d_sorted_list_difference : Def := ⟨"sorted_list_difference", ["expected", "actual"], ["expected", "actual", "i", "j", "missing", "unexpected", "e", "a"], b_sorted_list_difference⟩
noncomputable def b_law_rights : List S :=
  [
    .assign 1 (.ints 12),
    .own 2 (.list []),
    .forR 3 12 8 (-1)
      [
        .assign 4 (.bin .Mod (.var 0) (.var 3)),
        .append 2 (.idx (.var 1) (.var 4)),
        .assign 1 (.bin .Add (.slice (.var 1) .nothing (.var 4)) (.slice (.var 1) (.bin .Add (.var 4) (.int 1)) .nothing)),
        .assign 0 (.bin .FloorDiv (.var 0) (.var 3))]
      [],
    .freeze 2,
    .ret (.var 2)]
noncomputable def d_law_rights : Def := ⟨"_law_rights", ["n"], ["n", "pool", "rights", "size", "place"], b_law_rights⟩
noncomputable def b_law_mode : List S :=
  [
    .assign 2 (.bin .FloorDiv (.var 0) (.int 16)),
    .forR 3 0 4 1
      [
        .assign 4 (.bin .Pow (.int 2) (.idx (.var 1) (.var 3))),
        .assign 2 (.bin .Add (.var 2) (.bin .Mult (.bin .Sub (.bin .Mod (.bin .FloorDiv (.var 0) (.bin .Pow (.int 2) (.var 3))) (.int 2)) (.bin .Mod (.bin .FloorDiv (.var 2) (.var 4)) (.int 2))) (.var 4)))]
      [],
    .ret (.var 2)]
noncomputable def d_law_mode : Def := ⟨"_law_mode", ["x", "rights"], ["x", "rights", "mode", "k", "bit"], b_law_mode⟩
noncomputable def b_law_shown : List S :=
  [
    .ite (.cmp .Gt (.var 1) (.int 8))
      [
        .ret (.cmp .In (.idx (.var 0) (.bin .Sub (.int 36) (.bin .Mult (.int 3) (.var 1)))) (.str "sStT"))]
      [],
    .ret (.cmp .NotIn (.idx (.var 0) (.bin .Sub (.int 9) (.var 1))) (.str "-ST"))]
noncomputable def d_law_shown : Def := ⟨"_law_shown", ["text", "right"], ["text", "right"], b_law_shown⟩
noncomputable def b_law_row : List S :=
  [
    .assign 2 (.call 1 [(.var 0)]),
    .ret (.compR 0 4 1 (.call 7 [(.var 2), (.idx (.var 1) (.var 3))]) (.var 3))]
noncomputable def d_law_row : Def := ⟨"_law_row", ["mode", "rights"], ["mode", "rights", "text"], b_law_row⟩
noncomputable def b_law_least : List S :=
  [
    .own 1 (.list []),
    .forX 2 (.var 0)
      [
        .ite (.cmp .Eq (.comp (.var 0) (.and (.cmp .NotEq (.var 3) (.var 2)) (.cmp .Eq (.idx (.call 4 [(.var 3), (.var 2)]) (.int 0)) (.list []))) (.var 3)) (.list []))
          [
            .append 1 (.var 2)]
          []]
      [],
    .freeze 1,
    .ret (.var 1)]
noncomputable def d_law_least : Def := ⟨"_law_least", ["sets"], ["sets", "least", "one"], b_law_least⟩
noncomputable def b_law_guards : List S :=
  [
    .assign 1 (.list [(.list [])]),
    .forX 2 (.var 0)
      [
        .assignL 3 (.comp2 (.var 1) (.var 2) (.bi .sorted (.call 2 [(.bin .Add (.var 4) (.list [(.var 5)]))]))),
        .assign 1 (.call 9 [(.call 2 [(.var 3)])])]
      [],
    .ret (.var 1)]
noncomputable def d_law_guards : Def := ⟨"_law_guards", ["rows"], ["rows", "guards", "row", "wider"], b_law_guards⟩
noncomputable def b_law : List S :=
  [
    .assign 1 (.ite (.cmp .NotEq (.var 0) (.list [])) (.bin .Mod (.idx (.var 0) (.int 0)) (.int 28523880)) (.int 11186877)),
    .assign 2 (.call 5 [(.var 1)]),
    .assign 3 (.compR 0 4 1 (.bool true) (.bin .Mod (.bin .FloorDiv (.bin .FloorDiv (.var 1) (.int 11880)) (.bin .Pow (.int 7) (.var 18))) (.int 7))),
    .assignL 4 (.comp (.or (.slice (.var 0) (.int 1) (.int 5)) (.list [(.int 12), (.int 6), (.int 67)])) (.bool true) (.bin .Mod (.var 18) (.bin .Pow (.int 2) (.int 24)))),
    .assign 5 (.compR 0 16 1 (.bool true) (.compR 0 4 1 (.cmp .Eq (.bin .Mod (.bin .FloorDiv (.var 18) (.bin .Pow (.int 2) (.var 19))) (.int 2)) (.int 1)) (.var 19))),
    .assign 6 (.comp (.var 4) (.bool true) (.idx (.var 5) (.bin .Mod (.var 18) (.int 16)))),
    .assign 7 (.comp (.var 5) (.bool true) (.cmp .NotEq (.comp (.var 6) (.cmp .Eq (.comp (.var 19) (.cmp .NotIn (.var 20) (.var 18)) (.var 20)) (.list [])) (.var 19)) (.list []))),
    .own 8 (.list []),
    .forR 9 0 16 1
      [
        .assign 10 (.bin .Sub (.int 15) (.var 9)),
        .ite (.and (.not (.idx (.var 7) (.var 10))) (.cmp .Eq (.comp (.idx (.var 5) (.var 9)) (.not (.idx (.var 7) (.bin .Add (.var 10) (.bin .Pow (.int 2) (.var 18))))) (.var 18)) (.list [])))
          [
            .append 8 (.idx (.var 5) (.var 9))]
          []]
      [],
    .assign 11 (.call 10 [(.comp (.var 4) (.bool true) (.call 8 [(.call 6 [(.var 18), (.var 2)]), (.var 2)]))]),
    .freeze 8,
    .ite (.cmp .IsNot (.call 3 [(.var 11), (.var 8)]) (.bool true))
      [
        .ret (.bool false)]
      [],
    .own 12 (.list []),
    .forX 13 (.var 6)
      [
        .ite (.cmp .Eq (.comp (.var 6) (.and (.cmp .NotEq (.var 18) (.var 13)) (.cmp .Eq (.comp (.var 18) (.cmp .NotIn (.var 19) (.var 13)) (.var 19)) (.list []))) (.var 18)) (.list []))
          [
            .append 12 (.var 13)]
          []]
      [],
    .assignL 14 (.comp (.var 11) (.bool true) (.bi .sum (.comp (.var 18) (.bool true) (.bin .Pow (.int 2) (.idx (.var 2) (.var 19)))))),
    .assign 15 (.call 10 [(.comp (.var 14) (.bool true) (.call 8 [(.var 18), (.var 2)]))]),
    .freeze 12,
    .ite (.cmp .IsNot (.call 3 [(.var 15), (.var 12)]) (.bool true))
      [
        .ret (.bool false)]
      [],
    .assign 16 (.cmp .Eq (.compR 0 16 1 (.cmp .Eq (.idx (.var 7) (.var 18)) (.idx (.var 7) (.bin .Sub (.int 15) (.var 18)))) (.var 18)) (.list [])),
    .ite (.cmp .IsNot (.call 3 [(.var 11), (.var 12)]) (.var 16))
      [
        .ret (.bool false)]
      [],
    .ite (.cmp .In (.list []) (.var 6))
      [
        .ret (.bool true)]
      [],
    .assign 17 (.bi .max (.comp (.var 6) (.bool true) (.bi .min (.comp (.var 18) (.bool true) (.idx (.var 3) (.var 19)))))),
    .ret (.cmp .Eq (.var 17) (.bi .min (.comp (.var 11) (.bool true) (.bi .max (.comp (.var 18) (.bool true) (.idx (.var 3) (.var 19)))))))]
noncomputable def d_law : Def := ⟨"law", ["script"], ["script", "n", "rights", "worths", "drawn", "sets", "plain", "holds", "due", "number", "rest", "guards", "least", "row", "modes", "back", "fair", "most"], b_law⟩
noncomputable def defs : List Def := [d_S_IFMT, d_filemode, d_deduplicate_unhashable, d_compare_args_orderless, d_sorted_list_difference, d_law_rights, d_law_mode, d_law_shown, d_law_row, d_law_least, d_law_guards, d_law]
noncomputable def st (c : Nat) : PyData := .str ⟨#[c]⟩
noncomputable def pr (b : Int) (c : Nat) : PyData := .tuple [.int b, st c]
noncomputable def table : PyData := .tuple [
  .tuple [pr 40960 108, pr 49152 115, pr 32768 45, pr 24576 98, pr 16384 100, pr 8192 99, pr 4096 112],
  .tuple [pr 256 114], .tuple [pr 128 119], .tuple [pr 2112 115, pr 2048 83, pr 64 120],
  .tuple [pr 32 114], .tuple [pr 16 119], .tuple [pr 1032 115, pr 1024 83, pr 8 120],
  .tuple [pr 4 114], .tuple [pr 2 119], .tuple [pr 513 116, pr 512 84, pr 1 120]]
noncomputable def gn : List Str := ["_filemode_table"]
noncomputable def gv : List PyData := [table]
/-- the law in plain words of the small language -/
noncomputable def Plain : Prop := ∀ ns : List Int, ns.length ≤ 63 → Fn defs gn gv 7 11 [.list (ns.map .int)] = some (.bool true)
end Mine.L1
end
section
open PySem PySem.W PySem.Calls PyProof.Rows
namespace Mine
/-! evaluation, in general -/
theorem fn_of {ds : List Def} {gn : List Str} {gv : List PyData} {k f : Nat} {d : Def} {as : List PyData} {r : PyData} (h1 : ds[f]? = some d) (h2 : as.length = d.params.length) (h3 : evSs (Tn ds gn gv k) d.body (initσ as d.nm) = .ret r) :
    Fn ds gn gv (k + 1) f as = some r := by
  unfold Fn
  rw [h1]
  dsimp only
  rw [if_pos h2]
  have h3' : evSs ⟨ds.map (·.name), gn, gv, Fn ds gn gv k⟩ d.body (initσ as d.nm) = .ret r := h3
  rw [h3']
theorem evSs_next {T : Tab} {s : S} {r : List S} {σ σ' : List SV} (h : evS T s σ = .next σ') : evSs T (s :: r) σ = evSs T r σ' := by rw [evSs, h]
theorem evSs_nil {T : Tab} {σ : List SV} : evSs T [] σ = .next σ := by rw [evSs]
theorem evSs_ret {T : Tab} {x : X} {r : List S} {σ : List SV} {d : PyData} (h : ev T x σ = .ok d) : evSs T (.ret x :: r) σ = .ret d := by rw [evSs, evS, h]
theorem evS_assign {T : Tab} {i : Nat} {x : X} {σ : List SV} {d : PyData} (h : ev T x σ = .ok d) : evS T (.assign i x) σ = .next (putV σ i d) := by rw [evS, h]
theorem evS_assignL {T : Tab} {i : Nat} {x : X} {σ : List SV} {d : PyData} (h : ev T x σ = .ok d) : evS T (.assignL i x) σ = .next (putV σ i d) := by rw [evS, h]
theorem evS_freeze {T : Tab} {i : Nat} {σ : List SV} {ds : List PyData} (h : σ[i]? = some (.own ds)) : evS T (.freeze i) σ = .next (putV σ i (.list ds)) := by rw [evS, h]
theorem ev_var {T : Tab} {i : Nat} {σ : List SV} {d : PyData} (h : σ[i]? = some (.val d)) : ev T (.var i) σ = .ok d := by rw [ev, h]
theorem evS_ite {T : Tab} {c : X} {a b : List S} {σ : List SV} {d : PyData} {t : Bool} (h : ev T c σ = .ok d) (ht : truth d = some t) : evS T (.ite c a b) σ = if t then evSs T a σ else evSs T b σ := by
  rw [evS, h]; dsimp only; rw [ht]; cases t <;> rfl
theorem ev_call {T : Tab} {f : Nat} {args : List X} {σ : List SV} {ds : List PyData} {d : PyData} (h : evs T args σ = .ok (.list ds)) (h2 : T.F f ds = some d) : ev T (.call f args) σ = .ok d := by
  rw [ev, h, Res.bind_ok]; dsimp only; rw [h2]
theorem evs_nil {T : Tab} {σ : List SV} : evs T [] σ = .ok (.list []) := by rw [evs]
theorem evs_cons {T : Tab} {x : X} {xs : List X} {σ : List SV} {d : PyData} {ds : List PyData} (h : ev T x σ = .ok d) (h2 : evs T xs σ = .ok (.list ds)) : evs T (x :: xs) σ = .ok (.list (d :: ds)) := by
  rw [evs, h, Res.bind_ok, h2, Res.bind_ok]
theorem compGo_fm {α : Type} (f : α → PyData) (p : α → Bool) (g : α → PyData) {cond elt : PyData → Res} : ∀ {l : List α}, (∀ a ∈ l, cond (f a) = .ok (.bool (p a))) → (∀ a ∈ l, p a = true → elt (f a) = .ok (g a)) →
    compGo cond elt (l.map f) = .ok (.list ((l.filter p).map g))
  | [], _, _ => by rw [List.map_nil, compGo]; rfl
  | a :: l, hc, he => by
    have ih := compGo_fm f p g (cond := cond) (elt := elt) (l := l) (fun b hb => hc b (.tail _ hb)) (fun b hb => he b (.tail _ hb))
    rw [List.map_cons, compGo, hc a (.head _)]
    dsimp only
    cases q : p a with
    | true =>
      simp only [truth, he a (.head _) q, ih, List.filter_cons, q, if_true, List.map_cons]
    | false =>
      simp only [truth, ih, List.filter_cons, q, Bool.false_eq_true, if_false]
theorem compGo_m {α : Type} (f : α → PyData) (g : α → PyData) {elt : PyData → Res} {l : List α} (he : ∀ a ∈ l, elt (f a) = .ok (g a)) :
    compGo (fun _ => .ok (.bool true)) elt (l.map f) = .ok (.list (l.map g)) := by
  have := compGo_fm f (fun _ => true) g (cond := fun _ => .ok (.bool true)) (elt := elt) (l := l) (fun _ _ => rfl) (fun a ha _ => he a ha)
  rw [this, List.filter_eq_self.mpr fun _ _ => rfl]
theorem ev_comp {T : Tab} {src cond elt : X} {σ : List SV} {ds : List PyData} {r : Res} (h : ev T src σ = .ok (.list ds)) (hl : ds.length ≤ 100000) (h2 : compGo (fun d => ev T cond (σ ++ [.val d])) (fun d => ev T elt (σ ++ [.val d])) ds = r) : ev T (.comp src cond elt) σ = r := by
  rw [ev, h, Res.then_ok]; simp only [itemsOf, if_pos hl]; exact h2
theorem ev_compR {T : Tab} {a b c : Int} {cond elt : X} {σ : List SV} {r : Res} (h : rangeOk a b c = true) (h2 : compGo (fun d => ev T cond (σ ++ [.val d])) (fun d => ev T elt (σ ++ [.val d])) (rangeD a b c) = r) : ev T (.compR a b c cond elt) σ = r := by
  rw [ev, if_pos h]; exact h2
theorem ev_true {T : Tab} {σ : List SV} {b : Bool} : ev T (.bool b) σ = .ok (.bool b) := by rw [ev]
theorem compGo2_m {α β : Type} (f : α → PyData) (h : β → PyData) (src' : α → List β) (g : α → β → PyData) {src : PyData → Res} {elt : PyData → PyData → Res} : ∀ {l : List α}, (∀ a ∈ l, src (f a) = .ok (.list ((src' a).map h))) → (∀ a ∈ l, ∀ b ∈ src' a, elt (f a) (h b) = .ok (g a b)) →
    (l.flatMap fun a => (src' a).map (g a)).length ≤ 100000 → compGo2 src elt (l.map f) = .ok (.list (l.flatMap fun a => (src' a).map (g a)))
  | [], _, _, _ => by rw [List.map_nil, compGo2]; rfl
  | a :: l, hc, he, hz => by
    have hz' : ((src' a).map (g a)).length + (l.flatMap fun a => (src' a).map (g a)).length ≤ 100000 := by simpa [List.flatMap_cons] using hz
    have ih := compGo2_m f h src' g (src := src) (elt := elt) (l := l) (fun b hb => hc b (.tail _ hb)) (fun b hb => he b (.tail _ hb)) (by omega)
    have hi : itemsOf (.list ((src' a).map h)) = some ((src' a).map h) := by
      simp only [itemsOf]; rw [if_pos]; simp only [List.length_map] at hz' ⊢; omega
    rw [List.map_cons, compGo2, hc a (.head _)]
    dsimp only
    rw [hi]
    dsimp only
    rw [compGo_m h (g a) (he a (.head _))]
    dsimp only
    rw [ih]
    dsimp only
    rw [if_pos hz', List.flatMap_cons]
/-- the loop's name behind the loop -/
noncomputable def lastV {α : Type} (f : α → PyData) : List α → SV → SV
  | [], sv => sv
  | a :: l, _ => lastV f l (.val (f a))
theorem loopGo_fold {α β : Type} {i : Nat} (f : α → PyData) (st : β → SV → List SV) (step : β → α → β) {body orelse : List SV → Out} : ∀ {l : List α} {b : β} {sv : SV},
    (∀ b sv, ∀ a ∈ l, putV (st b sv) i (f a) = st b (.val (f a))) → (∀ b, ∀ a ∈ l, body (st b (.val (f a))) = .next (st (step b a) (.val (f a)))) →
    loopGo (fun σ d => some (putV σ i d)) body orelse (l.map f) (st b sv) = orelse (st (l.foldl step b) (lastV f l sv))
  | [], b, sv, _, _ => by rw [List.map_nil, loopGo]; rfl
  | a :: l, b, sv, h1, h2 => by
    rw [List.map_cons, loopGo]
    dsimp only
    rw [h1 b sv a (.head _), h2 b a (.head _)]
    dsimp only
    rw [loopGo_fold f st step (fun b sv c hc => h1 b sv c (.tail _ hc)) (fun b c hc => h2 b c (.tail _ hc))]
    rfl
theorem evS_forX {T : Tab} {i : Nat} {src : X} {body orelse : List S} {σ : List SV} {ds : List PyData} (h : ev T src σ = .ok (.list ds)) (hl : ds.length ≤ 100000) :
    evS T (.forX i src body orelse) σ = loopGo (fun σ d => some (putV σ i d)) (fun σ => evSs T body σ) (fun σ => evSs T orelse σ) ds σ := by
  rw [evS, h]; simp only [itemsOf, if_pos hl]
theorem evS_forR {T : Tab} {i : Nat} {a b c : Int} {body orelse : List S} {σ : List SV} (h : rangeOk a b c = true) :
    evS T (.forR i a b c body orelse) σ = loopGo (fun σ d => some (putV σ i d)) (fun σ => evSs T body σ) (fun σ => evSs T orelse σ) (rangeD a b c) σ := by
  rw [evS, if_pos h]
end Mine
end
section
open PySem PySem.W PySem.Calls PyProof.Rows
namespace Mine
theorem loopGo_inv {α β : Type} {i : Nat} (f : α → PyData) (st : β → SV → List SV) (step : β → α → β) (Iv : List α → β → Prop) {body orelse : List SV → Out}
    (h1 : ∀ b sv d, putV (st b sv) i d = st b (.val d)) (h2 : ∀ a r b, Iv (a :: r) b → body (st b (.val (f a))) = .next (st (step b a) (.val (f a))) ∧ Iv r (step b a)) : ∀ (l : List α) (b : β) (sv : SV), Iv l b →
    loopGo (fun σ d => some (putV σ i d)) body orelse (l.map f) (st b sv) = orelse (st (l.foldl step b) (lastV f l sv))
  | [], b, sv, _ => by rw [List.map_nil, loopGo]; rfl
  | a :: l, b, sv, hI => by
    obtain ⟨q1, q2⟩ := h2 a l b hI
    rw [List.map_cons, loopGo]
    dsimp only
    rw [h1 b sv (f a), q1]
    dsimp only
    rw [loopGo_inv f st step Iv h1 h2 l _ _ q2]
    rfl
theorem opCmp_notIn (a : PyData) (ds : List PyData) : opCmp .NotIn a (.list ds) = if okD a && okD (.list ds) then .ok (.bool (!ds.any fun y => PyData.eqv y a)) else .bad := by
  rw [← Bool.bne_true]; rfl
theorem opCmp_in (a : PyData) (ds : List PyData) : opCmp .In a (.list ds) = if okD a && okD (.list ds) then .ok (.bool (ds.any fun y => PyData.eqv y a)) else .bad := by
  rw [← Bool.bne_false (ds.any fun y => PyData.eqv y a)]; rfl
theorem evS_append {T : Tab} {i : Nat} {x : X} {σ : List SV} {ds : List PyData} {d : PyData} (h1 : σ[i]? = some (.own ds)) (h2 : ev T x σ = .ok d) (h3 : ds.length < 100000) : evS T (.append i x) σ = .next (σ.set i (.own (ds ++ [d]))) := by
  rw [evS, h1]; dsimp only; rw [h2]; dsimp only; rw [if_pos h3]
/-- data told apart by their letters -/
structure Enc {α : Type} [DecidableEq α] (f : α → PyData) : Prop where
  eqv : ∀ a b, PyData.eqv (f a) (f b) = decide (a = b)
  ok5 : ∀ a, okN 5 (f a) = true
  ok6 : ∀ a, okN 6 (f a) = true
section
variable {α : Type} [DecidableEq α] {f : α → PyData}
theorem Enc.okL (e : Enc f) (l : List α) : okD (.list (l.map f)) = true := by
  unfold okD okN
  rw [List.all_eq_true]
  intro x hx
  obtain ⟨a, _, rfl⟩ := List.mem_map.mp hx
  exact e.ok5 a
theorem Enc.any (e : Enc f) (l : List α) (a : α) : ((l.map f).any fun y => PyData.eqv y (f a)) = decide (a ∈ l) := by
  induction l with
  | nil => rfl
  | cons b l ih =>
    rw [List.map_cons, List.any_cons, ih, e.eqv]
    by_cases q : b = a
    · subst q; simp
    · have q' : ¬ a = b := fun h => q h.symm
      simp [q, q']
noncomputable def dedupL (l : List α) : List α := l.foldl (fun acc a => if a ∈ acc then acc else acc ++ [a]) []
theorem dedup_fold (l : List α) : ∀ acc : List α, acc.Nodup → (l.foldl (fun acc a => if a ∈ acc then acc else acc ++ [a]) acc).Nodup ∧ ∀ x, x ∈ l.foldl (fun acc a => if a ∈ acc then acc else acc ++ [a]) acc ↔ x ∈ acc ∨ x ∈ l := by
  induction l with
  | nil => intro acc h; exact ⟨h, fun x => by simp⟩
  | cons a l ih =>
    intro acc h
    rw [List.foldl_cons]
    by_cases q : a ∈ acc
    · rw [if_pos q]
      obtain ⟨h1, h2⟩ := ih acc h
      refine ⟨h1, fun x => (h2 x).trans ⟨fun z => z.imp id fun z => .tail _ z, fun z => ?_⟩⟩
      rcases z with z | z
      · exact .inl z
      · rcases List.mem_cons.mp z with rfl | z
        · exact .inl q
        · exact .inr z
    · rw [if_neg q]
      obtain ⟨h1, h2⟩ := ih (acc ++ [a]) (List.nodup_append.mpr ⟨h, by simp, fun x hx y hy => by
        rw [List.mem_singleton.mp hy]; rintro rfl; exact q hx⟩)
      refine ⟨h1, fun x => (h2 x).trans ?_⟩
      simp only [List.mem_append, List.mem_cons, List.not_mem_nil, or_false, or_assoc]
theorem mem_dedupL {l : List α} {x : α} : x ∈ dedupL l ↔ x ∈ l := by
  have := (dedup_fold l [] List.nodup_nil).2 x
  simpa [dedupL] using this
theorem nodup_dedupL (l : List α) : (dedupL l).Nodup := (dedup_fold l [] List.nodup_nil).1
theorem dedup_eval {T : Tab} (e : Enc f) (l : List α) (hl : l.length ≤ 50000) : evSs T L1.b_deduplicate_unhashable (initσ [.list (l.map f)] L1.d_deduplicate_unhashable.nm) = .ret (.list ((dedupL l).map f)) := by
  unfold L1.b_deduplicate_unhashable
  show evSs T _ [.val (.list (l.map f)), .un, .un] = _
  rw [evSs_next (σ' := [.val (.list (l.map f)), .own [], .un])]
  rotate_left
  · simp [evS, ev, evs, Res.bind_ok]
  have hloop := loopGo_inv (i := 2) f (fun (acc : List α) sv => [.val (.list (l.map f)), .own (acc.map f), sv]) (fun acc a => if a ∈ acc then acc else acc ++ [a]) (fun r acc => acc.length + r.length ≤ 50000)
    (body := fun σ => evSs T [.ite (.outside (.var 2) 1) [.append 1 (.var 2)] []] σ) (orelse := fun σ => evSs T [] σ) (fun _ _ _ => rfl) (fun a r acc hI => ?_) l [] .un (by simpa using hl)
  · rw [evSs_next (σ' := [.val (.list (l.map f)), .own ((dedupL l).map f), lastV f l .un])]
    · rw [evSs_next (evS_freeze (i := 1) (ds := (dedupL l).map f) rfl)]
      exact evSs_ret (ev_var rfl)
    · rw [evS_forX (ds := l.map f) (ev_var rfl) (by simp; omega)]
      rw [show ([.val (.list (l.map f)), .own [], .un] : List SV) = (fun (acc : List α) sv => [.val (.list (l.map f)), .own (acc.map f), sv]) [] .un from rfl, hloop]
      rw [evSs_nil]; rfl
  · have hc : ev T (.outside (.var 2) 1) [.val (.list (l.map f)), .own (acc.map f), .val (f a)] = .ok (.bool (!decide (a ∈ acc))) := by
      rw [ev, ev_var (d := f a) rfl, Res.bind_ok]
      show opCmp .NotIn (f a) (.list (acc.map f)) = _
      rw [opCmp_notIn, if_pos (by rw [show okD (f a) = true from e.ok6 a, e.okL]; rfl), e.any]
    by_cases q : a ∈ acc
    · refine ⟨?_, by simp only [if_pos q]; simp only [List.length_cons] at hI; omega⟩
      rw [evSs_next (σ' := [.val (.list (l.map f)), .own (acc.map f), .val (f a)]), evSs_nil]
      · simp only [if_pos q]
      · rw [evS_ite hc (t := false) (by simp [truth, q])]
        simp only [Bool.false_eq_true, if_false]; exact evSs_nil
    · refine ⟨?_, by simp only [if_neg q, List.length_append, List.length_cons, List.length_nil]; simp only [List.length_cons] at hI; omega⟩
      rw [evSs_next (σ' := [.val (.list (l.map f)), .own ((acc ++ [a]).map f), .val (f a)]), evSs_nil]
      · simp only [if_neg q]
      · rw [evS_ite hc (t := true) (by simp [truth, q])]
        simp only [if_true]
        rw [evSs_next (σ' := [.val (.list (l.map f)), .own ((acc ++ [a]).map f), .val (f a)]), evSs_nil]
        rw [evS_append (ds := acc.map f) rfl (ev_var (d := f a) rfl) (by simp only [List.length_map]; simp only [List.length_cons] at hI; omega)]
        simp
end
end Mine
end
section
open PySem PySem.W PySem.Calls PyProof.Rows
namespace Mine
section
variable {α : Type} [DecidableEq α] {f : α → PyData}
noncomputable def remAll : List α → List α → Option (List α)
  | [], t => some t
  | a :: l, t => if a ∈ t then remAll l (t.erase a) else none
theorem remAll_some : ∀ (l t t' : List α), l.Nodup → t.Nodup → remAll l t = some t' → (∀ x ∈ l, x ∈ t) ∧ ∀ x, x ∈ t' ↔ x ∈ t ∧ x ∉ l
  | [], t, t', _, _, h => by cases h; exact ⟨by simp, by simp⟩
  | a :: l, t, t', hl, ht, h => by
    obtain ⟨hl1, hl2⟩ := List.nodup_cons.mp hl
    unfold remAll at h
    split at h
    · rename_i ha
      obtain ⟨h1, h2⟩ := remAll_some l _ t' hl2 (ht.erase a) h
      refine ⟨fun x hx => ?_, fun x => ?_⟩
      · rcases List.mem_cons.mp hx with rfl | hx
        · exact ha
        · exact List.mem_of_mem_erase (h1 x hx)
      · rw [h2 x, ht.mem_erase_iff]
        simp only [List.mem_cons, not_or]
        constructor
        · rintro ⟨⟨q1, q2⟩, q3⟩; exact ⟨q2, q1, q3⟩
        · rintro ⟨q1, q2, q3⟩; exact ⟨⟨q2, q1⟩, q3⟩
    · cases h
theorem remAll_none : ∀ (l t : List α), l.Nodup → t.Nodup → remAll l t = none → ¬ ∀ x ∈ l, x ∈ t
  | [], t, _, _, h => by cases h
  | a :: l, t, hl, ht, h => by
    obtain ⟨hl1, hl2⟩ := List.nodup_cons.mp hl
    unfold remAll at h
    split at h
    · intro hall
      refine remAll_none l _ hl2 (ht.erase a) h fun x hx => ?_
      exact (ht.mem_erase_iff).mpr ⟨fun q => hl1 (q ▸ hx), hall x (.tail _ hx)⟩
    · rename_i ha
      exact fun hall => ha (hall a (.head _))
noncomputable def sameL (a b : List α) : Bool := a.all (b.contains ·) && b.all (a.contains ·)
theorem sameL_iff {a b : List α} : sameL a b = true ↔ ∀ x, x ∈ a ↔ x ∈ b := by
  unfold sameL
  simp only [Bool.and_eq_true, List.all_eq_true, List.contains_iff_mem]
  exact ⟨fun h x => ⟨h.1 x, h.2 x⟩, fun h => ⟨fun x => (h x).1, fun x => (h x).2⟩⟩
theorem rem_same (a b : List α) : (match remAll (dedupL a) (dedupL b) with | some t => t.isEmpty | none => false) = sameL a b := by
  cases q : remAll (dedupL a) (dedupL b) with
  | none =>
    have := remAll_none _ _ (nodup_dedupL a) (nodup_dedupL b) q
    symm
    rw [Bool.eq_false_iff]
    intro h
    rw [sameL_iff] at h
    exact this fun x hx => mem_dedupL.mpr ((h x).1 (mem_dedupL.mp hx))
  | some t =>
    obtain ⟨h1, h2⟩ := remAll_some _ _ t (nodup_dedupL a) (nodup_dedupL b) q
    show t.isEmpty = sameL a b
    rw [Bool.eq_iff_iff, sameL_iff, List.isEmpty_iff]
    constructor
    · rintro rfl x
      refine ⟨fun hx => mem_dedupL.mp (h1 x (mem_dedupL.mpr hx)), fun hx => ?_⟩
      have := h2 x
      simp only [List.not_mem_nil, false_iff, not_and, mem_dedupL] at this
      exact Classical.not_not.mp (this hx)
    · intro h
      apply List.eq_nil_iff_forall_not_mem.mpr
      intro x hx
      obtain ⟨g1, g2⟩ := (h2 x).mp hx
      exact g2 (mem_dedupL.mpr ((h x).2 (mem_dedupL.mp g1)))
theorem removeD_enc (e : Enc f) (a : α) : ∀ l : List α, removeD (f a) (l.map f) = if a ∈ l then some ((l.erase a).map f) else none
  | [] => by simp [removeD]
  | b :: l => by
    have ih := removeD_enc e a l
    rw [List.map_cons, removeD, e.eqv]
    by_cases q : b = a
    · subst q; simp
    · have q' : ¬ a = b := fun h => q h.symm
      simp only [q, decide_false, Bool.false_eq_true, if_false, ih, List.mem_cons, q', false_or]
      split
      · simp [q]
      · rfl
theorem evS_remove {T : Tab} {i : Nat} {x : X} {σ : List SV} {ds : List PyData} {d : PyData} (h1 : σ[i]? = some (.own ds)) (h2 : ev T x σ = .ok d) (h3 : (okD d && okD (.list ds) && decide (ds.length < 100000)) = true) :
    evS T (.remove i x) σ = match removeD d ds with | some es => .next (σ.set i (.own es)) | none => .exc "ValueError" σ := by
  rw [evS, h1]; dsimp only; rw [h2]; dsimp only; rw [if_pos h3]
  try (cases removeD d ds <;> rfl)
theorem remove_loop {T : Tab} (e : Enc f) (v0 v1 v2 v3 : SV) : ∀ (l t : List α) (sv : SV), t.length ≤ 50000 →
    (∃ t', remAll l t = some t' ∧ t'.length ≤ 50000 ∧ loopGo (fun σ d => some (putV σ 5 d)) (fun σ => evSs T [.remove 4 (.var 5)] σ) (fun σ => evSs T [] σ) (l.map f) [v0, v1, v2, v3, .own (t.map f), sv] = .next [v0, v1, v2, v3, .own (t'.map f), lastV f l sv]) ∨
    (remAll l t = none ∧ ∃ σ', loopGo (fun σ d => some (putV σ 5 d)) (fun σ => evSs T [.remove 4 (.var 5)] σ) (fun σ => evSs T [] σ) (l.map f) [v0, v1, v2, v3, .own (t.map f), sv] = .exc "ValueError" σ')
  | [], t, sv, ht => .inl ⟨t, rfl, ht, by rw [List.map_nil, loopGo, evSs_nil]; rfl⟩
  | a :: l, t, sv, ht => by
    have hb : evS T (.remove 4 (.var 5)) [v0, v1, v2, v3, .own (t.map f), .val (f a)] = if a ∈ t then .next [v0, v1, v2, v3, .own ((t.erase a).map f), .val (f a)] else .exc "ValueError" [v0, v1, v2, v3, .own (t.map f), .val (f a)] := by
      rw [evS_remove (ds := t.map f) rfl (ev_var (d := f a) rfl) (by
        rw [show okD (f a) = true from e.ok6 a, e.okL]; simp; omega), removeD_enc e]
      by_cases q : a ∈ t
      · rw [if_pos q, if_pos q]; rfl
      · rw [if_neg q, if_neg q]
    by_cases q : a ∈ t
    · rw [if_pos q] at hb
      have hr : remAll (a :: l) t = remAll l (t.erase a) := by rw [remAll, if_pos q]
      have hg : loopGo (fun σ d => some (putV σ 5 d)) (fun σ => evSs T [.remove 4 (.var 5)] σ) (fun σ => evSs T [] σ) ((a :: l).map f) [v0, v1, v2, v3, .own (t.map f), sv] =
          loopGo (fun σ d => some (putV σ 5 d)) (fun σ => evSs T [.remove 4 (.var 5)] σ) (fun σ => evSs T [] σ) (l.map f) [v0, v1, v2, v3, .own ((t.erase a).map f), .val (f a)] := by
        rw [List.map_cons, loopGo]
        dsimp only
        rw [show putV [v0, v1, v2, v3, .own (t.map f), sv] 5 (f a) = [v0, v1, v2, v3, .own (t.map f), .val (f a)] from rfl, evSs_next hb, evSs_nil]
      rw [hr, hg]
      exact remove_loop e v0 v1 v2 v3 l (t.erase a) (.val (f a)) (Nat.le_trans (List.length_erase_le) ht)
    · rw [if_neg q] at hb
      refine .inr ⟨by rw [remAll, if_neg q], [v0, v1, v2, v3, .own (t.map f), .val (f a)], ?_⟩
      rw [List.map_cons, loopGo]
      dsimp only
      rw [show putV [v0, v1, v2, v3, .own (t.map f), sv] 5 (f a) = [v0, v1, v2, v3, .own (t.map f), .val (f a)] from rfl, evSs, hb]
theorem length_dedup (l : List α) : (dedupL l).length ≤ l.length := by
  have : ∀ (l acc : List α), (l.foldl (fun acc a => if a ∈ acc then acc else acc ++ [a]) acc).length ≤ acc.length + l.length := by
    intro l
    induction l with
    | nil => intro acc; simp
    | cons a l ih =>
      intro acc
      rw [List.foldl_cons]
      have := ih (if a ∈ acc then acc else acc ++ [a])
      split at this
      · rename_i q; rw [if_pos q]; simp only [List.length_cons]; omega
      · rename_i q; rw [if_neg q]; simp only [List.length_append, List.length_cons, List.length_nil] at this ⊢; omega
  have := this l []
  simpa [dedupL] using this
theorem compare_eval {T : Tab} (e : Enc f) (hT : ∀ l : List α, l.length ≤ 50000 → T.F 2 [.list (l.map f)] = some (.list ((dedupL l).map f))) (a b : List α) (ha : a.length ≤ 50000) (hb : b.length ≤ 50000) :
    evSs T L1.b_compare_args_orderless (initσ [.list (a.map f), .list (b.map f)] L1.d_compare_args_orderless.nm) = .ret (.bool (sameL a b)) := by
  unfold L1.b_compare_args_orderless
  show evSs T _ [.val (.list (a.map f)), .val (.list (b.map f)), .un, .un, .un, .un] = _
  rw [evSs_next (evS_assign (ev_call (evs_cons (ev_var rfl) evs_nil) (hT a ha)))]
  rw [evSs_next (evS_assign (ev_call (evs_cons (ev_var rfl) evs_nil) (hT b hb)))]
  show evSs T _ [.val (.list (a.map f)), .val (.list (b.map f)), .val (.list ((dedupL a).map f)), .val (.list ((dedupL b).map f)), .un, .un] = _
  have hla := length_dedup a
  have hlb := length_dedup b
  rw [evSs_next (σ' := [.val (.list (a.map f)), .val (.list (b.map f)), .val (.list ((dedupL a).map f)), .val (.list ((dedupL b).map f)), .own ((dedupL b).map f), .un])]
  rotate_left
  · rw [evS, ev, ev_var (d := .list ((dedupL b).map f)) rfl, Res.bind_ok]
    simp only [opBi]
    rw [if_pos (by simp; omega)]
    rfl
  have hloop := remove_loop (T := T) e (.val (.list (a.map f))) (.val (.list (b.map f))) (.val (.list ((dedupL a).map f))) (.val (.list ((dedupL b).map f))) (dedupL a) (dedupL b) .un (by omega)
  have hfor : evS T (.forX 5 (.var 2) [.remove 4 (.var 5)] []) [.val (.list (a.map f)), .val (.list (b.map f)), .val (.list ((dedupL a).map f)), .val (.list ((dedupL b).map f)), .own ((dedupL b).map f), .un] = _ :=
    evS_forX (ds := (dedupL a).map f) (ev_var rfl) (by simp; omega)
  have hs := rem_same a b
  rcases hloop with ⟨t, h1, h2, h3⟩ | ⟨h1, σ', h3⟩
  · rw [h1] at hs
    rw [evSs_next (σ' := [.val (.list (a.map f)), .val (.list (b.map f)), .val (.list ((dedupL a).map f)), .val (.list ((dedupL b).map f)), .own (t.map f), lastV f (dedupL a) .un])]
    · rw [evSs_next (evS_freeze (i := 4) (ds := t.map f) rfl)]
      refine evSs_ret ?_
      rw [ev, ev_var (d := .list (t.map f)) rfl, Res.bind_ok]
      have : truth (.list (t.map f)) = some (!(t.map f).isEmpty) := by simp only [truth]; rw [if_pos (by simp; omega)]
      rw [this]
      dsimp only
      rw [← hs]
      cases t <;> rfl
    · rw [evS, evSs_next (by rw [hfor, h3]), evSs_nil]
  · rw [h1] at hs
    rw [evSs, evS]
    have : evSs T [.forX 5 (.var 2) [.remove 4 (.var 5)] []] [.val (.list (a.map f)), .val (.list (b.map f)), .val (.list ((dedupL a).map f)), .val (.list ((dedupL b).map f)), .own ((dedupL b).map f), .un] = .exc "ValueError" σ' := by
      rw [evSs, hfor, h3]
    rw [this]
    dsimp only
    rw [if_pos ⟨by decide, .inr rfl⟩, evSs_ret ev_true]
    dsimp only
    rw [← hs]
end
end Mine
end
section
open PySem PySem.W PySem.Calls PyProof.Rows
namespace Mine.L1
/-! sets of four, as masks -/
noncomputable def els (m : Fin 16) : List (Fin 4) := (List.finRange 4).filter fun k => m.val.testBit k.val
noncomputable def kD (k : Fin 4) : PyData := .int (k.val : Int)
noncomputable def setD (m : Fin 16) : PyData := .list ((els m).map kD)
noncomputable def sub (a b : Fin 16) : Bool := (a.val &&& b.val) == a.val
theorem encK : Enc kD := ⟨by decide +kernel, by decide +kernel, by decide +kernel⟩
theorem encS : Enc setD := ⟨by decide +kernel, by decide +kernel, by decide +kernel⟩
noncomputable def sldOk (T : Tab) (a b : Fin 16) : Bool := match evSs T b_sorted_list_difference (initσ [setD a, setD b] d_sorted_list_difference.nm) with
  | .ret (.tuple [.list m, .list _]) => (m.isEmpty == sub a b) && okD (.list m)
  | _ => false
theorem sld_all (T : Tab) : ((List.finRange 16).all fun a => (List.finRange 16).all fun b => sldOk T a b) = true := by kernel_rfl
end Mine.L1
end
section
open PySem PySem.W PySem.Calls PyProof.Rows
namespace Mine
theorem nodup_length {α : Type} [DecidableEq α] : ∀ (l u : List α), l.Nodup → (∀ x ∈ l, x ∈ u) → l.length ≤ u.length
  | [], _, _, _ => Nat.zero_le _
  | a :: l, u, h, hs => by
    obtain ⟨h1, h2⟩ := List.nodup_cons.mp h
    have ha : a ∈ u := hs a (.head _)
    have := nodup_length l (u.erase a) h2 fun x hx => by
      have hne : x ≠ a := fun q => h1 (q ▸ hx)
      exact (List.mem_erase_of_ne hne).mpr (hs x (.tail _ hx))
    rw [List.length_erase_of_mem ha] at this
    have hp : 0 < u.length := List.length_pos_of_mem ha
    simp only [List.length_cons]; omega
theorem foldl_filter {α : Type} (p : α → Bool) : ∀ (l acc : List α), l.foldl (fun acc a => if p a then acc ++ [a] else acc) acc = acc ++ l.filter p
  | [], acc => by simp
  | a :: l, acc => by
    rw [List.foldl_cons, foldl_filter p l]
    cases q : p a <;> simp [q]
section
variable {T : Tab} {σ : List SV}
theorem ev_cmp {op : CmpOp} {a b : X} {x y : PyData} (h1 : ev T a σ = .ok x) (h2 : ev T b σ = .ok y) : ev T (.cmp op a b) σ = opCmp op x y := by
  rw [ev, h1, Res.bind_ok, h2, Res.bind_ok]
theorem ev_bin {op : Operator} {a b : X} {x y : PyData} (h1 : ev T a σ = .ok x) (h2 : ev T b σ = .ok y) : ev T (.bin op a b) σ = opBin op x y := by
  rw [ev, h1, Res.bind_ok, h2, Res.bind_ok]
theorem ev_idx {a b : X} {x y : PyData} (h1 : ev T a σ = .ok x) (h2 : ev T b σ = .ok y) : ev T (.idx a b) σ = opIdx x y := by
  rw [ev, h1, Res.bind_ok, h2, Res.bind_ok]
theorem ev_bi {b : Bi} {a : X} {x : PyData} (h1 : ev T a σ = .ok x) : ev T (.bi b a) σ = opBi b x := by
  rw [ev, h1, Res.bind_ok]
theorem ev_and {a b : X} {p q : Bool} (h1 : ev T a σ = .ok (.bool p)) (h2 : p = true → ev T b σ = .ok (.bool q)) : ev T (.and a b) σ = .ok (.bool (p && q)) := by
  rw [ev, h1, Res.bind_ok]
  cases p with
  | true => exact h2 rfl
  | false => rfl
theorem ev_not {a : X} {x : PyData} {p : Bool} (h1 : ev T a σ = .ok x) (h2 : truth x = some p) : ev T (.not a) σ = .ok (.bool (!p)) := by
  rw [ev, h1, Res.bind_ok, h2]
theorem ev_int {i : Int} : ev T (.int i) σ = .ok (.int i) := by rw [ev]
theorem ev_str {x : Str} : ev T (.str x) σ = .ok (.str x) := by rw [ev]
theorem ev_nil : ev T (.list []) σ = .ok (.list []) := by rw [ev, evs_nil]; rfl
theorem ev_list {es : List X} {ds : List PyData} (h : evs T es σ = .ok (.list ds)) (hl : ds.length ≤ 100000) : ev T (.list es) σ = .ok (.list ds) := by
  rw [ev, h, Res.bind_ok]; dsimp only; rw [if_pos hl]
theorem evS_own {i : Nat} {x : X} {ds : List PyData} (h : ev T x σ = .ok (.list ds)) : evS T (.own i x) σ = .next (σ.set i (.own ds)) := by rw [evS, h]
theorem ev_comp2 {s₁ s₂ e : X} {ds : List PyData} {r : Res} (h : ev T s₁ σ = .ok (.list ds)) (hl : ds.length ≤ 100000)
    (h2 : compGo2 (fun d => ev T s₂ (σ ++ [.val d])) (fun d x => ev T e (σ ++ [.val d, .val x])) ds = r) : ev T (.comp2 s₁ s₂ e) σ = r := by
  rw [ev, h, Res.then_ok]; simp only [itemsOf, if_pos hl]; exact h2
end
theorem eqv_nil (ds : List PyData) : PyData.eqv (.list ds) (.list []) = ds.isEmpty := by
  rw [PyData.eqv]
  cases ds <;> rfl
theorem cmp_nil {ds : List PyData} (h : okD (.list ds) = true) : opCmp .Eq (.list ds) (.list []) = .ok (.bool ds.isEmpty) := by
  simp only [opCmp]
  rw [if_pos (by rw [h]; rfl), eqv_nil]
theorem cmp_nil' {ds : List PyData} (h : okD (.list ds) = true) : opCmp .NotEq (.list ds) (.list []) = .ok (.bool !ds.isEmpty) := by
  simp only [opCmp]
  rw [if_pos (by rw [h]; rfl), eqv_nil]
theorem cmp_ne {α : Type} [DecidableEq α] {f : α → PyData} (e : Enc f) (a b : α) : opCmp .NotEq (f a) (f b) = .ok (.bool (a != b)) := by
  have : opCmp .NotEq (f a) (f b) = if okD (f a) && okD (f b) then .ok (.bool (!PyData.eqv (f a) (f b))) else .bad := by
    simp only [opCmp]
  rw [this, if_pos (by rw [show okD (f a) = true from e.ok6 a, show okD (f b) = true from e.ok6 b]; rfl), e.eqv]
  rfl
namespace L1
/-- what the tables of the defs yield on masks -/
structure TOK (T : Tab) : Prop where
  dK : ∀ l : List (Fin 4), l.length ≤ 50000 → T.F 2 [.list (l.map kD)] = some (.list ((dedupL l).map kD))
  dS : ∀ l : List (Fin 16), l.length ≤ 50000 → T.F 2 [.list (l.map setD)] = some (.list ((dedupL l).map setD))
  sl : ∀ a b : Fin 16, ∃ m u, T.F 4 [setD a, setD b] = some (.tuple [.list m, .list u]) ∧ m.isEmpty = sub a b ∧ okD (.list m) = true
noncomputable def leastL (l : List (Fin 16)) : List (Fin 16) := l.filter fun one => (l.filter fun two => two != one && sub two one).isEmpty
theorem sld_eval (T : Tab) (a b : Fin 16) : ∃ m u, evSs T b_sorted_list_difference (initσ [setD a, setD b] d_sorted_list_difference.nm) = .ret (.tuple [.list m, .list u]) ∧ m.isEmpty = sub a b ∧ okD (.list m) = true := by
  have h := List.all_eq_true.mp (List.all_eq_true.mp (sld_all T) a (List.mem_finRange a)) b (List.mem_finRange b)
  unfold sldOk at h
  split at h
  · rename_i m u hm
    obtain ⟨h1, h2⟩ := Bool.and_eq_true_iff.mp h
    exact ⟨m, u, hm, eq_of_beq h1, h2⟩
  · cases h
theorem least_eval {T : Tab} (K : TOK T) (l : List (Fin 16)) (hl : l.length ≤ 50000) : evSs T b_law_least (initσ [.list (l.map setD)] d_law_least.nm) = .ret (.list ((leastL l).map setD)) := by
  unfold b_law_least
  show evSs T _ [.val (.list (l.map setD)), .un, .un] = _
  rw [evSs_next (evS_own (i := 1) (ds := []) ev_nil)]
  have hloop := loopGo_inv (i := 2) setD (fun (acc : List (Fin 16)) sv => [.val (.list (l.map setD)), .own (acc.map setD), sv]) (fun acc a => if (l.filter fun two => two != a && sub two a).isEmpty then acc ++ [a] else acc) (fun r acc => acc.length + r.length ≤ 50000)
    (body := fun σ => evSs T [.ite (.cmp .Eq (.comp (.var 0) (.and (.cmp .NotEq (.var 3) (.var 2)) (.cmp .Eq (.idx (.call 4 [(.var 3), (.var 2)]) (.int 0)) (.list []))) (.var 3)) (.list []))
          [.append 1 (.var 2)] []] σ) (orelse := fun σ => evSs T [] σ) (fun _ _ _ => rfl) (fun a r acc hI => ?_) l [] .un (by simpa using hl)
  · rw [evSs_next (σ' := [.val (.list (l.map setD)), .own ((leastL l).map setD), lastV setD l .un])]
    · rw [evSs_next (evS_freeze (i := 1) (ds := (leastL l).map setD) rfl)]
      exact evSs_ret (ev_var rfl)
    · rw [evS_forX (ds := l.map setD) (ev_var rfl) (by simp; omega)]
      rw [show (List.set [.val (.list (l.map setD)), .un, .un] 1 (.own []) : List SV) = (fun (acc : List (Fin 16)) sv => [.val (.list (l.map setD)), .own (acc.map setD), sv]) [] .un from rfl, hloop]
      rw [evSs_nil, foldl_filter]; rfl
  · have hcond : ev T (.cmp .Eq (.comp (.var 0) (.and (.cmp .NotEq (.var 3) (.var 2)) (.cmp .Eq (.idx (.call 4 [(.var 3), (.var 2)]) (.int 0)) (.list []))) (.var 3)) (.list [])) [.val (.list (l.map setD)), .own (acc.map setD), .val (setD a)] = .ok (.bool (l.filter fun two => two != a && sub two a).isEmpty) := by
      have hc : ev T (.comp (.var 0) (.and (.cmp .NotEq (.var 3) (.var 2)) (.cmp .Eq (.idx (.call 4 [(.var 3), (.var 2)]) (.int 0)) (.list []))) (.var 3)) [.val (.list (l.map setD)), .own (acc.map setD), .val (setD a)] = .ok (.list ((l.filter fun two => two != a && sub two a).map setD)) := by
        refine ev_comp (ds := l.map setD) (ev_var rfl) (by simp; omega) ?_
        refine compGo_fm setD (fun two => two != a && sub two a) setD (fun two _ => ?_) fun two _ _ => ev_var rfl
        refine ev_and (by rw [ev_cmp (x := setD two) (y := setD a) (ev_var rfl) (ev_var rfl)]; exact cmp_ne encS two a) fun _ => ?_
        obtain ⟨m, u, h1, h2, h3⟩ := K.sl two a
        have h4 : ev T (.idx (.call 4 [(.var 3), (.var 2)]) (.int 0)) ([.val (.list (l.map setD)), .own (acc.map setD), .val (setD a)] ++ [.val (setD two)]) = .ok (.list m) := by
          rw [ev_idx (ev_call (evs_cons (d := setD two) (ev_var rfl) (evs_cons (d := setD a) (ev_var rfl) evs_nil)) h1) ev_int]
          rfl
        rw [ev_cmp h4 ev_nil, cmp_nil h3, h2]
      rw [ev_cmp hc ev_nil, cmp_nil (encS.okL _)]
      simp
    by_cases q : (l.filter fun two => two != a && sub two a).isEmpty = true
    · refine ⟨?_, by simp only [if_pos q, List.length_append, List.length_cons, List.length_nil]; simp only [List.length_cons] at hI; omega⟩
      rw [evSs_next (σ' := [.val (.list (l.map setD)), .own ((acc ++ [a]).map setD), .val (setD a)]), evSs_nil]
      · simp only [if_pos q]
      · rw [evS_ite hcond (t := true) (by simp only [truth, q])]
        simp only [if_true]
        rw [evSs_next (evS_append (ds := acc.map setD) rfl (ev_var (d := setD a) rfl) (by simp only [List.length_map]; simp only [List.length_cons] at hI; omega)), evSs_nil]
        simp
    · refine ⟨?_, by simp only [if_neg q]; simp only [List.length_cons] at hI; omega⟩
      rw [evSs_next (σ' := [.val (.list (l.map setD)), .own (acc.map setD), .val (setD a)]), evSs_nil]
      · simp only [if_neg q]
      · rw [evS_ite hcond (t := false) (by simp only [truth, Bool.eq_false_iff.mpr q])]
        simp only [Bool.false_eq_true, if_false]
        exact evSs_nil
noncomputable def ins (m : Fin 16) (k : Fin 4) : Fin 16 := Fin.ofNat 16 (m.val ||| 2 ^ k.val)
noncomputable def widen (g : List (Fin 16)) (r : Fin 16) : List (Fin 16) := g.flatMap fun one => (els r).map (ins one)
noncomputable def stepL (g : List (Fin 16)) (r : Fin 16) : List (Fin 16) := leastL (dedupL (widen g r))
noncomputable def guardsL (rows : List (Fin 16)) : List (Fin 16) := rows.foldl stepL [0]
noncomputable def kI (k : Fin 4) : Int := (k.val : Int)
theorem sort_ins : ∀ (m : Fin 16) (k : Fin 4), sortI ((dedupL (els m ++ [k])).map kI) = (els (ins m k)).map kI := by decide +kernel
theorem els_len : ∀ m : Fin 16, (els m).length ≤ 4 := by decide +kernel
theorem map_kD (l : List (Fin 4)) : l.map kD = (l.map kI).map PyData.int := by rw [List.map_map]; rfl
theorem length16 {l : List (Fin 16)} (h : l.Nodup) : l.length ≤ 16 := nodup_length l (List.finRange 16) h fun x _ => List.mem_finRange x
theorem stepL_len (g : List (Fin 16)) (r : Fin 16) : (stepL g r).length ≤ 16 :=
  length16 ((nodup_dedupL _).filter _)
theorem widen_len (g : List (Fin 16)) (r : Fin 16) : (widen g r).length ≤ 4 * g.length := by
  unfold widen
  induction g with
  | nil => simp
  | cons a g ih =>
    rw [List.flatMap_cons, List.length_append, List.length_map, List.length_cons]
    have := els_len r
    omega
theorem elt_eval {T : Tab} (K : TOK T) {σ : List SV} (m : Fin 16) (k : Fin 4) (h4 : σ[4]? = some (.val (setD m))) (h5 : σ[5]? = some (.val (kD k))) :
    ev T (.bi .sorted (.call 2 [(.bin .Add (.var 4) (.list [(.var 5)]))])) σ = .ok (setD (ins m k)) := by
  have h1 : ev T (.bin .Add (.var 4) (.list [(.var 5)])) σ = .ok (.list ((els m ++ [k]).map kD)) := by
    rw [ev_bin (ev_var h4) (ev_list (ds := [kD k]) (evs_cons (ev_var h5) evs_nil) (by simp))]
    have := els_len m
    simp only [opBin, opAdd, catL, setD]
    rw [if_pos (by simp; omega), List.map_append]; rfl
  have h2 : ev T (.call 2 [(.bin .Add (.var 4) (.list [(.var 5)]))]) σ = .ok (.list ((dedupL (els m ++ [k])).map kD)) :=
    ev_call (evs_cons h1 evs_nil) (K.dK _ (by have := els_len m; simp; omega))
  rw [ev_bi h2]
  simp only [opBi]
  rw [map_kD, intsOf_map]
  dsimp only
  have hl := length_dedup (els m ++ [k])
  have := els_len m
  simp only [List.length_append, List.length_cons, List.length_nil] at hl
  rw [if_pos (by simp only [List.length_map]; omega), sort_ins, ← map_kD]
  rfl
theorem guards_eval {T : Tab} (K : TOK T) (hL : ∀ l : List (Fin 16), l.length ≤ 50000 → T.F 9 [.list (l.map setD)] = some (.list ((leastL l).map setD))) (rows : List (Fin 16)) (hr : rows.length ≤ 50000) :
    evSs T b_law_guards (initσ [.list (rows.map setD)] d_law_guards.nm) = .ret (.list ((guardsL rows).map setD)) := by
  unfold b_law_guards
  show evSs T _ [.val (.list (rows.map setD)), .un, .un, .un] = _
  rw [evSs_next (σ' := [.val (.list (rows.map setD)), .val (.list (([0] : List (Fin 16)).map setD)), .un, .un])]
  rotate_left
  · rw [evS_assign (d := .list (([0] : List (Fin 16)).map setD))]
    · rfl
    · exact ev_list (evs_cons ev_nil evs_nil) (by decide)
  have hloop := loopGo_inv (i := 2) setD (fun (b : List (Fin 16) × SV) sv => [.val (.list (rows.map setD)), .val (.list (b.1.map setD)), sv, b.2]) (fun b r => (stepL b.1 r, .val (.list ((widen b.1 r).map setD)))) (fun _ b => b.1.length ≤ 16)
    (body := fun σ => evSs T [.assignL 3 (.comp2 (.var 1) (.var 2) (.bi .sorted (.call 2 [(.bin .Add (.var 4) (.list [(.var 5)]))]))),
        .assign 1 (.call 9 [(.call 2 [(.var 3)])])] σ) (orelse := fun σ => evSs T [] σ) (fun _ _ _ => rfl) (fun a r b hI => ?_) rows ([0], .un) .un (by decide)
  · rw [evSs_next (σ' := [.val (.list (rows.map setD)), .val (.list ((guardsL rows).map setD)), lastV setD rows .un, (rows.foldl (fun (b : List (Fin 16) × SV) r => (stepL b.1 r, SV.val (.list ((widen b.1 r).map setD)))) ([0], .un)).2])]
    · exact evSs_ret (ev_var rfl)
    · rw [evS_forX (ds := rows.map setD) (ev_var rfl) (by simp; omega)]
      rw [show ([.val (.list (rows.map setD)), .val (.list (([0] : List (Fin 16)).map setD)), .un, .un] : List SV) = (fun (b : List (Fin 16) × SV) sv => [.val (.list (rows.map setD)), .val (.list (b.1.map setD)), sv, b.2]) ([0], .un) .un from rfl, hloop]
      rw [evSs_nil]
      have h1 : ∀ (l : List (Fin 16)) (b : List (Fin 16) × SV), (l.foldl (fun (b : List (Fin 16) × SV) r => (stepL b.1 r, SV.val (.list ((widen b.1 r).map setD)))) b).1 = l.foldl stepL b.1 := by
        intro l
        induction l with
        | nil => intro b; rfl
        | cons x l ih => intro b; rw [List.foldl_cons, ih]; rfl
      rw [h1]; rfl
  · obtain ⟨g, sv⟩ := b
    have hg : g.length ≤ 16 := hI
    have hw := widen_len g a
    refine ⟨?_, stepL_len g a⟩
    have hc : ev T (.comp2 (.var 1) (.var 2) (.bi .sorted (.call 2 [(.bin .Add (.var 4) (.list [(.var 5)]))]))) [.val (.list (rows.map setD)), .val (.list (g.map setD)), .val (setD a), sv] = .ok (.list ((widen g a).map setD)) := by
      refine ev_comp2 (ds := g.map setD) (ev_var rfl) (by simp; omega) ?_
      have := compGo2_m setD kD (fun _ => els a) (fun m k => setD (ins m k)) (src := fun d => ev T (.var 2) ([.val (.list (rows.map setD)), .val (.list (g.map setD)), .val (setD a), sv] ++ [.val d]))
        (elt := fun d x => ev T (.bi .sorted (.call 2 [(.bin .Add (.var 4) (.list [(.var 5)]))])) ([.val (.list (rows.map setD)), .val (.list (g.map setD)), .val (setD a), sv] ++ [.val d, .val x])) (l := g) (fun m _ => ev_var rfl) (fun m _ k _ => elt_eval K m k rfl rfl) (by
          have : (g.flatMap fun m => (els a).map fun k => setD (ins m k)) = (widen g a).map setD := by
            unfold widen; rw [List.map_flatMap]; congr; funext m; rw [List.map_map]; rfl
          rw [this, List.length_map]; omega)
      rw [this]
      unfold widen
      rw [List.map_flatMap]
      congr 3
      funext m
      rw [List.map_map]; rfl
    rw [evSs_next (evS_assignL hc)]
    show evSs T _ [.val (.list (rows.map setD)), .val (.list (g.map setD)), .val (setD a), .val (.list ((widen g a).map setD))] = _
    have hd : ev T (.call 2 [(.var 3)]) [.val (.list (rows.map setD)), .val (.list (g.map setD)), .val (setD a), .val (.list ((widen g a).map setD))] = .ok (.list ((dedupL (widen g a)).map setD)) :=
      ev_call (evs_cons (ev_var rfl) evs_nil) (K.dS _ (by omega))
    rw [evSs_next (evS_assign (ev_call (evs_cons hd evs_nil) (hL _ (by have := length_dedup (widen g a); omega)))), evSs_nil]
    rfl
end L1
end Mine
end
section
open PySem PySem.W PySem.Calls PyProof.Rows
namespace Mine.L1
/-! Berge's step, on masks -/
noncomputable def up (W : List (Fin 16)) (m : Fin 16) : Bool := W.any (sub · m)
noncomputable def del (m : Fin 16) (k : Fin 4) : Fin 16 := Fin.ofNat 16 (m.val &&& (15 - 2 ^ k.val))
noncomputable def co (m : Fin 16) : Fin 16 := Fin.ofNat 16 (15 - m.val)
noncomputable def minOf (h : Fin 16 → Bool) (m : Fin 16) : Bool := h m && (els m).all fun k => !h (del m k)
noncomputable def dual (h : Fin 16 → Bool) (m : Fin 16) : Bool := !h (co m)
noncomputable def Mono (h : Fin 16 → Bool) : Prop := ∀ a b, sub a b = true → h a = true → h b = true
theorem sub_refl : ∀ a, sub a a = true := by decide +kernel
theorem sub_trans : ∀ a b c, sub a b = true → sub b c = true → sub a c = true := by decide +kernel
theorem sub_less : ∀ a b, sub a b = true → a ≠ b → ∃ k ∈ els b, sub a (del b k) = true := by decide +kernel
theorem del_sub : ∀ m, ∀ k ∈ els m, sub (del m k) m = true ∧ sub m (del m k) = false ∧ (del m k).val < m.val := by decide +kernel
theorem sub_co : ∀ a b, sub a b = true → sub (co b) (co a) = true := by decide +kernel
theorem co_co : ∀ a, co (co a) = a := by decide +kernel
theorem sub_ins : ∀ o k x, sub (ins o k) x = (sub o x && x.val.testBit k.val) := by decide +kernel
theorem meets_co : ∀ r x, (!sub r (co x)) = (els r).any fun k => x.val.testBit k.val := by decide +kernel
theorem min_top : ∀ m : Fin 16, m ∈ [(0 : Fin 16)] ↔ minOf (fun _ => true) m = true := by decide +kernel
theorem up_iff {W : List (Fin 16)} {m : Fin 16} : up W m = true ↔ ∃ t ∈ W, sub t m = true := by unfold up; rw [List.any_eq_true]
theorem minOf_iff {h : Fin 16 → Bool} {m : Fin 16} : minOf h m = true ↔ h m = true ∧ ∀ k ∈ els m, h (del m k) = false := by
  unfold minOf
  rw [Bool.and_eq_true, List.all_eq_true]
  simp
theorem up_mono (W : List (Fin 16)) : Mono (up W) := fun a b hs ha => by
  obtain ⟨t, h1, h2⟩ := up_iff.mp ha
  exact up_iff.mpr ⟨t, h1, sub_trans _ _ _ h2 hs⟩
theorem dual_mono {h : Fin 16 → Bool} (hm : Mono h) : Mono (dual h) := fun a b hs ha => by
  unfold dual at ha ⊢
  rw [Bool.not_eq_true'] at ha ⊢
  cases q : h (co b) with
  | false => rfl
  | true => rw [hm _ _ (sub_co a b hs) q] at ha; cases ha
theorem dual_dual (h : Fin 16 → Bool) : dual (dual h) = h := by
  funext m; unfold dual; rw [co_co, Bool.not_not]
theorem mem_leastL {W : List (Fin 16)} {m : Fin 16} : m ∈ leastL W ↔ minOf (up W) m = true := by
  unfold leastL
  rw [List.mem_filter, List.isEmpty_iff, List.filter_eq_nil_iff, minOf_iff]
  simp only [Bool.and_eq_true, bne_iff_ne, ne_eq, not_and, Bool.not_eq_true]
  constructor
  · rintro ⟨h1, h2⟩
    refine ⟨up_iff.mpr ⟨m, h1, sub_refl m⟩, fun k hk => ?_⟩
    cases q : up W (del m k) with
    | false => rfl
    | true =>
      obtain ⟨t, t1, t2⟩ := up_iff.mp q
      obtain ⟨d1, d2, _⟩ := del_sub m k hk
      have := h2 t t1 (fun e => by rw [e, d2] at t2; cases t2)
      rw [sub_trans _ _ _ t2 d1] at this; cases this
  · rintro ⟨h1, h2⟩
    have key : ∀ t ∈ W, sub t m = true → t = m := fun t ht hs => by
      refine Classical.not_not.mp fun hne => ?_
      obtain ⟨k, hk, hd⟩ := sub_less t m hs hne
      have := h2 k hk
      rw [up_iff.mpr ⟨t, ht, hd⟩] at this; cases this
    obtain ⟨t, t1, t2⟩ := up_iff.mp h1
    refine ⟨key t t1 t2 ▸ t1, fun x hx hne => ?_⟩
    cases q : sub x m with
    | false => rfl
    | true => exact absurd (key x hx q) hne
theorem up_min {g : Fin 16 → Bool} (hg : Mono g) {G : List (Fin 16)} (hG : ∀ m, m ∈ G ↔ minOf g m = true) : up G = g := by
  have key : ∀ n, ∀ m : Fin 16, m.val ≤ n → g m = true → up G m = true := by
    intro n
    induction n with
    | zero =>
      intro m hm h
      have hm0 : m = 0 := Fin.ext (by have : m.val = 0 := by omega
                                      exact this)
      subst hm0
      refine up_iff.mpr ⟨0, (hG 0).mpr (minOf_iff.mpr ⟨h, fun k hk => ?_⟩), sub_refl 0⟩
      have : (els 0) = [] := by decide +kernel
      rw [this] at hk; cases hk
    | succ n ih =>
      intro m hm h
      cases q : minOf g m with
      | true => exact up_iff.mpr ⟨m, (hG m).mpr q, sub_refl m⟩
      | false =>
        have : ∃ k ∈ els m, g (del m k) = true := by
          refine Classical.not_not.mp fun hno => ?_
          have : minOf g m = true := minOf_iff.mpr ⟨h, fun k hk => by
            cases z : g (del m k) with
            | false => rfl
            | true => exact absurd ⟨k, hk, z⟩ hno⟩
          rw [q] at this; cases this
        obtain ⟨k, hk, hd⟩ := this
        obtain ⟨d1, _, d3⟩ := del_sub m k hk
        exact up_mono G _ _ d1 (ih (del m k) (by omega) hd)
  funext m
  rw [Bool.eq_iff_iff]
  constructor
  · intro h
    obtain ⟨t, t1, t2⟩ := up_iff.mp h
    exact hg _ _ t2 (minOf_iff.mp ((hG t).mp t1)).1
  · exact key m.val m (Nat.le_refl _)
theorem up_congr {U W : List (Fin 16)} (h : ∀ x, x ∈ U ↔ x ∈ W) : up U = up W := by
  funext m
  rw [Bool.eq_iff_iff, up_iff, up_iff]
  exact ⟨fun ⟨t, a, b⟩ => ⟨t, (h t).mp a, b⟩, fun ⟨t, a, b⟩ => ⟨t, (h t).mpr a, b⟩⟩
theorem up_widen (g : List (Fin 16)) (r x : Fin 16) : up (widen g r) x = (up g x && !sub r (co x)) := by
  rw [meets_co, Bool.eq_iff_iff, up_iff, Bool.and_eq_true, up_iff, List.any_eq_true]
  unfold widen
  constructor
  · rintro ⟨t, h1, h2⟩
    obtain ⟨o, ho, ht⟩ := List.mem_flatMap.mp h1
    obtain ⟨k, hk, rfl⟩ := List.mem_map.mp ht
    rw [sub_ins, Bool.and_eq_true] at h2
    exact ⟨⟨o, ho, h2.1⟩, k, hk, h2.2⟩
  · rintro ⟨⟨o, ho, h1⟩, k, hk, h2⟩
    exact ⟨ins o k, List.mem_flatMap.mpr ⟨o, ho, List.mem_map.mpr ⟨k, hk, rfl⟩⟩, by rw [sub_ins, h1, h2]; rfl⟩
theorem step_ok {rs g : List (Fin 16)} (r : Fin 16) (h : ∀ m, m ∈ g ↔ minOf (dual (up rs)) m = true) : ∀ m, m ∈ stepL g r ↔ minOf (dual (up (rs ++ [r]))) m = true := by
  intro m
  unfold stepL
  rw [mem_leastL, up_congr (W := widen g r) fun x => mem_dedupL]
  have e : up (widen g r) = dual (up (rs ++ [r])) := by
    funext x
    rw [up_widen, up_min (dual_mono (up_mono rs)) h]
    unfold dual up
    rw [List.any_append, List.any_cons, List.any_nil, Bool.or_false, Bool.not_or]
  rw [e]
theorem guards_ok (rows : List (Fin 16)) : ∀ m, m ∈ guardsL rows ↔ minOf (dual (up rows)) m = true := by
  have key : ∀ (l rs g : List (Fin 16)), (∀ m, m ∈ g ↔ minOf (dual (up rs)) m = true) → ∀ m, m ∈ l.foldl stepL g ↔ minOf (dual (up (rs ++ l))) m = true := by
    intro l
    induction l with
    | nil => intro rs g h; simpa using h
    | cons r l ih =>
      intro rs g h
      have := ih (rs ++ [r]) (stepL g r) (step_ok r h)
      simpa using this
  have := key rows [] [0] min_top
  simpa [guardsL] using this
theorem up_guards (rows : List (Fin 16)) : up (guardsL rows) = dual (up rows) := up_min (dual_mono (up_mono rows)) (guards_ok rows)
theorem back_ok (rows : List (Fin 16)) : ∀ m, m ∈ guardsL (guardsL rows) ↔ m ∈ leastL rows := by
  intro m
  rw [guards_ok, up_guards, dual_dual, mem_leastL]
theorem up_least (rows : List (Fin 16)) : up (leastL rows) = up rows := up_min (up_mono rows) fun _ => mem_leastL
noncomputable def fairB (h : Fin 16 → Bool) : Bool := ((List.finRange 16).filter fun n => h n == h (co n)).isEmpty
theorem fair_iff (h : Fin 16 → Bool) : fairB h = true ↔ h = dual h := by
  unfold fairB
  rw [List.isEmpty_iff, List.filter_eq_nil_iff]
  constructor
  · intro q
    funext m
    have := q m (List.mem_finRange m)
    unfold dual
    cases a : h m <;> cases b : h (co m) <;> simp_all
  · intro q m _
    have : h m = dual h m := congrFun q m
    unfold dual at this
    clear q
    cases a : h m <;> cases b : h (co m) <;> simp_all
theorem fair_ok (rows : List (Fin 16)) : sameL (guardsL rows) (leastL rows) = fairB (up rows) := by
  rw [Bool.eq_iff_iff, sameL_iff, fair_iff]
  constructor
  · intro h
    have := up_congr h
    rw [up_guards, up_least] at this
    exact this.symm
  · intro h m
    rw [guards_ok, ← h, mem_leastL]
/-! due -/
noncomputable def dueL (h : Fin 16 → Bool) : List (Fin 16) := (List.finRange 16).filter fun m => !h (co m) && ((els m).filter fun k => !h (co (del m k))).isEmpty
theorem due_ok (rows : List (Fin 16)) : ∀ m, m ∈ guardsL rows ↔ m ∈ dueL (up rows) := by
  intro m
  rw [guards_ok, minOf_iff]
  unfold dueL
  rw [List.mem_filter, Bool.and_eq_true, List.isEmpty_iff, List.filter_eq_nil_iff]
  unfold dual
  simp
/-! the greatest of the least worths is the least of the greatest -/
theorem mem_els : ∀ (m : Fin 16) (k : Fin 4), k ∈ els m ↔ m.val.testBit k.val = true := by decide +kernel
noncomputable def maskOf (p : Fin 4 → Bool) : Fin 16 := Fin.ofNat 16 ((if p 0 then 1 else 0) + (if p 1 then 2 else 0) + (if p 2 then 4 else 0) + (if p 3 then 8 else 0))
theorem mask_bit (p : Fin 4 → Bool) (k : Fin 4) : (maskOf p).val.testBit k.val = p k := by
  have key : ∀ a b c d : Bool, ∀ k : Fin 4, (Fin.ofNat 16 ((if a then 1 else 0) + (if b then 2 else 0) + (if c then 4 else 0) + (if d then 8 else 0))).val.testBit k.val = (match k with | 0 => a | 1 => b | 2 => c | 3 => d) := by decide +kernel
  rw [show maskOf p = Fin.ofNat 16 ((if p 0 then 1 else 0) + (if p 1 then 2 else 0) + (if p 2 then 4 else 0) + (if p 3 then 8 else 0)) from rfl, key]
  match k with
  | 0 => rfl
  | 1 => rfl
  | 2 => rfl
  | 3 => rfl
theorem meet_iff : ∀ r x : Fin 16, sub r (co x) = false ↔ ∃ k, k ∈ els r ∧ k ∈ els x := by decide +kernel
theorem sub_els : ∀ a b : Fin 16, sub a b = true → ∀ k ∈ els a, k ∈ els b := by decide +kernel
theorem els_zero : ∀ m : Fin 16, els m = [] ↔ m = 0 := by decide +kernel
noncomputable def lowest (w : Fin 4 → Int) (r : Fin 16) : Option Int := bestI min ((els r).map w)
noncomputable def highest (w : Fin 4 → Int) (r : Fin 16) : Option Int := bestI max ((els r).map w)
theorem bestI_some {f : Int → Int → Int} {l : List Int} (h : l ≠ []) : ∃ m, bestI f l = some m := by
  cases l with
  | nil => exact absurd rfl h
  | cons a l => exact ⟨_, rfl⟩
theorem guards_no_zero (rows : List (Fin 16)) (hr : rows ≠ []) : (0 : Fin 16) ∉ guardsL rows := by
  intro h
  have := (minOf_iff.mp ((guards_ok rows 0).mp h)).1
  unfold dual at this
  cases rows with
  | nil => exact hr rfl
  | cons r rs =>
    have h15 : ∀ r : Fin 16, sub r (co 0) = true := by decide +kernel
    rw [up_iff.mpr ⟨r, .head _, h15 r⟩] at this
    cases this
theorem guards_some (rows : List (Fin 16)) (h0 : (0 : Fin 16) ∉ rows) : guardsL rows ≠ [] := by
  intro h
  have h1 : up (guardsL rows) 15 = true := by
    rw [up_guards]
    unfold dual
    rw [Bool.not_eq_true']
    cases q : up rows (co 15) with
    | false => rfl
    | true =>
      obtain ⟨t, t1, t2⟩ := up_iff.mp q
      have h15 : ∀ t : Fin 16, sub t (co 15) = true → t = 0 := by decide +kernel
      exact absurd (h15 t t2 ▸ t1) h0
  rw [h] at h1
  cases h1
/-- lows: the rows' least worths; highs: the guards' greatest -/
theorem minimax (w : Fin 4 → Int) (rows : List (Fin 16)) {lo hi : Fin 16 → Int} (hlo : ∀ r ∈ rows, lowest w r = some (lo r)) (hhi : ∀ g ∈ guardsL rows, highest w g = some (hi g))
    {a b : Int} (ha : bestI max (rows.map lo) = some a) (hb : bestI min ((guardsL rows).map hi) = some b) : a = b := by
  obtain ⟨a1, a2⟩ := bestI_max ha
  obtain ⟨b1, b2⟩ := bestI_min hb
  apply Int.le_antisymm
  · obtain ⟨r, hr', rfl⟩ := List.mem_map.mp a1
    obtain ⟨g, hg, rfl⟩ := List.mem_map.mp b1
    have hd := (minOf_iff.mp ((guards_ok rows g).mp hg)).1
    unfold dual at hd
    have hns : sub r (co g) = false := by
      cases q : sub r (co g) with
      | false => rfl
      | true => rw [up_iff.mpr ⟨r, hr', q⟩] at hd; cases hd
    obtain ⟨k, k1, k2⟩ := (meet_iff r g).mp hns
    have q1 := (bestI_min (hlo r hr')).2 (w k) (List.mem_map_of_mem k1)
    have q2 := (bestI_max (hhi g hg)).2 (w k) (List.mem_map_of_mem k2)
    omega
  · have hS : up (guardsL rows) (maskOf fun k => decide (w k ≤ a)) = true := by
      rw [up_guards]
      unfold dual
      rw [Bool.not_eq_true']
      cases q : up rows (co (maskOf fun k => decide (w k ≤ a))) with
      | false => rfl
      | true =>
        exfalso
        obtain ⟨r, r1, r2⟩ := up_iff.mp q
        have m1 := (bestI_min (hlo r r1)).1
        obtain ⟨k, k1, k2⟩ := List.mem_map.mp m1
        have hle := a2 (lo r) (List.mem_map_of_mem r1)
        have : sub r (co (maskOf fun k => decide (w k ≤ a))) = false := (meet_iff _ _).mpr ⟨k, k1, (mem_els _ _).mpr (by rw [mask_bit]; exact decide_eq_true (by omega))⟩
        rw [r2] at this; cases this
    obtain ⟨g, g1, g2⟩ := up_iff.mp hS
    have hle := b2 (hi g) (List.mem_map_of_mem g1)
    obtain ⟨k, k1, k2⟩ := List.mem_map.mp (bestI_max (hhi g g1)).1
    have := (mem_els _ _).mp (sub_els _ _ g2 k k1)
    rw [mask_bit] at this
    have := of_decide_eq_true this
    omega
end Mine.L1
end
section
open PySem PySem.W PySem.Calls PyProof.Rows
namespace Mine.L1
/-! filemode -/
noncomputable def prp (p : Int × Nat) : PyData := pr p.1 p.2
noncomputable def picks (q : Int → Bool) (dflt : Nat) : List (Int × Nat) → Nat
  | [] => dflt
  | p :: r => if q p.1 then p.2 else picks q dflt r
noncomputable def bind2 (i j : Nat) : List SV → PyData → Option (List SV) := fun σ d => (pairOf d).map fun p => putV (putV σ i p.1) j p.2
noncomputable def inner : List S := [
            .ite (.cmp .Eq (.var 2) (.int 0))
              [
                .ite (.cmp .Eq (.call 0 [(.var 0)]) (.var 4))
                  [
                    .append 1 (.var 5),
                    .brk]
                  []]
              [
                .ite (.cmp .Eq (.bin .BitAnd (.var 0) (.var 4)) (.var 4))
                  [
                    .append 1 (.var 5),
                    .brk]
                  []]]
noncomputable def innerElse : List S := [
            .ite (.cmp .Eq (.var 2) (.int 0))
              [
                .append 1 (.str "?")]
              [
                .append 1 (.str "-")]]
theorem cmp_int (a b : Int) : opCmp .Eq (.int a) (.int b) = .ok (.bool (a == b)) := by
  simp only [opCmp]
  rw [if_pos (show (okD (.int a) && okD (.int b)) = true from rfl)]
  simp only [PyData.eqv]
theorem dash : (Str.ofString "-") = ⟨#[45]⟩ := by decide +kernel
theorem ques : (Str.ofString "?") = ⟨#[63]⟩ := by decide +kernel
/-- one entry of the table -/
theorem entry_eval {T : Tab} (m i : Int) (hS : T.F 0 [.int m] = some (.int (Builtin.bitAnd m 61440))) (tv : SV) : ∀ (ps : List (Int × Nat)) (acc : List PyData) (s4 s5 : SV), acc.length < 1000 →
    ∃ s4' s5', loopGo (bind2 4 5) (fun σ => evSs T inner σ) (fun σ => evSs T innerElse σ) (ps.map prp) [.val (.int m), .own acc, .val (.int i), tv, s4, s5] =
      .next [.val (.int m), .own (acc ++ [st (picks (fun b => if i == 0 then Builtin.bitAnd m 61440 == b else Builtin.bitAnd m b == b) (if i == 0 then 63 else 45) ps)]), .val (.int i), tv, s4', s5']
  | [], acc, s4, s5, hl => by
    refine ⟨s4, s5, ?_⟩
    rw [List.map_nil, loopGo]
    unfold innerElse
    have hc : ev T (.cmp .Eq (.var 2) (.int 0)) [.val (.int m), .own acc, .val (.int i), tv, s4, s5] = .ok (.bool (i == 0)) := by
      rw [ev_cmp (ev_var (d := .int i) rfl) ev_int]; exact cmp_int i 0
    rw [evSs_next (σ' := [.val (.int m), .own (acc ++ [st (if i == 0 then 63 else 45)]), .val (.int i), tv, s4, s5]), evSs_nil]
    · rfl
    · rw [evS_ite hc (t := i == 0) rfl]
      cases q : i == 0 with
      | true =>
        simp only [if_true]
        rw [evSs_next (evS_append (ds := acc) rfl ev_str (by omega)), evSs_nil]
        show Out.next [.val (.int m), .own (acc ++ [.str (Str.ofString "?")]), .val (.int i), tv, s4, s5] = _
        rw [ques]; rfl
      | false =>
        simp only [Bool.false_eq_true, if_false]
        rw [evSs_next (evS_append (ds := acc) rfl ev_str (by omega)), evSs_nil]
        show Out.next [.val (.int m), .own (acc ++ [.str (Str.ofString "-")]), .val (.int i), tv, s4, s5] = _
        rw [dash]; rfl
  | p :: ps, acc, s4, s5, hl => by
    obtain ⟨b, c⟩ := p
    have hb : bind2 4 5 [.val (.int m), .own acc, .val (.int i), tv, s4, s5] (prp (b, c)) = some [.val (.int m), .own acc, .val (.int i), tv, .val (.int b), .val (st c)] := rfl
    have hc : ev T (.cmp .Eq (.var 2) (.int 0)) [.val (.int m), .own acc, .val (.int i), tv, .val (.int b), .val (st c)] = .ok (.bool (i == 0)) := by
      rw [ev_cmp (ev_var (d := .int i) rfl) ev_int]; exact cmp_int i 0
    have h1 : ev T (.cmp .Eq (.call 0 [(.var 0)]) (.var 4)) [.val (.int m), .own acc, .val (.int i), tv, .val (.int b), .val (st c)] = .ok (.bool (Builtin.bitAnd m 61440 == b)) := by
      rw [ev_cmp (ev_call (evs_cons (d := .int m) (ev_var rfl) evs_nil) hS) (ev_var (d := .int b) rfl)]; exact cmp_int _ _
    have h2 : ev T (.cmp .Eq (.bin .BitAnd (.var 0) (.var 4)) (.var 4)) [.val (.int m), .own acc, .val (.int i), tv, .val (.int b), .val (st c)] = .ok (.bool (Builtin.bitAnd m b == b)) := by
      rw [ev_cmp (x := .int (Builtin.bitAnd m b)) (by rw [ev_bin (ev_var (d := .int m) rfl) (ev_var (d := .int b) rfl)]; rfl) (ev_var (d := .int b) rfl)]; exact cmp_int _ _
    have app : evSs T [.append 1 (.var 5), .brk] [.val (.int m), .own acc, .val (.int i), tv, .val (.int b), .val (st c)] = .brk [.val (.int m), .own (acc ++ [st c]), .val (.int i), tv, .val (.int b), .val (st c)] := by
      rw [evSs_next (evS_append (ds := acc) rfl (ev_var (d := st c) rfl) (by omega)), evSs, evS]; rfl
    have body : evSs T inner [.val (.int m), .own acc, .val (.int i), tv, .val (.int b), .val (st c)] = if (if i == 0 then Builtin.bitAnd m 61440 == b else Builtin.bitAnd m b == b) then .brk [.val (.int m), .own (acc ++ [st c]), .val (.int i), tv, .val (.int b), .val (st c)]
        else .next [.val (.int m), .own acc, .val (.int i), tv, .val (.int b), .val (st c)] := by
      unfold inner
      rw [evSs, evS_ite hc (t := i == 0) rfl]
      cases q : i == 0 with
      | true =>
        simp only [if_true]
        rw [evSs, evS_ite h1 (t := Builtin.bitAnd m 61440 == b) rfl]
        cases q2 : Builtin.bitAnd m 61440 == b with
        | true => simp only [if_true]; rw [app]
        | false => simp only [Bool.false_eq_true, if_false]; simp only [evSs_nil]
      | false =>
        simp only [Bool.false_eq_true, if_false]
        rw [evSs, evS_ite h2 (t := Builtin.bitAnd m b == b) rfl]
        cases q2 : Builtin.bitAnd m b == b with
        | true => simp only [if_true]; rw [app]
        | false => simp only [Bool.false_eq_true, if_false]; simp only [evSs_nil]
    by_cases q : (if i == 0 then Builtin.bitAnd m 61440 == b else Builtin.bitAnd m b == b) = true
    · refine ⟨.val (.int b), .val (st c), ?_⟩
      rw [List.map_cons, loopGo, hb]
      dsimp only
      rw [body, if_pos q]
      dsimp only
      rw [picks, if_pos q]
    · obtain ⟨s4', s5', ih⟩ := entry_eval m i hS tv ps acc (.val (.int b)) (.val (st c)) hl
      refine ⟨s4', s5', ?_⟩
      rw [List.map_cons, loopGo, hb]
      dsimp only
      rw [body, if_neg q]
      dsimp only
      rw [ih, picks, if_neg q]
noncomputable def tab0 : List (Int × Nat) := [(40960, 108), (49152, 115), (32768, 45), (24576, 98), (16384, 100), (8192, 99), (4096, 112)]
noncomputable def tabs : List (List (Int × Nat)) := [[(256, 114)], [(128, 119)], [(2112, 115), (2048, 83), (64, 120)], [(32, 114)], [(16, 119)], [(1032, 115), (1024, 83), (8, 120)], [(4, 114)], [(2, 119)], [(513, 116), (512, 84), (1, 120)]]
noncomputable def tabD (ps : List (Int × Nat)) : PyData := .tuple (ps.map prp)
noncomputable def enF : Nat → List (List (Int × Nat)) → List PyData
  | _, [] => []
  | i, t :: r => .tuple [.int (i : Int), tabD t] :: enF (i + 1) r
noncomputable def char0 (m : Int) : Nat := picks (fun b => Builtin.bitAnd m 61440 == b) 63 tab0
noncomputable def charN (m : Int) (ps : List (Int × Nat)) : Nat := picks (fun b => Builtin.bitAnd m b == b) 45 ps
noncomputable def outerB : List S := [.forT 4 5 (.var 3) inner innerElse]
theorem forT_eval {T : Tab} {σ : List SV} {ps : List (Int × Nat)} (h : σ[3]? = some (.val (tabD ps))) (hl : ps.length ≤ 1000) :
    evS T (.forT 4 5 (.var 3) inner innerElse) σ = loopGo (bind2 4 5) (fun σ => evSs T inner σ) (fun σ => evSs T innerElse σ) (ps.map prp) σ := by
  rw [evS, ev_var h]
  simp only [tabD]
  rw [if_pos ⟨by simp; omega, by rw [List.all_map, List.all_eq_true]; intro x _; rfl⟩]
  rfl
theorem outer_eval {T : Tab} (m : Int) (hS : T.F 0 [.int m] = some (.int (Builtin.bitAnd m 61440))) : ∀ (ts : List (List (Int × Nat))) (i : Nat) (acc : List PyData) (s2 s3 s4 s5 : SV), 0 < i → acc.length + ts.length < 1000 → (∀ t ∈ ts, t.length ≤ 1000) →
    ∃ s2' s3' s4' s5', loopGo (bind2 2 3) (fun σ => evSs T outerB σ) (fun σ => evSs T [] σ) (enF i ts) [.val (.int m), .own acc, s2, s3, s4, s5] = .next [.val (.int m), .own (acc ++ ts.map fun t => st (charN m t)), s2', s3', s4', s5']
  | [], i, acc, s2, s3, s4, s5, _, _, _ => ⟨s2, s3, s4, s5, by rw [enF, loopGo, evSs_nil]; simp⟩
  | t :: ts, i, acc, s2, s3, s4, s5, hi, hl, ht => by
    simp only [List.length_cons] at hl
    obtain ⟨s4', s5', he⟩ := entry_eval (T := T) m (i : Int) hS (.val (tabD t)) t acc s4 s5 (by omega)
    have hi0 : ((i : Int) == 0) = false := by simp; omega
    simp only [hi0, Bool.false_eq_true, if_false] at he
    obtain ⟨s2', s3', s4'', s5'', ih⟩ := outer_eval m hS ts (i + 1) (acc ++ [st (charN m t)]) (.val (.int i)) (.val (tabD t)) s4' s5' (by omega) (by simp only [List.length_append, List.length_cons, List.length_nil]; omega) (fun x hx => ht x (.tail _ hx))
    refine ⟨s2', s3', s4'', s5'', ?_⟩
    have hb : bind2 2 3 [.val (.int m), .own acc, s2, s3, s4, s5] (.tuple [.int (i : Int), tabD t]) = some [.val (.int m), .own acc, .val (.int i), .val (tabD t), s4, s5] := rfl
    rw [enF, loopGo, hb]
    dsimp only
    have hbody : evSs T outerB [.val (.int m), .own acc, .val (.int i), .val (tabD t), s4, s5] = .next [.val (.int m), .own (acc ++ [st (charN m t)]), .val (.int i), .val (tabD t), s4', s5'] := by
      unfold outerB
      rw [evSs_next (by rw [forT_eval (ps := t) rfl (ht t (.head _)), he]), evSs_nil]
      rfl
    rw [hbody]
    dsimp only
    rw [ih]
    simp
noncomputable def fmText (m : Int) : Str := ⟨(char0 m :: tabs.map (charN m)).toArray⟩
theorem strs_st : ∀ l : List Nat, strsOf (l.map st) = some (l.map fun c => ⟨#[c]⟩)
  | [] => rfl
  | c :: l => by rw [List.map_cons, st, strsOf, strs_st l]; rfl
theorem cat_st : ∀ l : List Nat, catS (l.map fun c => (⟨#[c]⟩ : Str)) = ⟨l.toArray⟩
  | [] => rfl
  | c :: l => by rw [List.map_cons, catS, cat_st l]; simp
theorem filemode_eval {T : Tab} (hg : T.gvals[0]? = some table) (m : Int) (hS : T.F 0 [.int m] = some (.int (Builtin.bitAnd m 61440))) :
    evSs T b_filemode (initσ [.int m] d_filemode.nm) = .ret (.str (fmText m)) := by
  show evSs T [.own 1 (.list []), .forE 2 3 (.glob 0) outerB [], .freeze 1, .ret (.join (.var 1))] [.val (.int m), .un, .un, .un, .un, .un] = _
  rw [evSs_next (evS_own (i := 1) (ds := []) ev_nil)]
  show evSs T _ [.val (.int m), .own [], .un, .un, .un, .un] = _
  obtain ⟨s4', s5', he⟩ := entry_eval (T := T) m 0 hS (.val (tabD tab0)) tab0 [] .un .un (by decide)
  simp only [beq_self_eq_true, if_true] at he
  obtain ⟨a2, a3, a4, a5, ho⟩ := outer_eval (T := T) m hS tabs 1 [st (char0 m)] (.val (.int 0)) (.val (tabD tab0)) s4' s5' (by omega) (by simp [tabs]) (by decide)
  have hfor : evS T (.forE 2 3 (.glob 0) outerB []) [.val (.int m), .own [], .un, .un, .un, .un] = .next [.val (.int m), .own ((char0 m :: tabs.map (charN m)).map st), a2, a3, a4, a5] := by
    rw [evS, ev, hg]
    show (if (List.length _ ≤ 1000) then loopGo (bind2 2 3) (fun σ => evSs T outerB σ) (fun σ => evSs T [] σ) (.tuple [.int 0, tabD tab0] :: enF 1 tabs) [.val (.int m), .own [], .un, .un, .un, .un] else _) = _
    rw [if_pos (by decide), loopGo]
    have hb : bind2 2 3 [.val (.int m), .own [], .un, .un, .un, .un] (.tuple [.int 0, tabD tab0]) = some [.val (.int m), .own [], .val (.int 0), .val (tabD tab0), .un, .un] := rfl
    rw [hb]
    dsimp only
    have hbody : evSs T outerB [.val (.int m), .own [], .val (.int 0), .val (tabD tab0), .un, .un] = .next [.val (.int m), .own [st (char0 m)], .val (.int 0), .val (tabD tab0), s4', s5'] := by
      unfold outerB
      rw [evSs_next (by rw [forT_eval (ps := tab0) rfl (by decide), he]), evSs_nil]
      rfl
    rw [hbody]
    dsimp only
    rw [ho]
    simp
  rw [evSs_next hfor, evSs_next (evS_freeze (i := 1) (ds := (char0 m :: tabs.map (charN m)).map st) rfl)]
  refine evSs_ret ?_
  rw [ev, ev_var (d := .list ((char0 m :: tabs.map (charN m)).map st)) rfl, Res.bind_ok]
  simp only [opJoin]
  rw [strs_st]
  dsimp only
  rw [if_pos ⟨by simp [tabs], by rw [List.all_map, List.all_eq_true]; intro x _; rfl⟩, cat_st]
  rfl
end Mine.L1
end
section
open PySem PySem.W PySem.Calls PyProof.Rows
namespace Mine.L1
/-! bits -/
theorem and_pow (n k : Nat) : (n &&& 2 ^ k == 2 ^ k) = n.testBit k := by
  rw [Bool.eq_iff_iff, beq_iff_eq]
  constructor
  · intro h
    have := congrArg (·.testBit k) h
    simpa using this
  · intro h
    apply Nat.eq_of_testBit_eq
    intro i
    rw [Nat.testBit_and, Nat.testBit_two_pow]
    by_cases q : k = i
    · subst q; simp [h]
    · simp [q]
theorem and_pow2 (n a b : Nat) : (n &&& (2 ^ a ||| 2 ^ b) == (2 ^ a ||| 2 ^ b)) = (n.testBit a && n.testBit b) := by
  rw [Bool.eq_iff_iff, beq_iff_eq, Bool.and_eq_true]
  constructor
  · intro h
    have h1 := congrArg (·.testBit a) h
    have h2 := congrArg (·.testBit b) h
    simp at h1 h2
    exact ⟨h1, h2⟩
  · rintro ⟨h1, h2⟩
    apply Nat.eq_of_testBit_eq
    intro i
    rw [Nat.testBit_and, Nat.testBit_or, Nat.testBit_two_pow, Nat.testBit_two_pow]
    by_cases q : a = i
    · subst q; simp [h1]
    · by_cases q2 : b = i
      · subst q2; simp [h2]
      · simp [q, q2]
theorem band_nat (n c : Nat) : (Builtin.bitAnd (n : Int) (c : Int) == (c : Int)) = (n &&& c == c) := by
  rw [bitAnd_pp (Int.natCast_nonneg _) (Int.natCast_nonneg _)]
  simp only [Int.toNat_natCast]
  rw [Bool.eq_iff_iff, beq_iff_eq, beq_iff_eq]
  exact Int.ofNat_inj
theorem char1 (n k c : Nat) : charN (n : Int) [(((2 ^ k : Nat) : Int), c)] = if n.testBit k then c else 45 := by
  simp only [charN, picks, band_nat, and_pow]
theorem char3 (n a b c1 c2 c3 : Nat) : charN (n : Int) [(((2 ^ a ||| 2 ^ b : Nat) : Int), c1), (((2 ^ b : Nat) : Int), c2), (((2 ^ a : Nat) : Int), c3)] = if n.testBit a && n.testBit b then c1 else if n.testBit b then c2 else if n.testBit a then c3 else 45 := by
  simp only [charN, picks, band_nat, and_pow, and_pow2]
/-- the nine signs behind the first -/
theorem fm_at (n : Nat) : tabs.map (charN (n : Int)) = [
    if n.testBit 8 then 114 else 45, if n.testBit 7 then 119 else 45, if n.testBit 6 && n.testBit 11 then 115 else if n.testBit 11 then 83 else if n.testBit 6 then 120 else 45,
    if n.testBit 5 then 114 else 45, if n.testBit 4 then 119 else 45, if n.testBit 3 && n.testBit 10 then 115 else if n.testBit 10 then 83 else if n.testBit 3 then 120 else 45,
    if n.testBit 2 then 114 else 45, if n.testBit 1 then 119 else 45, if n.testBit 0 && n.testBit 9 then 116 else if n.testBit 9 then 84 else if n.testBit 0 then 120 else 45] := by
  unfold tabs
  simp only [List.map_cons, List.map_nil]
  rw [← char1 n 8 114, ← char1 n 7 119, ← char3 n 6 11 115 83 120, ← char1 n 5 114, ← char1 n 4 119, ← char3 n 3 10 115 83 120, ← char1 n 2 114, ← char1 n 1 119, ← char3 n 0 9 116 84 120]
  rfl
noncomputable def inU (c : Nat) : Bool := strIn ⟨#[c]⟩ (Str.ofString "sStT")
noncomputable def inX (c : Nat) : Bool := !strIn ⟨#[c]⟩ (Str.ofString "-ST")
theorem inU_tab : inU 115 = true ∧ inU 83 = true ∧ inU 116 = true ∧ inU 84 = true ∧ inU 120 = false ∧ inU 45 = false := by decide +kernel
theorem inX_tab : inX 114 = true ∧ inX 119 = true ∧ inX 115 = true ∧ inX 116 = true ∧ inX 120 = true ∧ inX 45 = false ∧ inX 83 = false ∧ inX 84 = false := by decide +kernel
noncomputable def charAt (n : Nat) (j : Nat) : Nat := ((char0 (n : Int)) :: tabs.map (charN (n : Int))).getD j 0
theorem fm_get (n j : Nat) (h : j < 10) : (fmText (n : Int)).cps[j]? = some (charAt n j) := by
  unfold fmText charAt
  have hl : ((char0 (n : Int)) :: tabs.map (charN (n : Int))).length = 10 := rfl
  rw [List.getElem?_toArray, List.getD_eq_getElem?_getD, List.getElem?_eq_getElem (by rw [hl]; exact h)]
  rfl
theorem shown_hi {T : Tab} (n : Nat) (r : Nat) (h1 : 8 < r) (h2 : r < 12) : evSs T b_law_shown (initσ [.str (fmText (n : Int)), .int (r : Int)] d_law_shown.nm) = .ret (.bool (inU (charAt n (36 - 3 * r)))) := by
  unfold b_law_shown
  show evSs T _ [.val (.str (fmText (n : Int))), .val (.int (r : Int))] = _
  have hc : ev T (.cmp .Gt (.var 1) (.int 8)) [.val (.str (fmText (n : Int))), .val (.int (r : Int))] = .ok (.bool true) := by
    rw [ev_cmp (ev_var (d := .int r) rfl) ev_int]
    simp only [opCmp, intB, int2]
    rw [decide_eq_true (by omega)]
  rw [evSs, evS_ite hc (t := true) rfl]
  simp only [if_true]
  have hm : ev T (.bin .Mult (.int 3) (.var 1)) [.val (.str (fmText (n : Int))), .val (.int (r : Int))] = .ok (.int (3 * r)) := by
    rw [ev_bin ev_int (ev_var (d := .int r) rfl)]
    simp only [opBin, int2]
    rw [if_pos (by omega)]
  have hi : ev T (.idx (.var 0) (.bin .Sub (.int 36) (.bin .Mult (.int 3) (.var 1)))) [.val (.str (fmText (n : Int))), .val (.int (r : Int))] = .ok (.str ⟨#[charAt n (36 - 3 * r)]⟩) := by
    rw [ev_idx (ev_var (d := .str (fmText (n : Int))) rfl) (by rw [ev_bin ev_int hm]; rfl)]
    simp only [opIdx]
    rw [if_pos ⟨by omega, by omega⟩, show (36 - 3 * (r : Int)).toNat = 36 - 3 * r by omega, fm_get n _ (by omega)]
  rw [evSs_ret (d := .bool (inU (charAt n (36 - 3 * r)))) (by rw [ev_cmp hi ev_str]; exact congrArg (fun b => Res.ok (.bool b)) (Bool.bne_false _))]
theorem shown_lo {T : Tab} (n : Nat) (r : Nat) (h1 : r ≤ 8) : evSs T b_law_shown (initσ [.str (fmText (n : Int)), .int (r : Int)] d_law_shown.nm) = .ret (.bool (inX (charAt n (9 - r)))) := by
  unfold b_law_shown
  show evSs T _ [.val (.str (fmText (n : Int))), .val (.int (r : Int))] = _
  have hc : ev T (.cmp .Gt (.var 1) (.int 8)) [.val (.str (fmText (n : Int))), .val (.int (r : Int))] = .ok (.bool false) := by
    rw [ev_cmp (ev_var (d := .int r) rfl) ev_int]
    simp only [opCmp, intB, int2]
    rw [decide_eq_false (by omega)]
  rw [evSs_next (by rw [evS_ite hc (t := false) rfl]; simp only [Bool.false_eq_true, if_false]; exact evSs_nil)]
  have hi : ev T (.idx (.var 0) (.bin .Sub (.int 9) (.var 1))) [.val (.str (fmText (n : Int))), .val (.int (r : Int))] = .ok (.str ⟨#[charAt n (9 - r)]⟩) := by
    rw [ev_idx (ev_var (d := .str (fmText (n : Int))) rfl) (by rw [ev_bin ev_int (ev_var (d := .int r) rfl)]; rfl)]
    simp only [opIdx]
    rw [if_pos ⟨by omega, by omega⟩, show (9 - (r : Int)).toNat = 9 - r by omega, fm_get n _ (by omega)]
  exact evSs_ret (d := .bool (inX (charAt n (9 - r)))) (by rw [ev_cmp hi ev_str]; exact congrArg (fun b => Res.ok (.bool b)) (Bool.bne_true _))
theorem shown_eval {T : Tab} (n : Nat) (r : Fin 12) : evSs T b_law_shown (initσ [.str (fmText (n : Int)), .int (r.val : Int)] d_law_shown.nm) = .ret (.bool (n.testBit r.val)) := by
  obtain ⟨u1, u2, u3, u4, u5, u6⟩ := inU_tab
  obtain ⟨x1, x2, x3, x4, x5, x6, x7, x8⟩ := inX_tab
  have hA := fm_at n
  have key : ∀ j, charAt n (j + 1) = (tabs.map (charN (n : Int))).getD j 0 := fun j => rfl
  by_cases h : r.val ≤ 8
  · rw [shown_lo n r.val h]
    congr 2
    obtain ⟨r, hr⟩ := r
    simp only at h ⊢
    have : r = 0 ∨ r = 1 ∨ r = 2 ∨ r = 3 ∨ r = 4 ∨ r = 5 ∨ r = 6 ∨ r = 7 ∨ r = 8 := by omega
    rcases this with rfl | rfl | rfl | rfl | rfl | rfl | rfl | rfl | rfl
    · rw [show 9 - 0 = 8 + 1 from rfl, key, hA]
      simp only [List.getD_cons_succ, List.getD_cons_zero]
      cases n.testBit 0 <;> cases n.testBit 9 <;> simp_all
    · rw [show 9 - 1 = 7 + 1 from rfl, key, hA]
      simp only [List.getD_cons_succ, List.getD_cons_zero]
      cases n.testBit 1 <;> simp_all
    · rw [show 9 - 2 = 6 + 1 from rfl, key, hA]
      simp only [List.getD_cons_succ, List.getD_cons_zero]
      cases n.testBit 2 <;> simp_all
    · rw [show 9 - 3 = 5 + 1 from rfl, key, hA]
      simp only [List.getD_cons_succ, List.getD_cons_zero]
      cases n.testBit 3 <;> cases n.testBit 10 <;> simp_all
    · rw [show 9 - 4 = 4 + 1 from rfl, key, hA]
      simp only [List.getD_cons_succ, List.getD_cons_zero]
      cases n.testBit 4 <;> simp_all
    · rw [show 9 - 5 = 3 + 1 from rfl, key, hA]
      simp only [List.getD_cons_succ, List.getD_cons_zero]
      cases n.testBit 5 <;> simp_all
    · rw [show 9 - 6 = 2 + 1 from rfl, key, hA]
      simp only [List.getD_cons_succ, List.getD_cons_zero]
      cases n.testBit 6 <;> cases n.testBit 11 <;> simp_all
    · rw [show 9 - 7 = 1 + 1 from rfl, key, hA]
      simp only [List.getD_cons_succ, List.getD_cons_zero]
      cases n.testBit 7 <;> simp_all
    · rw [show 9 - 8 = 0 + 1 from rfl, key, hA]
      simp only [List.getD_cons_zero]
      cases n.testBit 8 <;> simp_all
  · rw [shown_hi n r.val (by omega) r.isLt]
    congr 2
    obtain ⟨r, hr⟩ := r
    simp only at h ⊢
    have : r = 9 ∨ r = 10 ∨ r = 11 := by omega
    rcases this with rfl | rfl | rfl
    · rw [show 36 - 3 * 9 = 8 + 1 from rfl, key, hA]
      simp only [List.getD_cons_succ, List.getD_cons_zero]
      cases n.testBit 0 <;> cases n.testBit 9 <;> simp_all
    · rw [show 36 - 3 * 10 = 5 + 1 from rfl, key, hA]
      simp only [List.getD_cons_succ, List.getD_cons_zero]
      cases n.testBit 3 <;> cases n.testBit 10 <;> simp_all
    · rw [show 36 - 3 * 11 = 2 + 1 from rfl, key, hA]
      simp only [List.getD_cons_succ, List.getD_cons_zero]
      cases n.testBit 6 <;> cases n.testBit 11 <;> simp_all
/-! rows -/
noncomputable def rightsD (R : Fin 4 → Fin 12) : PyData := .list ((List.finRange 4).map fun k => .int ((R k).val : Int))
theorem range4 : rangeD 0 4 1 = (List.finRange 4).map kD := by rfl
theorem fin4_get {β : Type} (f : Fin 4 → β) (k : Fin 4) : ((List.finRange 4).map f)[k.val]? = some (f k) := by
  match k with
  | 0 => rfl
  | 1 => rfl
  | 2 => rfl
  | 3 => rfl
theorem idx4 (f : Fin 4 → PyData) (k : Fin 4) : opIdx (.list ((List.finRange 4).map f)) (kD k) = .ok (f k) := by
  simp only [opIdx, kD]
  rw [if_pos ⟨by omega, by omega⟩, Int.toNat_natCast, fin4_get]
theorem idx_rights (R : Fin 4 → Fin 12) (k : Fin 4) : opIdx (rightsD R) (kD k) = .ok (.int ((R k).val : Int)) := idx4 _ k
theorem row_eval {T : Tab} (h1 : ∀ n : Nat, T.F 1 [.int (n : Int)] = some (.str (fmText (n : Int)))) (h7 : ∀ (n : Nat) (r : Fin 12), T.F 7 [.str (fmText (n : Int)), .int (r.val : Int)] = some (.bool (n.testBit r.val)))
    (n : Nat) (R : Fin 4 → Fin 12) (m : Fin 16) (hb : ∀ k : Fin 4, n.testBit (R k).val = m.val.testBit k.val) :
    evSs T b_law_row (initσ [.int (n : Int), rightsD R] d_law_row.nm) = .ret (setD m) := by
  unfold b_law_row
  show evSs T _ [.val (.int (n : Int)), .val (rightsD R), .un] = _
  rw [evSs_next (evS_assign (ev_call (evs_cons (d := .int (n : Int)) (ev_var rfl) evs_nil) (h1 n)))]
  show evSs T _ [.val (.int (n : Int)), .val (rightsD R), .val (.str (fmText (n : Int)))] = _
  refine evSs_ret (ev_compR (by decide +kernel) ?_)
  rw [range4]
  refine (compGo_fm kD (fun k => m.val.testBit k.val) kD (fun k _ => ?_) fun k _ _ => ev_var rfl).trans rfl
  rw [ev_call (evs_cons (d := .str (fmText (n : Int))) (ev_var rfl) (evs_cons (d := .int ((R k).val : Int)) (by rw [ev_idx (ev_var (d := rightsD R) rfl) (ev_var (d := kD k) rfl)]; exact idx_rights R k) evs_nil)) (h7 n (R k)), hb k]
/-! a bit set -/
noncomputable def setB (M r : Nat) (b : Bool) : Nat := M - M / 2 ^ r % 2 * 2 ^ r + b.toNat * 2 ^ r
theorem setB_split (M r : Nat) (b : Bool) : setB M r b = 2 ^ r * (2 * (M / 2 ^ r / 2) + b.toNat) + M % 2 ^ r := by
  unfold setB
  have h1 := Nat.div_add_mod M (2 ^ r)
  have h2 := Nat.div_add_mod (M / 2 ^ r) 2
  generalize hp : 2 ^ r = p at *
  generalize hq : M / p = q at *
  generalize M % p = l at *
  generalize q / 2 = u at *
  generalize q % 2 = c at *
  generalize b.toNat = t at *
  subst h2
  rw [← h1]
  have e1 : p * (2 * u + c) = 2 * u * p + c * p := by rw [Nat.mul_comm, Nat.add_mul]
  have e2 : p * (2 * u + t) = 2 * u * p + t * p := by rw [Nat.mul_comm, Nat.add_mul]
  rw [e1, e2]
  generalize 2 * u * p = z at *
  generalize c * p = y at *
  generalize t * p = x at *
  omega
theorem setB_bit (M r : Nat) (b : Bool) (j : Nat) : (setB M r b).testBit j = if j = r then b else M.testBit j := by
  have hlt : M % 2 ^ r < 2 ^ r := Nat.mod_lt _ (Nat.two_pow_pos r)
  have hM : M = 2 ^ r * (M / 2 ^ r) + M % 2 ^ r := (Nat.div_add_mod M (2 ^ r)).symm
  rw [setB_split, Nat.testBit_two_pow_mul_add _ hlt]
  by_cases q : j < r
  · rw [if_pos q, if_neg (by omega)]
    conv => rhs; rw [hM, Nat.testBit_two_pow_mul_add _ hlt, if_pos q]
  · rw [if_neg q]
    by_cases q2 : j = r
    · subst q2
      rw [if_pos rfl, Nat.sub_self, Nat.testBit_zero]
      cases b <;> simp <;> omega
    · rw [if_neg q2]
      conv => rhs; rw [hM, Nat.testBit_two_pow_mul_add _ hlt, if_neg q]
      obtain ⟨i, hi⟩ : ∃ i, j - r = i + 1 := ⟨j - r - 1, by omega⟩
      rw [hi, Nat.testBit_succ, Nat.testBit_succ]
      congr 1
      cases b <;> simp <;> omega
end Mine.L1
end
section
open PySem PySem.W PySem.Calls PyProof.Rows
namespace Mine.L1
/-! numbers -/
theorem div_nat {a b : Nat} (h1 : b ≠ 0) (h2 : b < 2 ^ 29) : opBin .FloorDiv (.int (a : Int)) (.int (b : Int)) = .ok (.int ((a / b : Nat) : Int)) := by
  simp only [opBin, int2]
  rw [if_pos ⟨by omega, by omega⟩]
  rw [Int.natCast_ediv, Int.fdiv_eq_ediv_of_nonneg _ (Int.natCast_nonneg b)]
theorem mod_nat {a b : Nat} (h1 : b ≠ 0) : opBin .Mod (.int (a : Int)) (.int (b : Int)) = .ok (.int ((a % b : Nat) : Int)) := by
  simp only [opBin, int2]
  rw [if_pos (by omega)]
  rw [Int.natCast_emod, Int.fmod_eq_emod_of_nonneg _ (Int.natCast_nonneg b)]
theorem pow_nat {a k : Nat} (h : k ≤ 64) (ha : a < 2 ^ 60) : opBin .Pow (.int (a : Int)) (.int (k : Int)) = .ok (.int ((a ^ k : Nat) : Int)) := by
  simp only [opBin, int2]
  rw [if_pos ⟨by omega, by omega, by omega⟩, Int.toNat_natCast, Int.natCast_pow]
theorem mode_step (M x r k : Nat) : (M : Int) + (((x / 2 ^ k % 2 : Nat) : Int) - ((M / 2 ^ r % 2 : Nat) : Int)) * ((2 ^ r : Nat) : Int) = ((setB M r (x.testBit k) : Nat) : Int) := by
  unfold setB
  rw [Nat.toNat_testBit]
  have hle : M / 2 ^ r % 2 * 2 ^ r ≤ M := by
    have h1 := Nat.div_add_mod M (2 ^ r)
    have h2 : M / 2 ^ r % 2 * 2 ^ r ≤ M / 2 ^ r * 2 ^ r := Nat.mul_le_mul_right _ (Nat.mod_le _ _)
    rw [Nat.mul_comm (M / 2 ^ r)] at h2
    omega
  rw [Int.sub_mul, ← Int.natCast_mul, ← Int.natCast_mul]
  generalize M / 2 ^ r % 2 * 2 ^ r = y at *
  generalize x / 2 ^ k % 2 * 2 ^ r = z at *
  omega
theorem mode_eval {T : Tab} (x : Nat) (R : Fin 4 → Fin 12) (hR : ∀ a b, R a = R b → a = b) : ∃ N : Nat, evSs T b_law_mode (initσ [.int (x : Int), rightsD R] d_law_mode.nm) = .ret (.int (N : Int)) ∧ ∀ k : Fin 4, N.testBit (R k).val = x.testBit k.val := by
  unfold b_law_mode
  show ∃ N : Nat, evSs T _ [.val (.int (x : Int)), .val (rightsD R), .un, .un, .un] = _ ∧ _
  have h0 : evS T (.assign 2 (.bin .FloorDiv (.var 0) (.int 16))) [.val (.int (x : Int)), .val (rightsD R), .un, .un, .un] = .next [.val (.int (x : Int)), .val (rightsD R), .val (.int ((x / 16 : Nat) : Int)), .un, .un] :=
    evS_assign (by rw [ev_bin (ev_var (d := .int (x : Int)) rfl) ev_int]; exact div_nat (b := 16) (by decide) (by decide))
  rw [evSs_next h0]
  have hloop := loopGo_inv (i := 3) kD (fun (b : Nat × SV) sv => [.val (.int (x : Int)), .val (rightsD R), .val (.int (b.1 : Int)), sv, b.2]) (fun b k => (setB b.1 (R k).val (x.testBit k.val), .val (.int ((2 ^ (R k).val : Nat) : Int)))) (fun _ _ => True)
    (body := fun σ => evSs T [.assign 4 (.bin .Pow (.int 2) (.idx (.var 1) (.var 3))),
        .assign 2 (.bin .Add (.var 2) (.bin .Mult (.bin .Sub (.bin .Mod (.bin .FloorDiv (.var 0) (.bin .Pow (.int 2) (.var 3))) (.int 2)) (.bin .Mod (.bin .FloorDiv (.var 2) (.var 4)) (.int 2))) (.var 4)))] σ) (orelse := fun σ => evSs T [] σ) (fun _ _ _ => rfl) (fun k r b _ => ⟨?_, trivial⟩) (List.finRange 4) (x / 16, .un) .un trivial
  · refine ⟨((List.finRange 4).foldl (fun (b : Nat × SV) k => (setB b.1 (R k).val (x.testBit k.val), SV.val (.int ((2 ^ (R k).val : Nat) : Int)))) (x / 16, .un)).1, ?_, ?_⟩
    · rw [evSs_next (by rw [evS_forR (by decide +kernel), range4]; exact hloop.trans evSs_nil)]
      exact evSs_ret (ev_var rfl)
    · intro k
      show (setB (setB (setB (setB (x / 16) (R 0).val (x.testBit 0)) (R 1).val (x.testBit 1)) (R 2).val (x.testBit 2)) (R 3).val (x.testBit 3)).testBit (R k).val = _
      have ne : ∀ a b : Fin 4, a ≠ b → (R a).val ≠ (R b).val := fun a b h q => h (hR a b (Fin.ext q))
      match k with
      | 3 => rw [setB_bit, if_pos rfl]; rfl
      | 2 => rw [setB_bit, if_neg (ne 2 3 (by decide)), setB_bit, if_pos rfl]; rfl
      | 1 => rw [setB_bit, if_neg (ne 1 3 (by decide)), setB_bit, if_neg (ne 1 2 (by decide)), setB_bit, if_pos rfl]; rfl
      | 0 => rw [setB_bit, if_neg (ne 0 3 (by decide)), setB_bit, if_neg (ne 0 2 (by decide)), setB_bit, if_neg (ne 0 1 (by decide)), setB_bit, if_pos rfl]; rfl
  · obtain ⟨M, sv⟩ := b
    have hr : (R k).val < 12 := (R k).isLt
    have hk : k.val < 4 := k.isLt
    have hp12 : 2 ^ (R k).val ≤ 2 ^ 12 := Nat.pow_le_pow_right (by decide) (by omega)
    have hp4 : 2 ^ k.val ≤ 2 ^ 4 := Nat.pow_le_pow_right (by decide) (by omega)
    have hpos : 0 < 2 ^ (R k).val := Nat.two_pow_pos _
    have hpos4 : 0 < 2 ^ k.val := Nat.two_pow_pos _
    have e1 : evS T (.assign 4 (.bin .Pow (.int 2) (.idx (.var 1) (.var 3)))) [.val (.int (x : Int)), .val (rightsD R), .val (.int (M : Int)), .val (kD k), sv] = .next [.val (.int (x : Int)), .val (rightsD R), .val (.int (M : Int)), .val (kD k), .val (.int ((2 ^ (R k).val : Nat) : Int))] :=
      evS_assign (by
        rw [ev_bin ev_int (y := .int ((R k).val : Int)) (by rw [ev_idx (ev_var (d := rightsD R) rfl) (ev_var (d := kD k) rfl)]; exact idx_rights R k)]
        exact pow_nat (a := 2) (by omega) (by decide))
    rw [evSs_next e1]
    have hp : ∀ σ : List SV, σ[3]? = some (.val (kD k)) → ev T (.bin .Pow (.int 2) (.var 3)) σ = .ok (.int ((2 ^ k.val : Nat) : Int)) := fun σ h => by
      rw [ev_bin ev_int (ev_var h)]
      exact pow_nat (a := 2) (by omega) (by decide)
    have e2 : ev T (.bin .Mod (.bin .FloorDiv (.var 0) (.bin .Pow (.int 2) (.var 3))) (.int 2)) [.val (.int (x : Int)), .val (rightsD R), .val (.int (M : Int)), .val (kD k), .val (.int ((2 ^ (R k).val : Nat) : Int))] = .ok (.int ((x / 2 ^ k.val % 2 : Nat) : Int)) := by
      rw [ev_bin (x := .int ((x / 2 ^ k.val : Nat) : Int)) (by rw [ev_bin (ev_var (d := .int (x : Int)) rfl) (hp _ rfl)]; exact div_nat (by omega) (by omega)) ev_int]
      exact mod_nat (b := 2) (by decide)
    have e3 : ev T (.bin .Mod (.bin .FloorDiv (.var 2) (.var 4)) (.int 2)) [.val (.int (x : Int)), .val (rightsD R), .val (.int (M : Int)), .val (kD k), .val (.int ((2 ^ (R k).val : Nat) : Int))] = .ok (.int ((M / 2 ^ (R k).val % 2 : Nat) : Int)) := by
      rw [ev_bin (x := .int ((M / 2 ^ (R k).val : Nat) : Int)) (by rw [ev_bin (ev_var (d := .int (M : Int)) rfl) (ev_var (d := .int ((2 ^ (R k).val : Nat) : Int)) rfl)]; exact div_nat (by omega) (by omega)) ev_int]
      exact mod_nat (b := 2) (by decide)
    rw [evSs_next (evS_assign (d := .int ((setB M (R k).val (x.testBit k.val) : Nat) : Int)) ?_), evSs_nil]
    · rfl
    · have e4 : ev T (.bin .Sub (.bin .Mod (.bin .FloorDiv (.var 0) (.bin .Pow (.int 2) (.var 3))) (.int 2)) (.bin .Mod (.bin .FloorDiv (.var 2) (.var 4)) (.int 2))) [.val (.int (x : Int)), .val (rightsD R), .val (.int (M : Int)), .val (kD k), .val (.int ((2 ^ (R k).val : Nat) : Int))] = .ok (.int (((x / 2 ^ k.val % 2 : Nat) : Int) - ((M / 2 ^ (R k).val % 2 : Nat) : Int))) := by
        rw [ev_bin e2 e3]; rfl
      rw [ev_bin (ev_var (d := .int (M : Int)) rfl) (y := .int ((((x / 2 ^ k.val % 2 : Nat) : Int) - ((M / 2 ^ (R k).val % 2 : Nat) : Int)) * ((2 ^ (R k).val : Nat) : Int))) ?_]
      · rw [← mode_step]; rfl
      · rw [ev_bin e4 (ev_var (d := .int ((2 ^ (R k).val : Nat) : Int)) rfl)]
        simp only [opBin, int2]
        rw [if_pos (by rw [Int.natAbs_natCast]; omega)]
/-! rights -/
noncomputable def nL (l : List Nat) : List PyData := l.map fun (i : Nat) => PyData.int (i : Int)
noncomputable def rBody : List S := [
        .assign 4 (.bin .Mod (.var 0) (.var 3)),
        .append 2 (.idx (.var 1) (.var 4)),
        .assign 1 (.bin .Add (.slice (.var 1) .nothing (.var 4)) (.slice (.var 1) (.bin .Add (.var 4) (.int 1)) .nothing)),
        .assign 0 (.bin .FloorDiv (.var 0) (.var 3))]
theorem ev_nothing {T : Tab} {σ : List SV} : ev T .nothing σ = .ok .none := by rw [ev]
theorem rights_turn {T : Tab} (n size : Nat) (pool rts : List Nat) (sv : SV) (h0 : 0 < size) (h1 : size < 1000) (hp : pool.length = size) (hr : rts.length < 1000) :
    evSs T rBody [.val (.int (n : Int)), .val (.list (nL pool)), .own (nL rts), .val (.int (size : Int)), sv] =
      .next [.val (.int ((n / size : Nat) : Int)), .val (.list (nL (pool.eraseIdx (n % size)))), .own (nL (rts ++ [pool[n % size]'(by rw [hp]; exact Nat.mod_lt _ h0)])), .val (.int (size : Int)), .val (.int ((n % size : Nat) : Int))] := by
  have hlt : n % size < pool.length := by rw [hp]; exact Nat.mod_lt _ h0
  unfold rBody
  rw [evSs_next (evS_assign (d := .int ((n % size : Nat) : Int)) (by rw [ev_bin (ev_var (d := .int (n : Int)) rfl) (ev_var (d := .int (size : Int)) rfl)]; exact mod_nat (by omega)))]
  show evSs T _ [.val (.int (n : Int)), .val (.list (nL pool)), .own (nL rts), .val (.int (size : Int)), .val (.int ((n % size : Nat) : Int))] = _
  have hi : ev T (.idx (.var 1) (.var 4)) [.val (.int (n : Int)), .val (.list (nL pool)), .own (nL rts), .val (.int (size : Int)), .val (.int ((n % size : Nat) : Int))] = .ok (.int ((pool[n % size] : Nat) : Int)) := by
    rw [ev_idx (ev_var (d := .list (nL pool)) rfl) (ev_var (d := .int ((n % size : Nat) : Int)) rfl)]
    simp only [opIdx]
    rw [if_pos ⟨by omega, by omega⟩, Int.toNat_natCast, nL, List.getElem?_map, List.getElem?_eq_getElem hlt]
    rfl
  rw [evSs_next (evS_append (ds := nL rts) rfl hi (by simp [nL]; omega))]
  show evSs T _ [.val (.int (n : Int)), .val (.list (nL pool)), .own (nL rts ++ [.int ((pool[n % size] : Nat) : Int)]), .val (.int (size : Int)), .val (.int ((n % size : Nat) : Int))] = _
  have hs1 : ∀ σ : List SV, σ[1]? = some (.val (.list (nL pool))) → σ[4]? = some (.val (.int ((n % size : Nat) : Int))) → ev T (.slice (.var 1) .nothing (.var 4)) σ = .ok (.list (nL (pool.take (n % size)))) := fun σ a b => by
    rw [ev, ev_var a, Res.bind_ok, ev_nothing, Res.bind_ok, ev_var b, Res.bind_ok]
    show opSlice (.list (nL pool)) none (some (.int ((n % size : Nat) : Int))) = _
    simp only [opSlice]
    rw [if_pos ⟨by omega, by simp [nL]; omega⟩, Int.toNat_natCast]
    simp [nL]
  have hs2 : ∀ σ : List SV, σ[1]? = some (.val (.list (nL pool))) → σ[4]? = some (.val (.int ((n % size : Nat) : Int))) → ev T (.slice (.var 1) (.bin .Add (.var 4) (.int 1)) .nothing) σ = .ok (.list (nL (pool.drop (n % size + 1)))) := fun σ a b => by
    rw [ev, ev_var a, Res.bind_ok, ev_bin (ev_var b) ev_int]
    show (ev T .nothing σ).bind (fun z => opSlice (.list (nL pool)) (some (.int (((n % size : Nat) : Int) + 1))) (optD z)) = _
    rw [ev_nothing, Res.bind_ok]
    show opSlice (.list (nL pool)) (some (.int (((n % size : Nat) : Int) + 1))) none = _
    simp only [opSlice]
    rw [if_pos ⟨by omega, by simp [nL]; omega⟩, show (((n % size : Nat) : Int) + 1).toNat = n % size + 1 by omega]
    simp [nL]
  rw [evSs_next (evS_assign (d := .list (nL (pool.eraseIdx (n % size)))) ?_)]
  · show evSs T _ [.val (.int (n : Int)), .val (.list (nL (pool.eraseIdx (n % size)))), .own (nL rts ++ [.int ((pool[n % size] : Nat) : Int)]), .val (.int (size : Int)), .val (.int ((n % size : Nat) : Int))] = _
    rw [evSs_next (evS_assign (d := .int ((n / size : Nat) : Int)) (by rw [ev_bin (ev_var (d := .int (n : Int)) rfl) (ev_var (d := .int (size : Int)) rfl)]; exact div_nat (by omega) (by omega))), evSs_nil]
    show Out.next [.val (.int ((n / size : Nat) : Int)), .val (.list (nL (pool.eraseIdx (n % size)))), .own (nL rts ++ [.int ((pool[n % size] : Nat) : Int)]), .val (.int (size : Int)), .val (.int ((n % size : Nat) : Int))] = _
    simp [nL]
  · rw [ev_bin (hs1 _ rfl rfl) (hs2 _ rfl rfl)]
    simp only [opBin, opAdd, catL]
    rw [if_pos (by simp [nL]; omega), List.eraseIdx_eq_take_drop_succ]
    simp [nL]
theorem range12 : rangeD 12 8 (-1) = [.int ((12 : Nat) : Int), .int ((11 : Nat) : Int), .int ((10 : Nat) : Int), .int ((9 : Nat) : Int)] := by rfl
theorem ints12 {T : Tab} {σ : List SV} : ev T (.ints 12) σ = .ok (.list (nL (List.range 12))) := by rw [ev]; rfl
theorem step_perm (pool rts : List Nat) (p : Nat) (h : p < pool.length) : ((rts ++ [pool[p]]) ++ pool.eraseIdx p).Perm (rts ++ pool) := by
  rw [List.append_assoc]
  refine List.Perm.append_left _ ?_
  rw [List.eraseIdx_eq_take_drop_succ]
  have e : pool = pool.take p ++ pool[p] :: pool.drop (p + 1) := by
    conv => lhs; rw [← List.take_append_drop p pool, List.drop_eq_getElem_cons h]
  conv => rhs; rw [e]
  rw [List.singleton_append]
  exact List.perm_middle.symm
theorem nodup_inj {l : List Nat} (h : l.Nodup) {i j : Nat} (hi : i < l.length) (hj : j < l.length) (e : l[i] = l[j]) : i = j := by
  have := List.pairwise_iff_getElem.mp h
  rcases Nat.lt_trichotomy i j with q | q | q
  · exact absurd e (this i j hi hj q)
  · exact q
  · exact absurd e.symm (this j i hj hi q)
theorem rights_eval {T : Tab} (n : Nat) : ∃ R : Fin 4 → Fin 12, (∀ a b, R a = R b → a = b) ∧ evSs T b_law_rights (initσ [.int (n : Int)] d_law_rights.nm) = .ret (rightsD R) := by
  show ∃ R : Fin 4 → Fin 12, _ ∧ evSs T [.assign 1 (.ints 12), .own 2 (.list []), .forR 3 12 8 (-1) rBody [], .freeze 2, .ret (.var 2)] [.val (.int (n : Int)), .un, .un, .un, .un] = _
  have l0 : (List.range 12).length = 12 := List.length_range
  have m0 := Nat.mod_lt n (show 12 > 0 by decide)
  have t0 := rights_turn (T := T) n 12 (List.range 12) [] .un (by decide) (by decide) l0 (by decide)
  have q0 := step_perm (List.range 12) [] (n % 12) (by rw [l0]; exact m0)
  generalize hp1 : (List.range 12).eraseIdx (n % 12) = p1 at *
  generalize hr1 : ([] : List Nat) ++ [(List.range 12)[n % 12]'(by rw [l0]; exact m0)] = r1 at *
  have lr1 : r1.length = 1 := by rw [← hr1]; rfl
  have l1 : p1.length = 11 := by have := q0.length_eq; simp only [List.length_append, lr1, l0, List.length_nil] at this; omega
  generalize n / 12 = n1 at *
  have m1 := Nat.mod_lt n1 (show 11 > 0 by decide)
  have t1 := rights_turn (T := T) n1 11 p1 r1 (.val (.int ((n % 12 : Nat) : Int))) (by decide) (by decide) l1 (by omega)
  have q1 := step_perm p1 r1 (n1 % 11) (by rw [l1]; exact m1)
  generalize hp2 : p1.eraseIdx (n1 % 11) = p2 at *
  generalize hr2 : r1 ++ [p1[n1 % 11]'(by rw [l1]; exact m1)] = r2 at *
  have lr2 : r2.length = 2 := by rw [← hr2]; simp [lr1]
  have l2 : p2.length = 10 := by have := q1.length_eq; simp only [List.length_append, lr1, lr2, l1] at this; omega
  generalize n1 / 11 = n2 at *
  have m2 := Nat.mod_lt n2 (show 10 > 0 by decide)
  have t2 := rights_turn (T := T) n2 10 p2 r2 (.val (.int ((n1 % 11 : Nat) : Int))) (by decide) (by decide) l2 (by omega)
  have q2 := step_perm p2 r2 (n2 % 10) (by rw [l2]; exact m2)
  generalize hp3 : p2.eraseIdx (n2 % 10) = p3 at *
  generalize hr3 : r2 ++ [p2[n2 % 10]'(by rw [l2]; exact m2)] = r3 at *
  have lr3 : r3.length = 3 := by rw [← hr3]; simp [lr2]
  have l3 : p3.length = 9 := by have := q2.length_eq; simp only [List.length_append, lr2, lr3, l2] at this; omega
  generalize n2 / 10 = n3 at *
  have m3 := Nat.mod_lt n3 (show 9 > 0 by decide)
  have t3 := rights_turn (T := T) n3 9 p3 r3 (.val (.int ((n2 % 10 : Nat) : Int))) (by decide) (by decide) l3 (by omega)
  have q3 := step_perm p3 r3 (n3 % 9) (by rw [l3]; exact m3)
  generalize hp4 : p3.eraseIdx (n3 % 9) = p4 at *
  generalize hr4 : r3 ++ [p3[n3 % 9]'(by rw [l3]; exact m3)] = r4 at *
  have lr4 : r4.length = 4 := by rw [← hr4]; simp [lr3]
  have Q : (r4 ++ p4).Perm (List.range 12) := q3.trans (q2.trans (q1.trans (q0.trans (by simp))))
  have nd : r4.Nodup := (List.nodup_append.mp (Q.nodup_iff.mpr List.nodup_range)).1
  have lt12 : ∀ x ∈ r4, x < 12 := fun x hx => List.mem_range.mp (Q.mem_iff.mp (List.mem_append_left _ hx))
  refine ⟨fun k => ⟨r4[k.val]'(by have := k.isLt; omega), lt12 _ (List.getElem_mem _)⟩, fun a b h => ?_, ?_⟩
  · have h' : r4[a.val]'(by have := a.isLt; omega) = r4[b.val]'(by have := b.isLt; omega) := congrArg Fin.val h
    exact Fin.ext (nodup_inj nd _ _ h')
  · have hR : nL r4 = (List.finRange 4).map fun k => PyData.int (((r4[k.val]'(by have := k.isLt; omega)) : Nat) : Int) := by
      obtain ⟨a, b, c, d, rfl⟩ : ∃ a b c d, r4 = [a, b, c, d] := by
        match r4, lr4 with
        | [a, b, c, d], _ => exact ⟨a, b, c, d, rfl⟩
      rfl
    rw [evSs_next (evS_assign ints12), evSs_next (evS_own (i := 2) (ds := []) ev_nil)]
    show evSs T _ [.val (.int (n : Int)), .val (.list (nL (List.range 12))), .own (nL []), .un, .un] = _
    rw [evSs_next (σ' := [.val (.int ((n3 / 9 : Nat) : Int)), .val (.list (nL p4)), .own (nL r4), .val (.int ((9 : Nat) : Int)), .val (.int ((n3 % 9 : Nat) : Int))])]
    · rw [evSs_next (evS_freeze (i := 2) (ds := nL r4) rfl)]
      refine evSs_ret ?_
      rw [hR]
      exact ev_var rfl
    · rw [evS_forR (by decide +kernel), range12]
      rw [loopGo]
      dsimp only
      rw [show putV [.val (.int (n : Int)), .val (.list (nL (List.range 12))), .own (nL []), .un, .un] 3 (.int ((12 : Nat) : Int)) = [.val (.int (n : Int)), .val (.list (nL (List.range 12))), .own (nL []), .val (.int ((12 : Nat) : Int)), .un] from rfl, t0]
      dsimp only
      rw [loopGo]
      dsimp only
      rw [show ∀ a b c d e x, putV [a, b, c, d, e] 3 x = [a, b, c, .val x, e] from fun _ _ _ _ _ _ => rfl, t1]
      dsimp only
      rw [loopGo]
      dsimp only
      rw [show ∀ a b c d e x, putV [a, b, c, d, e] 3 x = [a, b, c, .val x, e] from fun _ _ _ _ _ _ => rfl, t2]
      dsimp only
      rw [loopGo]
      dsimp only
      rw [show ∀ a b c d e x, putV [a, b, c, d, e] 3 x = [a, b, c, .val x, e] from fun _ _ _ _ _ _ => rfl, t3]
      dsimp only
      rw [loopGo, evSs_nil]
/-! modes out of sets -/
noncomputable def sumP (R : Fin 4 → Fin 12) (m : Fin 16) : Nat := ((els m).map fun k => 2 ^ (R k).val).sum
theorem setB_add (s r : Nat) (h : s.testBit r = false) : setB s r true = s + 2 ^ r := by
  unfold setB
  have := Nat.toNat_testBit s r
  rw [h] at this
  rw [← this]; simp
theorem sum_bits : ∀ (l : List Nat), l.Nodup → ∀ j, (l.map fun r => 2 ^ r).sum.testBit j = decide (j ∈ l)
  | [], _, j => by simp
  | a :: l, h, j => by
    obtain ⟨h1, h2⟩ := List.nodup_cons.mp h
    have ih := sum_bits l h2
    rw [List.map_cons, List.sum_cons, Nat.add_comm, ← setB_add _ _ (by rw [ih]; exact decide_eq_false h1), setB_bit, ih]
    by_cases q : j = a
    · subst q; simp
    · simp [q]
theorem els_nodup : ∀ m : Fin 16, (els m).Nodup := by decide +kernel
theorem sumP_bit (R : Fin 4 → Fin 12) (hR : ∀ a b, R a = R b → a = b) (m : Fin 16) (k : Fin 4) : (sumP R m).testBit (R k).val = m.val.testBit k.val := by
  unfold sumP
  have e : ((els m).map fun k => 2 ^ (R k).val) = ((els m).map fun k => (R k).val).map fun r => 2 ^ r := by rw [List.map_map]; rfl
  have nd : ((els m).map fun k => (R k).val).Nodup := by
    refine List.Pairwise.map _ (fun a b h q => ?_) (els_nodup m)
    exact h (hR a b (Fin.ext q))
  rw [e, sum_bits _ nd, Bool.eq_iff_iff, decide_eq_true_eq, List.mem_map, ← mem_els]
  constructor
  · rintro ⟨a, h1, h2⟩
    rw [← hR a k (Fin.ext h2)]; exact h1
  · exact fun h => ⟨k, h, rfl⟩
end Mine.L1
end
section
open PySem PySem.W PySem.Calls PyProof.Rows
namespace Mine.L1
/-! the tables of the tower -/
noncomputable abbrev FF (k : Nat) := Fn defs gn gv k
theorem f0 (k : Nat) (m : Int) : FF (k + 1) 0 [.int m] = some (.int (Builtin.bitAnd m 61440)) := by
  refine fn_of (d := d_S_IFMT) rfl rfl ?_
  show evSs _ [.ret (.bin .BitAnd (.var 0) (.int 61440))] [.val (.int m)] = _
  exact evSs_ret (by rw [ev_bin (ev_var (d := .int m) rfl) ev_int]; rfl)
theorem f1 (k : Nat) (m : Int) : FF (k + 2) 1 [.int m] = some (.str (fmText m)) := fn_of (d := d_filemode) rfl rfl (filemode_eval rfl m (f0 k m))
theorem f2 {α : Type} [DecidableEq α] {f : α → PyData} (e : Enc f) (k : Nat) (l : List α) (hl : l.length ≤ 50000) : FF (k + 1) 2 [.list (l.map f)] = some (.list ((dedupL l).map f)) :=
  fn_of (d := d_deduplicate_unhashable) rfl rfl (dedup_eval e l hl)
theorem f3 {α : Type} [DecidableEq α] {f : α → PyData} (e : Enc f) (k : Nat) (a b : List α) (ha : a.length ≤ 50000) (hb : b.length ≤ 50000) : FF (k + 2) 3 [.list (a.map f), .list (b.map f)] = some (.bool (sameL a b)) :=
  fn_of (d := d_compare_args_orderless) rfl rfl (compare_eval e (f2 e k) a b ha hb)
theorem f4 (k : Nat) (a b : Fin 16) : ∃ m u, FF (k + 1) 4 [setD a, setD b] = some (.tuple [.list m, .list u]) ∧ m.isEmpty = sub a b ∧ okD (.list m) = true := by
  obtain ⟨m, u, h1, h2, h3⟩ := sld_eval (Tn defs gn gv k) a b
  exact ⟨m, u, fn_of (d := d_sorted_list_difference) rfl rfl h1, h2, h3⟩
theorem f5 (k n : Nat) : ∃ R : Fin 4 → Fin 12, (∀ a b, R a = R b → a = b) ∧ FF (k + 1) 5 [.int (n : Int)] = some (rightsD R) := by
  obtain ⟨R, h1, h2⟩ := rights_eval (T := Tn defs gn gv k) n
  exact ⟨R, h1, fn_of (d := d_law_rights) rfl rfl h2⟩
theorem f6 (k x : Nat) (R : Fin 4 → Fin 12) (hR : ∀ a b, R a = R b → a = b) : ∃ N : Nat, FF (k + 1) 6 [.int (x : Int), rightsD R] = some (.int (N : Int)) ∧ ∀ k : Fin 4, N.testBit (R k).val = x.testBit k.val := by
  obtain ⟨N, h1, h2⟩ := mode_eval (T := Tn defs gn gv k) x R hR
  exact ⟨N, fn_of (d := d_law_mode) rfl rfl h1, h2⟩
theorem f7 (k n : Nat) (r : Fin 12) : FF (k + 1) 7 [.str (fmText (n : Int)), .int (r.val : Int)] = some (.bool (n.testBit r.val)) := fn_of (d := d_law_shown) rfl rfl (shown_eval n r)
theorem f8 (k n : Nat) (R : Fin 4 → Fin 12) (m : Fin 16) (hb : ∀ k : Fin 4, n.testBit (R k).val = m.val.testBit k.val) : FF (k + 3) 8 [.int (n : Int), rightsD R] = some (setD m) :=
  fn_of (d := d_law_row) rfl rfl (row_eval (fun n => f1 k n) (fun n r => f7 (k + 1) n r) n R m hb)
theorem tok (k : Nat) : TOK (Tn defs gn gv (k + 1)) := ⟨f2 encK k, f2 encS k, f4 k⟩
theorem f9 (k : Nat) (l : List (Fin 16)) (hl : l.length ≤ 50000) : FF (k + 2) 9 [.list (l.map setD)] = some (.list ((leastL l).map setD)) := fn_of (d := d_law_least) rfl rfl (least_eval (tok k) l hl)
theorem f10 (k : Nat) (rows : List (Fin 16)) (hr : rows.length ≤ 50000) : FF (k + 3) 10 [.list (rows.map setD)] = some (.list ((guardsL rows).map setD)) := fn_of (d := d_law_guards) rfl rfl (guards_eval (tok (k + 1)) (f9 k) rows hr)
/-! the frame of the law -/
noncomputable def S18 (f : Nat → SV) : List SV := [f 0, f 1, f 2, f 3, f 4, f 5, f 6, f 7, f 8, f 9, f 10, f 11, f 12, f 13, f 14, f 15, f 16, f 17]
noncomputable def upd (f : Nat → SV) (i : Nat) (v : SV) : Nat → SV := fun j => if j = i then v else f j
noncomputable def intE (i : Int) : PyData := .int i
theorem encI : Enc intE := ⟨fun a b => by simp only [intE, PyData.eqv]; rfl, fun _ => rfl, fun _ => rfl⟩
section
variable {T : Tab} {f : Nat → SV}
theorem st1 (ns : List Int) (hl : ns.length ≤ 1000) (h0 : f 0 = .val (.list (ns.map .int))) : ∃ n : Nat, ev T (.ite (.cmp .NotEq (.var 0) (.list [])) (.bin .Mod (.idx (.var 0) (.int 0)) (.int 28523880)) (.int 11186877)) (S18 f) = .ok (.int (n : Int)) := by
  have hv : ev T (.var 0) (S18 f) = .ok (.list (ns.map .int)) := ev_var (by show some (f 0) = _; rw [h0])
  have hc : ev T (.cmp .NotEq (.var 0) (.list [])) (S18 f) = .ok (.bool (!(ns.map PyData.int).isEmpty)) := by
    rw [ev_cmp hv ev_nil]; exact cmp_nil' (encI.okL ns)
  cases ns with
  | nil =>
    refine ⟨11186877, ?_⟩
    rw [ev, hc, Res.bind_ok]
    exact ev_int
  | cons a r =>
    refine ⟨(a.fmod 28523880).toNat, ?_⟩
    rw [ev, hc, Res.bind_ok]
    show ev T (.bin .Mod (.idx (.var 0) (.int 0)) (.int 28523880)) (S18 f) = _
    rw [ev_bin (x := .int a) (by rw [ev_idx hv ev_int]; simp only [opIdx]; rw [if_pos ⟨by omega, by omega⟩]; rfl) ev_int]
    simp only [opBin, int2]
    rw [if_pos (by decide)]
    have : 0 ≤ a.fmod 28523880 := Int.fmod_nonneg_of_pos _ (by decide)
    rw [Int.toNat_of_nonneg this]
theorem range16 : rangeD 0 16 1 = (List.finRange 16).map fun m => PyData.int (m.val : Int) := by rfl
noncomputable def worthsD (w : Fin 4 → Int) : PyData := .list ((List.finRange 4).map fun k => .int (w k))
theorem st3 (n : Nat) (h1 : f 1 = .val (.int (n : Int))) : ∃ w : Fin 4 → Int, ev T (.compR 0 4 1 (.bool true) (.bin .Mod (.bin .FloorDiv (.bin .FloorDiv (.var 1) (.int 11880)) (.bin .Pow (.int 7) (.var 18))) (.int 7))) (S18 f) = .ok (worthsD w) := by
  refine ⟨fun k => ((n / 11880 / 7 ^ k.val % 7 : Nat) : Int), ev_compR (by decide +kernel) ?_⟩
  rw [range4]
  simp only [ev_true]
  refine compGo_m kD (fun k => PyData.int ((n / 11880 / 7 ^ k.val % 7 : Nat) : Int)) fun k _ => ?_
  have hk : k.val < 4 := k.isLt
  have hp : 7 ^ k.val ≤ 7 ^ 4 := Nat.pow_le_pow_right (by decide) (by omega)
  have hp0 : 0 < 7 ^ k.val := Nat.pow_pos (by decide)
  have e1 : ev T (.bin .FloorDiv (.var 1) (.int 11880)) (S18 f ++ [.val (kD k)]) = .ok (.int ((n / 11880 : Nat) : Int)) := by
    rw [ev_bin (ev_var (d := .int (n : Int)) (by show some (f 1) = _; rw [h1])) ev_int]
    exact div_nat (b := 11880) (by decide) (by decide)
  have e2 : ev T (.bin .Pow (.int 7) (.var 18)) (S18 f ++ [.val (kD k)]) = .ok (.int ((7 ^ k.val : Nat) : Int)) := by
    rw [ev_bin ev_int (ev_var (d := kD k) rfl)]
    exact pow_nat (a := 7) (by omega) (by decide)
  have e3 : ev T (.bin .FloorDiv (.bin .FloorDiv (.var 1) (.int 11880)) (.bin .Pow (.int 7) (.var 18))) (S18 f ++ [.val (kD k)]) = .ok (.int ((n / 11880 / 7 ^ k.val : Nat) : Int)) := by
    rw [ev_bin e1 e2]; exact div_nat (by omega) (by have : (7 : Nat) ^ 4 = 2401 := by decide
                                                    omega)
  rw [ev_bin e3 ev_int]
  exact mod_nat (b := 7) (by decide)
theorem st4 (ns : List Int) (hl : ns.length ≤ 1000) (h0 : f 0 = .val (.list (ns.map .int))) : ∃ xs : List Nat, xs ≠ [] ∧ xs.length ≤ 4 ∧
    ev T (.comp (.or (.slice (.var 0) (.int 1) (.int 5)) (.list [(.int 12), (.int 6), (.int 67)])) (.bool true) (.bin .Mod (.var 18) (.bin .Pow (.int 2) (.int 24)))) (S18 f) = .ok (.list (nL xs)) := by
  have hs : ev T (.slice (.var 0) (.int 1) (.int 5)) (S18 f) = .ok (.list (((ns.drop 1).take 4).map .int)) := by
    rw [ev, ev_var (d := .list (ns.map .int)) (by show some (f 0) = _; rw [h0]), Res.bind_ok, ev_int, Res.bind_ok, ev_int, Res.bind_ok]
    show opSlice (.list (ns.map .int)) (some (.int 1)) (some (.int 5)) = _
    simp only [opSlice]
    rw [if_pos ⟨by decide, by decide, by simp; omega⟩]
    simp
  obtain ⟨ys, hy0, hy4, hsrc⟩ : ∃ ys : List Int, ys ≠ [] ∧ ys.length ≤ 4 ∧ ev T (.or (.slice (.var 0) (.int 1) (.int 5)) (.list [(.int 12), (.int 6), (.int 67)])) (S18 f) = .ok (.list (ys.map .int)) := by
    have ht : truth (.list (((ns.drop 1).take 4).map PyData.int)) = some (!(((ns.drop 1).take 4).map PyData.int).isEmpty) := by
      simp only [truth]; rw [if_pos (by simp; omega)]
    cases q : (ns.drop 1).take 4 with
    | nil =>
      refine ⟨[12, 6, 67], by decide, by decide, ?_⟩
      rw [ev, hs, Res.bind_ok, ht, q]
      exact ev_list (evs_cons ev_int (evs_cons ev_int (evs_cons ev_int evs_nil))) (by decide)
    | cons a r =>
      refine ⟨a :: r, by simp, by rw [← q]; simp; omega, ?_⟩
      rw [ev, hs, Res.bind_ok, ht, q]
      rfl
  refine ⟨ys.map fun y => (y.fmod 16777216).toNat, by simpa using hy0, by simpa using hy4, ev_comp hsrc (by simp; omega) ?_⟩
  simp only [ev_true]
  have := compGo_m (α := Int) PyData.int (fun y => PyData.int (((y.fmod 16777216).toNat : Nat) : Int)) (elt := fun d => ev T (.bin .Mod (.var 18) (.bin .Pow (.int 2) (.int 24))) (S18 f ++ [.val d])) (l := ys) fun y _ => by
    rw [ev_bin (ev_var (d := .int y) rfl) (y := .int 16777216) (by rw [ev_bin ev_int ev_int]; exact pow_nat (a := 2) (k := 24) (by decide) (by decide))]
    simp only [opBin, int2]
    rw [if_pos (by decide)]
    have : 0 ≤ y.fmod 16777216 := Int.fmod_nonneg_of_pos _ (by decide)
    rw [Int.toNat_of_nonneg this]
  rw [this]
  simp [nL]
noncomputable def setsD : PyData := .list ((List.finRange 16).map setD)
theorem cmp_int' (a b : Nat) : opCmp .Eq (.int (a : Int)) (.int (b : Int)) = .ok (.bool (a == b)) := by
  rw [cmp_int]; congr 2
  rw [Bool.eq_iff_iff, beq_iff_eq, beq_iff_eq]; exact Int.ofNat_inj
theorem st5 : ev T (.compR 0 16 1 (.bool true) (.compR 0 4 1 (.cmp .Eq (.bin .Mod (.bin .FloorDiv (.var 18) (.bin .Pow (.int 2) (.var 19))) (.int 2)) (.int 1)) (.var 19))) (S18 f) = .ok setsD := by
  refine ev_compR (by decide +kernel) ?_
  rw [range16]
  simp only [ev_true]
  refine compGo_m (fun m : Fin 16 => PyData.int (m.val : Int)) setD fun m _ => ?_
  refine ev_compR (by decide +kernel) ?_
  rw [range4]
  refine (compGo_fm kD (fun k => m.val.testBit k.val) kD (fun k _ => ?_) fun k _ _ => ev_var rfl).trans rfl
  have hk : k.val < 4 := k.isLt
  have hp : 2 ^ k.val ≤ 2 ^ 4 := Nat.pow_le_pow_right (by decide) (by omega)
  have hp0 : 0 < 2 ^ k.val := Nat.two_pow_pos _
  have e2 : ev T (.bin .Pow (.int 2) (.var 19)) ((S18 f ++ [.val (.int (m.val : Int))]) ++ [.val (kD k)]) = .ok (.int ((2 ^ k.val : Nat) : Int)) := by
    rw [ev_bin ev_int (ev_var (d := kD k) rfl)]
    exact pow_nat (a := 2) (by omega) (by decide)
  have e3 : ev T (.bin .FloorDiv (.var 18) (.bin .Pow (.int 2) (.var 19))) ((S18 f ++ [.val (.int (m.val : Int))]) ++ [.val (kD k)]) = .ok (.int ((m.val / 2 ^ k.val : Nat) : Int)) := by
    rw [ev_bin (ev_var (d := .int (m.val : Int)) rfl) e2]; exact div_nat (by omega) (by omega)
  rw [ev_cmp (x := .int ((m.val / 2 ^ k.val % 2 : Nat) : Int)) (by rw [ev_bin e3 ev_int]; exact mod_nat (b := 2) (by decide)) ev_int]
  refine (cmp_int' _ 1).trans ?_
  rw [Nat.testBit_eq_decide_div_mod_eq]
  rfl
noncomputable def rowsOf (xs : List Nat) : List (Fin 16) := xs.map (Fin.ofNat 16)
theorem fin16_get {β : Type} (g : Fin 16 → β) (m : Fin 16) : ((List.finRange 16).map g)[m.val]? = some (g m) := by
  rw [List.getElem?_map, List.getElem?_eq_getElem (by simp)]
  simp
theorem idx16 (g : Fin 16 → PyData) (m : Fin 16) : opIdx (.list ((List.finRange 16).map g)) (.int (m.val : Int)) = .ok (g m) := by
  simp only [opIdx]
  rw [if_pos ⟨by omega, by omega⟩, Int.toNat_natCast, fin16_get]
theorem st6 (xs : List Nat) (hx : xs.length ≤ 4) (h4 : f 4 = .val (.list (nL xs))) (h5 : f 5 = .val setsD) : ev T (.comp (.var 4) (.bool true) (.idx (.var 5) (.bin .Mod (.var 18) (.int 16)))) (S18 f) = .ok (.list ((rowsOf xs).map setD)) := by
  refine ev_comp (ds := nL xs) (ev_var (by show some (f 4) = _; rw [h4])) (by simp [nL]; omega) ?_
  simp only [ev_true]
  have := compGo_m (fun (i : Nat) => PyData.int (i : Int)) (fun x => setD (Fin.ofNat 16 x)) (elt := fun d => ev T (.idx (.var 5) (.bin .Mod (.var 18) (.int 16))) (S18 f ++ [.val d])) (l := xs) fun x _ => by
    rw [ev_idx (ev_var (d := setsD) (by show some (f 5) = _; rw [h5])) (y := .int ((x % 16 : Nat) : Int)) (by rw [ev_bin (ev_var (d := .int (x : Int)) rfl) ev_int]; exact mod_nat (b := 16) (by decide))]
    exact idx16 setD (Fin.ofNat 16 x)
  rw [show nL xs = xs.map fun (i : Nat) => PyData.int (i : Int) from rfl, this]
  simp [rowsOf]
theorem filter_any {α : Type} (p : α → Bool) : ∀ l : List α, (!(l.filter p).isEmpty) = l.any p
  | [] => rfl
  | a :: l => by
    rw [List.filter_cons, List.any_cons, ← filter_any p l]
    cases p a <;> simp
theorem sub_notin : ∀ r m : Fin 16, ((els r).filter fun k => !decide (k ∈ els m)).isEmpty = sub r m := by decide +kernel
/-- the elements of one set that another lacks -/
theorem lack_eval {σ : List SV} {i j : Nat} {r m : Fin 16} (hi : σ[i]? = some (.val (setD r))) (hj : ∀ v, (σ ++ [v])[j]? = some (.val (setD m))) (hk : ∀ v, (σ ++ [v])[σ.length]? = some v) :
    ev T (.cmp .Eq (.comp (.var i) (.cmp .NotIn (.var σ.length) (.var j)) (.var σ.length)) (.list [])) σ = .ok (.bool (sub r m)) := by
  have hc : ev T (.comp (.var i) (.cmp .NotIn (.var σ.length) (.var j)) (.var σ.length)) σ = .ok (.list (((els r).filter fun k => !decide (k ∈ els m)).map kD)) := by
    refine ev_comp (ds := (els r).map kD) (ev_var hi) (by have := els_len r; simp; omega) ?_
    refine compGo_fm kD (fun k => !decide (k ∈ els m)) kD (fun k _ => ?_) fun k _ _ => ev_var (hk _)
    rw [ev_cmp (ev_var (hk (.val (kD k)))) (ev_var (hj _)), setD, opCmp_notIn, if_pos (by rw [show okD (kD k) = true from encK.ok6 k, encK.okL]; rfl), encK.any]
  rw [ev_cmp hc ev_nil, cmp_nil (encK.okL _), List.isEmpty_map, sub_notin]
theorem st7 (rows : List (Fin 16)) (hx : rows.length ≤ 1000) (h5 : f 5 = .val setsD) (h6 : f 6 = .val (.list (rows.map setD))) :
    ev T (.comp (.var 5) (.bool true) (.cmp .NotEq (.comp (.var 6) (.cmp .Eq (.comp (.var 19) (.cmp .NotIn (.var 20) (.var 18)) (.var 20)) (.list [])) (.var 19)) (.list []))) (S18 f) = .ok (.list ((List.finRange 16).map fun m => .bool (up rows m))) := by
  refine ev_comp (ds := (List.finRange 16).map setD) (ev_var (by show some (f 5) = _; rw [h5]; rfl)) (by decide) ?_
  simp only [ev_true]
  refine compGo_m setD (fun m => PyData.bool (up rows m)) fun m _ => ?_
  have hc : ev T (.comp (.var 6) (.cmp .Eq (.comp (.var 19) (.cmp .NotIn (.var 20) (.var 18)) (.var 20)) (.list [])) (.var 19)) (S18 f ++ [.val (setD m)]) = .ok (.list ((rows.filter fun r => sub r m).map setD)) := by
    refine ev_comp (ds := rows.map setD) (ev_var (by show some (f 6) = _; rw [h6])) (by simp; omega) ?_
    refine compGo_fm setD (fun r => sub r m) setD (fun r _ => ?_) fun r _ _ => ev_var rfl
    exact lack_eval (σ := (S18 f ++ [.val (setD m)]) ++ [.val (setD r)]) (i := 19) (j := 18) rfl (fun _ => rfl) (fun _ => rfl)
  rw [ev_cmp hc ev_nil, cmp_nil' (encS.okL _)]
  congr 2
  rw [List.isEmpty_map]
  exact filter_any _ rows
end
end Mine.L1
end
section
open PySem PySem.W PySem.Calls PyProof.Rows
namespace Mine.L1
section
variable {T : Tab} {f : Nat → SV}
noncomputable def holdsD (h : Fin 16 → Bool) : PyData := .list ((List.finRange 16).map fun m => .bool (h m))
theorem co_val : ∀ m : Fin 16, (15 : Int) - (m.val : Int) = ((co m).val : Int) := by decide +kernel
theorem co_del : ∀ m : Fin 16, ∀ k ∈ els m, (co m).val + 2 ^ k.val = (co (del m k)).val := by decide +kernel
noncomputable def dueP (h : Fin 16 → Bool) (m : Fin 16) : Bool := !h (co m) && ((els m).filter fun k => !h (co (del m k))).isEmpty
noncomputable def dueBody : List S := [
        .assign 10 (.bin .Sub (.int 15) (.var 9)),
        .ite (.and (.not (.idx (.var 7) (.var 10))) (.cmp .Eq (.comp (.idx (.var 5) (.var 9)) (.not (.idx (.var 7) (.bin .Add (.var 10) (.bin .Pow (.int 2) (.var 18))))) (.var 18)) (.list [])))
          [
            .append 8 (.idx (.var 5) (.var 9))]
          []]
noncomputable def m16 (m : Fin 16) : PyData := .int (m.val : Int)
noncomputable def fD (f : Nat → SV) (b : List (Fin 16) × SV) (sv : SV) : Nat → SV := fun j => if j = 8 then .own (b.1.map setD) else if j = 9 then sv else if j = 10 then b.2 else f j
noncomputable def stD (f : Nat → SV) (b : List (Fin 16) × SV) (sv : SV) : List SV := S18 (fD f b sv)
theorem due_turn (h : Fin 16 → Bool) (h5 : f 5 = .val setsD) (h7 : f 7 = .val (holdsD h)) (b : List (Fin 16) × SV) (m : Fin 16) (hb : b.1.length < 1000) :
    evSs T dueBody (stD f b (.val (m16 m))) = .next (stD f (if dueP h m then b.1 ++ [m] else b.1, .val (m16 (co m))) (.val (m16 m))) := by
  unfold dueBody
  have e0 : evS T (.assign 10 (.bin .Sub (.int 15) (.var 9))) (stD f b (.val (m16 m))) = .next (stD f (b.1, .val (m16 (co m))) (.val (m16 m))) := by
    rw [evS_assign (d := m16 (co m))]
    · rfl
    · rw [ev_bin ev_int (ev_var (d := m16 m) rfl)]
      show Res.ok (.int (15 - (m.val : Int))) = _
      rw [co_val]; rfl
  rw [evSs_next e0]
  have g5 : ∀ l, (stD f (b.1, .val (m16 (co m))) (.val (m16 m)) ++ l)[5]? = some (.val setsD) := fun l => by show some (f 5) = _; rw [h5]
  have g7 : ∀ l, (stD f (b.1, .val (m16 (co m))) (.val (m16 m)) ++ l)[7]? = some (.val (holdsD h)) := fun l => by show some (f 7) = _; rw [h7]
  have g5' := g5 []; rw [List.append_nil] at g5'
  have g7' := g7 []; rw [List.append_nil] at g7'
  have c1 : ev T (.not (.idx (.var 7) (.var 10))) (stD f (b.1, .val (m16 (co m))) (.val (m16 m))) = .ok (.bool (!h (co m))) :=
    ev_not (x := .bool (h (co m))) (by rw [ev_idx (ev_var g7') (ev_var (d := m16 (co m)) rfl)]; exact idx16 (fun m => .bool (h m)) (co m)) rfl
  have hs : ev T (.idx (.var 5) (.var 9)) (stD f (b.1, .val (m16 (co m))) (.val (m16 m))) = .ok (setD m) := by
    rw [ev_idx (ev_var g5') (ev_var (d := m16 m) rfl)]; exact idx16 setD m
  have c2 : ev T (.comp (.idx (.var 5) (.var 9)) (.not (.idx (.var 7) (.bin .Add (.var 10) (.bin .Pow (.int 2) (.var 18))))) (.var 18)) (stD f (b.1, .val (m16 (co m))) (.val (m16 m))) = .ok (.list (((els m).filter fun k => !h (co (del m k))).map kD)) := by
    refine ev_comp (ds := (els m).map kD) hs (by have := els_len m; simp; omega) ?_
    refine compGo_fm kD (fun k => !h (co (del m k))) kD (fun k hk => ?_) fun k _ _ => ev_var rfl
    refine ev_not (x := .bool (h (co (del m k)))) ?_ rfl
    have hk4 : k.val < 4 := k.isLt
    rw [ev_idx (ev_var (g7 _)) (y := m16 (co (del m k))) ?_]
    · exact idx16 (fun m => .bool (h m)) _
    · rw [ev_bin (ev_var (d := m16 (co m)) rfl) (y := .int ((2 ^ k.val : Nat) : Int)) (by rw [ev_bin ev_int (ev_var (d := kD k) rfl)]; exact pow_nat (a := 2) (by omega) (by decide))]
      show Res.ok (.int (((co m).val : Int) + ((2 ^ k.val : Nat) : Int))) = _
      rw [← Int.natCast_add, co_del m k hk]; rfl
  have hc : ev T (.and (.not (.idx (.var 7) (.var 10))) (.cmp .Eq (.comp (.idx (.var 5) (.var 9)) (.not (.idx (.var 7) (.bin .Add (.var 10) (.bin .Pow (.int 2) (.var 18))))) (.var 18)) (.list []))) (stD f (b.1, .val (m16 (co m))) (.val (m16 m))) = .ok (.bool (dueP h m)) :=
    ev_and c1 fun _ => by rw [ev_cmp c2 ev_nil, cmp_nil (encK.okL _), List.isEmpty_map]
  rw [evSs, evS_ite hc (t := dueP h m) rfl]
  cases q : dueP h m with
  | true =>
    simp only [if_true]
    rw [evSs_next (evS_append (ds := b.1.map setD) rfl hs (by simp; omega))]
    simp only [evSs_nil]
    show Out.next (stD f (b.1, .val (m16 (co m))) (.val (m16 m)) |>.set 8 (.own (b.1.map setD ++ [setD m]))) = _
    rw [show b.1.map setD ++ [setD m] = (b.1 ++ [m]).map setD by simp]
    rfl
  | false =>
    simp only [Bool.false_eq_true, if_false, evSs_nil]
theorem foldl_pair {α β : Type} (p : α → Bool) (g : α → β) : ∀ (l acc : List α) (b : β), (l.foldl (fun (c : List α × β) a => (if p a then c.1 ++ [a] else c.1, g a)) (acc, b)).1 = acc ++ l.filter p
  | [], acc, b => by simp
  | a :: l, acc, b => by
    rw [List.foldl_cons, foldl_pair p g l]
    cases q : p a <;> simp [q]
theorem st9 (h : Fin 16 → Bool) (h5 : f 5 = .val setsD) (h7 : f 7 = .val (holdsD h)) (h8 : f 8 = .own []) : ∃ f', evS T (.forR 9 0 16 1 dueBody []) (S18 f) = .next (S18 f') ∧ f' 8 = .own ((dueL h).map setD) ∧ ∀ j, j ≠ 8 → j ≠ 9 → j ≠ 10 → f' j = f j := by
  have hloop := loopGo_inv (i := 9) m16 (stD f) (fun b m => (if dueP h m then b.1 ++ [m] else b.1, SV.val (m16 (co m)))) (fun r b => b.1.length + r.length ≤ 16)
    (body := fun σ => evSs T dueBody σ) (orelse := fun σ => evSs T [] σ) (fun _ _ _ => rfl) (fun m r b hI => ⟨due_turn h h5 h7 b m (by simp only [List.length_cons] at hI; omega), by
      simp only [List.length_cons] at hI
      show List.length (if dueP h m then b.1 ++ [m] else b.1) + _ ≤ _
      split
      · simp only [List.length_append, List.length_cons, List.length_nil]; omega
      · omega⟩) (List.finRange 16) ([], f 10) (f 9) (by simp)
  refine ⟨fD f ((List.finRange 16).foldl (fun (b : List (Fin 16) × SV) m => (if dueP h m then b.1 ++ [m] else b.1, SV.val (m16 (co m)))) ([], f 10)) (lastV m16 (List.finRange 16) (f 9)), ?_, ?_, ?_⟩
  · rw [evS_forR (by decide +kernel), range16]
    have e : S18 f = stD f ([], f 10) (f 9) := by
      unfold stD S18 fD
      simp [h8]
    rw [e]
    exact hloop.trans evSs_nil
  · show SV.own (List.map setD _) = _
    rw [foldl_pair]; rfl
  · intro j a b c
    show (if j = 8 then _ else if j = 9 then _ else if j = 10 then _ else f j) = f j
    rw [if_neg a, if_neg b, if_neg c]
/-! guards -/
theorem st10 (xs : List Nat) (hx : xs.length ≤ 4) (R : Fin 4 → Fin 12)
    (h6 : ∀ x : Nat, ∃ N : Nat, T.F 6 [.int (x : Int), rightsD R] = some (.int (N : Int)) ∧ ∀ k : Fin 4, N.testBit (R k).val = x.testBit k.val)
    (h8 : ∀ (n : Nat) (m : Fin 16), (∀ k : Fin 4, n.testBit (R k).val = m.val.testBit k.val) → T.F 8 [.int (n : Int), rightsD R] = some (setD m))
    (h10 : ∀ rows : List (Fin 16), rows.length ≤ 50000 → T.F 10 [.list (rows.map setD)] = some (.list ((guardsL rows).map setD)))
    (hr : f 2 = .val (rightsD R)) (h4 : f 4 = .val (.list (nL xs))) :
    ev T (.call 10 [(.comp (.var 4) (.bool true) (.call 8 [(.call 6 [(.var 18), (.var 2)]), (.var 2)]))]) (S18 f) = .ok (.list ((guardsL (rowsOf xs)).map setD)) := by
  refine ev_call (evs_cons (d := .list ((rowsOf xs).map setD)) ?_ evs_nil) (h10 _ (by simp [rowsOf]; omega))
  refine ev_comp (ds := nL xs) (ev_var (by show some (f 4) = _; rw [h4])) (by simp [nL]; omega) ?_
  simp only [ev_true]
  have := compGo_m (fun (i : Nat) => PyData.int (i : Int)) (fun x => setD (Fin.ofNat 16 x)) (elt := fun d => ev T (.call 8 [(.call 6 [(.var 18), (.var 2)]), (.var 2)]) (S18 f ++ [.val d])) (l := xs) fun x _ => by
    obtain ⟨N, n1, n2⟩ := h6 x
    have g2 : (S18 f ++ [.val (.int (x : Int))])[2]? = some (.val (rightsD R)) := by show some (f 2) = _; rw [hr]
    refine ev_call (evs_cons (ev_call (evs_cons (d := .int (x : Int)) (ev_var rfl) (evs_cons (ev_var g2) evs_nil)) n1) (evs_cons (ev_var g2) evs_nil)) (h8 N _ fun k => ?_)
    rw [n2]
    show _ = (x % 16).testBit k.val
    rw [show 16 = 2 ^ 4 from rfl, Nat.testBit_mod_two_pow]
    simp
  rw [show nL xs = xs.map fun (i : Nat) => PyData.int (i : Int) from rfl, this]
  simp [rowsOf]
/-! least rows -/
noncomputable def leastBody : List S := [
        .ite (.cmp .Eq (.comp (.var 6) (.and (.cmp .NotEq (.var 18) (.var 13)) (.cmp .Eq (.comp (.var 18) (.cmp .NotIn (.var 19) (.var 13)) (.var 19)) (.list []))) (.var 18)) (.list []))
          [
            .append 12 (.var 13)]
          []]
noncomputable def fL (f : Nat → SV) (b : List (Fin 16)) (sv : SV) : Nat → SV := fun j => if j = 12 then .own (b.map setD) else if j = 13 then sv else f j
noncomputable def stL (f : Nat → SV) (b : List (Fin 16)) (sv : SV) : List SV := S18 (fL f b sv)
theorem least_turn (rows : List (Fin 16)) (hx : rows.length ≤ 1000) (h6 : f 6 = .val (.list (rows.map setD))) (b : List (Fin 16)) (m : Fin 16) (hb : b.length < 2000) :
    evSs T leastBody (stL f b (.val (setD m))) = .next (stL f (if (rows.filter fun two => two != m && sub two m).isEmpty then b ++ [m] else b) (.val (setD m))) := by
  unfold leastBody
  have hc : ev T (.comp (.var 6) (.and (.cmp .NotEq (.var 18) (.var 13)) (.cmp .Eq (.comp (.var 18) (.cmp .NotIn (.var 19) (.var 13)) (.var 19)) (.list []))) (.var 18)) (stL f b (.val (setD m))) = .ok (.list ((rows.filter fun two => two != m && sub two m).map setD)) := by
    refine ev_comp (ds := rows.map setD) (ev_var (by show some (f 6) = _; rw [h6])) (by simp; omega) ?_
    refine compGo_fm setD (fun two => two != m && sub two m) setD (fun r _ => ?_) fun r _ _ => ev_var rfl
    refine ev_and (by rw [ev_cmp (x := setD r) (y := setD m) (ev_var rfl) (ev_var rfl)]; exact cmp_ne encS r m) fun _ => ?_
    exact lack_eval (σ := stL f b (.val (setD m)) ++ [.val (setD r)]) (i := 18) (j := 13) rfl (fun _ => rfl) (fun _ => rfl)
  have hcc : ev T (.cmp .Eq (.comp (.var 6) (.and (.cmp .NotEq (.var 18) (.var 13)) (.cmp .Eq (.comp (.var 18) (.cmp .NotIn (.var 19) (.var 13)) (.var 19)) (.list []))) (.var 18)) (.list [])) (stL f b (.val (setD m))) = .ok (.bool (rows.filter fun two => two != m && sub two m).isEmpty) := by
    rw [ev_cmp hc ev_nil, cmp_nil (encS.okL _), List.isEmpty_map]
  rw [evSs, evS_ite hcc (t := (rows.filter fun two => two != m && sub two m).isEmpty) rfl]
  cases q : (rows.filter fun two => two != m && sub two m).isEmpty with
  | true =>
    simp only [if_true]
    rw [evSs_next (evS_append (ds := b.map setD) rfl (ev_var (d := setD m) rfl) (by simp; omega))]
    simp only [evSs_nil]
    rw [show b.map setD ++ [setD m] = (b ++ [m]).map setD by simp]
    rfl
  | false =>
    simp only [Bool.false_eq_true, if_false, evSs_nil]
theorem st13 (rows : List (Fin 16)) (hx : rows.length ≤ 1000) (h6 : f 6 = .val (.list (rows.map setD))) (h12 : f 12 = .own []) : ∃ f', evS T (.forX 13 (.var 6) leastBody []) (S18 f) = .next (S18 f') ∧ f' 12 = .own ((leastL rows).map setD) ∧ ∀ j, j ≠ 12 → j ≠ 13 → f' j = f j := by
  have hloop := loopGo_inv (i := 13) setD (stL f) (fun b m => if (rows.filter fun two => two != m && sub two m).isEmpty then b ++ [m] else b) (fun r b => b.length + r.length ≤ 1000)
    (body := fun σ => evSs T leastBody σ) (orelse := fun σ => evSs T [] σ) (fun _ _ _ => rfl) (fun m r b hI => ⟨least_turn rows hx h6 b m (by simp only [List.length_cons] at hI; omega), by
      simp only [List.length_cons] at hI
      split
      · simp only [List.length_append, List.length_cons, List.length_nil]; omega
      · omega⟩) rows [] (f 13) (by simpa using hx)
  refine ⟨fL f (rows.foldl (fun b m => if (rows.filter fun two => two != m && sub two m).isEmpty then b ++ [m] else b) []) (lastV setD rows (f 13)), ?_, ?_, ?_⟩
  · rw [evS_forX (ds := rows.map setD) (ev_var (by show some (f 6) = _; rw [h6])) (by simp; omega)]
    have e : S18 f = stL f [] (f 13) := by
      unfold stL S18 fL
      simp [h12]
    rw [e]
    exact hloop.trans evSs_nil
  · show SV.own (List.map setD _) = _
    rw [foldl_filter]; rfl
  · intro j a b
    show (if j = 12 then _ else if j = 13 then _ else f j) = f j
    rw [if_neg a, if_neg b]
/-! modes, and back -/
theorem sum_cast {α : Type} (g : α → Nat) : ∀ l : List α, (l.map fun x => ((g x : Nat) : Int)).sum = (((l.map g).sum : Nat) : Int)
  | [] => rfl
  | a :: l => by rw [List.map_cons, List.sum_cons, sum_cast g l, List.map_cons, List.sum_cons, Int.natCast_add]
theorem ints_of {α : Type} (g : α → Int) (l : List α) : intsOf (l.map fun x => PyData.int (g x)) = some (l.map g) := by
  rw [show (l.map fun x => PyData.int (g x)) = (l.map g).map PyData.int by rw [List.map_map]; rfl, intsOf_map]
theorem st14 (gs : List (Fin 16)) (hx : gs.length ≤ 1000) (R : Fin 4 → Fin 12) (hr : f 2 = .val (rightsD R)) (h11 : f 11 = .val (.list (gs.map setD))) :
    ev T (.comp (.var 11) (.bool true) (.bi .sum (.comp (.var 18) (.bool true) (.bin .Pow (.int 2) (.idx (.var 2) (.var 19)))))) (S18 f) = .ok (.list (gs.map fun m => .int ((sumP R m : Nat) : Int))) := by
  refine ev_comp (ds := gs.map setD) (ev_var (by show some (f 11) = _; rw [h11])) (by simp; omega) ?_
  simp only [ev_true]
  refine compGo_m setD (fun m => PyData.int ((sumP R m : Nat) : Int)) fun m _ => ?_
  rw [ev_bi (x := .list ((els m).map fun k => PyData.int ((2 ^ (R k).val : Nat) : Int)))]
  · simp only [opBi]
    rw [ints_of]
    dsimp only
    rw [sum_cast]; rfl
  · refine ev_comp (ds := (els m).map kD) (ev_var rfl) (by have := els_len m; simp; omega) ?_
    simp only [ev_true]
    refine compGo_m kD (fun k => PyData.int ((2 ^ (R k).val : Nat) : Int)) fun k _ => ?_
    have hr12 : (R k).val < 12 := (R k).isLt
    rw [ev_bin ev_int (y := .int ((R k).val : Int)) (by rw [ev_idx (ev_var (d := rightsD R) (by show some (f 2) = _; rw [hr])) (ev_var (d := kD k) rfl)]; exact idx_rights R k)]
    exact pow_nat (a := 2) (by omega) (by decide)
theorem st15 (gs : List (Fin 16)) (hx : gs.length ≤ 1000) (R : Fin 4 → Fin 12) (hR : ∀ a b, R a = R b → a = b)
    (h8 : ∀ (n : Nat) (m : Fin 16), (∀ k : Fin 4, n.testBit (R k).val = m.val.testBit k.val) → T.F 8 [.int (n : Int), rightsD R] = some (setD m))
    (h10 : ∀ rows : List (Fin 16), rows.length ≤ 50000 → T.F 10 [.list (rows.map setD)] = some (.list ((guardsL rows).map setD)))
    (hr : f 2 = .val (rightsD R)) (h14 : f 14 = .val (.list (gs.map fun m => .int ((sumP R m : Nat) : Int)))) :
    ev T (.call 10 [(.comp (.var 14) (.bool true) (.call 8 [(.var 18), (.var 2)]))]) (S18 f) = .ok (.list ((guardsL gs).map setD)) := by
  refine ev_call (evs_cons (d := .list (gs.map setD)) ?_ evs_nil) (h10 _ (by omega))
  refine ev_comp (ds := gs.map fun m => .int ((sumP R m : Nat) : Int)) (ev_var (by show some (f 14) = _; rw [h14])) (by simp; omega) ?_
  simp only [ev_true]
  refine compGo_m (fun m => PyData.int ((sumP R m : Nat) : Int)) setD fun m _ => ?_
  have g2 : (S18 f ++ [.val (.int ((sumP R m : Nat) : Int))])[2]? = some (.val (rightsD R)) := by show some (f 2) = _; rw [hr]
  exact ev_call (evs_cons (ev_var rfl) (evs_cons (ev_var g2) evs_nil)) (h8 _ m fun k => sumP_bit R hR m k)
theorem st16 (h : Fin 16 → Bool) (h7 : f 7 = .val (holdsD h)) :
    ev T (.cmp .Eq (.compR 0 16 1 (.cmp .Eq (.idx (.var 7) (.var 18)) (.idx (.var 7) (.bin .Sub (.int 15) (.var 18)))) (.var 18)) (.list [])) (S18 f) = .ok (.bool (fairB h)) := by
  have hc : ev T (.compR 0 16 1 (.cmp .Eq (.idx (.var 7) (.var 18)) (.idx (.var 7) (.bin .Sub (.int 15) (.var 18)))) (.var 18)) (S18 f) = .ok (.list (((List.finRange 16).filter fun n => h n == h (co n)).map m16)) := by
    refine ev_compR (by decide +kernel) ?_
    rw [range16]
    refine compGo_fm m16 (fun n => h n == h (co n)) m16 (fun n _ => ?_) fun n _ _ => ev_var rfl
    have g7 : (S18 f ++ [.val (m16 n)])[7]? = some (.val (holdsD h)) := by show some (f 7) = _; rw [h7]
    rw [ev_cmp (x := .bool (h n)) (y := .bool (h (co n)))]
    · simp only [opCmp]
      rw [if_pos (show (okD (.bool (h n)) && okD (.bool (h (co n)))) = true from rfl)]
      simp only [PyData.eqv]
    · rw [ev_idx (ev_var g7) (ev_var (d := m16 n) rfl)]; exact idx16 (fun m => .bool (h m)) n
    · rw [ev_idx (ev_var g7) (y := m16 (co n))]
      · exact idx16 (fun m => .bool (h m)) (co n)
      · rw [ev_bin ev_int (ev_var (d := m16 n) rfl)]
        show Res.ok (.int (15 - (n.val : Int))) = _
        rw [co_val]; rfl
  rw [ev_cmp hc ev_nil, cmp_nil, List.isEmpty_map]
  · rfl
  · unfold okD okN
    rw [List.all_eq_true]
    intro x hx
    obtain ⟨a, _, rfl⟩ := List.mem_map.mp hx
    rfl
/-! worths -/
theorem best_eval (b : Bi) (g : Int → Int → Int) (hb : (b = .max ∧ g = max) ∨ (b = .min ∧ g = min)) {l : List Int} {m : Int} (h : bestI g l = some m) : opBi b (.list (l.map PyData.int)) = .ok (.int m) := by
  rcases hb with ⟨rfl, rfl⟩ | ⟨rfl, rfl⟩
  · simp only [opBi]; rw [intsOf_map]; simp only [Option.bind_some, h]
  · simp only [opBi]; rw [intsOf_map]; simp only [Option.bind_some, h]
theorem worth_eval (b : Bi) (g : Int → Int → Int) (hb : (b = .max ∧ g = max) ∨ (b = .min ∧ g = min)) {σ : List SV} {w : Fin 4 → Int} {m : Fin 16} {v : Int} (hl : σ.length = 19) (h18 : σ[18]? = some (.val (setD m))) (h3 : ∀ v, (σ ++ [v])[3]? = some (.val (worthsD w))) (hv : bestI g ((els m).map w) = some v) :
    ev T (.bi b (.comp (.var 18) (.bool true) (.idx (.var 3) (.var 19)))) σ = .ok (.int v) := by
  rw [ev_bi (x := .list (((els m).map w).map PyData.int))]
  · exact best_eval b g hb hv
  · refine ev_comp (ds := (els m).map kD) (ev_var h18) (by have := els_len m; simp; omega) ?_
    simp only [ev_true]
    rw [List.map_map]
    refine compGo_m kD (fun k => PyData.int (w k)) fun k _ => ?_
    rw [ev_idx (ev_var (h3 _)) (ev_var (d := kD k) (by rw [List.getElem?_append_right (by omega), hl]; rfl))]
    exact idx4 _ k
end
end Mine.L1
end
section
open PySem PySem.W PySem.Calls PyProof.Rows
namespace Mine.L1
theorem put18 (f : Nat → SV) (i : Nat) (d : PyData) (hi : i < 18) : putV (S18 f) i d = S18 (upd f i (.val d)) := by
  match i, hi with
  | 0, _ => rfl
  | 1, _ => rfl
  | 2, _ => rfl
  | 3, _ => rfl
  | 4, _ => rfl
  | 5, _ => rfl
  | 6, _ => rfl
  | 7, _ => rfl
  | 8, _ => rfl
  | 9, _ => rfl
  | 10, _ => rfl
  | 11, _ => rfl
  | 12, _ => rfl
  | 13, _ => rfl
  | 14, _ => rfl
  | 15, _ => rfl
  | 16, _ => rfl
  | 17, _ => rfl
  | i + 18, h => omega
theorem stepA {T : Tab} {f : Nat → SV} {i : Nat} {x : X} {r : List S} {d : PyData} {o : Out} (hi : i < 18) (h : ev T x (S18 f) = .ok d) (k : evSs T r (S18 (upd f i (.val d))) = o) : evSs T (.assign i x :: r) (S18 f) = o := by
  rw [evSs_next (evS_assign h), put18 f i d hi]; exact k
theorem stepL' {T : Tab} {f : Nat → SV} {i : Nat} {x : X} {r : List S} {d : PyData} {o : Out} (hi : i < 18) (h : ev T x (S18 f) = .ok d) (k : evSs T r (S18 (upd f i (.val d))) = o) : evSs T (.assignL i x :: r) (S18 f) = o := by
  rw [evSs_next (evS_assignL h), put18 f i d hi]; exact k
theorem upd_self {f : Nat → SV} {i : Nat} {v : SV} : upd f i v i = v := if_pos rfl
theorem upd_ne {f : Nat → SV} {i j : Nat} {v : SV} (h : j ≠ i) : upd f i v j = f j := if_neg h
theorem stepOut {T : Tab} {σ : List SV} {a b : X} {p q : Bool} {r : List S} {o : Out} {s : List S} (h1 : ev T a σ = .ok (.bool p)) (h2 : ev T b σ = .ok (.bool q)) (he : p = q) (k : evSs T r σ = o) : evSs T (.ite (.cmp .IsNot a b) s [] :: r) σ = o := by
  have hc : ev T (.cmp .IsNot a b) σ = .ok (.bool false) := by
    rw [ev_cmp h1 h2]; simp only [opCmp, bool2]; rw [he]; simp
  rw [evSs_next (by rw [evS_ite hc (t := false) rfl]; simp only [Bool.false_eq_true, if_false]; exact evSs_nil)]
  exact k
theorem plain : Plain := by
  intro ns hl
  refine fn_of (d := d_law) rfl rfl ?_
  generalize hT : Tn defs gn gv 6 = T
  have F : ∀ f as, T.F f as = FF 6 f as := fun f as => by rw [← hT]; rfl
  obtain ⟨f, hf, h0, h8i⟩ : ∃ f : Nat → SV, initσ [.list (ns.map .int)] d_law.nm = S18 f ∧ f 0 = .val (.list (ns.map .int)) ∧ True := ⟨fun j => if j = 0 then .val (.list (ns.map .int)) else .un, rfl, rfl, trivial⟩
  rw [hf]
  show evSs T b_law (S18 f) = _
  unfold b_law
  clear hf h8i
  -- n, rights, worths
  obtain ⟨n, hn⟩ := st1 (T := T) (f := f) ns (by omega) h0
  refine stepA (by decide) hn ?_
  obtain ⟨R, hR, h5F⟩ := f5 5 n
  refine stepA (d := rightsD R) (by decide) (ev_call (evs_cons (d := .int (n : Int)) (ev_var rfl) evs_nil) (by rw [F]; exact h5F)) ?_
  obtain ⟨w, hw⟩ := st3 (T := T) (f := upd (upd f 1 (.val (.int (n : Int)))) 2 (.val (rightsD R))) n rfl
  refine stepA (by decide) hw ?_
  generalize hf3 : upd (upd (upd f 1 (.val (.int (n : Int)))) 2 (.val (rightsD R))) 3 (.val (worthsD w)) = f3
  have a0 : f3 0 = .val (.list (ns.map .int)) := by rw [← hf3]; exact h0
  have a2 : f3 2 = .val (rightsD R) := by rw [← hf3]; rfl
  have a3 : f3 3 = .val (worthsD w) := by rw [← hf3]; rfl
  clear hf3 h0 hw
  -- drawn, sets, plain, holds
  obtain ⟨xs, hx0, hx4, hxs⟩ := st4 (T := T) (f := f3) ns (by omega) a0
  refine stepL' (by decide) hxs ?_
  refine stepA (d := setsD) (by decide) st5 ?_
  refine stepA (by decide) (st6 xs hx4 rfl rfl) ?_
  have hrl : (rowsOf xs).length ≤ 4 := by unfold rowsOf; simpa using hx4
  have hr0 : rowsOf xs ≠ [] := by unfold rowsOf; simpa using hx0
  generalize hrows : rowsOf xs = rows at *
  refine stepA (by decide) (st7 rows (by omega) rfl rfl) ?_
  generalize hf7 : upd (upd (upd (upd f3 4 (.val (.list (nL xs)))) 5 (.val setsD)) 6 (.val (.list (rows.map setD)))) 7 (.val (.list ((List.finRange 16).map fun m => .bool (up rows m)))) = f7
  have b2 : f7 2 = .val (rightsD R) := by rw [← hf7]; exact a2
  have b3 : f7 3 = .val (worthsD w) := by rw [← hf7]; exact a3
  have b4 : f7 4 = .val (.list (nL xs)) := by rw [← hf7]; rfl
  have b5 : f7 5 = .val setsD := by rw [← hf7]; rfl
  have b6 : f7 6 = .val (.list (rows.map setD)) := by rw [← hf7]; rfl
  have b7 : f7 7 = .val (holdsD (up rows)) := by rw [← hf7]; rfl
  clear hf7 a0 a2 a3
  -- due
  rw [evSs_next (evS_own (i := 8) (ds := []) ev_nil)]
  show evSs T _ (S18 (upd f7 8 (.own []))) = _
  obtain ⟨f9, e9, c8, c9⟩ := st9 (T := T) (f := upd f7 8 (.own [])) (up rows) b5 b7 rfl
  unfold dueBody at e9
  rw [evSs_next e9]
  have d2 : f9 2 = .val (rightsD R) := (c9 2 (by decide) (by decide) (by decide)).trans b2
  have d3 : f9 3 = .val (worthsD w) := (c9 3 (by decide) (by decide) (by decide)).trans b3
  have d4 : f9 4 = .val (.list (nL xs)) := (c9 4 (by decide) (by decide) (by decide)).trans b4
  have d6 : f9 6 = .val (.list (rows.map setD)) := (c9 6 (by decide) (by decide) (by decide)).trans b6
  have d7 : f9 7 = .val (holdsD (up rows)) := (c9 7 (by decide) (by decide) (by decide)).trans b7
  clear c9 e9 b2 b3 b4 b5 b6 b7
  -- guards
  have h6F : ∀ x : Nat, ∃ N : Nat, T.F 6 [.int (x : Int), rightsD R] = some (.int (N : Int)) ∧ ∀ k : Fin 4, N.testBit (R k).val = x.testBit k.val := fun x => by
    obtain ⟨N, q1, q2⟩ := f6 5 x R hR; exact ⟨N, by rw [F]; exact q1, q2⟩
  have h8F : ∀ (n : Nat) (m : Fin 16), (∀ k : Fin 4, n.testBit (R k).val = m.val.testBit k.val) → T.F 8 [.int (n : Int), rightsD R] = some (setD m) := fun n m hb => by rw [F]; exact f8 3 n R m hb
  have h10F : ∀ rows : List (Fin 16), rows.length ≤ 50000 → T.F 10 [.list (rows.map setD)] = some (.list ((guardsL rows).map setD)) := fun rows hr => by rw [F]; exact Mine.L1.f10 3 rows hr
  have h3F : ∀ a b : List (Fin 16), a.length ≤ 50000 → b.length ≤ 50000 → T.F 3 [.list (a.map setD), .list (b.map setD)] = some (.bool (sameL a b)) := fun a b ha hb => by rw [F]; exact Mine.L1.f3 encS 4 a b ha hb
  have hg := st10 (T := T) (f := f9) xs hx4 R h6F h8F h10F d2 d4
  rw [hrows] at hg
  have hgl : (guardsL rows).length ≤ 16 := by
    rcases List.eq_nil_or_concat rows with q | ⟨l, r, q⟩
    · rw [q]; decide
    · rw [q, guardsL, List.concat_eq_append, List.foldl_append]; exact stepL_len _ r
  refine stepA (by decide) hg ?_
  rw [evSs_next (evS_freeze (i := 8) (ds := (dueL (up rows)).map setD) (by show some (f9 8) = _; rw [c8])), put18 _ _ _ (by decide)]
  have hdl : (dueL (up rows)).length ≤ 16 := by
    unfold dueL
    exact Nat.le_trans (List.length_filter_le _ _) (by simp)
  have hll : (leastL rows).length ≤ 4 := by
    unfold leastL
    exact Nat.le_trans (List.length_filter_le _ _) hrl
  refine stepOut (p := sameL (guardsL rows) (dueL (up rows))) (q := true) (ev_call (evs_cons (d := .list ((guardsL rows).map setD)) (ev_var rfl) (evs_cons (d := .list ((dueL (up rows)).map setD)) (ev_var rfl) evs_nil)) (h3F _ _ (by omega) (by omega))) ev_true (sameL_iff.mpr (due_ok rows)) ?_
  generalize hf11 : upd (upd f9 11 (.val (.list ((guardsL rows).map setD)))) 8 (.val (.list ((dueL (up rows)).map setD))) = f11
  have g2 : f11 2 = .val (rightsD R) := by rw [← hf11]; exact d2
  have g3 : f11 3 = .val (worthsD w) := by rw [← hf11]; exact d3
  have g6 : f11 6 = .val (.list (rows.map setD)) := by rw [← hf11]; exact d6
  have g7 : f11 7 = .val (holdsD (up rows)) := by rw [← hf11]; exact d7
  have g11 : f11 11 = .val (.list ((guardsL rows).map setD)) := by rw [← hf11]; rfl
  clear hf11 d2 d3 d4 d6 d7 hg c8
  -- least
  rw [evSs_next (evS_own (i := 12) (ds := []) ev_nil)]
  show evSs T _ (S18 (upd f11 12 (.own []))) = _
  obtain ⟨f13, e13, c12, c13⟩ := st13 (T := T) (f := upd f11 12 (.own [])) rows (by omega) g6 rfl
  unfold leastBody at e13
  rw [evSs_next e13]
  have i2 : f13 2 = .val (rightsD R) := (c13 2 (by decide) (by decide)).trans g2
  have i3 : f13 3 = .val (worthsD w) := (c13 3 (by decide) (by decide)).trans g3
  have i6 : f13 6 = .val (.list (rows.map setD)) := (c13 6 (by decide) (by decide)).trans g6
  have i7 : f13 7 = .val (holdsD (up rows)) := (c13 7 (by decide) (by decide)).trans g7
  have i11 : f13 11 = .val (.list ((guardsL rows).map setD)) := (c13 11 (by decide) (by decide)).trans g11
  clear c13 e13 g2 g3 g6 g7 g11
  refine stepL' (by decide) (st14 (guardsL rows) (by omega) R i2 i11) ?_
  refine stepA (by decide) (st15 (guardsL rows) (by omega) R hR h8F h10F i2 rfl) ?_
  rw [evSs_next (evS_freeze (i := 12) (ds := (leastL rows).map setD) (by show some (f13 12) = _; rw [c12])), put18 _ _ _ (by decide)]
  have hbl : (guardsL (guardsL rows)).length ≤ 16 := by
    rcases List.eq_nil_or_concat (guardsL rows) with q | ⟨l, r, q⟩
    · rw [q]; decide
    · rw [q]; unfold guardsL; rw [List.concat_eq_append, List.foldl_append]; exact stepL_len _ r
  refine stepOut (p := sameL (guardsL (guardsL rows)) (leastL rows)) (q := true) (ev_call (evs_cons (d := .list ((guardsL (guardsL rows)).map setD)) (ev_var rfl) (evs_cons (d := .list ((leastL rows).map setD)) (ev_var rfl) evs_nil)) (h3F _ _ (by omega) (by omega))) ev_true (sameL_iff.mpr (back_ok rows)) ?_
  generalize hf15 : upd (upd (upd f13 14 (.val (.list ((guardsL rows).map fun m => .int ((sumP R m : Nat) : Int))))) 15 (.val (.list ((guardsL (guardsL rows)).map setD)))) 12 (.val (.list ((leastL rows).map setD))) = f15
  have j3 : f15 3 = .val (worthsD w) := by rw [← hf15]; exact i3
  have j6 : f15 6 = .val (.list (rows.map setD)) := by rw [← hf15]; exact i6
  have j7 : f15 7 = .val (holdsD (up rows)) := by rw [← hf15]; exact i7
  have j11 : f15 11 = .val (.list ((guardsL rows).map setD)) := by rw [← hf15]; exact i11
  have j12 : f15 12 = .val (.list ((leastL rows).map setD)) := by rw [← hf15]; rfl
  clear hf15 i2 i3 i6 i7 i11 c12
  -- fair
  refine stepA (by decide) (st16 (up rows) j7) ?_
  refine stepOut (p := sameL (guardsL rows) (leastL rows)) (q := fairB (up rows)) (ev_call (evs_cons (d := .list ((guardsL rows).map setD)) (ev_var (by show some (f15 11) = _; rw [j11])) (evs_cons (d := .list ((leastL rows).map setD)) (ev_var (by show some (f15 12) = _; rw [j12])) evs_nil)) (h3F _ _ (by omega) (by omega))) (ev_var rfl) (fair_ok rows) ?_
  -- an empty row
  have hin : ev T (.cmp .In (.list []) (.var 6)) (S18 (upd f15 16 (.val (.bool (fairB (up rows)))))) = .ok (.bool (decide ((0 : Fin 16) ∈ rows))) := by
    rw [ev_cmp ev_nil (ev_var (d := .list (rows.map setD)) (by show some (f15 6) = _; rw [j6])), opCmp_in, if_pos (by rw [encS.okL]; rfl)]
    rw [← encS.any]; rfl
  rw [evSs, evS_ite hin (t := decide ((0 : Fin 16) ∈ rows)) rfl]
  by_cases hz : (0 : Fin 16) ∈ rows
  · simp only [decide_eq_true hz, if_true]
    rw [evSs_ret ev_true]
  · simp only [decide_eq_false hz, Bool.false_eq_true, if_false, evSs_nil]
    have hlo : ∀ r ∈ rows, ∃ v, lowest w r = some v := fun r hr => bestI_some (by
      intro q
      have := (els_zero r).mp (by simpa using q)
      exact hz (this ▸ hr))
    have hhi : ∀ g ∈ guardsL rows, ∃ v, highest w g = some v := fun g hg => bestI_some (by
      intro q
      have := (els_zero g).mp (by simpa using q)
      exact guards_no_zero rows hr0 (this ▸ hg))
    have hlo' : ∀ r ∈ rows, lowest w r = some ((lowest w r).getD 0) := fun r hr => by obtain ⟨v, q⟩ := hlo r hr; rw [q]; rfl
    have hhi' : ∀ r ∈ guardsL rows, highest w r = some ((highest w r).getD 0) := fun r hr => by obtain ⟨v, q⟩ := hhi r hr; rw [q]; rfl
    obtain ⟨a, ha⟩ : ∃ a, bestI max (rows.map fun r => (lowest w r).getD 0) = some a := bestI_some (by simpa using hr0)
    obtain ⟨b, hb⟩ : ∃ b, bestI min ((guardsL rows).map fun r => (highest w r).getD 0) = some b := bestI_some (by simpa using guards_some rows hz)
    have hab := minimax w rows hlo' hhi' ha hb
    refine stepA (d := .int a) (by decide) ?_ ?_
    · rw [ev_bi (x := .list ((rows.map fun r => (lowest w r).getD 0).map PyData.int))]
      · exact best_eval .max max (.inl ⟨rfl, rfl⟩) ha
      · refine ev_comp (ds := rows.map setD) (ev_var (by show some (f15 6) = _; rw [j6])) (by simp; omega) ?_
        simp only [ev_true]
        rw [List.map_map]
        refine compGo_m setD (fun r => PyData.int ((lowest w r).getD 0)) fun r hr => ?_
        exact worth_eval .min min (.inr ⟨rfl, rfl⟩) (w := w) (m := r) rfl rfl (fun _ => by show some (f15 3) = _; rw [j3]) (hlo' r hr)
    · refine evSs_ret ?_
      rw [ev_cmp (x := .int a) (y := .int b) (ev_var rfl), cmp_int, hab]
      · simp
      · rw [ev_bi (x := .list (((guardsL rows).map fun r => (highest w r).getD 0).map PyData.int))]
        · exact best_eval .min min (.inr ⟨rfl, rfl⟩) hb
        · refine ev_comp (ds := (guardsL rows).map setD) (ev_var (by show some (f15 11) = _; rw [j11])) (by simp; omega) ?_
          simp only [ev_true]
          rw [List.map_map]
          refine compGo_m setD (fun r => PyData.int ((highest w r).getD 0)) fun r hr => ?_
          exact worth_eval .max max (.inl ⟨rfl, rfl⟩) (w := w) (m := r) rfl rfl (fun _ => by show some (f15 3) = _; rw [j3]) (hhi' r hr)
end Mine.L1
end
section
open PySem PySem.W PySem.Calls PyProof.Rows
set_option maxRecDepth 100000
set_option maxHeartbeats 8000000
namespace Mine.L1
noncomputable def keepS : Stmt → Bool
  | .Assign [.Name x _] _ _ => x != ("__name__" : Str)
  | _ => true
noncomputable def view : Program := { PySem.Challenge.pw_oc0073_01 with main := { PySem.Challenge.pw_oc0073_01.main with body := PySem.Challenge.pw_oc0073_01.main.body.filter keepS } }
noncomputable def lv : List (Str × WData) := [("_filemode_table", ofPy table)]
noncomputable def lawDef : DefRec × List (Str × Expr) := match defOf view "law" with
  | some x => x
  | none => (⟨"", default, [], default, default⟩, [])
theorem said : PySem.Challenge.rw_oc0073_01.wellSaid = true := by kernel_rfl
theorem left : LeftO PySem.Challenge.rw_oc0073_01.row.prog view ["_filemode_table"] (fun s => xlAt view lv s && recOk (RowW.records PySem.Challenge.rw_oc0073_01.row.toRowW) s) (Hook.obs Hook.none) (Hook.val Hook.none) 1590 := fun w => by kernel_rfl
end Mine.L1
end
section
open PySem PySem.W PySem.Calls PyProof.Rows
set_option maxRecDepth 100000
set_option maxHeartbeats 8000000
namespace Mine.L1
theorem lawName : lawDef.1.name = "law" := by kernel_rfl
theorem holds_of (hP : Plain) : PySem.Challenge.rw_oc0073_01.Holds := by
  refine holds_law said fun said => ?_
  refine holds_open (q := view) (loose := ["_filemode_table"]) (Xt := fun s => xlAt view lv s && recOk (RowW.records PySem.Challenge.rw_oc0073_01.row.toRowW) s) (XP := XL view lv) (Yf := Hook.obs Hook.none) (Ya := Hook.val Hook.none) (YP := Hook.says Hook.none) (d := lawDef.1) (kwd := lawDef.2) (N := 1590) left (Hook.of Hook.none) (Hook.keeps Hook.none) (fun s e => xl_of s (Bool.and_eq_true_iff.mp e).1) XL.keeps (by kernel_rfl) (by kernel_rfl) (by kernel_rfl) (fun s e => recFacts_of (Bool.and_eq_true_iff.mp e).2) (by kernel_rfl) said (by kernel_rfl) ⟨rfl, rfl, rfl, rfl, rfl, by kernel_rfl⟩ ?hw ?hc
  case hw => w_witness2
  case hc =>
  intro w s₀ s₁ mg mb G Y fa o pm cd doc dV kV ho hd hcd hD hmg hg args vals as hpre hlay hrd hwl hlo
  have V := (Ground.X G).2
  have T := G.T
  clear Y ho hd hcd hD
  rw [lawName] at hmg
  wrow_args hpre hlay hrd hwl hlo
  rename_i ns _ _ _ _ _ _ _ la vs _ hL _ _ _ hI _ hl _
  refine wpAny_mono (Mine.law_call (ds := defs) (gn := gn) (gv := gv) (f := 11) (x := "law") (as := [.list (ns.map .int)]) (d := .bool true) (E := fun _ _ => False) T (by kernel_rfl) ?_ (fun k => by kernel_rfl) (fun pm code doc v u => by kernel_rfl) (by kernel_rfl) hmg ?_ (hP ns (by omega))) (fun v s' g => ?_) fun _ _ f => f.elim
  · intro g x d h1 h2
    match g, h1, h2 with
    | 0, h1, h2 =>
      cases h1; cases h2
      obtain ⟨v, a, b⟩ := V.val _ (.head _)
      exact ⟨v, a, Mine.rep_of_reads 6 (by kernel_rfl) (reads_of_readsW table b)⟩
    | n + 1, h1, h2 => simp [gn] at h1
  · obtain ⟨o, ho, hc, n, hd⟩ := hL
    exact .cons (.list (Mine.fzOf_list ho hc hd) (Mine.intsRep hI)) .nil
  · obtain ⟨h', tk, fz', rfl, e, _, _, r⟩ := g
    cases Mine.rep_bool_inv r
    refine GoodW.toG ⟨.inl ⟨.bool true, .bool true, [], rfl, fun cls => ?_, .bool true, ?_, fun _ => ⟨List.nodup_nil, fun _ h => by cases h⟩⟩, fun b o q => ?_, rfl, hg⟩
    · first | rfl | exact raisesW_false (by wrow_none_raised) cls
    · first | rfl | wrow_post
    · exact e.get (by simp) q
end Mine.L1
end
theorem PySem.Challenge.cw_oc0073_01_holds : PySem.Challenge.rw_oc0073_01.Holds :=
  Mine.L1.holds_of Mine.L1.plain
