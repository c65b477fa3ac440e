import PyProof.Rows.All
import Wide.All
import OpenK.AllK
import Wide.FinOn
import Lean
import PySem.Challenge.RW_oc0073_02
set_option Elab.async false
section
open PySem PySem.W PyProof.Rows
namespace Mine
/-- what stands frozen: lists (false) and tuples (true) with their items -/
abbrev Fz := Addr → Option (Bool × List Value)
noncomputable def FzIn (fz : Fz) (h : Heap) : Prop :=
  ∀ a t vs, fz a = some (t, vs) → ∃ o n, h.get? a = some o ∧ o.cls = .type (if t then "tuple" else "list") ∧ o.data = .seq vs.toArray n
mutual
inductive Rep (fz : Fz) : Value → PyData → Prop
  | none : Rep fz .none .none
  | bool (b : Bool) : Rep fz (.bool b) (.bool b)
  | int (i : Int) (t : Tok) : Rep fz (.int i t) (.int i)
  | str (x : Str) (t : Tok) : Rep fz (.str x t) (.str x)
  | list {a : Addr} {vs : List Value} {ds : List PyData} : fz a = some (false, vs) → RepAll fz vs ds → Rep fz (.ref a) (.list ds)
  | tuple {a : Addr} {vs : List Value} {ds : List PyData} : fz a = some (true, vs) → RepAll fz vs ds → Rep fz (.ref a) (.tuple ds)
  | fn (a : Addr) : Rep fz (.ref a) (.dict [(.int a, .none)])
inductive RepAll (fz : Fz) : List Value → List PyData → Prop
  | nil : RepAll fz [] []
  | cons {v : Value} {vs : List Value} {d : PyData} {ds : List PyData} : Rep fz v d → RepAll fz vs ds → RepAll fz (v :: vs) (d :: ds)
end
noncomputable def FzLe (fz fz' : Fz) : Prop := ∀ a o, fz a = some o → fz' a = some o
theorem FzLe.refl (fz : Fz) : FzLe fz fz := fun _ _ e => e
theorem FzLe.trans {a b c : Fz} (x : FzLe a b) (y : FzLe b c) : FzLe a c := fun p o e => y p o (x p o e)
theorem RepAll.ind {fz : Fz} {P : List Value → List PyData → Prop} (h0 : P [] []) (h1 : ∀ v vs d ds, Rep fz v d → RepAll fz vs ds → P vs ds → P (v :: vs) (d :: ds)) {vs : List Value} {ds : List PyData} (r : RepAll fz vs ds) : P vs ds :=
  RepAll.rec (motive_1 := fun _ _ _ => True) (motive_2 := fun vs ds _ => P vs ds) trivial (fun _ => trivial) (fun _ _ => trivial) (fun _ _ => trivial) (fun _ _ _ => trivial) (fun _ _ _ => trivial) (fun _ => trivial) h0 (fun {v vs d ds} a b _ c => h1 v vs d ds a b c) r
theorem Rep.mono {fz fz' : Fz} (hs : FzLe fz fz') {v : Value} {d : PyData} (r : Rep fz v d) : Rep fz' v d :=
  Rep.rec (motive_1 := fun v d _ => Rep fz' v d) (motive_2 := fun vs ds _ => RepAll fz' vs ds) .none .bool .int .str (fun h _ a => .list (hs _ _ h) a) (fun h _ a => .tuple (hs _ _ h) a) .fn .nil (fun _ _ a b => .cons a b) r
theorem RepAll.mono {fz fz' : Fz} (hs : FzLe fz fz') {vs : List Value} {ds : List PyData} (r : RepAll fz vs ds) : RepAll fz' vs ds :=
  r.ind (P := RepAll fz') .nil fun _ _ _ _ a _ b => .cons (a.mono hs) b
theorem RepAll.length {fz : Fz} {vs : List Value} {ds : List PyData} (r : RepAll fz vs ds) : vs.length = ds.length := r.ind (P := fun vs ds => vs.length = ds.length) rfl fun _ _ _ _ _ _ b => congrArg Nat.succ b
theorem RepAll.append {fz : Fz} {vs ws : List Value} {ds es : List PyData} (r : RepAll fz vs ds) (k : RepAll fz ws es) : RepAll fz (vs ++ ws) (ds ++ es) := r.ind (P := fun vs ds => RepAll fz (vs ++ ws) (ds ++ es)) k fun _ _ _ _ a _ b => .cons a b
theorem RepAll.get {fz : Fz} {vs : List Value} {ds : List PyData} {k : Nat} {d : PyData} (r : RepAll fz vs ds) : ds[k]? = some d → ∃ v, vs[k]? = some v ∧ Rep fz v d :=
  r.ind (P := fun vs ds => ∀ k, ds[k]? = some d → ∃ v, vs[k]? = some v ∧ Rep fz v d) (fun k e => by cases e) (fun v vs d ds a _ b k => Nat.casesOn k (fun e => by cases e; exact ⟨v, rfl, a⟩) fun k e => b k e) k
theorem RepAll.get' {fz : Fz} {vs : List Value} {ds : List PyData} {k : Nat} {v : Value} (r : RepAll fz vs ds) (e : vs[k]? = some v) : ∃ d, ds[k]? = some d ∧ Rep fz v d := by
  obtain ⟨hk, _⟩ := List.getElem?_eq_some_iff.mp e
  rw [r.length] at hk
  obtain ⟨w, h1, h2⟩ := r.get (List.getElem?_eq_getElem hk)
  rw [e] at h1; cases h1
  exact ⟨_, List.getElem?_eq_getElem hk, h2⟩
theorem RepAll.take {fz : Fz} (k : Nat) {vs : List Value} {ds : List PyData} (r : RepAll fz vs ds) : RepAll fz (vs.take k) (ds.take k) :=
  r.ind (P := fun vs ds => ∀ k, RepAll fz (vs.take k) (ds.take k)) (fun k => by cases k <;> exact .nil) (fun _ _ _ _ a _ b k => Nat.casesOn k .nil fun k => .cons a (b k)) k
theorem RepAll.drop {fz : Fz} (k : Nat) {vs : List Value} {ds : List PyData} (r : RepAll fz vs ds) : RepAll fz (vs.drop k) (ds.drop k) :=
  r.ind (P := fun vs ds => ∀ k, RepAll fz (vs.drop k) (ds.drop k)) (fun k => by cases k <;> exact .nil) (fun _ _ _ _ a r b k => Nat.casesOn k (.cons a r) fun k => b k) k
/-- the heap grows: what stood stands, but for the slots of the frames fs -/
noncomputable def Ext (fs : List Addr) (h h' : Heap) : Prop :=
  ∀ b o, h.get? b = some o → ∃ sl, h'.get? b = some { o with slots := sl } ∧ (b ∉ fs → sl = o.slots)
theorem Ext.refl (fs : List Addr) (h : Heap) : Ext fs h h := fun _ o e => ⟨o.slots, e, fun _ => rfl⟩
theorem Ext.trans {fs : List Addr} {h₁ h₂ h₃ : Heap} (x : Ext fs h₁ h₂) (y : Ext fs h₂ h₃) : Ext fs h₁ h₃ := fun b o e => by
  obtain ⟨sl, e₁, q₁⟩ := x b o e
  obtain ⟨sl', e₂, q₂⟩ := y b _ e₁
  exact ⟨sl', e₂, fun hb => (q₂ hb).trans (q₁ hb)⟩
theorem Ext.of_keeps {fs : List Addr} {h h' : Heap} (k : ∀ b o, h.get? b = some o → h'.get? b = some o) : Ext fs h h' := fun b o e => ⟨o.slots, k b o e, fun _ => rfl⟩
theorem Ext.get {fs : List Addr} {h h' : Heap} (x : Ext fs h h') {b : Addr} {o : Obj} (hb : b ∉ fs) (e : h.get? b = some o) : h'.get? b = some o := by
  obtain ⟨sl, e₁, q₁⟩ := x b o e
  rw [q₁ hb] at e₁; exact e₁
theorem Ext.none {fs : List Addr} {h h' : Heap} (x : Ext fs h h') {b : Addr} (e : h'.get? b = none) : h.get? b = none := by
  cases q : h.get? b with
  | none => rfl
  | some o => obtain ⟨sl, e₁, _⟩ := x b o q; rw [e] at e₁; cases e₁
theorem Ext.ns {fs : List Addr} {h h' : Heap} (x : Ext fs h h') {a : Addr} {m : Str → Option Value} (hn : h.Ns a m) : h'.Ns a m := by
  obtain ⟨o, es, ep, ho, hd, r⟩ := hn
  obtain ⟨sl, e₁, _⟩ := x a o ho
  exact ⟨_, es, ep, e₁, hd, r⟩
theorem Ext.fzIn {fs : List Addr} {h h' : Heap} (x : Ext fs h h') {fz : Fz} (f : FzIn fz h) : FzIn fz h' := fun a t vs e => by
  obtain ⟨o, n, ho, hc, hd⟩ := f a t vs e
  obtain ⟨sl, e₁, _⟩ := x a o ho
  exact ⟨_, n, e₁, hc, hd⟩
theorem Ext.funFrames {fs : List Addr} {h h' base : Heap} (x : Ext fs h h') {l : List Env} (hl : h.FunFrames base l) : h'.FunFrames base l :=
  hl.of_keeps fun b o ho _ => by obtain ⟨sl, e₁, _⟩ := x b o ho; exact ⟨_, e₁, rfl⟩
theorem Ext.isCell {fs : List Addr} {h h' : Heap} (x : Ext fs h h') {c : Addr} {v : Option Value} (hc : h.IsCell c v) : h'.IsCell c v := by
  obtain ⟨o, ho, hd⟩ := hc
  obtain ⟨sl, e₁, _⟩ := x c o ho
  exact ⟨_, e₁, hd⟩
theorem Ext.slotsOnly {S : List Addr} {h h' : Heap} (x : Heap.SlotsOnly S h h') : Ext S h h' := fun b o e => by
  obtain ⟨sl, e₁⟩ := x.2.2 b o e
  refine ⟨sl, e₁, fun hb => ?_⟩
  have := x.2.1 b hb
  rw [e₁, e] at this
  have := Option.some.inj this
  exact congrArg Obj.slots this
/-- new frozen things are new -/
structure FzExt (h : Heap) (fz fz' : Fz) : Prop where
  le : FzLe fz fz'
  new : ∀ a, fz a = none → fz' a ≠ none → h.get? a = none
theorem FzExt.refl (h : Heap) (fz : Fz) : FzExt h fz fz := ⟨FzLe.refl _, fun _ e n => absurd e n⟩
theorem FzExt.trans {fs : List Addr} {h h' : Heap} {a b c : Fz} (x : FzExt h a b) (e : Ext fs h h') (y : FzExt h' b c) : FzExt h a c :=
  ⟨x.le.trans y.le, fun p ha hc => by
    cases q : b p with
    | none => exact e.none (y.new p q hc)
    | some o => exact x.new p ha (by rw [q]; intro z; cases z)⟩
noncomputable def fsOf (l : List Env) : List Addr := l.filterMap (·.frame)
/-- the ground: the base stands, the frames are functions' own -/
structure HI (base : Heap) (l : List Env) (h : Heap) : Prop where
  stays : base.StaysIn h
  frames : h.FunFrames base l
  dicts : ∀ b ∈ fsOf l, ∃ o es ep, h.get? b = some o ∧ o.data = .dict es ep
theorem HI.ext {base h h' : Heap} {l : List Env} (H : HI base l h) (x : Ext (fsOf l) h h') : HI base l h' :=
  ⟨fun b o e => x.get (fun hm => by have := (H.frames.mem hm).1; rw [this] at e; cases e) (H.stays b o e), x.funFrames H.frames, fun b hb => by
    obtain ⟨o, es, ep, ho, hd⟩ := H.dicts b hb
    obtain ⟨sl, e₁, _⟩ := x b o ho
    exact ⟨_, es, ep, e₁, hd⟩⟩
noncomputable def fzAdd (fz : Fz) (a : Addr) (t : Bool) (vs : List Value) : Fz := fun b => if b = a then some (t, vs) else fz b
theorem fzAdd_ext {h : Heap} {fz : Fz} {a : Addr} {t : Bool} {vs : List Value} (hn : h.get? a = none) (hf : fz a = none) : FzExt h fz (fzAdd fz a t vs) :=
  ⟨fun b o e => by
    unfold fzAdd
    by_cases q : b = a
    · subst q; rw [hf] at e; cases e
    · rw [if_neg q]; exact e, fun b e n => by
    by_cases q : b = a
    · subst q; exact hn
    · unfold fzAdd at n; rw [if_neg q] at n; exact absurd e n⟩
theorem FzIn.none {fz : Fz} {h : Heap} (f : FzIn fz h) {a : Addr} (hn : h.get? a = none) : fz a = none := by
  cases q : fz a with
  | none => rfl
  | some p => obtain ⟨t, vs⟩ := p; obtain ⟨o, n, ho, _⟩ := f a t vs q; rw [hn] at ho; cases ho
theorem fzAdd_in {fz : Fz} {h : Heap} {a : Addr} {t : Bool} {vs : List Value} (f : FzIn fz h) {o : Obj} {n : Nat} (ho : h.get? a = some o) (hc : o.cls = .type (if t then "tuple" else "list")) (hd : o.data = .seq vs.toArray n) : FzIn (fzAdd fz a t vs) h := by
  intro b t' vs' e
  unfold fzAdd at e
  by_cases q : b = a
  · subst q; rw [if_pos rfl] at e; cases e; exact ⟨o, n, ho, hc, hd⟩
  · rw [if_neg q] at e; exact f b t' vs' e
theorem fzAdd_self (fz : Fz) (a : Addr) (t : Bool) (vs : List Value) : fzAdd fz a t vs a = some (t, vs) := by simp [fzAdd]
end Mine
end
section
open PySem PySem.W PyProof.Rows
namespace Mine
inductive Res where
  | ok (d : PyData)
  | exc (k : String)
  | bad
/-- data that may be compared: no dict, texts of signs, six deep at most -/
noncomputable def okN : Nat → PyData → Bool
  | _, .none => true
  | _, .bool _ => true
  | _, .int _ => true
  | _, .str x => PyData.strOk x
  | n + 1, .list ds => ds.all (okN n)
  | n + 1, .tuple ds => ds.all (okN n)
  | _, _ => false
noncomputable def okD (d : PyData) : Bool := okN 6 d
theorem okN_lay : ∀ (n : Nat) (d : PyData), okN n d = true → d.canLay0 = true ∧ d.depth ≤ n := by
  have all : ∀ (n : Nat), (∀ d, okN n d = true → d.canLay0 = true ∧ d.depth ≤ n) → ∀ ds : List PyData, (∀ d ∈ ds, okN n d = true) → PyData.canLayAll0 ds = true ∧ PyData.depthAll ds ≤ n := by
    intro n ih ds
    induction ds with
    | nil => intro _; simp [PyData.canLayAll0, PyData.depthAll]
    | cons d ds hi =>
      intro h
      have h1 := ih d (h d (.head _))
      have h2 := hi fun e he => h e (.tail _ he)
      simp only [PyData.canLayAll0, PyData.depthAll, h1.1, h2.1, Bool.and_self, true_and]
      have a1 := h1.2
      have a2 := h2.2
      omega
  intro n
  induction n with
  | zero =>
    intro d h
    cases d <;> simp_all [okN, PyData.canLay0, PyData.depth]
  | succ n ih =>
    intro d h
    cases d with
    | none => simp [PyData.canLay0, PyData.depth]
    | bool b => simp [PyData.canLay0, PyData.depth]
    | int i => simp [PyData.canLay0, PyData.depth]
    | str x => simp [okN] at h; simp [PyData.canLay0, PyData.depth, h]
    | dict kvs => simp [okN] at h
    | tuple ds =>
      have q := all n ih ds (by simpa [okN] using h)
      have q2 := q.2
      simp only [PyData.canLay0, PyData.depth, q.1, true_and]
      omega
    | list ds =>
      have q := all n ih ds (by simpa [okN] using h)
      have q2 := q.2
      simp only [PyData.canLay0, PyData.depth, q.1, true_and]
      omega
theorem okD_shaped {d : PyData} (h : okD d = true) : SeqAt.shaped d = true := by
  have := okN_lay 6 d h
  simp only [SeqAt.shaped, this.1, Bool.true_and, decide_eq_true_eq]
  omega
theorem Rep.reads_n {fz : Fz} {h : Heap} (hf : FzIn fz h) : ∀ (n : Nat) {v : Value} {d : PyData}, okN n d = true → Rep fz v d → ∃ as, Reads h v d as := by
  have all : ∀ m, (∀ {v : Value} {d : PyData}, okN m d = true → Rep fz v d → ∃ as, Reads h v d as) → ∀ (vs : List Value) (ds : List PyData), (∀ d ∈ ds, okN m d = true) → RepAll fz vs ds → ∃ as, ReadsAll h vs ds as := by
    intro m ih vs
    induction vs with
    | nil => intro ds _ r; cases r; exact ⟨_, .nil⟩
    | cons v vs hi =>
      intro ds hd r
      cases r with
      | cons r1 r2 =>
        obtain ⟨as, q⟩ := ih (hd _ (.head _)) r1
        obtain ⟨bs, p⟩ := hi _ (fun d q => hd d (.tail _ q)) r2
        exact ⟨_, .cons q p⟩
  intro n
  induction n with
  | zero =>
    intro v d hk r
    cases r with
    | none => exact ⟨_, .none⟩
    | bool b => exact ⟨_, .bool b⟩
    | int i t => exact ⟨_, .int i t⟩
    | str x t => exact ⟨_, .str x t⟩
    | list _ _ => cases hk
    | tuple _ _ => cases hk
    | fn a => cases hk
  | succ n ih =>
    intro v d hk r
    cases r with
    | none => exact ⟨_, .none⟩
    | bool b => exact ⟨_, .bool b⟩
    | int i t => exact ⟨_, .int i t⟩
    | str x t => exact ⟨_, .str x t⟩
    | list e r =>
      obtain ⟨as, q⟩ := all n ih _ _ (List.all_eq_true.mp hk) r
      obtain ⟨o, n, ho, hc, hd⟩ := hf _ _ _ e
      exact ⟨_, .list ho hc hd (by simpa using q)⟩
    | tuple e r =>
      obtain ⟨as, q⟩ := all n ih _ _ (List.all_eq_true.mp hk) r
      obtain ⟨o, n, ho, hc, hd⟩ := hf _ _ _ e
      exact ⟨_, .tuple ho hc hd (by simpa using q)⟩
    | fn a => cases hk
theorem Rep.reads {fz : Fz} {h : Heap} (hf : FzIn fz h) {v : Value} {d : PyData} (r : Rep fz v d) (hk : okD d = true) : ∃ as, Reads h v d as := Rep.reads_n hf 6 hk r
/-- what comes of a step: the value stands for d, the heap has grown -/
noncomputable def Good (fs : List Addr) (fz : Fz) (s : Shared) (d : PyData) (v : Value) (s' : Shared) : Prop :=
  ∃ h' tk fz', s' = { s with heap := h', toks := tk } ∧ Ext fs s.heap h' ∧ FzExt s.heap fz fz' ∧ FzIn fz' h' ∧ Rep fz' v d
/-- an exception raised while another one is handled bears a star -/
noncomputable def clsL (k : String) : String := if k = "IndexError*" then "IndexError" else if k = "ValueError*" then "ValueError" else k
noncomputable def starL (k : String) : String := k ++ "*"
/-- an exception of the class k, new, not yet noted or noted here -/
structure ExcAt (hd : Option Value) (h₀ : Heap) (L : Addr) (h : Heap) (e : Addr) (k : String) : Prop where
  new : h₀.get? e = none
  there : ∃ oe vs, h.get? e = some oe ∧ oe.cls = .type (clsL k) ∧ oe.data = .fields vs ∧ (vs.size = 6 ∧ (hd = none → vs[2]? = some .none)) ∧
    (vs[1]? = some .none ∨ ∃ tb ot ts, vs[1]? = some (.ref tb) ∧ h₀.get? tb = none ∧ tb ≠ e ∧ h.get? tb = some ot ∧ ot.data = .fields ts ∧ ts[3]? = some (rawInt L))
noncomputable def Bad (hd : Option Value) (fs : List Addr) (L : Addr) (s : Shared) (k : String) (x : Value) (s' : Shared) : Prop :=
  ∃ h' tk e, s' = { s with heap := h', toks := tk } ∧ x = .ref e ∧ Ext fs s.heap h' ∧ ExcAt hd s.heap L h' e k
noncomputable def PostV (fs : List Addr) (fz : Fz) (s : Shared) : Res → Value → Shared → Prop
  | .ok d => Good fs fz s d
  | _ => fun _ _ => False
noncomputable def PostE (hd : Option Value) (fs : List Addr) (L : Addr) (s : Shared) : Res → Value → Shared → Prop
  | .exc k => Bad hd fs L s k
  | _ => fun _ _ => False
section
variable {fs : List Addr} {fz : Fz} {s : Shared} {d : PyData} {v : Value}
theorem Good.same (tk : Nat) (hf : FzIn fz s.heap) (r : Rep fz v d) : Good fs fz s d v { s with toks := tk } :=
  ⟨s.heap, tk, fz, rfl, Ext.refl _ _, FzExt.refl _ _, hf, r⟩
theorem Good.here (hf : FzIn fz s.heap) (r : Rep fz v d) : Good fs fz s d v s := Good.same s.toks hf r
theorem Good.kept {h' : Heap} (tk : Nat) (k : ∀ b o, s.heap.get? b = some o → h'.get? b = some o) (hf : FzIn fz s.heap) (r : Rep fz v d) : Good fs fz s d v { s with heap := h', toks := tk } :=
  ⟨h', tk, fz, rfl, Ext.of_keeps k, FzExt.refl _ _, (Ext.of_keeps (fs := []) k).fzIn hf, r⟩
theorem Good.made {h' : Heap} (tk : Nat) {a : Addr} {t : Bool} {vs : List Value} {ds : List PyData} {o : Obj} {n : Nat} (k : ∀ b o, s.heap.get? b = some o → h'.get? b = some o) (hf : FzIn fz s.heap)
    (hn : s.heap.get? a = none) (ho : h'.get? a = some o) (hc : o.cls = .type (if t then "tuple" else "list")) (hd : o.data = .seq vs.toArray n) (r : RepAll fz vs ds) :
    Good fs fz s (if t then .tuple ds else .list ds) (.ref a) { s with heap := h', toks := tk } := by
  have hz : fz a = none := hf.none hn
  refine ⟨h', tk, fzAdd fz a t vs, rfl, .of_keeps k, fzAdd_ext hn hz, fzAdd_in ((Ext.of_keeps (fs := []) k).fzIn hf) ho hc hd, ?_⟩
  have le : FzLe fz (fzAdd fz a t vs) := (fzAdd_ext (h := s.heap) hn hz).le
  cases t with
  | true => exact .tuple (fzAdd_self ..) (r.mono le)
  | false => exact .list (fzAdd_self ..) (r.mono le)
theorem size_none (h : Heap) {a : Addr} (ha : h.objs.size ≤ a) : h.get? a = none := by
  cases q : h.get? a with
  | none => rfl
  | some o => exact absurd (Heap.lt_size q) (Nat.not_lt.mpr ha)
end
theorem repInts {fz : Fz} {vs : List Value} {ns : List Int} : RepAll fz vs (ns.map PyData.int) → IntsAre vs ns := by
  induction ns generalizing vs with
  | nil => intro h; cases h; exact .nil
  | cons n ns ih => intro h; cases h with | cons a r => cases a; exact .cons _ _ (ih r)
theorem intsRep {fz : Fz} : ∀ {vs : List Value} {ns : List Int}, IntsAre vs ns → RepAll fz vs (ns.map PyData.int)
  | _, _, .nil => .nil
  | _, _, .cons n t r => .cons (.int n t) (intsRep r)
section
variable {prog : Program} {w : World} {A : Around} {E : Value → Shared → Prop} {s : Shared} {fz : Fz} {fs : List Addr}
theorem rep_list_inv {fz : Fz} {v : Value} {ds : List PyData} (r : Rep fz v (.list ds)) : ∃ a vs, v = .ref a ∧ fz a = some (false, vs) ∧ RepAll fz vs ds := by
  cases r with | list e q => exact ⟨_, _, rfl, e, q⟩
theorem rep_tuple_inv {fz : Fz} {v : Value} {ds : List PyData} (r : Rep fz v (.tuple ds)) : ∃ a vs, v = .ref a ∧ fz a = some (true, vs) ∧ RepAll fz vs ds := by
  cases r with | tuple e q => exact ⟨_, _, rfl, e, q⟩
theorem rep_int_inv {fz : Fz} {v : Value} {i : Int} (r : Rep fz v (.int i)) : ∃ t, v = .int i t := by
  cases r; exact ⟨_, rfl⟩
theorem rep_str_inv {fz : Fz} {v : Value} {x : Str} (r : Rep fz v (.str x)) : ∃ t, v = .str x t := by
  cases r; exact ⟨_, rfl⟩
theorem rep_bool_inv {fz : Fz} {v : Value} {b : Bool} (r : Rep fz v (.bool b)) : v = .bool b := by
  cases r; rfl
theorem FzIn.isList (hf : FzIn fz s.heap) {a : Addr} {vs : List Value} (e : fz a = some (false, vs)) : s.heap.IsList a vs.toArray := by
  obtain ⟨o, n, ho, hc, hd⟩ := hf _ _ _ e
  exact ⟨o, ho, hc, n, hd⟩
theorem FzIn.isTup (hf : FzIn fz s.heap) {a : Addr} {vs : List Value} (e : fz a = some (true, vs)) : IsTup s.heap a vs.toArray := by
  obtain ⟨o, n, ho, hc, hd⟩ := hf _ _ _ e
  exact ⟨o, ho, hc, n, hd⟩
/-! new lists, tuples -/
/-! arithmetic -/
noncomputable def int2 (f : Int → Int → Res) : PyData → PyData → Res
  | .int x, b => (match b with
    | .int y => f x y
    | _ => .bad)
  | _, _ => .bad
theorem int2_ok {f : Int → Int → Res} {a b : PyData} {r : Res} (h : int2 f a b = r) (hr : r ≠ .bad) : ∃ x y, a = .int x ∧ b = .int y ∧ f x y = r := by
  cases a with
  | int x => cases b with
    | int y => exact ⟨x, y, rfl, rfl, h⟩
    | _ => exact absurd h.symm hr
  | _ => exact absurd h.symm hr
noncomputable def catL (xs : List PyData) : PyData → Res
  | .list ys => if xs.length + ys.length ≤ 100000 then .ok (.list (xs ++ ys)) else .bad
  | _ => .bad
noncomputable def opAdd : PyData → PyData → Res
  | .list xs, b => catL xs b
  | a, b => int2 (fun x y => .ok (.int (x + y))) a b
noncomputable def opBin : Operator → PyData → PyData → Res
  | .Add, a, b => opAdd a b
  | .Sub, a, b => int2 (fun a b => .ok (.int (a - b))) a b
  | .Mult, a, b => int2 (fun a b => if b.natAbs < 2 ^ 60 then .ok (.int (a * b)) else .bad) a b
  | .FloorDiv, a, b => int2 (fun a b => if b ≠ 0 ∧ b.natAbs < 2 ^ 29 then .ok (.int (a.fdiv b)) else .bad) a b
  | .Mod, a, b => int2 (fun a b => if b ≠ 0 then .ok (.int (a.fmod b)) else .bad) a b
  | .Pow, a, b => int2 (fun a n => if 0 ≤ n ∧ n ≤ 64 ∧ a.natAbs < 2 ^ 60 then .ok (.int (a ^ n.toNat)) else .bad) a b
  | .BitAnd, a, b => int2 (fun a b => .ok (.int (Builtin.bitAnd a b))) a b
  | .MatMult, _, _ => .bad
  | .Div, _, _ => .bad
  | .LShift, _, _ => .bad
  | .RShift, _, _ => .bad
  | .BitOr, _, _ => .bad
  | .BitXor, _, _ => .bad
theorem mulOk_small {a b : Int} (h : b.natAbs < 2 ^ 60) : IntMulOk a b := by
  unfold IntMulOk
  have : ¬ (Builtin.Int.intBits b > shortFactorBits) := by
    unfold Builtin.Int.intBits shortFactorBits
    by_cases h0 : b.natAbs = 0
    · simp_all
    · have := (Nat.log2_lt h0).mpr h
      split <;> omega
  simp [this]
end
end Mine
end
section
open PySem PySem.W PyProof.Rows
namespace Mine
open AutoSeq1 (wpAny_loadPart')
open MeetsSeq MeetsSeq2 MeetsSeq3 SeqAt
/-- the first place where they part decides -/
noncomputable def firstB (e lt : Nat → Bool) : List Nat → Bool
  | [] => false
  | j :: r => if e j then firstB e lt r else lt j
noncomputable def RcOp (op : CmpOp) (A : Around) (s : Shared) (y x : Value) (b : Bool) : Prop :=
  ∀ (prog : Program) (w : World) (E : Value → Shared → Prop) (Q : Value → Shared → Prop), Q (.bool b) s → wpAny (model prog w) A (richCompare op y x) Q E s
theorem lt_loop (l b : Addr) (items items2 : Array Value) (n n2 : Nat) (dd dd2 : Option Addr) (sl sl2 : Array (Option Value)) (hsz : items.size = items2.size) (e lt : Nat → Bool) (k : Nat) :
    ∀ i : Nat, items.size - i = k → Meets (Builtin.«list.__eq__.loop» ⟨[.ref l, .ref b, rawInt i, rawInt 0], []⟩)
      (fun A R s => s.heap.get? l = some { cls := .type "list", dict := dd, data := .seq items n, slots := sl } ∧ s.heap.get? b = some { cls := .type "list", dict := dd2, data := .seq items2 n2, slots := sl2 } ∧
        (∀ j (h1 : j < items.size) (h2 : j < items2.size), EqAt A.in1 s items[j] items2[j] (e j) ∧ RcOp .Lt A.in1 s items[j] items2[j] (lt j)) ∧
        R (.ok (.ret (.bool (firstB e lt ((List.range items.size).drop i))))) s) := by
  induction k with
  | zero =>
    intro i hk prog w A R s h
    obtain ⟨hp, g, d, tk, os⟩ := s; obtain ⟨hl, hb, he, h⟩ := h
    wp_walk using wpAny_loadPart' hl, wpAny_loadPart' hb
    have hi1 : items[((i : Nat) : Int).toNat]? = none := by simp; omega
    have hi2 : items2[((i : Nat) : Int).toNat]? = none := by simp; omega
    have hd : (List.range items.size).drop i = [] := by simp; omega
    rw [hd] at h
    rw [hi1, hi2]
    wp_walk using wpAny_loadPart' hl, wpAny_loadPart' hb
    show R (.ok (.ret (.bool (decide (items.size < items2.size))))) _
    rw [hsz]
    simpa [firstB] using h
  | succ k ih =>
    intro i hk prog w A R s h
    obtain ⟨hp, g, d, tk, os⟩ := s; obtain ⟨hl, hb, he, h⟩ := h
    wp_walk using wpAny_loadPart' hl, wpAny_loadPart' hb
    have hlt : i < items.size := by omega
    have hlt2 : i < items2.size := by omega
    have hi1 : items[((i : Nat) : Int).toNat]? = some items[i] := by simp [hlt]
    have hi2 : items2[((i : Nat) : Int).toNat]? = some items2[i] := by simp [hlt2]
    have hd : (List.range items.size).drop i = i :: (List.range items.size).drop (i + 1) := by simp [List.drop_eq_getElem_cons, hlt]
    have hc : ((i : Int) + 1) = ((i + 1 : Nat) : Int) := by push_cast; rfl
    rw [hd, firstB] at h
    rw [hi1, hi2]
    refine wpAny_bind ((he i hlt hlt2).1 prog w _ _ ?_)
    cases hb' : e i with
    | true =>
      rw [hb'] at h
      wp_walk
      rw [hc]
      exact ⟨plainId_quiet plain_eq_loop _, codeAny_builtin entry_eq_loop (by
        rw [Around.under_plainId plain_eq_loop _]
        exact ih (i + 1) (by omega) prog w A R _ ⟨hl, hb, he, by simpa using h⟩)⟩
    | false =>
      rw [hb'] at h
      wp_walk using wpAny_loadPart' hl, wpAny_loadPart' hb
      rw [hi1, hi2]
      refine wpAny_bind ((he i hlt hlt2).2 prog w _ _ ?_)
      wp_walk
      simpa using h
theorem list_ltM (l b : Addr) (items items2 : Array Value) (n n2 : Nat) (dd dd2 : Option Addr) (sl sl2 : Array (Option Value)) (hsz : items.size = items2.size) (e lt : Nat → Bool) :
    Meets (Builtin.«list.__lt__» ⟨[.ref l, .ref b], []⟩)
      (fun A R s => s.heap.get? l = some { cls := .type "list", dict := dd, data := .seq items n, slots := sl } ∧ s.heap.get? b = some { cls := .type "list", dict := dd2, data := .seq items2 n2, slots := sl2 } ∧
        (∀ j (h1 : j < items.size) (h2 : j < items2.size), EqAt A.in1 s items[j] items2[j] (e j) ∧ RcOp .Lt A.in1 s items[j] items2[j] (lt j)) ∧
        R (.ok (.ret (.bool (firstB e lt (List.range items.size))))) s) := by
  intro prog w A R s h
  obtain ⟨hp, g, d, tk, os⟩ := s; obtain ⟨hl, hb, he, h⟩ := h
  have f3 := AutoSeq1.sub_list_list
  wp_walk using wpAny_loadPart' hl, wpAny_loadPart' hb
  exact ⟨plainId_quiet plain_eq_loop _, codeAny_builtin entry_eq_loop (by
    rw [Around.under_plainId plain_eq_loop _]
    exact lt_loop l b items items2 n n2 dd dd2 sl sl2 hsz e lt _ 0 rfl prog w A R _ ⟨hl, hb, he, by simpa using h⟩)⟩
theorem RcOp.lists_lt {A : Around} {s : Shared} {l b : Addr} {items items2 : Array Value} {e lt : Nat → Bool} (hl : s.heap.IsList l items) (hb : s.heap.IsList b items2) (hsz : items.size = items2.size) (hu : A.units < cLine)
    (he : ∀ j (h1 : j < items.size) (h2 : j < items2.size), EqAt A.in1 s items[j] items2[j] (e j) ∧ RcOp .Lt A.in1 s items[j] items2[j] (lt j)) : RcOp .Lt A s (.ref l) (.ref b) (firstB e lt (List.range items.size)) := fun prog w E Q h => by
  obtain ⟨⟨cls, dd, data, sl⟩, ho, hc, n, hd⟩ := id hl
  obtain ⟨⟨cls2, dd2, data2, sl2⟩, ho2, hc2, n2, hd2⟩ := id hb
  simp only at hc hd hc2 hd2
  subst hc hd hc2 hd2
  exact richCompare_meets_room (op := .Lt) ⟨_, ho, rfl⟩ ⟨_, ho2, rfl⟩ F.slot_list_lt F.entry_list_lt (F.args_list_lt_2 _ _) (list_ltM l b items items2 n n2 dd dd2 sl sl2 hsz e lt)
    ⟨ho, ho2, he, show Value.bool (firstB e lt (List.range items.size)) ≠ Value.notImplemented ∧ Q (.bool (firstB e lt (List.range items.size))) s from ⟨(fun x => nomatch x), h⟩⟩ hu
theorem gt_loop (l b : Addr) (items items2 : Array Value) (n n2 : Nat) (dd dd2 : Option Addr) (sl sl2 : Array (Option Value)) (hsz : items.size = items2.size) (e lt : Nat → Bool) (k : Nat) :
    ∀ i : Nat, items.size - i = k → Meets (Builtin.«list.__eq__.loop» ⟨[.ref l, .ref b, rawInt i, rawInt 4], []⟩)
      (fun A R s => s.heap.get? l = some { cls := .type "list", dict := dd, data := .seq items n, slots := sl } ∧ s.heap.get? b = some { cls := .type "list", dict := dd2, data := .seq items2 n2, slots := sl2 } ∧
        (∀ j (h1 : j < items.size) (h2 : j < items2.size), EqAt A.in1 s items[j] items2[j] (e j) ∧ RcOp .Gt A.in1 s items[j] items2[j] (lt j)) ∧
        R (.ok (.ret (.bool (firstB e lt ((List.range items.size).drop i))))) s) := by
  induction k with
  | zero =>
    intro i hk prog w A R s h
    obtain ⟨hp, g, d, tk, os⟩ := s; obtain ⟨hl, hb, he, h⟩ := h
    wp_walk using wpAny_loadPart' hl, wpAny_loadPart' hb
    have hi1 : items[((i : Nat) : Int).toNat]? = none := by simp; omega
    have hi2 : items2[((i : Nat) : Int).toNat]? = none := by simp; omega
    have hd : (List.range items.size).drop i = [] := by simp; omega
    rw [hd] at h
    rw [hi1, hi2]
    wp_walk using wpAny_loadPart' hl, wpAny_loadPart' hb
    show R (.ok (.ret (.bool (decide (items2.size < items.size))))) _
    rw [hsz]
    simpa [firstB] using h
  | succ k ih =>
    intro i hk prog w A R s h
    obtain ⟨hp, g, d, tk, os⟩ := s; obtain ⟨hl, hb, he, h⟩ := h
    wp_walk using wpAny_loadPart' hl, wpAny_loadPart' hb
    have hlt : i < items.size := by omega
    have hlt2 : i < items2.size := by omega
    have hi1 : items[((i : Nat) : Int).toNat]? = some items[i] := by simp [hlt]
    have hi2 : items2[((i : Nat) : Int).toNat]? = some items2[i] := by simp [hlt2]
    have hd : (List.range items.size).drop i = i :: (List.range items.size).drop (i + 1) := by simp [List.drop_eq_getElem_cons, hlt]
    have hc : ((i : Int) + 1) = ((i + 1 : Nat) : Int) := by push_cast; rfl
    rw [hd, firstB] at h
    rw [hi1, hi2]
    refine wpAny_bind ((he i hlt hlt2).1 prog w _ _ ?_)
    cases hb' : e i with
    | true =>
      rw [hb'] at h
      wp_walk
      rw [hc]
      exact ⟨plainId_quiet plain_eq_loop _, codeAny_builtin entry_eq_loop (by
        rw [Around.under_plainId plain_eq_loop _]
        exact ih (i + 1) (by omega) prog w A R _ ⟨hl, hb, he, by simpa using h⟩)⟩
    | false =>
      rw [hb'] at h
      wp_walk using wpAny_loadPart' hl, wpAny_loadPart' hb
      rw [hi1, hi2]
      refine wpAny_bind ((he i hlt hlt2).2 prog w _ _ ?_)
      wp_walk
      simpa using h
theorem list_gtM (l b : Addr) (items items2 : Array Value) (n n2 : Nat) (dd dd2 : Option Addr) (sl sl2 : Array (Option Value)) (hsz : items.size = items2.size) (e lt : Nat → Bool) :
    Meets (Builtin.«list.__gt__» ⟨[.ref l, .ref b], []⟩)
      (fun A R s => s.heap.get? l = some { cls := .type "list", dict := dd, data := .seq items n, slots := sl } ∧ s.heap.get? b = some { cls := .type "list", dict := dd2, data := .seq items2 n2, slots := sl2 } ∧
        (∀ j (h1 : j < items.size) (h2 : j < items2.size), EqAt A.in1 s items[j] items2[j] (e j) ∧ RcOp .Gt A.in1 s items[j] items2[j] (lt j)) ∧
        R (.ok (.ret (.bool (firstB e lt (List.range items.size))))) s) := by
  intro prog w A R s h
  obtain ⟨hp, g, d, tk, os⟩ := s; obtain ⟨hl, hb, he, h⟩ := h
  have f3 := AutoSeq1.sub_list_list
  wp_walk using wpAny_loadPart' hl, wpAny_loadPart' hb
  exact ⟨plainId_quiet plain_eq_loop _, codeAny_builtin entry_eq_loop (by
    rw [Around.under_plainId plain_eq_loop _]
    exact gt_loop l b items items2 n n2 dd dd2 sl sl2 hsz e lt _ 0 rfl prog w A R _ ⟨hl, hb, he, by simpa using h⟩)⟩
theorem RcOp.lists_gt {A : Around} {s : Shared} {l b : Addr} {items items2 : Array Value} {e lt : Nat → Bool} (hl : s.heap.IsList l items) (hb : s.heap.IsList b items2) (hsz : items.size = items2.size) (hu : A.units < cLine)
    (he : ∀ j (h1 : j < items.size) (h2 : j < items2.size), EqAt A.in1 s items[j] items2[j] (e j) ∧ RcOp .Gt A.in1 s items[j] items2[j] (lt j)) : RcOp .Gt A s (.ref l) (.ref b) (firstB e lt (List.range items.size)) := fun prog w E Q h => by
  obtain ⟨⟨cls, dd, data, sl⟩, ho, hc, n, hd⟩ := id hl
  obtain ⟨⟨cls2, dd2, data2, sl2⟩, ho2, hc2, n2, hd2⟩ := id hb
  simp only at hc hd hc2 hd2
  subst hc hd hc2 hd2
  exact richCompare_meets_room (op := .Gt) ⟨_, ho, rfl⟩ ⟨_, ho2, rfl⟩ F.slot_list_gt F.entry_list_gt (F.args_list_gt_2 _ _) (list_gtM l b items items2 n n2 dd dd2 sl sl2 hsz e lt)
    ⟨ho, ho2, he, show Value.bool (firstB e lt (List.range items.size)) ≠ Value.notImplemented ∧ Q (.bool (firstB e lt (List.range items.size))) s from ⟨(fun x => nomatch x), h⟩⟩ hu
open SeqAt
noncomputable def lexI (lt : Int → Int → Bool) (ns ms : List Int) : Bool := firstB (fun j => ns.getD j 0 == ms.getD j 0) (fun j => lt (ns.getD j 0) (ms.getD j 0)) (List.range ns.length)
theorem intsAt {vs : List Value} {ns : List Int} (h : IntsAre vs ns) : vs.length = ns.length ∧ ∀ (j : Nat) (v : Value), vs[j]? = some v → ∃ t, v = Value.int (ns.getD j 0) t := by
  induction ns generalizing vs with
  | nil => cases h; exact ⟨rfl, fun j v q => by simp at q⟩
  | cons n ns ih =>
    cases h with
    | cons n t r =>
      refine ⟨by simp [(ih r).1], fun j v q => ?_⟩
      cases j with
      | zero => simp at q; exact ⟨t, by simp [q]⟩
      | succ j => simpa using (ih r).2 j v (by simpa using q)
section
variable {prog : Program} {w : World} {A : Around} {E : Value → Shared → Prop} {s : Shared} {fz : Fz} {fs : List Addr} {va vb : Value} {ns ms : List Int}
theorem lists_lt_good (hu : A.units < cLine) (hf : FzIn fz s.heap) (ra : Rep fz va (.list (ns.map .int))) (rb : Rep fz vb (.list (ms.map .int))) (hlen : ns.length = ms.length) :
    wpAny (model prog w) A (compareOp .Lt va vb) (Good fs fz s (.bool (lexI (fun a b => decide (a < b)) ns ms))) E s := by
  obtain ⟨a, vs, rfl, e1, r1⟩ := rep_list_inv ra
  obtain ⟨b, ws, rfl, e2, r2⟩ := rep_list_inv rb
  have i1 := intsAt (repInts r1)
  have i2 := intsAt (repInts r2)
  have hz : vs.toArray.size = ws.toArray.size := by simp [i1.1, i2.1, hlen]
  have q := RcOp.lists_lt (A := A) (e := fun j => ns.getD j 0 == ms.getD j 0) (lt := fun j => decide (ns.getD j 0 < ms.getD j 0)) (hf.isList e1) (hf.isList e2) hz hu fun j h1 h2 => by
    obtain ⟨t, p1⟩ := i1.2 j vs.toArray[j] (by simp)
    obtain ⟨u, p2⟩ := i2.2 j ws.toArray[j] (by simp)
    rw [p1, p2]
    exact ⟨EqAt.int_int _ _ _ _, fun prog w E Q h => lt_int h⟩
  refine q prog w E _ ?_
  rw [show vs.toArray.size = ns.length by simp [i1.1]]
  exact Good.here hf (.bool _)
theorem lists_gt_good (hu : A.units < cLine) (hf : FzIn fz s.heap) (ra : Rep fz va (.list (ns.map .int))) (rb : Rep fz vb (.list (ms.map .int))) (hlen : ns.length = ms.length) :
    wpAny (model prog w) A (compareOp .Gt va vb) (Good fs fz s (.bool (lexI (fun a b => decide (b < a)) ns ms))) E s := by
  obtain ⟨a, vs, rfl, e1, r1⟩ := rep_list_inv ra
  obtain ⟨b, ws, rfl, e2, r2⟩ := rep_list_inv rb
  have i1 := intsAt (repInts r1)
  have i2 := intsAt (repInts r2)
  have hz : vs.toArray.size = ws.toArray.size := by simp [i1.1, i2.1, hlen]
  have q := RcOp.lists_gt (A := A) (e := fun j => ns.getD j 0 == ms.getD j 0) (lt := fun j => decide (ms.getD j 0 < ns.getD j 0)) (hf.isList e1) (hf.isList e2) hz hu fun j h1 h2 => by
    obtain ⟨t, p1⟩ := i1.2 j vs.toArray[j] (by simp)
    obtain ⟨u, p2⟩ := i2.2 j ws.toArray[j] (by simp)
    rw [p1, p2]
    exact ⟨EqAt.int_int _ _ _ _, fun prog w E Q h => gt_int h⟩
  refine q prog w E _ ?_
  rw [show vs.toArray.size = ns.length by simp [i1.1]]
  exact Good.here hf (.bool _)
end
end Mine
end
section
open PySem PySem.W PyProof.Rows
namespace Mine
section
variable {prog : Program} {w : World} {A : Around} {E : Value → Shared → Prop} {s : Shared} {fz : Fz} {fs : List Addr}
theorem bin_ints {op : Operator} {f : Int → Int → Res} {a b d : PyData} {va vb : Value} (ra : Rep fz va a) (rb : Rep fz vb b) (h : int2 f a b = .ok d)
    (k : ∀ x y t u, f x y = .ok d → wpAny (model prog w) A (binaryOp op (.int x t) (.int y u)) (Good fs fz s d) E s) : wpAny (model prog w) A (binaryOp op va vb) (Good fs fz s d) E s := by
  obtain ⟨x, y, rfl, rfl, h9⟩ := int2_ok h (fun q => by cases q)
  obtain ⟨t, rfl⟩ := rep_int_inv ra
  obtain ⟨u, rfl⟩ := rep_int_inv rb
  exact k x y t u h9
theorem ifp_ok {p : Prop} [Decidable p] {x d : PyData} (h : (if p then Res.ok x else .bad) = .ok d) : p ∧ d = x := by
  by_cases q : p
  · rw [if_pos q] at h; cases h; exact ⟨q, rfl⟩
  · rw [if_neg q] at h; cases h
theorem opAdd_ok {a b d : PyData} (h : opAdd a b = .ok d) : (∃ xs ys, a = .list xs ∧ b = .list ys ∧ xs.length + ys.length ≤ 100000 ∧ d = .list (xs ++ ys)) ∨ int2 (fun x y => .ok (.int (x + y))) a b = .ok d := by
  cases a with
  | list xs => cases b with
    | list ys =>
      obtain ⟨hl, rfl⟩ := ifp_ok (show (if xs.length + ys.length ≤ 100000 then Res.ok (.list (xs ++ ys)) else .bad) = .ok d from h)
      exact .inl ⟨xs, ys, rfl, rfl, hl, rfl⟩
    | _ => cases h
  | _ => exact .inr h
theorem cat_good {xs ys : List PyData} {va vb : Value} (hl : xs.length + ys.length ≤ 100000) (hf : FzIn fz s.heap) (ra : Rep fz va (.list xs)) (rb : Rep fz vb (.list ys)) : wpAny (model prog w) A (binaryOp .Add va vb) (Good fs fz s (.list (xs ++ ys))) E s := by
  obtain ⟨l, vs, rfl, e1, r1⟩ := rep_list_inv ra
  obtain ⟨l2, ws, rfl, e2, r2⟩ := rep_list_inv rb
  obtain ⟨⟨cls, dd, data, sl⟩, n, ho, hc, hd⟩ := hf _ _ _ e1
  obtain ⟨⟨cls2, dd2, data2, sl2⟩, n2, ho2, hc2, hd2⟩ := hf _ _ _ e2
  simp only [Bool.false_eq_true, if_false] at hc hd hc2 hd2
  subst hc hd hc2 hd2
  have e : vs.toArray ++ ws.toArray = (vs ++ ws).toArray := by simp
  refine concat_meets ⟨_, ho, rfl⟩ ⟨_, ho2, rfl⟩ noFill_list_add seq_list_add PySem.F.slot_list_add PySem.F.entry_list_add (PySem.F.args_list_add_2 _ _) (list_addW l l2 vs.toArray ws.toArray n n2 dd dd2 sl sl2 (by
    have := r1.length; have := r2.length; simp only [List.size_toArray]; rw [sizeLine_eq]; omega)) ⟨ho, ho2, ?_⟩
  rw [e]
  exact Good.made (t := false) s.toks (fun b o e => Heap.get?_push_of_some _ e) hf (size_none _ (Nat.le_refl _)) (Heap.get?_push_size _ rfl) rfl rfl (r1.append r2)
theorem pow_small {a n : Int} (h1 : 0 ≤ n) (h2 : n ≤ 64) (h3 : a.natAbs < 2 ^ 60) : (Builtin.Int.intBits a : Int) * n ≤ 60 * 64 := by
  have : Builtin.Int.intBits a ≤ 60 := by
    unfold Builtin.Int.intBits
    split
    · omega
    · by_cases h0 : a.natAbs = 0
      · rw [h0]; decide
      · have := (Nat.log2_lt h0).mpr h3
        omega
  exact Int.mul_le_mul (by omega) h2 h1 (by omega)
theorem bin_good {op : Operator} {a b : PyData} {va vb : Value} {d : PyData} (hf : FzIn fz s.heap) (ra : Rep fz va a) (rb : Rep fz vb b) (h : opBin op a b = .ok d) :
    wpAny (model prog w) A (binaryOp op va vb) (Good fs fz s d) E s := by
  cases op with
  | Add =>
    rcases opAdd_ok h with ⟨xs, ys, rfl, rfl, hl, rfl⟩ | h
    · exact cat_good hl hf ra rb
    · exact bin_ints ra rb h fun x y t u q => by cases q; exact add_int (Good.same _ hf (.int _ _))
  | Sub => exact bin_ints ra rb h fun x y t u q => by cases q; exact sub_int (Good.same _ hf (.int _ _))
  | Mult => exact bin_ints ra rb h fun x y t u q => by obtain ⟨hb, rfl⟩ := ifp_ok q; exact mul_int (Good.same _ hf (.int _ _)) (mulOk_small hb)
  | FloorDiv => exact bin_ints ra rb h fun x y t u q => by obtain ⟨hb, rfl⟩ := ifp_ok q; exact floordiv_int hb.1 (Good.same _ hf (.int _ _)) (.inl (PyProof.noPylong_small (by omega)))
  | Mod => exact bin_ints ra rb h fun x y t u q => by obtain ⟨hb, rfl⟩ := ifp_ok q; exact mod_int' hb (Good.same _ hf (.int _ _))
  | Pow => exact bin_ints ra rb h fun x y t u q => by obtain ⟨hb, rfl⟩ := ifp_ok q; exact pow_int hb.1 (Int.le_trans (pow_small hb.1 hb.2.1 hb.2.2) (by decide)) (Good.same _ hf (.int _ _))
  | BitAnd => exact bin_ints ra rb h fun x y t u q => by cases q; exact and_int (Good.same _ hf (.int _ _))
  | _ => cases h
/-! comparisons -/
noncomputable def intsOf : List PyData → Option (List Int)
  | [] => some []
  | .int i :: r => (intsOf r).map (i :: ·)
  | _ :: _ => none
theorem intsOf_eq : ∀ {ds : List PyData} {ns : List Int}, intsOf ds = some ns → ds = ns.map PyData.int
  | [], ns, h => by cases h; rfl
  | d :: r, ns, h => by
    cases d <;> simp [intsOf] at h
    obtain ⟨ms, h1, rfl⟩ := h
    simp [← intsOf_eq h1]
/-- a text lies in a text -/
noncomputable def strIn (y x : Str) : Bool := !(Builtin.Str.occurrences x y 0 x.length 1).isEmpty
noncomputable def intB (f : Int → Int → Bool) (a b : PyData) : Res := int2 (fun x y => .ok (.bool (f x y))) a b
/-- four bits, the first the highest -/
noncomputable def b01 : List Int := [0, 1]
noncomputable def b4 : List Int → Option Int
  | [a, b, c, d] => if (b01.contains a && b01.contains b && (b01.contains c && b01.contains d)) = true then some (8 * a + 4 * b + 2 * c + d) else none
  | _ => none
noncomputable def bits4 (xs : List PyData) : Option Int := (intsOf xs).bind b4
noncomputable def bits2 (f : Int → Int → Bool) (xs : List PyData) : PyData → Res
  | .list ys => match bits4 xs, bits4 ys with
    | some m, some n => .ok (.bool (f m n))
    | _, _ => .bad
  | _ => .bad
noncomputable def ltB (f : Int → Int → Bool) : PyData → PyData → Res
  | .list xs, b => bits2 f xs b
  | a, b => intB f a b
theorem bits4_some {xs : List PyData} {m : Int} (h : bits4 xs = some m) : ∃ a b c d : Int, xs = [a, b, c, d].map .int ∧ a ∈ b01 ∧ b ∈ b01 ∧ c ∈ b01 ∧ d ∈ b01 ∧ m = 8 * a + 4 * b + 2 * c + d := by
  obtain ⟨ns, h1, h2⟩ := Option.bind_eq_some_iff.mp h
  rw [intsOf_eq h1]
  match ns, h2 with
  | [a, b, c, d], h2 =>
    by_cases q : (b01.contains a && b01.contains b && (b01.contains c && b01.contains d)) = true
    · have h3 : some (8 * a + 4 * b + 2 * c + d) = some m := by rw [← h2]; exact (if_pos q).symm
      have q1 := Bool.and_eq_true_iff.mp q
      have q2 := Bool.and_eq_true_iff.mp q1.1
      have q3 := Bool.and_eq_true_iff.mp q1.2
      exact ⟨a, b, c, d, rfl, List.contains_iff_mem.mp q2.1, List.contains_iff_mem.mp q2.2, List.contains_iff_mem.mp q3.1, List.contains_iff_mem.mp q3.2, (Option.some.inj h3).symm⟩
    · have h3 : none = some m := by rw [← h2]; exact (if_neg q).symm
      cases h3
theorem ltB_lists {f : Int → Int → Bool} {xs : List PyData} {b d : PyData} (h : ltB f (.list xs) b = .ok d) : ∃ ys m n, b = .list ys ∧ bits4 xs = some m ∧ bits4 ys = some n ∧ d = .bool (f m n) := by
  have h : bits2 f xs b = .ok d := h
  cases b with
  | list ys =>
    unfold bits2 at h
    dsimp only at h
    split at h
    · rename_i m n q1 q2; cases h; exact ⟨_, _, _, rfl, q1, q2, rfl⟩
    · cases h
  | _ => cases h
noncomputable def lexOk : Bool := b01.all fun a => b01.all fun b => b01.all fun c => b01.all fun d => b01.all fun a' => b01.all fun b' => b01.all fun c' => b01.all fun d' =>
  (lexI (fun x y => decide (x < y)) [a, b, c, d] [a', b', c', d'] == decide (8 * a + 4 * b + 2 * c + d < 8 * a' + 4 * b' + 2 * c' + d')) && (lexI (fun x y => decide (y < x)) [a, b, c, d] [a', b', c', d'] == decide (8 * a' + 4 * b' + 2 * c' + d' < 8 * a + 4 * b + 2 * c + d))
theorem lex_ok : lexOk = true := by decide +kernel
theorem lex_lt {a b c d a' b' c' d' : Int} (ha : a ∈ b01) (hb : b ∈ b01) (hc : c ∈ b01) (hd : d ∈ b01) (ha' : a' ∈ b01) (hb' : b' ∈ b01) (hc' : c' ∈ b01) (hd' : d' ∈ b01) :
    lexI (fun x y => decide (x < y)) [a, b, c, d] [a', b', c', d'] = decide (8 * a + 4 * b + 2 * c + d < 8 * a' + 4 * b' + 2 * c' + d') ∧ lexI (fun x y => decide (y < x)) [a, b, c, d] [a', b', c', d'] = decide (8 * a' + 4 * b' + 2 * c' + d' < 8 * a + 4 * b + 2 * c + d) := by
  have h := lex_ok
  unfold lexOk at h
  have h := List.all_eq_true.mp h _ ha
  have h := List.all_eq_true.mp h _ hb
  have h := List.all_eq_true.mp h _ hc
  have h := List.all_eq_true.mp h _ hd
  have h := List.all_eq_true.mp h _ ha'
  have h := List.all_eq_true.mp h _ hb'
  have h := List.all_eq_true.mp h _ hc'
  have h := Bool.and_eq_true_iff.mp (List.all_eq_true.mp h _ hd')
  exact ⟨eq_of_beq h.1, eq_of_beq h.2⟩
noncomputable def bool2 (f : Bool → Bool → Bool) : PyData → PyData → Res
  | .bool x, b => (match b with
    | .bool y => .ok (.bool (f x y))
    | _ => .bad)
  | _, _ => .bad
noncomputable def strB (neg : Bool) (x : Str) : PyData → Res
  | .str y => .ok (.bool (strIn y x != neg))
  | _ => .bad
/-- a thing lies in a text, in a list -/
noncomputable def inB (neg : Bool) (a : PyData) : PyData → Res
  | .str x => strB neg x a
  | .list ds => if okD a && okD (.list ds) then .ok (.bool ((ds.any fun y => PyData.eqv y a) != neg)) else .bad
  | _ => .bad
noncomputable def opCmp : CmpOp → PyData → PyData → Res
  | .Eq, a, b => if okD a && okD b then .ok (.bool (PyData.eqv a b)) else .bad
  | .NotEq, a, b => if okD a && okD b then .ok (.bool (!PyData.eqv a b)) else .bad
  | .Lt, a, b => ltB (fun a b => decide (a < b)) a b
  | .LtE, a, b => intB (fun a b => decide (a ≤ b)) a b
  | .Gt, a, b => ltB (fun a b => decide (b < a)) a b
  | .GtE, _, _ => .bad
  | .Is, a, b => bool2 (fun a b => a == b) a b
  | .IsNot, a, b => bool2 (fun a b => !(a == b)) a b
  | .In, a, b => inB false a b
  | .NotIn, a, b => inB true a b
theorem okD_list_lay {ds : List PyData} (h : okD (.list ds) = true) : PyData.canLayAll0 ds = true := by
  have := (okN_lay 6 _ h).1
  simpa [PyData.canLay0] using this
theorem okD_lay {d : PyData} (h : okD d = true) : d.canLay0 = true ∧ d.depth ≤ 6 := okN_lay 6 _ h
theorem cmp_ints {op : CmpOp} {f : Int → Int → Bool} {a b d : PyData} {va vb : Value} (hf : FzIn fz s.heap) (ra : Rep fz va a) (rb : Rep fz vb b) (h : intB f a b = .ok d)
    (k : ∀ x y t u, Good fs fz s (.bool (f x y)) (.bool (f x y)) s → wpAny (model prog w) A (compareOp op (.int x t) (.int y u)) (Good fs fz s (.bool (f x y))) E s) : wpAny (model prog w) A (compareOp op va vb) (Good fs fz s d) E s := by
  obtain ⟨x, y, rfl, rfl, h9⟩ := int2_ok h (fun q => by cases q)
  obtain ⟨t, rfl⟩ := rep_int_inv ra
  obtain ⟨u, rfl⟩ := rep_int_inv rb
  cases h9
  exact k x y t u (Good.here hf (.bool _))
theorem bool2_ok {f : Bool → Bool → Bool} {a b d : PyData} (h : bool2 f a b = .ok d) : ∃ x y, a = .bool x ∧ b = .bool y ∧ d = .bool (f x y) := by
  cases a with
  | bool x => cases b with
    | bool y => cases h; exact ⟨x, y, rfl, rfl, rfl⟩
    | _ => cases h
  | _ => cases h
theorem cmp_lists {op : CmpOp} {f : Int → Int → Bool} {a b d : PyData} {va vb : Value} (hf : FzIn fz s.heap) (ra : Rep fz va a) (rb : Rep fz vb b) (h : ltB f a b = .ok d)
    (k : ∀ x y t u, Good fs fz s (.bool (f x y)) (.bool (f x y)) s → wpAny (model prog w) A (compareOp op (.int x t) (.int y u)) (Good fs fz s (.bool (f x y))) E s)
    (l : ∀ ns ms : List Int, Rep fz va (.list (ns.map .int)) → Rep fz vb (.list (ms.map .int)) → ns.length = ms.length → wpAny (model prog w) A (compareOp op va vb) (Good fs fz s (.bool (lexI f ns ms))) E s)
    (e : ∀ {a b c d a' b' c' d' : Int}, a ∈ b01 → b ∈ b01 → c ∈ b01 → d ∈ b01 → a' ∈ b01 → b' ∈ b01 → c' ∈ b01 → d' ∈ b01 → lexI f [a, b, c, d] [a', b', c', d'] = f (8 * a + 4 * b + 2 * c + d) (8 * a' + 4 * b' + 2 * c' + d')) : wpAny (model prog w) A (compareOp op va vb) (Good fs fz s d) E s := by
  cases a with
  | list xs =>
    obtain ⟨ys, m, n, rfl, e1, e2, rfl⟩ := ltB_lists h
    obtain ⟨a1, a2, a3, a4, rfl, k1, k2, k3, k4, rfl⟩ := bits4_some e1
    obtain ⟨b1, b2, b3, b4, rfl, j1, j2, j3, j4, rfl⟩ := bits4_some e2
    rw [← e k1 k2 k3 k4 j1 j2 j3 j4]
    exact l _ _ ra rb rfl
  | _ => exact cmp_ints hf ra rb h k
theorem if_ok {c : Bool} {x d : PyData} (h : (if c = true then Res.ok x else .bad) = .ok d) : c = true ∧ d = x := by
  cases c with
  | true => cases h; exact ⟨rfl, rfl⟩
  | false => cases h
theorem inB_list {neg : Bool} {a b d : PyData} (h : inB neg a b = .ok d) : (∃ x y, b = .str x ∧ a = .str y ∧ d = .bool (strIn y x != neg)) ∨ ∃ ds, b = .list ds ∧ okD a = true ∧ okD (.list ds) = true ∧ d = .bool ((ds.any fun y => PyData.eqv y a) != neg) := by
  cases b with
  | str x => cases a with
    | str y => cases h; exact .inl ⟨x, y, rfl, rfl, rfl⟩
    | _ => cases h
  | list ds =>
    obtain ⟨hk, rfl⟩ := if_ok (show (if (okD a && okD (.list ds)) = true then Res.ok (.bool ((ds.any fun y => PyData.eqv y a) != neg)) else .bad) = .ok d from h)
    exact .inr ⟨ds, rfl, (Bool.and_eq_true_iff.mp hk).1, (Bool.and_eq_true_iff.mp hk).2, rfl⟩
  | _ => cases h
theorem cmp_good {op : CmpOp} {a b : PyData} {va vb : Value} {d : PyData} (hu : A.units + 70 < cLine) (hf : FzIn fz s.heap) (ra : Rep fz va a) (rb : Rep fz vb b) (h : opCmp op a b = .ok d) :
    wpAny (model prog w) A (compareOp op va vb) (Good fs fz s d) E s := by
  have hu0 : A.units < cLine := Nat.lt_of_le_of_lt (Nat.le_add_right _ _) hu
  have ib : ∀ x y : Bool, (Value.bool x == Value.bool y) = (x == y) := fun x y => by cases x <;> cases y <;> rfl
  cases op with
  | Eq =>
    obtain ⟨hk, rfl⟩ := if_ok (show (if (okD a && okD b) = true then Res.ok (.bool (PyData.eqv a b)) else .bad) = .ok d from h)
    obtain ⟨k1, k2⟩ := Bool.and_eq_true_iff.mp hk
    obtain ⟨_, q1⟩ := ra.reads hf k1; obtain ⟨_, q2⟩ := rb.reads hf k2
    exact eq_dataH q1 q2 (okD_shaped k1) (okD_shaped k2) (by omega) (Good.here hf (.bool _))
  | NotEq =>
    obtain ⟨hk, rfl⟩ := if_ok (show (if (okD a && okD b) = true then Res.ok (.bool (!PyData.eqv a b)) else .bad) = .ok d from h)
    obtain ⟨k1, k2⟩ := Bool.and_eq_true_iff.mp hk
    obtain ⟨_, q1⟩ := ra.reads hf k1; obtain ⟨_, q2⟩ := rb.reads hf k2
    exact ne_dataH q1 q2 (okD_shaped k1) (okD_shaped k2) (by omega) (Good.here hf (.bool _))
  | Lt => exact cmp_lists hf ra rb h (fun _ _ _ _ g => lt_int g) (fun _ _ r1 r2 e => lists_lt_good hu0 hf r1 r2 e) fun k1 k2 k3 k4 j1 j2 j3 j4 => (lex_lt k1 k2 k3 k4 j1 j2 j3 j4).1
  | LtE => exact cmp_ints hf ra rb h fun _ _ _ _ g => le_int g
  | Gt => exact cmp_lists hf ra rb h (fun _ _ _ _ g => gt_int g) (fun _ _ r1 r2 e => lists_gt_good hu0 hf r1 r2 e) fun k1 k2 k3 k4 j1 j2 j3 j4 => (lex_lt k1 k2 k3 k4 j1 j2 j3 j4).2
  | GtE => cases h
  | Is =>
    obtain ⟨x, y, rfl, rfl, rfl⟩ := bool2_ok h
    cases rep_bool_inv ra; cases rep_bool_inv rb
    refine wpAny_is_plain rfl ?_
    rw [ib]; exact Good.here hf (.bool _)
  | IsNot =>
    obtain ⟨x, y, rfl, rfl, rfl⟩ := bool2_ok h
    cases rep_bool_inv ra; cases rep_bool_inv rb
    refine wpAny_isNot_plain rfl ?_
    rw [ib]; exact Good.here hf (.bool _)
  | In =>
    rcases inB_list h with ⟨x, y, rfl, rfl, rfl⟩ | ⟨ds, rfl, k1, k2, rfl⟩
    · obtain ⟨t, rfl⟩ := rep_str_inv ra; obtain ⟨u, rfl⟩ := rep_str_inv rb
      rw [Bool.bne_false]; exact in_str (Good.here hf (.bool _))
    · obtain ⟨_, q1⟩ := ra.reads hf k1; obtain ⟨_, q2⟩ := rb.reads hf k2
      have := (okD_lay k1).2
      rw [Bool.bne_false]; exact SeqAt.in_list_reads q2 q1 (okD_list_lay k2) (okD_lay k1).1 (by omega) (Good.here hf (.bool _))
  | NotIn =>
    rcases inB_list h with ⟨x, y, rfl, rfl, rfl⟩ | ⟨ds, rfl, k1, k2, rfl⟩
    · obtain ⟨t, rfl⟩ := rep_str_inv ra; obtain ⟨u, rfl⟩ := rep_str_inv rb
      rw [Bool.bne_true]; exact notIn_str (Good.here hf (.bool _))
    · obtain ⟨_, q1⟩ := ra.reads hf k1; obtain ⟨_, q2⟩ := rb.reads hf k2
      have := (okD_lay k1).2
      rw [Bool.bne_true]; exact SeqAt.notIn_list_reads q2 q1 (okD_list_lay k2) (okD_lay k1).1 (by omega) (Good.here hf (.bool _))
end
end Mine
end
section
open PySem PySem.W PyProof.Rows
namespace Mine
/-! truth -/
noncomputable def truth : PyData → Option Bool
  | .bool b => some b
  | .int i => some (i != 0)
  | .list ds => if ds.length ≤ 100000 then some (!ds.isEmpty) else none
  | .none => some false
  | _ => none
/-! items -/
noncomputable def getR (o : Option PyData) (r : Res) : Res := match o with
  | some d => .ok d
  | none => r
theorem getR_ok {o : Option PyData} {r : Res} {d : PyData} (h : getR o r = .ok d) (hr : r ≠ .ok d) : o = some d := by
  cases o with
  | some e => cases h; rfl
  | none => exact absurd h hr
theorem getR_exc {o : Option PyData} {r : Res} {k : String} (h : getR o r = .exc k) : o = none ∧ r = .exc k := by
  cases o with
  | some e => cases h
  | none => exact ⟨rfl, h⟩
noncomputable def idxAt : PyData → Nat → Res
  | .list ds, n => getR ds[n]? (.exc "IndexError")
  | .tuple ds, n => getR ds[n]? .bad
  | .str x, n => getR (x.cps[n]?.map fun c => .str ⟨#[c]⟩) .bad
  | _, _ => .bad
noncomputable def opIdx (x : PyData) : PyData → Res
  | .int k => if 0 ≤ k ∧ k < 2 ^ 62 then idxAt x k.toNat else .bad
  | _ => .bad
theorem opIdx_inv {x y : PyData} {r : Res} (h : opIdx x y = r) (hr : r ≠ .bad) : ∃ k : Nat, y = .int (k : Int) ∧ k < 2 ^ 62 ∧ idxAt x k = r := by
  cases y with
  | int k =>
    have h : (if 0 ≤ k ∧ k < 2 ^ 62 then idxAt x k.toNat else .bad) = r := h
    by_cases q : 0 ≤ k ∧ k < 2 ^ 62
    · rw [if_pos q] at h
      exact ⟨k.toNat, by rw [Int.toNat_of_nonneg q.1], by omega, h⟩
    · rw [if_neg q] at h; exact absurd h.symm hr
  | _ => exact absurd h.symm hr
theorem idxAt_ok {x d : PyData} {k : Nat} (h : idxAt x k = .ok d) : (∃ ds, x = .list ds ∧ ds[k]? = some d) ∨ (∃ ds, x = .tuple ds ∧ ds[k]? = some d) ∨ ∃ y c, x = .str y ∧ y.cps[k]? = some c ∧ d = .str ⟨#[c]⟩ := by
  cases x with
  | list ds => exact .inl ⟨ds, rfl, getR_ok h (fun q => by cases q)⟩
  | tuple ds => exact .inr (.inl ⟨ds, rfl, getR_ok h (fun q => by cases q)⟩)
  | str y =>
    obtain ⟨c, h1, h2⟩ := Option.map_eq_some_iff.mp (getR_ok h (fun q => by cases q))
    exact .inr (.inr ⟨y, c, rfl, h1, h2.symm⟩)
  | _ => cases h
theorem idxAt_exc {x : PyData} {k : Nat} {e : String} (h : idxAt x k = .exc e) : ∃ ds, x = .list ds ∧ e = "IndexError" ∧ ds.length ≤ k := by
  cases x with
  | list ds =>
    obtain ⟨h1, h2⟩ := getR_exc h
    cases h2
    exact ⟨ds, rfl, rfl, List.getElem?_eq_none_iff.mp h1⟩
  | tuple ds => cases (getR_exc h).2
  | str y => cases (getR_exc h).2
  | _ => cases h
/-- a bound of a slice -/
noncomputable def partN : Option PyData → Option (Option Nat)
  | none => some none
  | some d => (match d with
    | .int a => if 0 ≤ a then some (some a.toNat) else none
    | _ => none)
noncomputable def cutL {α : Type} (ds : List α) (l u : Option Nat) : List α := (u.elim ds ds.take).drop (l.getD 0)
noncomputable def cutD (ds : List PyData) : Option (Option Nat) → Option (Option Nat) → Res
  | some l, some u => .ok (.list (cutL ds l u))
  | _, _ => .bad
noncomputable def opSlice (x : PyData) (lo hi : Option PyData) : Res := match x with
  | .list ds => if ds.length ≤ 100000 then cutD ds (partN lo) (partN hi) else .bad
  | _ => .bad
theorem opSlice_inv {x : PyData} {lo hi : Option PyData} {r : Res} (h : opSlice x lo hi = r) (hr : r ≠ .bad) : ∃ ds l u, x = .list ds ∧ ds.length ≤ 100000 ∧ partN lo = some l ∧ partN hi = some u ∧ r = .ok (.list (cutL ds l u)) := by
  cases x with
  | list ds =>
    have h : (if ds.length ≤ 100000 then cutD ds (partN lo) (partN hi) else .bad) = r := h
    by_cases q : ds.length ≤ 100000
    · rw [if_pos q] at h
      cases e1 : partN lo with
      | none => rw [e1] at h; exact absurd h.symm hr
      | some l =>
        cases e2 : partN hi with
        | none => rw [e1, e2] at h; exact absurd h.symm hr
        | some u => rw [e1, e2] at h; exact ⟨ds, l, u, rfl, q, rfl, rfl, h.symm⟩
    · rw [if_neg q] at h; exact absurd h.symm hr
  | _ => exact absurd h.symm hr
/-! sorting by insertion -/
noncomputable def insI (a : Int) : List Int → List Int
  | [] => [a]
  | b :: r => if a ≤ b then a :: b :: r else b :: insI a r
noncomputable def sortI : List Int → List Int
  | [] => []
  | a :: r => insI a (sortI r)
theorem insI_perm (a : Int) : ∀ l, (insI a l).Perm (a :: l)
  | [] => .refl _
  | b :: r => by
    unfold insI
    split
    · exact .refl _
    · exact ((insI_perm a r).cons b).trans (.swap a b r)
theorem sortI_perm : ∀ l, (sortI l).Perm l
  | [] => .refl _
  | a :: r => (insI_perm a _).trans ((sortI_perm r).cons a)
theorem insI_sorted (a : Int) : ∀ l : List Int, l.Pairwise (· ≤ ·) → (insI a l).Pairwise (· ≤ ·)
  | [], _ => by simp [insI]
  | b :: r, h => by
    unfold insI
    obtain ⟨h1, h2⟩ := List.pairwise_cons.mp h
    split
    · rename_i hab
      exact List.pairwise_cons.mpr ⟨fun c hc => by rcases List.mem_cons.mp hc with rfl | hc; exact hab; exact Int.le_trans hab (h1 c hc), h⟩
    · rename_i hab
      refine List.pairwise_cons.mpr ⟨fun c hc => ?_, insI_sorted a r h2⟩
      rcases List.mem_cons.mp ((insI_perm a r).mem_iff.mp hc) with rfl | hc
      · omega
      · exact h1 c hc
theorem sortI_sorted : ∀ l : List Int, (sortI l).Pairwise (· ≤ ·)
  | [] => .nil
  | a :: r => insI_sorted a _ (sortI_sorted r)
theorem sorted_unique {l l' : List Int} (hp : l.Perm l') (h : l.Pairwise (· ≤ ·)) (h' : l'.Pairwise (· ≤ ·)) : l = l' :=
  hp.eq_of_pairwise (fun a b _ _ h1 h2 => Int.le_antisymm h1 h2) h h'
/-- lists of four bits, by their numbers -/
noncomputable def unbits (m : Int) : PyData := .list [.int (m / 8 % 2), .int (m / 4 % 2), .int (m / 2 % 2), .int (m % 2)]
noncomputable def bitsOf : List PyData → Option (List Int)
  | [] => some []
  | .list xs :: r => (bits4 xs).bind fun m => (bitsOf r).map (m :: ·)
  | _ :: _ => none
noncomputable def sortB (ds : List PyData) : Res := match bitsOf ds with
  | some ns => if 2 ≤ ns.length ∧ ns.length < 64 ∧ ns.Nodup then .ok (.list ((sortI ns).map unbits)) else .bad
  | none => .bad
theorem unb_ok : (b01.all fun a => b01.all fun b => b01.all fun c => b01.all fun d => ((8 * a + 4 * b + 2 * c + d) / 8 % 2 == a && (8 * a + 4 * b + 2 * c + d) / 4 % 2 == b) && ((8 * a + 4 * b + 2 * c + d) / 2 % 2 == c && (8 * a + 4 * b + 2 * c + d) % 2 == d)) = true := by decide +kernel
theorem bits4_unbits {xs : List PyData} {m : Int} (h : bits4 xs = some m) : PyData.list xs = unbits m := by
  obtain ⟨a, b, c, d, rfl, ha, hb, hc, hd, rfl⟩ := bits4_some h
  have q := List.all_eq_true.mp (List.all_eq_true.mp (List.all_eq_true.mp (List.all_eq_true.mp unb_ok a ha) b hb) c hc) d hd
  have q := Bool.and_eq_true_iff.mp q
  have q1 := Bool.and_eq_true_iff.mp q.1
  have q2 := Bool.and_eq_true_iff.mp q.2
  unfold unbits
  rw [eq_of_beq q1.1, eq_of_beq q1.2, eq_of_beq q2.1, eq_of_beq q2.2]; rfl
theorem bitsOf_at : ∀ {ds : List PyData} {ns : List Int}, bitsOf ds = some ns → ds = ns.map unbits ∧ ∀ m ∈ ns, ∃ xs, unbits m = .list xs ∧ bits4 xs = some m
  | [], ns, h => by cases h; exact ⟨rfl, fun m hm => by cases hm⟩
  | d :: r, ns, h => by
    cases d with
    | list xs =>
      simp only [bitsOf] at h
      obtain ⟨m, h1, h2⟩ := Option.bind_eq_some_iff.mp h
      obtain ⟨ms, h3, rfl⟩ := Option.map_eq_some_iff.mp h2
      obtain ⟨i1, i2⟩ := bitsOf_at h3
      refine ⟨by rw [List.map_cons, ← bits4_unbits h1, ← i1], fun k hk => ?_⟩
      rcases List.mem_cons.mp hk with rfl | hk
      · exact ⟨xs, (bits4_unbits h1).symm, h1⟩
      · exact i2 k hk
    | _ => cases h
inductive Bi where
  | len | sorted | sum | max | min | list
noncomputable def bestI (f : Int → Int → Int) : List Int → Option Int
  | [] => none
  | a :: r => some (r.foldl f a)
noncomputable def opBi : Bi → PyData → Res
  | .len, .list ds => if ds.length ≤ 100000 then .ok (.int ds.length) else .bad
  | .sorted, .list ds => match intsOf ds with
    | some ns => if ns.length < 64 then .ok (.list ((sortI ns).map .int)) else .bad
    | none => sortB ds
  | .sum, .list ds => match intsOf ds with
    | some ns => .ok (.int ns.sum)
    | none => .bad
  | .max, .list ds => match (intsOf ds).bind (bestI max) with
    | some m => .ok (.int m)
    | none => .bad
  | .min, .list ds => match (intsOf ds).bind (bestI min) with
    | some m => .ok (.int m)
    | none => .bad
  | .list, .list ds => if ds.length ≤ 100000 then .ok (.list ds) else .bad
  | _, _ => .bad
theorem foldl_max_ge : ∀ (r : List Int) (a : Int), a ≤ r.foldl max a ∧ ∀ b ∈ r, b ≤ r.foldl max a
  | [], a => ⟨Int.le_refl _, by simp⟩
  | c :: r, a => by
    obtain ⟨h1, h2⟩ := foldl_max_ge r (max a c)
    simp only [List.foldl_cons]
    refine ⟨by omega, fun b hb => ?_⟩
    rcases List.mem_cons.mp hb with rfl | hb
    · omega
    · exact h2 b hb
theorem foldl_max_mem : ∀ (r : List Int) (a : Int), r.foldl max a = a ∨ r.foldl max a ∈ r
  | [], a => .inl rfl
  | c :: r, a => by
    simp only [List.foldl_cons]
    rcases foldl_max_mem r (max a c) with h | h
    · rw [h]
      rcases Int.le_total a c with q | q
      · rw [Int.max_eq_right q]; exact .inr (.head _)
      · rw [Int.max_eq_left q]; exact .inl rfl
    · exact .inr (.tail _ h)
theorem foldl_min_le : ∀ (r : List Int) (a : Int), r.foldl min a ≤ a ∧ ∀ b ∈ r, r.foldl min a ≤ b
  | [], a => ⟨Int.le_refl _, by simp⟩
  | c :: r, a => by
    obtain ⟨h1, h2⟩ := foldl_min_le r (min a c)
    simp only [List.foldl_cons]
    refine ⟨by omega, fun b hb => ?_⟩
    rcases List.mem_cons.mp hb with rfl | hb
    · omega
    · exact h2 b hb
theorem foldl_min_mem : ∀ (r : List Int) (a : Int), r.foldl min a = a ∨ r.foldl min a ∈ r
  | [], a => .inl rfl
  | c :: r, a => by
    simp only [List.foldl_cons]
    rcases foldl_min_mem r (min a c) with h | h
    · rw [h]
      rcases Int.le_total a c with q | q
      · rw [Int.min_eq_left q]; exact .inl rfl
      · rw [Int.min_eq_right q]; exact .inr (.head _)
    · exact .inr (.tail _ h)
theorem bestI_max {ns : List Int} {m : Int} (h : bestI max ns = some m) : m ∈ ns ∧ (∀ a ∈ ns, a ≤ m) := by
  cases ns with
  | nil => cases h
  | cons a r =>
    cases h
    obtain ⟨h1, h2⟩ := foldl_max_ge r a
    refine ⟨?_, fun b hb => ?_⟩
    · rcases foldl_max_mem r a with h | h
      · rw [h]; exact .head _
      · exact .tail _ h
    · rcases List.mem_cons.mp hb with rfl | hb
      · exact h1
      · exact h2 b hb
theorem bestI_min {ns : List Int} {m : Int} (h : bestI min ns = some m) : m ∈ ns ∧ (∀ a ∈ ns, m ≤ a) := by
  cases ns with
  | nil => cases h
  | cons a r =>
    cases h
    obtain ⟨h1, h2⟩ := foldl_min_le r a
    refine ⟨?_, fun b hb => ?_⟩
    · rcases foldl_min_mem r a with h | h
      · rw [h]; exact .head _
      · exact .tail _ h
    · rcases List.mem_cons.mp hb with rfl | hb
      · exact h1
      · exact h2 b hb
section
variable {prog : Program} {w : World} {A : Around} {E : Value → Shared → Prop} {s : Shared} {fz : Fz} {fs : List Addr}
theorem truth_good {d : PyData} {v : Value} {b : Bool} {Q : Bool → Shared → Prop} (hf : FzIn fz s.heap) (r : Rep fz v d) (h : truth d = some b) (hQ : ∀ tk, Q b { s with toks := tk }) :
    wpAny (model prog w) A (truthy v) Q E s := by
  cases r with
  | bool c => cases h; exact wpAny_truthy_bool (hQ s.toks)
  | int i t => cases h; exact truthy_int (hQ s.toks)
  | none => cases h; exact truthy_none (hQ s.toks)
  | list e1 r1 =>
    rename_i l vs ds
    have h : (if ds.length ≤ 100000 then some (!ds.isEmpty) else none) = some b := h
    have hlen := r1.length
    by_cases hl : ds.length ≤ 100000
    · rw [if_pos hl] at h
      cases h
      refine wpAny_truthy_list (hf.isList e1) (by simp only [List.size_toArray]; omega) ?_
      have : (!vs.toArray.isEmpty) = !ds.isEmpty := by
        cases vs <;> cases ds <;> simp_all
      rw [this]; exact hQ _
    · rw [if_neg hl] at h; cases h
  | _ => cases h
theorem seqIndex_nat {k : Int} {n : Nat} (h0 : 0 ≤ k) (h1 : k.toNat < n) : seqIndex? k n = some k.toNat := by
  have e : (if k < 0 then k + (n : Int) else k) = k := if_neg (by omega)
  unfold seqIndex?
  simp only [e]
  have h2 : k < (n : Int) := by omega
  simp [h0, h2]
theorem idx_good {value slice : Expr} {a b : PyData} {va vb : Value} {d : PyData} (hs : ∀ o i, subscripted slice false o i = operate [o, i] (getItem o i)) (hf : FzIn fz s.heap) (ra : Rep fz va a) (rb : Rep fz vb b) (h : opIdx a b = .ok d) :
    wpAny (model prog w) A (subscriptTail value slice va vb) (Good fs fz s d) E s := by
  obtain ⟨k, rfl, hk, h⟩ := opIdx_inv h (fun q => by cases q)
  obtain ⟨u, rfl⟩ := rep_int_inv rb
  have h0 : 0 ≤ (k : Int) := Int.natCast_nonneg k
  rcases idxAt_ok h with ⟨ds, rfl, hd⟩ | ⟨ds, rfl, hd⟩ | ⟨y, c, rfl, hc, rfl⟩
  · obtain ⟨l, vs, rfl, e1, r1⟩ := rep_list_inv ra
    obtain ⟨x, hx, rx⟩ := r1.get hd
    exact tail_any (hf.isList e1).typeIs slot_list_getitem.lookup (wpAny_getItem_list (hf.isList e1) h0 (by omega) (by simpa using hx) (Good.here hf rx)) (hs _ _)
  · obtain ⟨l, vs, rfl, e1, r1⟩ := rep_tuple_inv ra
    obtain ⟨x, hx, rx⟩ := r1.get hd
    exact item_tupleT (hf.isTup e1) (by omega) (by omega) (seqIndex_nat h0 (List.getElem?_eq_some_iff.mp hx).1) (by simpa using hx) (Good.here hf rx) (hs _ _)
  · obtain ⟨t, rfl⟩ := rep_str_inv ra
    refine tail_any (T := "str") (typeIs_str _ _ _) PySem.F.slot_str_getitem.lookup (getItem_str ?_ ?_ (Good.same _ hf (.str _ _))) (hs _ _)
    · simp; omega
    · have : k < y.length := (Array.getElem?_eq_some_iff.mp hc).1
      rw [seqIndex_nat h0 (by simpa using this)]; simpa using hc
theorem pick_cut (vs : List Value) (l u : Option Nat) : slicePick vs.toArray (l.map Int.ofNat) (u.map Int.ofNat) none = (cutL vs l u).toArray := by
  have ca : ∀ a : Nat, clipAt vs.toArray.size (Int.ofNat a) = min a vs.length := fun a => clipAt_nat _ a
  rw [slicePick_plain]
  congr 1
  unfold cutL
  have take_all : ∀ (w : List Value) (m : Nat), w.length ≤ m → w.take m = w := fun w m h => List.take_of_length_le h
  have hl : (l.map Int.ofNat).elim 0 (clipAt vs.toArray.size) = min (l.getD 0) vs.length := by
    cases l with
    | none => exact (Nat.zero_min _).symm
    | some a => exact ca a
  have hu : (u.map Int.ofNat).elim vs.toArray.size (clipAt vs.toArray.size) = min (u.getD vs.length) vs.length := by
    cases u with
    | none => exact (Nat.min_self _).symm
    | some b => exact ca b
  have hd : vs.drop (min (l.getD 0) vs.length) = vs.drop (l.getD 0) := by
    rcases Nat.le_total (l.getD 0) vs.length with q | q
    · rw [Nat.min_eq_left q]
    · rw [Nat.min_eq_right q, List.drop_of_length_le (Nat.le_refl _), List.drop_of_length_le q]
  have ht : u.elim vs vs.take = vs.take (min (u.getD vs.length) vs.length) := by
    cases u with
    | none => exact (take_all vs _ (by show vs.length ≤ min vs.length vs.length; rw [Nat.min_self]; exact Nat.le_refl _)).symm
    | some b => exact (List.take_eq_take_min ..).trans rfl
  rw [hl, hu, ht, List.drop_take, hd]
  rcases Nat.le_total (l.getD 0) vs.length with q | q
  · rw [Nat.min_eq_left q]
  · rw [List.drop_of_length_le q, List.take_nil, List.take_nil]
theorem RepAll.cut {vs : List Value} {ds : List PyData} (r : RepAll fz vs ds) (l u : Option Nat) : RepAll fz (cutL vs l u) (cutL ds l u) := by
  cases u with
  | none => exact r.drop _
  | some b => exact (r.take b).drop _
theorem part_rep {lo : Option PyData} {l : Option Nat} {vl : Value} (h : partN lo = some l) (rl : ∀ x, lo = some x → Rep fz vl x) (rl0 : lo = none → vl = .none) : IsPart vl (l.map Int.ofNat) := by
  cases lo with
  | none => cases h; cases rl0 rfl; exact .none
  | some d =>
    cases d with
    | int a =>
      have h : (if 0 ≤ a then some (some a.toNat) else none) = some l := h
      by_cases q : 0 ≤ a
      · rw [if_pos q] at h
        cases h
        obtain ⟨t, rfl⟩ := rep_int_inv (rl _ rfl)
        show IsPart (.int a t) (some (Int.ofNat a.toNat))
        rw [show Int.ofNat a.toNat = a from Int.toNat_of_nonneg q]
        exact .int a t
      · rw [if_neg q] at h; cases h
    | _ => cases h
theorem slice_pick {vs : List Value} {ds : List PyData} {lo hi : Option PyData} {d : PyData} (r : RepAll fz vs ds) (h : opSlice (.list ds) lo hi = .ok d) {vl vu : Value} (rl : ∀ x, lo = some x → Rep fz vl x) (rl0 : lo = none → vl = .none)
    (ru : ∀ x, hi = some x → Rep fz vu x) (ru0 : hi = none → vu = .none) :
    ∃ l u vs' ds', IsPart vl l ∧ IsPart vu u ∧ slicePick vs.toArray l u none = vs'.toArray ∧ d = .list ds' ∧ RepAll fz vs' ds' ∧ ds.length ≤ 100000 := by
  obtain ⟨es, l, u, e, hz, h1, h2, h3⟩ := opSlice_inv h (fun q => by cases q)
  cases e; cases h3
  exact ⟨_, _, _, _, part_rep h1 rl rl0, part_rep h2 ru ru0, pick_cut vs l u, rfl, r.cut l u, hz⟩
end
end Mine
end
section
open PySem PySem.W PyProof.Rows
namespace Mine
/-! the sort's decision tree, with an order told by numbers -/
noncomputable def KWp {α : Type} (n : Nat) (f : Nat → Int) : KasT α → (α → Prop) → Prop
  | .ret a, Q => Q a
  | .ask i j k, Q => i < n ∧ j < n ∧ KWp n f (k (decide (f i < f j))) Q
theorem KWp.bind {α β : Type} {n : Nat} {f : Nat → Int} {g : α → KasT β} {Q : β → Prop} : ∀ (t : KasT α), KWp n f t (fun a => KWp n f (g a) Q) → KWp n f (t.bind g) Q
  | .ret _, h => h
  | .ask _ _ k, h => ⟨h.1, h.2.1, KWp.bind (k _) h.2.2⟩
theorem KWp.wp {α : Type} {n : Nat} {f : Nat → Int} {cmp : Nat → Nat → (Bool → Shared → Prop) → Shared → Prop} {Q : α → Prop} {G : α → Shared → Prop} {s : Shared}
    (hc : ∀ i j (C : Bool → Shared → Prop), i < n → j < n → C (decide (f i < f j)) s → cmp i j C s) (hG : ∀ a, Q a → G a s) : ∀ (t : KasT α), KWp n f t Q → t.kasWp cmp G s
  | .ret a, h => hG a h
  | .ask i j k, h => hc i j _ h.1 h.2.1 (KWp.wp hc hG (k _) h.2.2)
section
variable {n : Nat} {f : Nat → Int} {p : Array Nat}
noncomputable def PInv (n : Nat) (p : Array Nat) : Prop := p.toList.Perm (List.range n)
noncomputable def key (f : Nat → Int) (p : Array Nat) (i : Nat) : Int := f (p.getD i 0)
noncomputable def Srt (f : Nat → Int) (p : Array Nat) (m : Nat) : Prop := ∀ i, i + 1 < m → key f p i ≤ key f p (i + 1)
noncomputable def Dec (f : Nat → Int) (p : Array Nat) (m : Nat) : Prop := ∀ i, i + 1 < m → key f p (i + 1) ≤ key f p i
theorem PInv.size (h : PInv n p) : p.size = n := by have := h.length_eq; simpa using this
theorem getD_get (p : Array Nat) {i : Nat} (hi : i < p.size) : p.getD i 0 = p[i] := by simp [Array.getD, hi]
theorem PInv.lt (h : PInv n p) (h0 : 0 < n) (i : Nat) : p.getD i 0 < n := by
  by_cases hi : i < p.size
  · rw [getD_get p hi]
    exact List.mem_range.mp (h.mem_iff.mp (by simp))
  · rw [Array.getD, dif_neg hi]; exact h0
theorem PInv.inj (h : PInv n p) {i j : Nat} (hij : i < j) (hj : j < n) (e : p.getD i 0 = p.getD j 0) : False := by
  have hj' : j < p.size := by rw [h.size]; exact hj
  have hi' : i < p.size := Nat.lt_trans hij hj'
  rw [getD_get p hi', getD_get p hj'] at e
  have nd : p.toList.Nodup := h.nodup_iff.mpr List.nodup_range
  exact List.pairwise_iff_getElem.mp nd i j (by simpa using hi') (by simpa using hj') hij e
noncomputable def Inj (n : Nat) (f : Nat → Int) : Prop := ∀ i j, i < n → j < n → f i = f j → i = j
theorem key_ne (h : PInv n p) (hf : Inj n f) {i j : Nat} (hij : i < j) (hj : j < n) : key f p i ≠ key f p j := fun e => h.inj hij hj (hf _ _ (h.lt (Nat.zero_lt_of_lt hj) i) (h.lt (Nat.zero_lt_of_lt hj) j) e)
theorem key_congr {p q : Array Nat} {i j : Nat} (h : p[i]? = q[j]?) : key f p i = key f q j := by
  unfold key; rw [Array.getD_eq_getD_getElem?, Array.getD_eq_getD_getElem?, h]
theorem PInv.of_perm {q : Array Nat} (h : PInv n p) (hq : q.Perm p) : PInv n q := (Array.perm_iff_toList_perm.mp hq).trans h
theorem key_mirror {j : Nat} (hj : j ≤ p.size) {k : Nat} (hk : k < j) : key f (kas_rev p 0 j) k = key f p (j - 1 - k) := by
  have e := getElem?_mirror_all (xs := p) (i := 0) hj k
  rw [if_pos ⟨Nat.zero_le _, hk⟩, Nat.zero_add] at e
  exact key_congr e
theorem key_bubble {k l : Nat} (hs : k < p.size) (hl : l ≤ k) (i : Nat) : key f (bubble p k (k - l)) i = if i = l then key f p k else if l < i ∧ i ≤ k then key f p (i - 1) else key f p i := by
  have e := getElem?_bubble hs (k - l) (Nat.sub_le _ _) i
  rw [Nat.sub_sub_self hl] at e
  by_cases q : i = l
  · rw [if_pos q] at e ⊢; exact key_congr e
  · rw [if_neg q] at e ⊢
    by_cases z : l < i ∧ i ≤ k
    · rw [if_pos z] at e ⊢; exact key_congr e
    · rw [if_neg z] at e ⊢; exact key_congr e
theorem Srt.le {m : Nat} (h : Srt f p m) {i : Nat} : ∀ {j : Nat}, i ≤ j → j < m → key f p i ≤ key f p j
  | 0, hij, _ => by rw [Nat.le_zero.mp hij]; exact Int.le_refl _
  | j + 1, hij, hj => (Nat.lt_or_ge i (j + 1)).elim (fun q => Int.le_trans (h.le (Nat.le_of_lt_succ q) (Nat.lt_of_succ_lt hj)) (h j hj)) fun q => by rw [Nat.le_antisymm hij q]; exact Int.le_refl _
theorem Srt.more {a : Nat} (h : Srt f p (a + 1)) (h2 : key f p a ≤ key f p (a + 1)) : Srt f p (a + 1 + 1) := fun i hi =>
  (Nat.lt_or_ge (i + 1) (a + 1)).elim (h i) fun q => by rw [Nat.le_antisymm (Nat.le_of_succ_le_succ (Nat.le_of_lt_succ hi)) (Nat.le_of_succ_le_succ q)]; exact h2
theorem Dec.more {a : Nat} (h : Dec f p (a + 1)) (h2 : key f p (a + 1) ≤ key f p a) : Dec f p (a + 1 + 1) := fun i hi =>
  (Nat.lt_or_ge (i + 1) (a + 1)).elim (h i) fun q => by rw [Nat.le_antisymm (Nat.le_of_succ_le_succ (Nat.le_of_lt_succ hi)) (Nat.le_of_succ_le_succ q)]; exact h2
/-- one question -/
theorem ask_ok {α : Type} {i j : Nat} {t : Bool → KasT α} {Q : α → Prop} (hI : PInv n p) (h0 : 0 < n) (h1 : key f p i < key f p j → KWp n f (t true) Q) (h2 : key f p j ≤ key f p i → KWp n f (t false) Q) : KWp n f (.ask (p.getD i 0) (p.getD j 0) t) Q := by
  refine ⟨hI.lt h0 i, hI.lt h0 j, ?_⟩
  by_cases q : key f p i < key f p j
  · rw [show decide (f (p.getD i 0) < f (p.getD j 0)) = true from decide_eq_true q]; exact h1 q
  · rw [show decide (f (p.getD i 0) < f (p.getD j 0)) = false from decide_eq_false q]; exact h2 (Int.not_lt.mp q)
theorem asc_ok (hI : PInv n p) (h0 : 0 < n) {Q : Nat → Prop} : ∀ (fu a : Nat), Srt f p (a + 1) → (∀ m, Srt f p (m + 1) → m ≤ a + fu → (m = a + fu ∨ key f p (m + 1) < key f p m) → Q (m + 1)) → KWp n f (kas_asc p fu (a + 1)) Q
  | 0, a, hs, hQ => hQ a hs (Nat.le_refl _) (.inl rfl)
  | fu + 1, a, hs, hQ => ask_ok hI h0 (fun q => hQ a hs (Nat.le_add_right _ _) (.inr q)) fun q =>
      asc_ok hI h0 fu (a + 1) (hs.more q) (by rw [Nat.succ_add_eq_add_succ]; exact hQ)
theorem desc_ok (hI : PInv n p) (hf : Inj n f) {Q : Array Nat × Nat × Nat → Prop} : ∀ (fu a : Nat), a + 1 + fu ≤ n → Dec f p (a + 1) → (∀ m, m + 1 ≤ n → Dec f p (m + 1) → Q (p, m + 1, 0)) → KWp n f (kas_desc fu p (a + 1) 0) Q
  | 0, a, h2, hs, hQ => hQ a h2 hs
  | fu + 1, a, h2, hs, hQ => by
    have h3 : a + 1 < n := Nat.lt_of_lt_of_le (Nat.lt_add_of_pos_right (Nat.succ_pos fu)) h2
    have h0 := Nat.zero_lt_of_lt h3
    refine ask_ok hI h0 (fun q => ?_) fun q => ask_ok hI h0 (fun q2 => hQ a (Nat.le_of_lt h3) hs) fun q2 => ?_
    · exact desc_ok hI hf fu (a + 1) (by rw [Nat.succ_add_eq_add_succ]; exact h2) (hs.more (Int.le_of_lt q)) hQ
    · exact absurd (Int.le_antisymm q q2) (key_ne hI hf (Nat.lt_succ_self a) h3)
theorem tail3_ok (hI : PInv n p) {m : Nat} (h2 : m + 1 ≤ n) (hd : Dec f p (m + 1)) {Q : Nat × Array Nat → Prop} (hQ : ∀ k q, PInv n q → k + 1 ≤ n → Srt f q (k + 1) → Q (k + 1, q)) : KWp n f (kas_tail3 (m + 1) n p) Q := by
  have hI' : PInv n (kas_rev p 0 (m + 1)) := hI.of_perm (mirror_perm _ _ _ _)
  have hz : m + 1 ≤ p.size := by rw [hI.size]; exact h2
  refine KWp.bind _ (asc_ok hI' (Nat.lt_of_lt_of_le (Nat.succ_pos m) h2) (n - (m + 1)) m (fun i hi => ?_) fun k a1 a2 _ => hQ k _ hI' ?_ a1)
  · rw [key_mirror hz (Nat.lt_of_succ_lt hi), key_mirror hz hi]
    have e : m + 1 - 1 - i = m + 1 - 1 - (i + 1) + 1 := by omega
    rw [e]
    exact hd _ (by omega)
  · have : m + (n - (m + 1)) + 1 = n := by omega
    rw [← this]; exact Nat.succ_le_succ a2
theorem count_ok (hI : PInv n p) (hf : Inj n f) (h2 : 2 ≤ n) {Q : Nat × Array Nat → Prop} (hQ : ∀ k q, PInv n q → k + 1 ≤ n → Srt f q (k + 1) → Q (k + 1, q)) : KWp n f (kas_count n p) Q := by
  have h0 : 0 < n := Nat.lt_of_lt_of_le (by decide) h2
  have e1 : 0 + (n - 1) + 1 = n := by omega
  unfold kas_count
  refine KWp.bind _ (asc_ok hI h0 (n - 1) 0 (fun i hi => absurd hi (by omega)) fun m a1 a2 a3 => ?_)
  have hm : m + 1 ≤ n := by rw [← e1]; exact Nat.succ_le_succ a2
  by_cases q : m + 1 = n
  · rw [if_pos (by rw [q]; exact beq_self_eq_true n)]
    exact hQ m p hI hm a1
  · rw [if_neg (fun z => q (eq_of_beq z))]
    cases m with
    | succ m =>
      rw [if_pos (Nat.succ_lt_succ (Nat.succ_pos m))]
      refine ask_ok hI h0 (fun _ => hQ (m + 1) p hI hm a1) fun z => ?_
      exact absurd (Int.le_antisymm (a1.le (Nat.zero_le _) (Nat.lt_succ_self _)) z) (key_ne hI hf (Nat.succ_pos m) hm)
    | zero =>
      rw [if_neg (by decide)]
      have lt := a3.resolve_left fun z => q (by rw [z]; exact e1)
      have d1 : Dec f p (0 + 1) := fun i hi => absurd hi (by omega)
      refine KWp.bind _ (desc_ok hI hf (n - (1 + 1)) (0 + 1) (by omega) (d1.more (Int.le_of_lt lt)) fun m' b1 b2 => ?_)
      exact tail3_ok hI b1 b2 hQ
theorem place_ok (hI : PInv n p) (h0 : 0 < n) {k : Nat} (hs : Srt f p k) {Q : Nat → Prop} : ∀ (fu l r : Nat), r ≤ k → r - l ≤ fu → l ≤ k → (∀ i, i < l → key f p i ≤ key f p k) → (∀ i, r ≤ i → i < k → key f p k ≤ key f p i) →
    (∀ l', l' ≤ k → (∀ i, i < l' → key f p i ≤ key f p k) → (∀ i, l' ≤ i → i < k → key f p k ≤ key f p i) → Q l') → KWp n f (kas_place p k fu l r) Q
  | 0, l, r, h2, h3, h4, hl, hr, hQ => hQ l h4 hl fun i a b => hr i (Nat.le_trans (Nat.le_of_sub_eq_zero (Nat.le_zero.mp h3)) a) b
  | fu + 1, l, r, h2, h3, h4, hl, hr, hQ => by
    unfold kas_place
    by_cases q : l ≥ r
    · rw [if_pos q]
      exact hQ l h4 hl fun i a b => hr i (Nat.le_trans q a) b
    · rw [if_neg q]
      have hm : (l + r) / 2 < r ∧ l ≤ (l + r) / 2 := by omega
      refine ask_ok hI h0 (fun z => place_ok hI h0 hs fu l ((l + r) / 2) (Nat.le_trans (Nat.le_of_lt hm.1) h2) (by omega) h4 hl (fun i a1 a2 => Int.le_trans (Int.le_of_lt z) (hs.le a1 a2)) hQ) fun z =>
        place_ok hI h0 hs fu ((l + r) / 2 + 1) r h2 (by omega) (Nat.lt_of_lt_of_le hm.1 h2) (fun i a1 => Int.le_trans (hs.le (Nat.le_of_lt_succ a1) (Nat.lt_of_lt_of_le hm.1 h2)) z) hr hQ
theorem bin_ok {Q : Array Nat → Prop} (hQ : ∀ q, PInv n q → Srt f q n → Q q) : ∀ (fu k : Nat) (p : Array Nat), PInv n p → Srt f p k → k + fu = n → KWp n f (kas_bin fu p k) Q
  | 0, k, p, hI, hs, h => hQ p hI (by rw [← h]; exact hs)
  | fu + 1, k, p, hI, hs, h => by
    have hk : k < n := by rw [← h]; exact Nat.lt_add_of_pos_right (Nat.succ_pos fu)
    unfold kas_bin
    refine KWp.bind _ (place_ok hI (Nat.zero_lt_of_lt hk) hs k 0 k (Nat.le_refl _) (Nat.sub_le _ _) (Nat.zero_le _) (fun i hi => absurd hi (Nat.not_lt_zero i)) (fun i a b => absurd b (Nat.not_lt.mpr a)) fun l hl a1 a2 => ?_)
    have kb := fun i => key_bubble (f := f) (p := p) (k := k) (l := l) (by rw [hI.size]; exact hk) hl i
    refine bin_ok hQ fu (k + 1) _ (hI.of_perm (bubble_perm _ _ _)) (fun i hi => ?_) (by rw [Nat.succ_add_eq_add_succ]; exact h)
    have hi : i < k := Nat.lt_of_succ_lt_succ hi
    rw [kb i, kb (i + 1)]
    rcases Nat.lt_trichotomy i l with z | z | z
    · rw [if_neg (Nat.ne_of_lt z), if_neg (fun c => absurd c.1 (Nat.not_lt.mpr (Nat.le_of_lt z)))]
      by_cases y : i + 1 = l
      · rw [if_pos y]; exact a1 i z
      · have y' : i + 1 < l := Nat.lt_of_le_of_ne z y
        rw [if_neg y, if_neg (fun c => absurd c.1 (Nat.not_lt.mpr (Nat.le_of_lt y')))]
        exact hs i (Nat.lt_of_lt_of_le y' hl)
    · subst z
      rw [if_pos rfl, if_neg (Nat.succ_ne_self i), if_pos ⟨Nat.lt_succ_self i, hi⟩]
      exact a2 i (Nat.le_refl _) hi
    · rw [if_neg (Nat.ne_of_gt z), if_pos ⟨z, Nat.le_of_lt hi⟩, if_neg (Nat.ne_of_gt (Nat.lt_succ_of_lt z)), if_pos ⟨Nat.lt_succ_of_lt z, hi⟩]
      cases i with
      | zero => exact absurd z (Nat.not_lt_zero l)
      | succ i => exact hs i hi
/-- the sort sorts -/
theorem kas_sort_ok (hf : Inj n f) (h2 : 2 ≤ n) : KWp n f (kas_sort n) fun p => PInv n p ∧ Srt f p n := by
  unfold kas_sort
  refine KWp.bind _ (count_ok (.refl _) hf h2 fun k q a1 a2 a3 => ?_)
  dsimp only
  by_cases z : k + 1 < n
  · rw [if_pos z, show max (k + 1) 1 = k + 1 from Nat.max_eq_left (Nat.succ_le_succ (Nat.zero_le k))]
    exact bin_ok (fun q h1 h2 => ⟨h1, h2⟩) (n - (k + 1)) (k + 1) q a1 a3 (Nat.add_sub_cancel' a2)
  · rw [if_neg z]
    exact ⟨a1, by rw [Nat.le_antisymm (Nat.not_lt.mp z) a2]; exact a3⟩
end
end Mine
end
section
open PySem PySem.W PyProof.Rows
namespace Mine
open SeqAt
section
variable {prog : Program} {w : World} {A : Around} {E : Value → Shared → Prop} {s : Shared} {fz : Fz}
/-- one list of numbers below another one, as the sort asks -/
theorem lists_keyLt {va vb : Value} {ns ms : List Int} {Q : Bool → Shared → Prop} (hu : A.units < cLine) (hf : FzIn fz s.heap) (ra : Rep fz va (.list (ns.map .int))) (rb : Rep fz vb (.list (ms.map .int))) (hlen : ns.length = ms.length)
    (h : Q (lexI (fun a b => decide (a < b)) ns ms) s) : wpAny (model prog w) A (keyLt' oneType' va vb) Q E s := by
  obtain ⟨a, vs, rfl, e1, r1⟩ := rep_list_inv ra
  obtain ⟨b, ws, rfl, e2, r2⟩ := rep_list_inv rb
  have i1 := intsAt (repInts r1)
  have i2 := intsAt (repInts r2)
  have hz : vs.toArray.size = ws.toArray.size := by simp [i1.1, i2.1, hlen]
  have hl := hf.isList e1
  have hb := hf.isList e2
  obtain ⟨⟨cls, dd, data, sl⟩, ho, hc, n, hd⟩ := id hl
  obtain ⟨⟨cls2, dd2, data2, sl2⟩, ho2, hc2, n2, hd2⟩ := id hb
  simp only at hc hd hc2 hd2
  subst hc hd hc2 hd2
  rw [keyLt'_oneType, oneLt'_eq]
  simp only [if_true]
  refine wpAny_bind (wpAny_cRoomFor hu ?_)
  refine wpAny_bind (wpAny_callSpecialIfBound?_slot (T := "list") (id := "list.__lt__") (s := s) ⟨_, ho, rfl⟩ F.slot_list_lt
    (call_meets F.slot_list_lt ⟨_, ho, rfl⟩ F.entry_list_lt (F.args_list_lt_2 _ _) (list_ltM a b vs.toArray ws.toArray n n2 dd dd2 sl sl2 hz (fun j => ns.getD j 0 == ms.getD j 0) (fun j => decide (ns.getD j 0 < ms.getD j 0))) ⟨ho, ho2, fun j h1 h2 => ?_, ?_⟩))
  · obtain ⟨t, p1⟩ := i1.2 j vs.toArray[j] (by simp)
    obtain ⟨u, p2⟩ := i2.2 j ws.toArray[j] (by simp)
    rw [p1, p2]
    exact ⟨EqAt.int_int _ _ _ _, fun prog w E Q h => lt_int h⟩
  · refine wpAny_truthy_bool ?_
    rw [show vs.toArray.size = ns.length by simp [i1.1]]
    exact h
noncomputable def midHeap (h : Heap) (a : Addr) (vs : List Value) : Heap := ((h.update a (Obj.mapSeq fun _ => (#[] : Array Value))).push (seqObj "tuple" vs.toArray 0)).push (seqObj "list" #[] 0)
theorem list_sortP {a : Addr} {vs : List Value} {n : Nat} {f : Nat → Int} {T : Value} {P : PySem.Fin → Shared → Prop} (ho : s.heap.get? a = some (seqObj "list" vs.toArray n)) (h2 : 2 ≤ vs.length) (h64 : vs.length < 64)
    (hT : ∀ v ∈ vs, Looks (model prog w) (midHeap s.heap a vs) (typeOf v) T) (hT1 : (T != Value.type "tuple") = true) (hT2 : (T == T) = true) (hf : Inj vs.length f)
    (hc : ∀ i j (C : Bool → Shared → Prop), i < vs.length → j < vs.length → C (decide (f i < f j)) { s with heap := midHeap s.heap a vs } → wpAny (model prog w) A (keyLt' oneType' (vs.getD i Value.none) (vs.getD j Value.none)) C (fun _ _ => False) { s with heap := midHeap s.heap a vs })
    (h : ∀ p, PInv vs.length p → Srt f p vs.length → P (.done (.ret .none)) { s with heap := sortedHeap s.heap a vs (List.toArray (p.toList.map fun i => vs.getD i Value.none)) }) :
    wpAny (model prog w) A (Builtin.«list.sort» ⟨[.ref a], []⟩) P E s := by
  have ha : a < s.heap.objs.size := Heap.lt_size ho
  obtain ⟨e1, ho1⟩ : ∃ e1, (s.heap.update a (Obj.mapSeq fun _ => (#[] : Array Value))).get? a = some (seqObj "list" #[] e1) := ⟨_, get?_update_seq ho fun _ => #[]⟩
  have ho3 : (midHeap s.heap a vs).get? a = some (seqObj "list" #[] e1) := Heap.get?_push_of_some _ (Heap.get?_push_of_some _ ho1)
  rw [list_sort_plain]
  refine wpAny_bind (listItems_at ho rfl ?_)
  refine wpAny_bind (listUpdate_at ho rfl ?_ (by rw [List.size_toArray, sizeLine_eq]; omega) (Nat.zero_le _))
  refine wpAny_bind (seqEpoch_at ho1 rfl ?_)
  refine wpAny_bind (wpAny_newTuple ?_ (by show vs.length ≤ _; rw [sizeLine_eq]; omega))
  refine wpAny_bind (wpAny_newList ?_ (Nat.zero_le _))
  refine wpAny_holding ?_
  show wpAny (model prog w) A _ P E { s with heap := midHeap s.heap a vs }
  dsimp only
  have hn2 : ¬ vs.toArray.size < 2 := by rw [List.size_toArray]; omega
  rw [if_neg hn2, if_neg hn2]
  refine wpAny_bind (kas_kind (s := { s with heap := midHeap s.heap a vs }) h2 hT hT1 hT2 ?_)
  have est : SortSt.mk' oneType' (vs.toArray.zip vs.toArray) #[] 7 none = kas_st oneType' (pairsOf vs) (List.toArray (List.range vs.length)) := by
    have e := kas_range (pairsOf vs)
    rw [pairsOf_size] at e
    show SortSt.mk' oneType' (pairsOf vs) #[] 7 none = SortSt.mk' oneType' ((List.toArray (List.range vs.length)).map (kas_item (pairsOf vs))) #[] 7 none
    rw [e]
  have ask : (kas_sort vs.length).kasWp (kas_cmp prog w A oneType' (pairsOf vs)) (fun p s' => s' = { s with heap := midHeap s.heap a vs } ∧ PInv vs.length p ∧ Srt f p vs.length) { s with heap := midHeap s.heap a vs } := by
    refine KWp.wp (n := vs.length) (f := f) (fun i j C hi hj hC => ?_) (fun p hp => ⟨rfl, hp⟩) _ (kas_sort_ok hf h2)
    rw [← kas_ask_eq]
    exact hc i j C hi hj hC
  have run := kas_runs (E := E) (Q := fun _ st' s' => s' = { s with heap := midHeap s.heap a vs } ∧ ∃ p : Array Nat, PInv vs.length p ∧ Srt f p vs.length ∧ arrOf st' = p.map (kas_item (pairsOf vs)) ∧ failedOf st' = none)
    h2 h64 (fun p' st' s' a1 a2 a3 a4 => ⟨a4.1, p', a4.2.1, a4.2.2, a2, a3⟩) ask
  rw [← est] at run
  refine wpAny_bind (wpAny_mono run ?_ fun _ _ e => e)
  rintro ⟨⟨⟩, st'⟩ s' ⟨rfl, p, hp, hs, har, hff⟩
  dsimp only
  have hout : (arrOf st').map (·.2) = List.toArray (p.toList.map fun i => vs.getD i Value.none) := by
    apply Array.toList_inj.mp
    rw [har, Array.map_map, Array.toList_map]
    exact List.map_congr_left fun i _ => by show (kas_item (pairsOf vs) i).2 = _; rw [kas_item_eq]
  have hsz : (List.toArray (p.toList.map fun i => vs.getD i Value.none)).size = vs.length := by rw [List.size_toArray, List.length_map, Array.length_toList, hp.size]
  rw [hout]
  refine wpAny_bind (seqEpoch_at ho3 rfl ?_)
  refine wpAny_bind (listUpdate_at ho3 rfl ?_ (Nat.zero_le _) (Nat.le_trans (Nat.le_of_eq hsz) (by rw [sizeLine_eq]; omega)))
  rw [hff]
  simp only [bne_self_eq_false, Bool.false_eq_true, if_false]
  exact wpAny_pure (h p hp hs)
theorem sortedP {l : Addr} {vs : List Value} {f : Nat → Int} {T : Value} {Q : Value → Shared → Prop} (hl : s.heap.IsList l vs.toArray) (h2 : 2 ≤ vs.length) (h64 : vs.length < 64)
    (hT : ∀ h', (∀ b o, s.heap.get? b = some o → h'.get? b = some o) → ∀ v ∈ vs, Looks (model prog w) h' (typeOf v) T) (hT1 : (T != Value.type "tuple") = true) (hT2 : (T == T) = true) (hf : Inj vs.length f)
    (hc : ∀ h' i j (C : Bool → Shared → Prop), (∀ b o, s.heap.get? b = some o → h'.get? b = some o) → i < vs.length → j < vs.length → C (decide (f i < f j)) { s with heap := h' } →
      wpAny (model prog w) A.in1.in1 (keyLt' oneType' (vs.getD i Value.none) (vs.getD j Value.none)) C (fun _ _ => False) { s with heap := h' })
    (h : ∀ p, PInv vs.length p → Srt f p vs.length → Q (.ref (s.heap.objs.size + 1)) { s with heap := sortedAll s.heap vs (List.toArray (p.toList.map fun i => vs.getD i Value.none)) }) :
    wpAny (model prog w) A (call (.builtin "sorted") [.ref l]) Q E s := by
  refine Calls.call_function_entry kind_sorted plain_sorted entry_sorted (args_sorted1 _) ?_
  unfold Builtin.«sorted»
  refine wpAny_bind (m := checkCount "sorted" 1 1 _) (wpAny_pure ?_)
  refine wpAny_bind (collect_list hl ?_ (by show vs.length ≤ _; rw [sizeLine_eq]; omega))
  refine wpAny_bind (wpAny_newList ?_ (by show vs.length ≤ _; rw [sizeLine_eq]; omega))
  have hsz : ((s.heap.push (seqObj "list" #[] 0)).update s.heap.objs.size (Obj.mapSeq (· ++ vs.toArray))).objs.size = s.heap.objs.size + 1 := by
    rw [Heap.size_update, size_push']
  have hoL : (((s.heap.push (seqObj "list" #[] 0)).update s.heap.objs.size (Obj.mapSeq (· ++ vs.toArray))).push (seqObj "list" vs.toArray 0)).get? (s.heap.objs.size + 1) = some (seqObj "list" vs.toArray 0) := by
    rw [← hsz]; exact Heap.get?_push_size _ rfl
  have keep : ∀ b o, s.heap.get? b = some o → (midHeap (((s.heap.push (seqObj "list" #[] 0)).update s.heap.objs.size (Obj.mapSeq (· ++ vs.toArray))).push (seqObj "list" vs.toArray 0)) (s.heap.objs.size + 1) vs).get? b = some o := fun b o q => by
    have hlt : b < s.heap.objs.size := Heap.lt_size q
    unfold midHeap
    refine Heap.get?_push_of_some _ (Heap.get?_push_of_some _ ?_)
    rw [Heap.get?_update_ne _ _ _ _ (Nat.ne_of_lt (Nat.lt_succ_of_lt hlt)), Heap.get?_push_ne _ _ _ (by rw [hsz]; exact Nat.ne_of_lt (Nat.lt_succ_of_lt hlt)), Heap.get?_update_ne _ _ _ _ (Nat.ne_of_lt hlt), Heap.get?_push_ne _ _ _ (Nat.ne_of_lt hlt)]
    exact q
  show wpAny _ _ _ _ _ { s with heap := ((s.heap.push (seqObj "list" #[] 0)).update s.heap.objs.size (Obj.mapSeq (· ++ vs.toArray))).push (seqObj "list" vs.toArray 0) }
  rw [hsz]
  refine wpAny_bind (wpAny_holding (wpAny_call_entry slot_list_sort ⟨_, hoL, rfl⟩ entry_list_sort (list_sortP (s := { s with heap := ((s.heap.push (seqObj "list" #[] 0)).update s.heap.objs.size (Obj.mapSeq (· ++ vs.toArray))).push (seqObj "list" vs.toArray 0) }) (f := f) (T := T) hoL h2 h64
    (hT _ keep) hT1 hT2 hf (fun i j C hi hj hC => hc _ i j C keep hi hj hC) fun p a1 a2 => ⟨_, rfl, ?_⟩) (args_list_sort _)))
  exact wpAny_pure ⟨_, rfl, h p a1 a2⟩
end
end Mine
end
section
open PySem PySem.W PyProof.Rows
namespace Mine
noncomputable def Bi.callee : Bi → Value
  | .len => .builtin "len"
  | .sorted => .builtin "sorted"
  | .sum => .builtin "sum"
  | .max => .builtin "max"
  | .min => .builtin "min"
  | .list => .type "list"
noncomputable def Bi.name : Bi → Str
  | .len => "len"
  | .sorted => "sorted"
  | .sum => "sum"
  | .max => "max"
  | .min => "min"
  | .list => "list"
section
variable {prog : Program} {w : World} {A : Around} {E : Value → Shared → Prop} {s : Shared} {fz : Fz} {fs : List Addr}
theorem sortB_good {ds : List PyData} {va : Value} {d : PyData} (hu : A.units + 5 < cLine) (hf : FzIn fz s.heap) (ra : Rep fz va (.list ds)) (h : sortB ds = .ok d) :
    wpAny (model prog w) A (call (.builtin "sorted") [va]) (Good fs fz s d) E s := by
  unfold sortB at h
  split at h
  · rename_i ns hns
    split at h
    · rename_i hk
      cases h
      obtain ⟨h2, h64, hnd⟩ := hk
      obtain ⟨hds, hbt⟩ := bitsOf_at hns
      obtain ⟨l, vs, rfl, e1, r1⟩ := rep_list_inv ra
      rw [hds] at r1
      have hlen : vs.length = ns.length := by rw [r1.length]; simp
      have getE : ∀ i, i < ns.length → ns.getD i 0 ∈ ns := fun i hi => by rw [List.getD_eq_getElem?_getD, List.getElem?_eq_getElem hi]; simp
      have repE : ∀ i, i < vs.length → Rep fz (vs.getD i Value.none) (unbits (ns.getD i 0)) := fun i hi => by
        have hi' : i < ns.length := by omega
        have e : (ns.map unbits)[i]? = some (unbits (ns.getD i 0)) := by rw [List.getElem?_map, List.getD_eq_getElem?_getD, List.getElem?_eq_getElem hi']; rfl
        obtain ⟨v, hv, rv⟩ := r1.get e
        rw [List.getD_eq_getElem?_getD, hv]; exact rv
      have inj : Inj vs.length fun i => ns.getD i 0 := fun i j hi hj e => by
        have hi' : i < ns.length := by omega
        have hj' : j < ns.length := by omega
        dsimp only at e
        rw [List.getD_eq_getElem?_getD, List.getD_eq_getElem?_getD, List.getElem?_eq_getElem hi', List.getElem?_eq_getElem hj'] at e
        have pw := List.pairwise_iff_getElem.mp hnd
        rcases Nat.lt_trichotomy i j with q | q | q
        · exact (pw i j hi' hj' q e).elim
        · exact q
        · exact (pw j i hj' hi' q e.symm).elim
      have kept : ∀ h' : Heap, (∀ b o, s.heap.get? b = some o → h'.get? b = some o) → FzIn fz h' := fun h' k => (Ext.of_keeps (fs := []) k).fzIn hf
      refine sortedP (T := .type "list") (f := fun i => ns.getD i 0) (hf.isList e1) (by omega) (by omega) (fun h' k v hv => ?_) rfl rfl inj (fun h' i j C k hi hj hC => ?_) fun p hp hs => ?_
      · obtain ⟨i, hi, rfl⟩ := List.mem_iff_getElem.mp hv
        have rv := repE i hi
        rw [List.getD_eq_getElem?_getD, List.getElem?_eq_getElem hi] at rv
        obtain ⟨xs, hx, _⟩ := hbt _ (getE i (by omega))
        rw [hx] at rv
        obtain ⟨a, ws, hv', e2, _⟩ := rep_list_inv rv
        simp only [Option.getD_some] at hv'
        rw [hv']
        obtain ⟨o, m, ho, hcl, _⟩ := kept h' k _ _ _ e2
        have hcl : o.cls = .type "list" := hcl
        exact hcl ▸ (Looks.ld ho).andThen .now
      · obtain ⟨xs, hx, bx⟩ := hbt _ (getE i (by omega))
        obtain ⟨ys, hy, by'⟩ := hbt _ (getE j (by omega))
        obtain ⟨a1, a2, a3, a4, rfl, k1, k2, k3, k4, ex⟩ := bits4_some bx
        obtain ⟨b1, b2, b3, b4, rfl, j1, j2, j3, j4, ey⟩ := bits4_some by'
        have r1 := repE i hi
        have r2 := repE j hj
        rw [hx] at r1
        rw [hy] at r2
        refine lists_keyLt (s := { s with heap := h' }) (by show A.units + 1 + 1 < cLine; omega) (kept h' k) r1 r2 rfl ?_
        rw [(lex_lt k1 k2 k3 k4 j1 j2 j3 j4).1, ← ex, ← ey]
        exact hC
      · have pl : (p.toList.map fun i => ns.getD i 0).Perm ns := by
          refine (hp.map _).trans (.of_eq ?_)
          rw [hlen]
          apply List.ext_getElem
          · simp
          · intro i h1 h2
            rw [List.getElem_map, List.getElem_range, List.getD_eq_getElem?_getD, List.getElem?_eq_getElem h2]; rfl
        have ps : (p.toList.map fun i => ns.getD i 0).Pairwise (· ≤ ·) := by
          rw [List.pairwise_iff_getElem]
          intro i j hi hj hij
          have hj' : j < p.size := by simpa using hj
          have hi' : i < p.size := by simpa using hi
          have := hs.le (Nat.le_of_lt hij) (by rw [← hp.size]; exact hj')
          unfold key at this
          rw [getD_get p hi', getD_get p hj'] at this
          simpa using this
        have hsI : (p.toList.map fun i => ns.getD i 0) = sortI ns := sorted_unique (pl.trans (sortI_perm ns).symm) ps (sortI_sorted ns)
        have rr : RepAll fz (p.toList.map fun i => vs.getD i Value.none) ((sortI ns).map unbits) := by
          rw [← hsI, List.map_map]
          have go : ∀ q : List Nat, (∀ i ∈ q, i < vs.length) → RepAll fz (q.map fun i => vs.getD i Value.none) (q.map (unbits ∘ fun i => ns.getD i 0)) := by
            intro q
            induction q with
            | nil => intro _; exact .nil
            | cons i q ih => intro hq; exact .cons (repE i (hq i (.head _))) (ih fun j hj => hq j (.tail _ hj))
          exact go _ fun i hi => List.mem_range.mp (hp.mem_iff.mp hi)
        obtain ⟨e, he⟩ := sortedAll_at s.heap vs (List.toArray (p.toList.map fun i => vs.getD i Value.none))
        exact Good.made (fs := fs) (t := false) (n := e) s.toks (fun b o e => sortedAll_old e) hf (size_none s.heap (Nat.le_succ _)) he rfl rfl rr
    · cases h
  · cases h
theorem bi_good {b : Bi} {a : PyData} {va : Value} {d : PyData} (hu : A.units + 70 < cLine) (hh : A.handled = none) (hf : FzIn fz s.heap) (ra : Rep fz va a) (h : opBi b a = .ok d) :
    wpAny (model prog w) A (call b.callee [va]) (Good fs fz s d) E s := by
  unfold opBi at h
  split at h
  · split at h
    · cases h
      obtain ⟨l, vs, rfl, e1, r1⟩ := rep_list_inv ra
      have hlen := r1.length
      refine len_list (hf.isList e1) (by simp only [List.size_toArray]; omega) ?_
      simp only [List.size_toArray, hlen]
      exact Good.same _ hf (.int _ _)
    · cases h
  · split at h
    · rename_i ns hns
      split at h
      · rename_i h64
        cases h
        obtain ⟨l, vs, rfl, e1, r1⟩ := rep_list_inv ra
        rw [intsOf_eq hns] at r1
        have hI := repInts r1
        refine sorted_ints (hf.isList e1) hI (by rw [hI.length]; exact h64) fun out ns' a1 a2 a3 => ?_
        have hs : ns' = sortI ns := sorted_unique (a2.trans (sortI_perm ns).symm) a3 (sortI_sorted ns)
        subst hs
        obtain ⟨e, he⟩ := sortedAll_at s.heap vs out
        have := Good.made (fs := fs) (t := false) (vs := out.toList) (n := e) s.toks (fun b o e => sortedAll_old e) hf (size_none s.heap (Nat.le_succ _)) he rfl (by rw [Array.toArray_toList]) (intsRep a1 : RepAll fz _ _)
        exact this
      · cases h
    · exact sortB_good (by omega) hf ra h
  · split at h
    · rename_i ns hns
      cases h
      obtain ⟨l, vs, rfl, e1, r1⟩ := rep_list_inv ra
      rw [intsOf_eq hns] at r1
      have hI := repInts r1
      obtain ⟨xs, hx⟩ := hI.allInts.items
      have hl := hf.isList e1
      rw [hx] at hl
      refine call_sum_walkG (iter_intList hl fun s₂ e st hfp hlI => ?_)
      subst e
      refine ⟨_, _, _, _, _, _, numAt xs, rfl, Walks.list (A := A.in1) hh _ l hlI (intItems xs), st, hfp, (fun _ _ => intItems_at), fun h' tk t' hk => ?_⟩
      have e2 : preSum (numAt xs) (intItems xs).size = ns.sum := by
        have q := hI.numsOf
        rw [show vs = vs.toArray.toList from rfl, hx, nums_intItems] at q
        rw [preSum_eq, ← q, List.take_of_length_le (by simp [intItems])]
      rw [e2]
      exact Good.kept tk (old_kept hk) hf (.int _ _)
    · cases h
  · split at h
    · rename_i m hm
      cases h
      obtain ⟨ns, hns, hb⟩ := Option.bind_eq_some_iff.mp hm
      obtain ⟨l, vs, rfl, e1, r1⟩ := rep_list_inv ra
      rw [intsOf_eq hns] at r1
      have hI := repInts r1
      obtain ⟨xs, hx⟩ := hI.allInts.items
      have hl := hf.isList e1
      have q := hI.numsOf
      rw [show vs = vs.toArray.toList from rfl, hx, nums_intItems] at q
      rw [hx] at hl
      obtain ⟨m1, m2⟩ := bestI_max hb
      have hsz : 0 < xs.size := by
        have : 0 < ns.length := List.length_pos_of_mem m1
        rw [← q] at this; simpa using this
      refine max_intList hh hl hsz fun v h' tk hv hk => ?_
      obtain ⟨t, rfl⟩ := intItems_at hv
      obtain ⟨h1, h2⟩ := argBest_gt (numAt xs) (xs.size - 1)
      have e3 : numAt xs (argBest (fun i j => decide (numAt xs i > numAt xs j)) (xs.size - 1)) = m := by
        apply Int.le_antisymm
        · refine m2 _ ?_
          rw [← q, numAt_eq]; exact getD_mem (by rw [List.length_map, Array.length_toList]; omega)
        · rw [← q] at m1
          obtain ⟨j, hj, rfl⟩ := mem_getD m1
          rw [List.length_map, Array.length_toList] at hj
          rw [← numAt_eq]; exact h2 j (by omega)
      rw [e3]
      exact Good.kept tk hk hf (.int _ _)
    · cases h
  · split at h
    · rename_i m hm
      cases h
      obtain ⟨ns, hns, hb⟩ := Option.bind_eq_some_iff.mp hm
      obtain ⟨l, vs, rfl, e1, r1⟩ := rep_list_inv ra
      rw [intsOf_eq hns] at r1
      have hI := repInts r1
      obtain ⟨xs, hx⟩ := hI.allInts.items
      have hl := hf.isList e1
      have q := hI.numsOf
      rw [show vs = vs.toArray.toList from rfl, hx, nums_intItems] at q
      rw [hx] at hl
      obtain ⟨m1, m2⟩ := bestI_min hb
      have hsz : 0 < xs.size := by
        have : 0 < ns.length := List.length_pos_of_mem m1
        rw [← q] at this; simpa using this
      refine min_intList hh hl hsz fun v h' tk hv hk => ?_
      obtain ⟨t, rfl⟩ := intItems_at hv
      obtain ⟨h1, h2⟩ := argBest_lt (numAt xs) (xs.size - 1)
      have e3 : numAt xs (argBest (fun i j => decide (numAt xs i < numAt xs j)) (xs.size - 1)) = m := by
        apply Int.le_antisymm
        · rw [← q] at m1
          obtain ⟨j, hj, rfl⟩ := mem_getD m1
          rw [List.length_map, Array.length_toList] at hj
          rw [← numAt_eq]; exact h2 j (by omega)
        · refine m2 _ ?_
          rw [← q, numAt_eq]; exact getD_mem (by rw [List.length_map, Array.length_toList]; omega)
      rw [e3]
      exact Good.kept tk hk hf (.int _ _)
    · cases h
  · split at h
    · cases h
      obtain ⟨l, vs, rfl, e1, r1⟩ := rep_list_inv ra
      have hlen := r1.length
      obtain ⟨o, n, ho, hc, hd⟩ := hf _ _ _ e1
      refine call_list_seq l (.inl rfl) ho hc hd (fun h' c' hk hn => ?_) (by simp only [List.size_toArray]; rw [sizeLine_eq]; omega)
      exact Good.made (t := false) s.toks hk hf (size_none _ (Nat.le_refl _)) hn rfl rfl r1
    · cases h
  · cases h
end
end Mine
end
section
open PySem PySem.W PyProof.Rows
namespace Mine
/-- expressions of a small language, names resolved to places -/
inductive X where
  | var (i : Nat)
  | int (i : Int)
  | str (x : Str)
  | bool (b : Bool)
  | nothing
  | glob (g : Nat)
  | list (es : List X)
  | tup (es : List X)
  | bin (op : Operator) (a b : X)
  | cmp (op : CmpOp) (a b : X)
  | cmp2 (op₁ op₂ : CmpOp) (a b c : X)
  | outside (a : X) (i : Nat)
  | not (a : X)
  | and (a b : X)
  | or (a b : X)
  | ite (c a b : X)
  | idx (a b : X)
  | slice (a lo hi : X)
  | call (f : Nat) (args : List X)
  | bi (b : Bi) (a : X)
  | compR (a b c : Int) (cond elt : X)
  | comp (src cond elt : X)
  | join (a : X)
  | callV (i : Nat) (a : X)
inductive SV where
  | un
  | val (d : PyData)
  | own (ds : List PyData)
structure Tab where
  fnames : List Str
  gnames : List Str
  gvals : List PyData
  F : Nat → List PyData → Option PyData
  L : Nat → List PyData → Option PyData
/-- a function as data: its address -/
noncomputable def fnD (a : Nat) : PyData := .dict [(.int a, .none)]
noncomputable def fnOfD : PyData → Option Nat
  | .dict kvs => match kvs with
    | [] => none
    | p :: _ => match p.1 with
      | .int a => some a.toNat
      | _ => none
  | _ => none
noncomputable def Res.bind (r : Res) (f : PyData → Res) : Res := match r with
  | .ok d => f d
  | .exc k => .exc k
  | .bad => .bad
/-- what raises is bad -/
noncomputable def Res.thenOk (r : Res) (f : PyData → Res) : Res := match r with
  | .ok d => f d
  | .exc _ => .bad
  | .bad => .bad
theorem Res.then_ok (d : PyData) (f : PyData → Res) : (Res.ok d).thenOk f = f d := rfl
theorem Res.bind_ok (d : PyData) (f : PyData → Res) : (Res.ok d).bind f = f d := rfl
noncomputable def itemsOf : PyData → Option (List PyData)
  | .list ds => if ds.length ≤ 100000 then some ds else none
  | .tuple ds => if ds.length ≤ 100000 then some ds else none
  | _ => none
noncomputable def rangeN (a b c : Int) : Nat := (Builtin.Range.rangeSize a b c).toNat
noncomputable def rangeD (a b c : Int) : List PyData := (List.range (rangeN a b c)).map fun (i : Nat) => .int (a + i * c)
noncomputable def rangeOk (a b c : Int) : Bool := Builtin.Range.small a b c && (decide (c ≠ 0) && decide (c.natAbs < 1000)) && decide (0 ≤ Builtin.Range.rangeSize a b c) && decide (rangeN a b c ≤ 1000)
noncomputable def optD : PyData → Option PyData
  | .none => none
  | d => some d
noncomputable def strsOf : List PyData → Option (List Str)
  | [] => some []
  | .str x :: r => (strsOf r).map (x :: ·)
  | _ :: _ => none
noncomputable def catS : List Str → Str
  | [] => ⟨#[]⟩
  | x :: r => ⟨x.cps ++ (catS r).cps⟩
noncomputable def opJoin : PyData → Res
  | .list ds => match strsOf ds with
    | some l => if l.length ≤ 100 ∧ l.all (fun x => x.length ≤ 100) then .ok (.str (catS l)) else .bad
    | none => .bad
  | _ => .bad
/-- an element a turn -/
noncomputable def compGo (cond elt : PyData → Res) : List PyData → Res
  | [] => .ok (.list [])
  | d :: r => match cond d with
    | .ok c => (match truth c with
      | some true => (match elt d with
        | .ok e => (match compGo cond elt r with
          | .ok (.list es) => .ok (.list (e :: es))
          | _ => .bad)
        | _ => .bad)
      | some false => compGo cond elt r
      | none => .bad)
    | _ => .bad
mutual
noncomputable def ev (T : Tab) : X → List SV → Res
  | .var i, σ => match σ[i]? with
    | some (.val d) => .ok d
    | _ => .bad
  | .int i, _ => .ok (.int i)
  | .str x, _ => .ok (.str x)
  | .bool b, _ => .ok (.bool b)
  | .nothing, _ => .ok .none
  | .glob g, _ => match T.gvals[g]? with
    | some d => .ok d
    | none => .bad
  | .list es, σ => (evs T es σ).bind fun l => match l with
    | .list ds => if ds.length ≤ 100000 then .ok (.list ds) else .bad
    | _ => .bad
  | .tup es, σ => (evs T es σ).bind fun l => match l with
    | .list ds => if ds.length ≤ 100000 then .ok (.tuple ds) else .bad
    | _ => .bad
  | .bin op a b, σ => (ev T a σ).bind fun x => (ev T b σ).bind fun y => opBin op x y
  | .cmp op a b, σ => (ev T a σ).bind fun x => (ev T b σ).bind fun y => opCmp op x y
  | .cmp2 op₁ op₂ a b c, σ => (ev T a σ).bind fun x => (ev T b σ).bind fun y => (opCmp op₁ x y).bind fun t => match t with
    | .bool true => (ev T c σ).bind fun z => opCmp op₂ y z
    | .bool false => .ok (.bool false)
    | _ => .bad
  | .outside a i, σ => (ev T a σ).bind fun x => match σ[i]? with
    | some (.own ds) => opCmp .NotIn x (.list ds)
    | _ => .bad
  | .not a, σ => (ev T a σ).bind fun x => match truth x with
    | some b => .ok (.bool (!b))
    | none => .bad
  | .and a b, σ => (ev T a σ).bind fun x => match truth x with
    | some true => ev T b σ
    | some false => .ok x
    | none => .bad
  | .or a b, σ => (ev T a σ).bind fun x => match truth x with
    | some true => .ok x
    | some false => ev T b σ
    | none => .bad
  | .ite c a b, σ => (ev T c σ).bind fun x => match truth x with
    | some true => ev T a σ
    | some false => ev T b σ
    | none => .bad
  | .idx a b, σ => (ev T a σ).bind fun x => (ev T b σ).bind fun y => opIdx x y
  | .slice a lo hi, σ => (ev T a σ).bind fun x => (ev T lo σ).bind fun y => (ev T hi σ).bind fun z => opSlice x (optD y) (optD z)
  | .call f args, σ => (evs T args σ).bind fun l => match l with
    | .list ds => (match T.F f ds with
      | some d => .ok d
      | none => .bad)
    | _ => .bad
  | .bi b a, σ => (ev T a σ).bind fun x => opBi b x
  | .compR a b c cond elt, σ => if rangeOk a b c then compGo (fun d => ev T cond (σ ++ [.val d])) (fun d => ev T elt (σ ++ [.val d])) (rangeD a b c) else .bad
  | .comp src cond elt, σ => (ev T src σ).thenOk fun l => match itemsOf l with
    | some ds => compGo (fun d => ev T cond (σ ++ [.val d])) (fun d => ev T elt (σ ++ [.val d])) ds
    | none => .bad
  | .join a, σ => (ev T a σ).bind opJoin
  | .callV i a, σ => match σ[i]? with
    | some (.val f) => (match fnOfD f with
      | some l => (ev T a σ).thenOk fun x => (match T.L l [x] with
        | some d => .ok d
        | none => .bad)
      | none => .bad)
    | _ => .bad
noncomputable def evs (T : Tab) : List X → List SV → Res
  | [], _ => .ok (.list [])
  | x :: r, σ => (ev T x σ).bind fun d => (evs T r σ).bind fun l => match l with
    | .list ds => .ok (.list (d :: ds))
    | _ => .bad
end
theorem evq_var (T : Tab) (σ : List SV) {i} : ev T (.var i) σ = (match σ[i]? with
    | some (.val d) => .ok d
    | _ => .bad) := rfl
theorem evq_int (T : Tab) (σ : List SV) {i} : ev T (.int i) σ = (.ok (.int i)) := rfl
theorem evq_str (T : Tab) (σ : List SV) {x} : ev T (.str x) σ = (.ok (.str x)) := rfl
theorem evq_bool (T : Tab) (σ : List SV) {b} : ev T (.bool b) σ = (.ok (.bool b)) := rfl
theorem evq_nothing (T : Tab) (σ : List SV) : ev T .nothing σ = (.ok .none) := rfl
theorem evq_glob (T : Tab) (σ : List SV) {g} : ev T (.glob g) σ = (match T.gvals[g]? with
    | some d => .ok d
    | none => .bad) := rfl
theorem evq_list (T : Tab) (σ : List SV) {es} : ev T (.list es) σ = ((evs T es σ).bind fun l => match l with
    | .list ds => if ds.length ≤ 100000 then .ok (.list ds) else .bad
    | _ => .bad) := rfl
theorem evq_tup (T : Tab) (σ : List SV) {es} : ev T (.tup es) σ = ((evs T es σ).bind fun l => match l with
    | .list ds => if ds.length ≤ 100000 then .ok (.tuple ds) else .bad
    | _ => .bad) := rfl
theorem evq_bin (T : Tab) (σ : List SV) {op a b} : ev T (.bin op a b) σ = ((ev T a σ).bind fun x => (ev T b σ).bind fun y => opBin op x y) := rfl
theorem evq_cmp (T : Tab) (σ : List SV) {op a b} : ev T (.cmp op a b) σ = ((ev T a σ).bind fun x => (ev T b σ).bind fun y => opCmp op x y) := rfl
theorem evq_cmp2 (T : Tab) (σ : List SV) {op₁ op₂ a b c} : ev T (.cmp2 op₁ op₂ a b c) σ = ((ev T a σ).bind fun x => (ev T b σ).bind fun y => (opCmp op₁ x y).bind fun t => match t with
    | .bool true => (ev T c σ).bind fun z => opCmp op₂ y z
    | .bool false => .ok (.bool false)
    | _ => .bad) := rfl
theorem evq_outside (T : Tab) (σ : List SV) {a i} : ev T (.outside a i) σ = ((ev T a σ).bind fun x => match σ[i]? with
    | some (.own ds) => opCmp .NotIn x (.list ds)
    | _ => .bad) := rfl
theorem evq_not (T : Tab) (σ : List SV) {a} : ev T (.not a) σ = ((ev T a σ).bind fun x => match truth x with
    | some b => .ok (.bool (!b))
    | none => .bad) := rfl
theorem evq_and (T : Tab) (σ : List SV) {a b} : ev T (.and a b) σ = ((ev T a σ).bind fun x => match truth x with
    | some true => ev T b σ
    | some false => .ok x
    | none => .bad) := rfl
theorem evq_or (T : Tab) (σ : List SV) {a b} : ev T (.or a b) σ = ((ev T a σ).bind fun x => match truth x with
    | some true => .ok x
    | some false => ev T b σ
    | none => .bad) := rfl
theorem evq_ite (T : Tab) (σ : List SV) {c a b} : ev T (.ite c a b) σ = ((ev T c σ).bind fun x => match truth x with
    | some true => ev T a σ
    | some false => ev T b σ
    | none => .bad) := rfl
theorem evq_idx (T : Tab) (σ : List SV) {a b} : ev T (.idx a b) σ = ((ev T a σ).bind fun x => (ev T b σ).bind fun y => opIdx x y) := rfl
theorem evq_slice (T : Tab) (σ : List SV) {a lo hi} : ev T (.slice a lo hi) σ = ((ev T a σ).bind fun x => (ev T lo σ).bind fun y => (ev T hi σ).bind fun z => opSlice x (optD y) (optD z)) := rfl
theorem evq_call (T : Tab) (σ : List SV) {f args} : ev T (.call f args) σ = ((evs T args σ).bind fun l => match l with
    | .list ds => (match T.F f ds with
      | some d => .ok d
      | none => .bad)
    | _ => .bad) := rfl
theorem evq_bi (T : Tab) (σ : List SV) {b a} : ev T (.bi b a) σ = ((ev T a σ).bind fun x => opBi b x) := rfl
theorem evq_compR (T : Tab) (σ : List SV) {a b c cond elt} : ev T (.compR a b c cond elt) σ = (if rangeOk a b c then compGo (fun d => ev T cond (σ ++ [.val d])) (fun d => ev T elt (σ ++ [.val d])) (rangeD a b c) else .bad) := rfl
theorem evq_comp (T : Tab) (σ : List SV) {src cond elt} : ev T (.comp src cond elt) σ = ((ev T src σ).thenOk fun l => match itemsOf l with
    | some ds => compGo (fun d => ev T cond (σ ++ [.val d])) (fun d => ev T elt (σ ++ [.val d])) ds
    | none => .bad) := rfl
theorem evq_join (T : Tab) (σ : List SV) {a} : ev T (.join a) σ = ((ev T a σ).bind opJoin) := rfl
theorem evq_callV (T : Tab) (σ : List SV) {i a} : ev T (.callV i a) σ = (match σ[i]? with
    | some (.val f) => (match fnOfD f with
      | some l => (ev T a σ).thenOk fun x => (match T.L l [x] with
        | some d => .ok d
        | none => .bad)
      | none => .bad)
    | _ => .bad) := rfl
theorem evqs_nil (T : Tab) (σ : List SV) : evs T [] σ = (.ok (.list [])) := rfl
theorem evqs_cons (T : Tab) (σ : List SV) {x r} : evs T (x :: r) σ = ((ev T x σ).bind fun d => (evs T r σ).bind fun l => match l with
    | .list ds => .ok (.list (d :: ds))
    | _ => .bad) := rfl
/-! which syntax an expression stands for -/
abbrev Sc := List (Str × NameKind)
noncomputable def nmIdx : List Str → Str → Option Nat
  | [], _ => none
  | y :: r, x => match nmIdx r x with
    | some i => some (i + 1)
    | none => if y = x then some 0 else none
noncomputable def isVar : Option NameKind → Bool
  | some .local => true
  | some .cell => true
  | some .free => true
  | _ => false
noncomputable def isGlob (sc : Sc) (x : Str) : Bool := sc.lookup x == some .globalImplicit && x != ("__debug__" : Str)
noncomputable def relab (sc : Sc) (names : Sc) : Sc := names.map fun (n, k) => if (k == .free && sc.lookup n == some .cell) then (n, .cell) else (n, k)
noncomputable def nodupB : List Str → Bool
  | [] => true
  | x :: r => !r.contains x && nodupB r
noncomputable def compOk (sc : Sc) (nm : List Str) (t : Str) (scope : Scope) : Bool :=
  scope.kind == .function && nodupB (scope.names.map (·.1)) &&
  scope.names.all (fun x => x.2 != .free || (sc.lookup x.1 == some .cell || sc.lookup x.1 == some .free)) &&
  scope.names.all (fun x => (x.2 != .local && x.2 != .cell) || x.1 == t || nmIdx nm x.1 == none)
noncomputable def tgtOk (scope : Scope) (t : Str) : Bool := scope.names.lookup t == some .local || scope.names.lookup t == some .cell
theorem andL {a b : Bool} (h : (a && b) = true) : a = true := (Bool.and_eq_true_iff.mp h).1
theorem andR {a b : Bool} (h : (a && b) = true) : b = true := (Bool.and_eq_true_iff.mp h).2
noncomputable def at1 {α : Type} (q : α → Bool) : List α → Bool
  | [a] => q a
  | _ => false
theorem at1_inv {α : Type} {q : α → Bool} {l : List α} (h : at1 q l = true) : ∃ a, l = [a] ∧ q a = true := by
  match l, h with
  | [a], h => exact ⟨a, rfl, h⟩
noncomputable def at2 {α : Type} (q : α → α → Bool) : List α → Bool
  | [a, b] => q a b
  | _ => false
theorem at2_inv {α : Type} {q : α → α → Bool} {l : List α} (h : at2 q l = true) : ∃ a b, l = [a, b] ∧ q a b = true := by
  match l, h with
  | [a, b], h => exact ⟨a, b, rfl, h⟩
noncomputable def at3 {α : Type} (q : α → α → α → Bool) : List α → Bool
  | [a, b, c] => q a b c
  | _ => false
theorem at3_inv {α : Type} {q : α → α → α → Bool} {l : List α} (h : at3 q l = true) : ∃ a b c, l = [a, b, c] ∧ q a b c = true := by
  match l, h with
  | [a, b, c], h => exact ⟨a, b, c, rfl, h⟩
theorem nil_inv {α : Type} {l : List α} (h : l.isEmpty = true) : l = [] := List.isEmpty_iff.mp h
theorem none_inv {α : Type} {o : Option α} (h : o.isNone = true) : o = none := Option.isNone_iff_eq_none.mp h
noncomputable def isUn : UnaryOp → Bool
  | .Not => true
  | _ => false
noncomputable def isNeg : UnaryOp → Bool
  | .USub => true
  | _ => false
noncomputable def isAnd : BoolOp → Bool
  | .And => true
  | .Or => false
theorem isUn_inv {o : UnaryOp} (h : isUn o = true) : o = .Not := by cases o <;> first | rfl | cases h
theorem isNeg_inv {o : UnaryOp} (h : isNeg o = true) : o = .USub := by cases o <;> first | rfl | cases h
theorem isAnd_inv {o : BoolOp} (h : isAnd o = true) : o = .And := by cases o <;> first | rfl | cases h
theorem isOr_inv {o : BoolOp} (h : (!isAnd o) = true) : o = .Or := by cases o <;> first | rfl | cases h
noncomputable def atName (q : Str → Pos → Bool) (e₀ : PySem.Expr) : Bool := if h : e₀.ctorIdx = 23 then PySem.Expr.Name.elim (motive_1 := fun _ => Bool) e₀ h q else false
theorem atName_inv {q : Str → Pos → Bool} {e₀ : PySem.Expr} (h : atName q e₀ = true) : ∃ x p, e₀ = .Name x p ∧ q x p = true := by
  unfold atName at h
  split at h
  · rename_i hi
    revert h
    exact PySem.Expr.Name.elim (motive_1 := fun t₀ => ∀ hi, PySem.Expr.Name.elim (motive_1 := fun _ => Bool) t₀ hi q = true → ∃ x p, t₀ = .Name x p ∧ q x p = true) e₀ hi (fun x p _ h => ⟨x, p, rfl, h⟩) hi
  · cases h
noncomputable def atConstant (q : Const → Nat → Pos → Bool) (e₀ : PySem.Expr) : Bool := if h : e₀.ctorIdx = 19 then PySem.Expr.Constant.elim (motive_1 := fun _ => Bool) e₀ h q else false
theorem atConstant_inv {q : Const → Nat → Pos → Bool} {e₀ : PySem.Expr} (h : atConstant q e₀ = true) : ∃ c k p, e₀ = .Constant c k p ∧ q c k p = true := by
  unfold atConstant at h
  split at h
  · rename_i hi
    revert h
    exact PySem.Expr.Constant.elim (motive_1 := fun t₀ => ∀ hi, PySem.Expr.Constant.elim (motive_1 := fun _ => Bool) t₀ hi q = true → ∃ c k p, t₀ = .Constant c k p ∧ q c k p = true) e₀ hi (fun c k p _ h => ⟨c, k, p, rfl, h⟩) hi
  · cases h
noncomputable def atList (q : List Expr → Pos → Bool) (e₀ : PySem.Expr) : Bool := if h : e₀.ctorIdx = 24 then PySem.Expr.List.elim (motive_1 := fun _ => Bool) e₀ h q else false
theorem atList_inv {q : List Expr → Pos → Bool} {e₀ : PySem.Expr} (h : atList q e₀ = true) : ∃ es p, e₀ = .List es p ∧ q es p = true := by
  unfold atList at h
  split at h
  · rename_i hi
    revert h
    exact PySem.Expr.List.elim (motive_1 := fun t₀ => ∀ hi, PySem.Expr.List.elim (motive_1 := fun _ => Bool) t₀ hi q = true → ∃ es p, t₀ = .List es p ∧ q es p = true) e₀ hi (fun es p _ h => ⟨es, p, rfl, h⟩) hi
  · cases h
noncomputable def atTuple (q : List Expr → Nat → Pos → Bool) (e₀ : PySem.Expr) : Bool := if h : e₀.ctorIdx = 25 then PySem.Expr.Tuple.elim (motive_1 := fun _ => Bool) e₀ h q else false
theorem atTuple_inv {q : List Expr → Nat → Pos → Bool} {e₀ : PySem.Expr} (h : atTuple q e₀ = true) : ∃ es k p, e₀ = .Tuple es k p ∧ q es k p = true := by
  unfold atTuple at h
  split at h
  · rename_i hi
    revert h
    exact PySem.Expr.Tuple.elim (motive_1 := fun t₀ => ∀ hi, PySem.Expr.Tuple.elim (motive_1 := fun _ => Bool) t₀ hi q = true → ∃ es k p, t₀ = .Tuple es k p ∧ q es k p = true) e₀ hi (fun es k p _ h => ⟨es, k, p, rfl, h⟩) hi
  · cases h
noncomputable def atBinOp (q : Expr → Operator → Expr → Pos → Bool) (e₀ : PySem.Expr) : Bool := if h : e₀.ctorIdx = 2 then PySem.Expr.BinOp.elim (motive_1 := fun _ => Bool) e₀ h q else false
theorem atBinOp_inv {q : Expr → Operator → Expr → Pos → Bool} {e₀ : PySem.Expr} (h : atBinOp q e₀ = true) : ∃ l op r p, e₀ = .BinOp l op r p ∧ q l op r p = true := by
  unfold atBinOp at h
  split at h
  · rename_i hi
    revert h
    exact PySem.Expr.BinOp.elim (motive_1 := fun t₀ => ∀ hi, PySem.Expr.BinOp.elim (motive_1 := fun _ => Bool) t₀ hi q = true → ∃ l op r p, t₀ = .BinOp l op r p ∧ q l op r p = true) e₀ hi (fun l op r p _ h => ⟨l, op, r, p, rfl, h⟩) hi
  · cases h
noncomputable def atCompare (q : Expr → List CmpOp → List Expr → Pos → Bool) (e₀ : PySem.Expr) : Bool := if h : e₀.ctorIdx = 15 then PySem.Expr.Compare.elim (motive_1 := fun _ => Bool) e₀ h q else false
theorem atCompare_inv {q : Expr → List CmpOp → List Expr → Pos → Bool} {e₀ : PySem.Expr} (h : atCompare q e₀ = true) : ∃ l ops rs p, e₀ = .Compare l ops rs p ∧ q l ops rs p = true := by
  unfold atCompare at h
  split at h
  · rename_i hi
    revert h
    exact PySem.Expr.Compare.elim (motive_1 := fun t₀ => ∀ hi, PySem.Expr.Compare.elim (motive_1 := fun _ => Bool) t₀ hi q = true → ∃ l ops rs p, t₀ = .Compare l ops rs p ∧ q l ops rs p = true) e₀ hi (fun l ops rs p _ h => ⟨l, ops, rs, p, rfl, h⟩) hi
  · cases h
noncomputable def atUnaryOp (q : UnaryOp → Expr → Pos → Bool) (e₀ : PySem.Expr) : Bool := if h : e₀.ctorIdx = 3 then PySem.Expr.UnaryOp.elim (motive_1 := fun _ => Bool) e₀ h q else false
theorem atUnaryOp_inv {q : UnaryOp → Expr → Pos → Bool} {e₀ : PySem.Expr} (h : atUnaryOp q e₀ = true) : ∃ op a p, e₀ = .UnaryOp op a p ∧ q op a p = true := by
  unfold atUnaryOp at h
  split at h
  · rename_i hi
    revert h
    exact PySem.Expr.UnaryOp.elim (motive_1 := fun t₀ => ∀ hi, PySem.Expr.UnaryOp.elim (motive_1 := fun _ => Bool) t₀ hi q = true → ∃ op a p, t₀ = .UnaryOp op a p ∧ q op a p = true) e₀ hi (fun op a p _ h => ⟨op, a, p, rfl, h⟩) hi
  · cases h
noncomputable def atBoolOp (q : BoolOp → List Expr → Pos → Bool) (e₀ : PySem.Expr) : Bool := if h : e₀.ctorIdx = 0 then PySem.Expr.BoolOp.elim (motive_1 := fun _ => Bool) e₀ h q else false
theorem atBoolOp_inv {q : BoolOp → List Expr → Pos → Bool} {e₀ : PySem.Expr} (h : atBoolOp q e₀ = true) : ∃ op es p, e₀ = .BoolOp op es p ∧ q op es p = true := by
  unfold atBoolOp at h
  split at h
  · rename_i hi
    revert h
    exact PySem.Expr.BoolOp.elim (motive_1 := fun t₀ => ∀ hi, PySem.Expr.BoolOp.elim (motive_1 := fun _ => Bool) t₀ hi q = true → ∃ op es p, t₀ = .BoolOp op es p ∧ q op es p = true) e₀ hi (fun op es p _ h => ⟨op, es, p, rfl, h⟩) hi
  · cases h
noncomputable def atIfExp (q : Expr → Expr → Expr → Pos → Bool) (e₀ : PySem.Expr) : Bool := if h : e₀.ctorIdx = 5 then PySem.Expr.IfExp.elim (motive_1 := fun _ => Bool) e₀ h q else false
theorem atIfExp_inv {q : Expr → Expr → Expr → Pos → Bool} {e₀ : PySem.Expr} (h : atIfExp q e₀ = true) : ∃ t a b p, e₀ = .IfExp t a b p ∧ q t a b p = true := by
  unfold atIfExp at h
  split at h
  · rename_i hi
    revert h
    exact PySem.Expr.IfExp.elim (motive_1 := fun t₀ => ∀ hi, PySem.Expr.IfExp.elim (motive_1 := fun _ => Bool) t₀ hi q = true → ∃ t a b p, t₀ = .IfExp t a b p ∧ q t a b p = true) e₀ hi (fun t a b p _ h => ⟨t, a, b, p, rfl, h⟩) hi
  · cases h
noncomputable def atSubscript (q : Expr → Expr → Pos → Bool) (e₀ : PySem.Expr) : Bool := if h : e₀.ctorIdx = 21 then PySem.Expr.Subscript.elim (motive_1 := fun _ => Bool) e₀ h q else false
theorem atSubscript_inv {q : Expr → Expr → Pos → Bool} {e₀ : PySem.Expr} (h : atSubscript q e₀ = true) : ∃ v i p, e₀ = .Subscript v i p ∧ q v i p = true := by
  unfold atSubscript at h
  split at h
  · rename_i hi
    revert h
    exact PySem.Expr.Subscript.elim (motive_1 := fun t₀ => ∀ hi, PySem.Expr.Subscript.elim (motive_1 := fun _ => Bool) t₀ hi q = true → ∃ v i p, t₀ = .Subscript v i p ∧ q v i p = true) e₀ hi (fun v i p _ h => ⟨v, i, p, rfl, h⟩) hi
  · cases h
noncomputable def atSlice (q : Option Expr → Option Expr → Option Expr → Pos → Bool) (e₀ : PySem.Expr) : Bool := if h : e₀.ctorIdx = 26 then PySem.Expr.Slice.elim (motive_1 := fun _ => Bool) e₀ h q else false
theorem atSlice_inv {q : Option Expr → Option Expr → Option Expr → Pos → Bool} {e₀ : PySem.Expr} (h : atSlice q e₀ = true) : ∃ l u s p, e₀ = .Slice l u s p ∧ q l u s p = true := by
  unfold atSlice at h
  split at h
  · rename_i hi
    revert h
    exact PySem.Expr.Slice.elim (motive_1 := fun t₀ => ∀ hi, PySem.Expr.Slice.elim (motive_1 := fun _ => Bool) t₀ hi q = true → ∃ l u s p, t₀ = .Slice l u s p ∧ q l u s p = true) e₀ hi (fun l u s p _ h => ⟨l, u, s, p, rfl, h⟩) hi
  · cases h
noncomputable def atCall (q : Expr → List Expr → List Keyword → Pos → Bool) (e₀ : PySem.Expr) : Bool := if h : e₀.ctorIdx = 16 then PySem.Expr.Call.elim (motive_1 := fun _ => Bool) e₀ h q else false
theorem atCall_inv {q : Expr → List Expr → List Keyword → Pos → Bool} {e₀ : PySem.Expr} (h : atCall q e₀ = true) : ∃ f as kw p, e₀ = .Call f as kw p ∧ q f as kw p = true := by
  unfold atCall at h
  split at h
  · rename_i hi
    revert h
    exact PySem.Expr.Call.elim (motive_1 := fun t₀ => ∀ hi, PySem.Expr.Call.elim (motive_1 := fun _ => Bool) t₀ hi q = true → ∃ f as kw p, t₀ = .Call f as kw p ∧ q f as kw p = true) e₀ hi (fun f as kw p _ h => ⟨f, as, kw, p, rfl, h⟩) hi
  · cases h
noncomputable def atListComp (q : Expr → List Comprehension → Scope → Pos → Bool) (e₀ : PySem.Expr) : Bool := if h : e₀.ctorIdx = 8 then PySem.Expr.ListComp.elim (motive_1 := fun _ => Bool) e₀ h q else false
theorem atListComp_inv {q : Expr → List Comprehension → Scope → Pos → Bool} {e₀ : PySem.Expr} (h : atListComp q e₀ = true) : ∃ a gens scope p, e₀ = .ListComp a gens scope p ∧ q a gens scope p = true := by
  unfold atListComp at h
  split at h
  · rename_i hi
    revert h
    exact PySem.Expr.ListComp.elim (motive_1 := fun t₀ => ∀ hi, PySem.Expr.ListComp.elim (motive_1 := fun _ => Bool) t₀ hi q = true → ∃ a gens scope p, t₀ = .ListComp a gens scope p ∧ q a gens scope p = true) e₀ hi (fun a gens scope p _ h => ⟨a, gens, scope, p, rfl, h⟩) hi
  · cases h
noncomputable def atAttribute (q : Expr → Str → Pos → Bool) (e₀ : PySem.Expr) : Bool := if h : e₀.ctorIdx = 20 then PySem.Expr.Attribute.elim (motive_1 := fun _ => Bool) e₀ h q else false
theorem atAttribute_inv {q : Expr → Str → Pos → Bool} {e₀ : PySem.Expr} (h : atAttribute q e₀ = true) : ∃ a x p, e₀ = .Attribute a x p ∧ q a x p = true := by
  unfold atAttribute at h
  split at h
  · rename_i hi
    revert h
    exact PySem.Expr.Attribute.elim (motive_1 := fun t₀ => ∀ hi, PySem.Expr.Attribute.elim (motive_1 := fun _ => Bool) t₀ hi q = true → ∃ a x p, t₀ = .Attribute a x p ∧ q a x p = true) e₀ hi (fun a x p _ h => ⟨a, x, p, rfl, h⟩) hi
  · cases h
noncomputable def atConstInt (q : Int → Bool) (e₀ : PySem.Const) : Bool := if h : e₀.ctorIdx = 2 then PySem.Const.int.elim (motive := fun _ => Bool) e₀ h q else false
theorem atConstInt_inv {q : Int → Bool} {e₀ : PySem.Const} (h : atConstInt q e₀ = true) : ∃ i, e₀ = .int i ∧ q i = true := by
  unfold atConstInt at h
  split at h
  · rename_i hi
    revert h
    exact PySem.Const.int.elim (motive := fun t₀ => ∀ hi, PySem.Const.int.elim (motive := fun _ => Bool) t₀ hi q = true → ∃ i, t₀ = .int i ∧ q i = true) e₀ hi (fun i _ h => ⟨i, rfl, h⟩) hi
  · cases h
noncomputable def atConstStr (q : Str → Bool) (e₀ : PySem.Const) : Bool := if h : e₀.ctorIdx = 5 then PySem.Const.str.elim (motive := fun _ => Bool) e₀ h q else false
theorem atConstStr_inv {q : Str → Bool} {e₀ : PySem.Const} (h : atConstStr q e₀ = true) : ∃ x, e₀ = .str x ∧ q x = true := by
  unfold atConstStr at h
  split at h
  · rename_i hi
    revert h
    exact PySem.Const.str.elim (motive := fun t₀ => ∀ hi, PySem.Const.str.elim (motive := fun _ => Bool) t₀ hi q = true → ∃ x, t₀ = .str x ∧ q x = true) e₀ hi (fun x _ h => ⟨x, rfl, h⟩) hi
  · cases h
noncomputable def atConstBool (q : Bool → Bool) (e₀ : PySem.Const) : Bool := if h : e₀.ctorIdx = 1 then PySem.Const.bool.elim (motive := fun _ => Bool) e₀ h q else false
theorem atConstBool_inv {q : Bool → Bool} {e₀ : PySem.Const} (h : atConstBool q e₀ = true) : ∃ b, e₀ = .bool b ∧ q b = true := by
  unfold atConstBool at h
  split at h
  · rename_i hi
    revert h
    exact PySem.Const.bool.elim (motive := fun t₀ => ∀ hi, PySem.Const.bool.elim (motive := fun _ => Bool) t₀ hi q = true → ∃ b, t₀ = .bool b ∧ q b = true) e₀ hi (fun b _ h => ⟨b, rfl, h⟩) hi
  · cases h
noncomputable def plainE (e : Expr) : Bool := !(e.ctorIdx == 22 || e.ctorIdx == 26 || e.ctorIdx == 7)
noncomputable def isTrueX : X → Bool
  | .bool true => true
  | _ => false
noncomputable def constE (e : Expr) (j : Int) : Bool :=
  atConstant (fun c _ _ => atConstInt (fun i => i == j) c) e || atUnaryOp (fun o a _ => isNeg o && atConstant (fun c _ _ => atConstInt (fun i => -i == j) c) a) e
noncomputable def rangeE (sc : Sc) (a b c : Int) (e : Expr) : Bool := atCall (fun f as kw _ => atName (fun x _ => isGlob sc x && x == ("range" : Str) && kw.isEmpty &&
  (at1 (fun x => a == 0 && constE x b && c == 1 && plainE x) as || at2 (fun x y => constE x a && constE y b && c == 1 && plainE x && plainE y) as ||
    at3 (fun x y z => constE x a && constE y b && constE z c && plainE x && plainE y && plainE z) as)) f) e
noncomputable def isNothing (x : X) : Bool := x.ctorIdx == 4
mutual
noncomputable def Mx (T : Tab) (sc : Sc) (nm : List Str) : X → Expr → Bool
  | .var i, e₀ => atName (fun x _ => nmIdx nm x == some i && isVar (sc.lookup x) && x != ("__debug__" : Str) && x != ("__classdict__" : Str)) e₀
  | .int i, e₀ => atConstant (fun c _ _ => atConstInt (fun j => i == j) c) e₀
  | .str x, e₀ => atConstant (fun c _ _ => atConstStr (fun y => x == y) c) e₀
  | .bool b, e₀ => atConstant (fun c _ _ => atConstBool (fun d => b == d) c) e₀
  | .glob g, e₀ => atName (fun x _ => isGlob sc x && T.gnames[g]? == some x) e₀
  | .list es, e₀ => atList (fun es' _ => Mxs T sc nm es es') e₀
  | .tup es, e₀ => atTuple (fun es' _ _ => Mxs T sc nm es es') e₀
  | .bin op a b, e₀ => atBinOp (fun l op' r _ => decide (op = op') && Mx T sc nm a l && Mx T sc nm b r) e₀
  | .cmp op a b, e₀ => atCompare (fun l ops rs _ => at1 (fun op' => at1 (fun r => decide (op = op') && Mx T sc nm a l && Mx T sc nm b r && plainE r) rs) ops) e₀
  | .cmp2 op₁ op₂ a b c, e₀ => atCompare (fun l ops rs _ => at2 (fun op₁' op₂' => at2 (fun m r => decide (op₁ = op₁') && decide (op₂ = op₂') && Mx T sc nm a l && Mx T sc nm b m && Mx T sc nm c r && plainE m && plainE r) rs) ops) e₀
  | .outside a i, e₀ => atCompare (fun l ops rs _ => at1 (fun op' => at1 (fun r => atName (fun x _ => decide (op' = .NotIn) && (Mx T sc nm a l && nmIdx nm x == some i && isVar (sc.lookup x) && x != ("__debug__" : Str) && x != ("__classdict__" : Str))) r) rs) ops) e₀
  | .not a, e₀ => atUnaryOp (fun o e _ => isUn o && Mx T sc nm a e) e₀
  | .and a b, e₀ => atBoolOp (fun o es _ => isAnd o && at2 (fun l r => Mx T sc nm a l && Mx T sc nm b r) es) e₀
  | .or a b, e₀ => atBoolOp (fun o es _ => !isAnd o && at2 (fun l r => Mx T sc nm a l && Mx T sc nm b r) es) e₀
  | .ite c a b, e₀ => atIfExp (fun t x y _ => Mx T sc nm c t && Mx T sc nm a x && Mx T sc nm b y) e₀
  | .idx a b, e₀ => atSubscript (fun v i _ => Mx T sc nm a v && Mx T sc nm b i && plainE i) e₀
  | .slice a lo hi, e₀ => atSubscript (fun v i _ => atSlice (fun l u st _ => st.isNone && (Mx T sc nm a v && (match l with
      | none => isNothing lo
      | some e => Mx T sc nm lo e && plainE e) && (match u with
      | none => isNothing hi
      | some e => Mx T sc nm hi e && plainE e))) i) e₀
  | .call f args, e₀ => atCall (fun g as kw _ => atName (fun x _ => kw.isEmpty && (isGlob sc x && T.fnames[f]? == some x && Mxs T sc nm args as && !as.isEmpty)) g) e₀
  | .bi b a, e₀ => atCall (fun g as kw _ => atName (fun x _ => kw.isEmpty && at1 (fun e => isGlob sc x && x == b.name && Mx T sc nm a e && plainE e) as) g) e₀
  | .compR a b c cond elt, e₀ => atListComp (fun e gens scope _ => at1 (fun g => atName (fun t _ => decide (g.is_async = 0) &&
      (rangeE sc a b c g.iter && compOk sc nm t scope && tgtOk scope t && Mx T (relab sc scope.names) (nm ++ [t]) elt e && plainE e &&
        (match g.ifs with
          | [] => isTrueX cond
          | [q] => Mx T (relab sc scope.names) (nm ++ [t]) cond q
          | _ => false))) g.target) gens) e₀
  | .comp src cond elt, e₀ => atListComp (fun e gens scope _ => at1 (fun g => atName (fun t _ => decide (g.is_async = 0) &&
      (Mx T sc nm src g.iter && plainE g.iter && compOk sc nm t scope && tgtOk scope t && Mx T (relab sc scope.names) (nm ++ [t]) elt e && plainE e &&
        (match g.ifs with
          | [] => isTrueX cond
          | [q] => Mx T (relab sc scope.names) (nm ++ [t]) cond q
          | _ => false))) g.target) gens) e₀
  | .join a, e₀ => atCall (fun g as kw pos => atAttribute (fun z name apos => atConstant (fun c _ _ => atConstStr (fun z => kw.isEmpty && at1 (fun e => z == ⟨#[]⟩ && name == ("join" : Str) && apos.endLine == pos.line && Mx T sc nm a e && plainE e) as) c) z) g) e₀
  | .callV i a, e₀ => atCall (fun g as kw _ => kw.isEmpty && (atName (fun x _ => nmIdx nm x == some i && isVar (sc.lookup x) && x != ("__debug__" : Str) && x != ("__classdict__" : Str)) g && at1 (fun e => Mx T sc nm a e && plainE e) as)) e₀
  | .nothing, _ => false
termination_by structural x => x
noncomputable def Mxs (T : Tab) (sc : Sc) (nm : List Str) : List X → List Expr → Bool
  | [], es => es.isEmpty
  | x :: xs, es => (match es with
    | e :: es => Mx T sc nm x e && plainE e && Mxs T sc nm xs es
    | [] => false)
termination_by structural x => x
end
noncomputable def Mo (T : Tab) (sc : Sc) (nm : List Str) (x : X) (o : Option Expr) : Bool := match o with
  | none => isNothing x
  | some e => Mx T sc nm x e && plainE e
end Mine
end
section
open PySem PySem.W PyProof.Rows
namespace Mine
noncomputable def Rel (fs : List Addr) (fz : Fz) (s : Shared) (fz' : Fz) (s' : Shared) : Prop :=
  ∃ h' tk, s' = { s with heap := h', toks := tk } ∧ Ext fs s.heap h' ∧ FzExt s.heap fz fz' ∧ FzIn fz' h'
theorem Rel.trans {fs : List Addr} {a b c : Fz} {s₁ s₂ s₃ : Shared} (x : Rel fs a s₁ b s₂) (y : Rel fs b s₂ c s₃) : Rel fs a s₁ c s₃ := by
  obtain ⟨h, t, rfl, e, f, _⟩ := x
  obtain ⟨h', t', rfl, e', f', i'⟩ := y
  exact ⟨h', t', rfl, e.trans e', f.trans e f', i'⟩
theorem Rel.ext {fs : List Addr} {a b : Fz} {s₁ s₂ : Shared} (x : Rel fs a s₁ b s₂) : Ext fs s₁.heap s₂.heap := by
  obtain ⟨h, t, rfl, e, f, _⟩ := x; exact e
theorem Rel.fz {fs : List Addr} {a b : Fz} {s₁ s₂ : Shared} (x : Rel fs a s₁ b s₂) : FzExt s₁.heap a b := by
  obtain ⟨h, t, rfl, e, f, _⟩ := x; exact f
theorem Rel.fzin {fs : List Addr} {a b : Fz} {s₁ s₂ : Shared} (x : Rel fs a s₁ b s₂) : FzIn b s₂.heap := by
  obtain ⟨h, t, rfl, e, f, i⟩ := x; exact i
theorem Rel.same {fs : List Addr} {fz : Fz} {s : Shared} (hf : FzIn fz s.heap) (tk : Nat) : Rel fs fz s fz { s with toks := tk } := ⟨_, _, rfl, Ext.refl _ _, FzExt.refl _ _, hf⟩
theorem Rel.refl {fs : List Addr} {fz : Fz} {s : Shared} (hf : FzIn fz s.heap) : Rel fs fz s fz s := Rel.same hf s.toks
theorem good_iff {fs : List Addr} {fz : Fz} {s s' : Shared} {d : PyData} {v : Value} : Good fs fz s d v s' ↔ ∃ fz', Rel fs fz s fz' s' ∧ Rep fz' v d :=
  ⟨fun ⟨h', tk, fz', e, a, b, c, r⟩ => ⟨fz', ⟨h', tk, e, a, b, c⟩, r⟩, fun ⟨fz', ⟨h', tk, e, a, b, c⟩, r⟩ => ⟨h', tk, fz', e, a, b, c, r⟩⟩
theorem Good.after {fs : List Addr} {fz fz₁ : Fz} {s s₁ s' : Shared} {d : PyData} {v : Value} (x : Rel fs fz s fz₁ s₁) (g : Good fs fz₁ s₁ d v s') : Good fs fz s d v s' := by
  obtain ⟨fz', r, q⟩ := good_iff.mp g
  exact good_iff.mpr ⟨fz', x.trans r, q⟩
theorem PostV.after {fs : List Addr} {fz fz₁ : Fz} {s s₁ s' : Shared} {r : Res} {v : Value} (x : Rel fs fz s fz₁ s₁) (g : PostV fs fz₁ s₁ r v s') : PostV fs fz s r v s' := by
  cases r with
  | ok d => exact Good.after x g
  | exc k => exact g
  | bad => exact g
theorem ExcAt.before {hd : Option Value} {fs : List Addr} {h h₁ h' : Heap} {L e : Addr} {k : String} (x : Ext fs h h₁) (g : ExcAt hd h₁ L h' e k) : ExcAt hd h L h' e k := by
  obtain ⟨n, oe, vs, a, b, c, d, q⟩ := g
  refine ⟨x.none n, oe, vs, a, b, c, d, q.imp id ?_⟩
  rintro ⟨tb, ot, ts, q1, q2, q3⟩
  exact ⟨tb, ot, ts, q1, x.none q2, q3⟩
theorem PostE.after {hd : Option Value} {fs : List Addr} {fz fz₁ : Fz} {L : Addr} {s s₁ s' : Shared} {r : Res} {v : Value} (x : Rel fs fz s fz₁ s₁) (g : PostE hd fs L s₁ r v s') : PostE hd fs L s r v s' := by
  cases r with
  | ok d => exact g
  | bad => exact g
  | exc k =>
    obtain ⟨h', tk, e, rfl, rfl, a, b⟩ := g
    obtain ⟨h₁, t₁, rfl, a₁, _, _⟩ := x
    exact ⟨h', tk, e, rfl, rfl, a₁.trans a, b.before a₁⟩
/-- the outcome of a truth test -/
noncomputable def PostB (fs : List Addr) (fz : Fz) (s : Shared) : Res → Bool → Shared → Prop
  | .ok d => fun b s' => truth d = some b ∧ ∃ fz', Rel fs fz s fz' s'
  | _ => fun _ _ => False
theorem PostB.after {fs : List Addr} {fz fz₁ : Fz} {s s₁ s' : Shared} {r : Res} {v : Bool} (x : Rel fs fz s fz₁ s₁) (g : PostB fs fz₁ s₁ r v s') : PostB fs fz s r v s' := by
  cases r with
  | ok d => exact ⟨g.1, g.2.elim fun fz' r => ⟨fz', x.trans r⟩⟩
  | exc k => exact g
  | bad => exact g
theorem useV {hd : Option Value} {M : Model} {A : Around} {fs : List Addr} {fz : Fz} {L : Addr} {s : Shared} {t : Sem Value} {r₁ : Res} {K : Value → Shared → Prop} {E : Value → Shared → Prop}
    (h₁ : wpAny M A t (PostV fs fz s r₁) (PostE hd fs L s r₁) s) (hE : ∀ kk v s', r₁ = .exc kk → Bad hd fs L s kk v s' → E v s')
    (hK : ∀ d v fz₁ s₁, r₁ = .ok d → Rel fs fz s fz₁ s₁ → Rep fz₁ v d → K v s₁) : wpAny M A t K E s := by
  refine wpAny_mono h₁ (fun v s₁ h => ?_) fun v s' h => ?_
  · cases r₁ with
    | ok d =>
      obtain ⟨fz₁, r, q⟩ := good_iff.mp h
      exact hK d v fz₁ s₁ rfl r q
    | exc kk => exact h.elim
    | bad => exact h.elim
  · cases r₁ with
    | ok d => exact h.elim
    | exc kk => exact hE kk v s' rfl h
    | bad => exact h.elim
theorem useB {hd : Option Value} {M : Model} {A : Around} {fs : List Addr} {fz : Fz} {L : Addr} {s : Shared} {t : Sem Bool} {r₁ : Res} {K : Bool → Shared → Prop} {E : Value → Shared → Prop}
    (h₁ : wpAny M A t (PostB fs fz s r₁) (PostE hd fs L s r₁) s) (hE : ∀ kk v s', r₁ = .exc kk → Bad hd fs L s kk v s' → E v s')
    (hK : ∀ d b fz₁ s₁, r₁ = .ok d → truth d = some b → Rel fs fz s fz₁ s₁ → K b s₁) : wpAny M A t K E s := by
  refine wpAny_mono h₁ (fun v s₁ h => ?_) fun v s' h => ?_
  · cases r₁ with
    | ok d => obtain ⟨q, fz₁, r⟩ := h; exact hK d v fz₁ s₁ rfl q r
    | exc kk => exact h.elim
    | bad => exact h.elim
  · cases r₁ with
    | ok d => exact h.elim
    | exc kk => exact hE kk v s' rfl h
    | bad => exact h.elim
/-- an outcome of the part that raises is the whole's -/
theorem excOf {hd : Option Value} {fs : List Addr} {L : Addr} {s : Shared} {r₁ : Res} {f : PyData → Res} {kk : String} {v : Value} {s' : Shared} (e : r₁ = .exc kk) (h : Bad hd fs L s kk v s') : PostE hd fs L s (r₁.bind f) v s' := by
  subst e; exact h
/-- no exception is handled | one without a context is | any is -/
inductive Md where
  | a | b | c
/-- where a call stands: its frames, the room -/
structure Sit (md : Md) (A : Around) (outer : List Env) (n : Nat) : Prop where
  frames : A.frames = some outer
  handled : md = .a → A.handled = none
  depth : A.depth + n < 900
  units : A.units + 80 * n + 300 < cLine
noncomputable def CallOK (prog : Program) (w : World) (base : Heap) (fzT : Fz) (a : Addr) (n : Nat) (ds : List PyData) (d : PyData) : Prop :=
  ∀ (A : Around) (outer : List Env) (s : Shared) (vs : List Value) (fz : Fz) (E : Value → Shared → Prop), Sit .a A outer n → HI base outer s.heap → FzIn fz s.heap → FzLe fzT fz → RepAll fz vs ds →
    wpAny (model prog w) A (call (.ref a) vs []) (Good (fsOf outer) fz s d) E s
structure GOK (prog : Program) (w : World) (T : Tab) (base : Heap) (fzT : Fz) (mg mb : Str → Option Value) (n : Nat) : Prop where
  gl : base.Ns mainGlobals mg
  bu : base.Ns builtinsNs mb
  bis : ∀ b : Bi, mg b.name = none ∧ mb b.name = some b.callee
  rng : mg "range" = none ∧ mb "range" = some (.type "range")
  enu : mg "enumerate" = none ∧ mb "enumerate" = some (.type "enumerate")
  exi : mg "IndexError" = none ∧ mb "IndexError" = some (.type "IndexError")
  exv : mg "ValueError" = none ∧ mb "ValueError" = some (.type "ValueError")
  fns : ∀ (f : Nat) x, T.fnames[f]? = some x → ∃ a o fd, mg x = some (.ref a) ∧ base.get? a = some o ∧ o.data = .func fd ∧ ∀ ds d, T.F f ds = some d → CallOK prog w base fzT a n ds d
  lam : ∀ a ds d, T.L a ds = some d → ∃ o fd, base.get? a = some o ∧ o.data = .func fd ∧ CallOK prog w base fzT a n ds d
  gls : ∀ (g : Nat) x d, T.gnames[g]? = some x → T.gvals[g]? = some d → ∃ v, mg x = some v ∧ Rep fzT v d
noncomputable def isCellK : Option NameKind → Bool
  | some .cell => true
  | some .free => true
  | _ => false
structure EnvOK (L : Addr) (outer : List Env) (env : Env) (h : Heap) : Prop where
  kind : env.scope.kind = .function
  globals : env.globals = mainGlobals
  builtins : env.builtins = builtinsNs
  frame : env.frame = some L
  head : ∃ f r, outer = f :: r ∧ f.frame = some L
  ns : ∃ m, h.Ns env.locals m
  cells : ∀ x, isCellK (env.kindOf x) = true → ∃ c v, env.cells.lookup x = some c ∧ h.IsCell c v
noncomputable def Var (env : Env) (h : Heap) (x : Str) (v : Value) : Prop :=
  (env.kindOf x = some .local ∧ ∃ m, h.Ns env.locals m ∧ m x = some v) ∨ (isCellK (env.kindOf x) = true ∧ ∃ c, env.cells.lookup x = some c ∧ h.IsCell c (some v))
noncomputable def SVok (fs : List Addr) (fz : Fz) (h : Heap) (a : Addr) (V : Value → Prop) : SV → Prop
  | .un => True
  | .val d => ∃ v, V v ∧ Rep fz v d
  | .own ds => V (.ref a) ∧ a ∉ fs ∧ fz a = none ∧ ∃ vs, h.PlainList a vs.toArray ∧ RepAll fz vs ds
noncomputable def Inv (fs : List Addr) (env : Env) (nm : List Str) (σ : List SV) (ad : Nat → Addr) (fz : Fz) (h : Heap) : Prop :=
  ∀ x i sv, nmIdx nm x = some i → isVar (env.kindOf x) = true → σ[i]? = some sv → SVok fs fz h (ad i) (Var env h x) sv
theorem Var.ext {fs : List Addr} {h h' : Heap} {env : Env} {x : Str} {v : Value} (e : Ext fs h h') (q : Var env h x v) : Var env h' x v :=
  q.imp (fun ⟨k, m, hn, hm⟩ => ⟨k, m, e.ns hn, hm⟩) fun ⟨k, c, hc, hv⟩ => ⟨k, c, hc, e.isCell hv⟩
theorem Inv.ext {fs : List Addr} {h h' : Heap} {env : Env} {nm : List Str} {σ : List SV} {ad : Nat → Addr} {fz fz' : Fz} (e : Ext fs h h') (f : FzExt h fz fz') (q : Inv fs env nm σ ad fz h) : Inv fs env nm σ ad fz' h' := by
  intro x i sv h1 h2 h3
  have := q x i sv h1 h2 h3
  cases sv with
  | un => trivial
  | val d => obtain ⟨v, a, b⟩ := this; exact ⟨v, a.ext e, b.mono f.le⟩
  | own ds =>
    obtain ⟨a, b, c, vs, ⟨n, pl⟩, r⟩ := this
    refine ⟨a.ext e, b, ?_, vs, ⟨n, e.get b pl⟩, r.mono f.le⟩
    cases z : fz' (ad i) with
    | none => rfl
    | some o => have := f.new _ c (by rw [z]; intro w; cases w); rw [this] at pl; cases pl
theorem EnvOK.ext {fs : List Addr} {h h' : Heap} {L : Addr} {outer : List Env} {env : Env} (e : Ext fs h h') (q : EnvOK L outer env h) : EnvOK L outer env h' :=
  ⟨q.kind, q.globals, q.builtins, q.frame, q.head, q.ns.elim fun m hm => ⟨m, e.ns hm⟩, fun x hx => by obtain ⟨c, v, a, b⟩ := q.cells x hx; exact ⟨c, v, a, e.isCell b⟩⟩
/-- an exception is being handled: a record without a context -/
noncomputable def HX (A : Around) (h : Heap) : Prop := ∃ e o vs, A.handled = some (.ref e) ∧ h.get? e = some o ∧ o.data = .fields vs ∧ vs[2]? = some .none
theorem HX.ext {fs : List Addr} {A : Around} {h h' : Heap} (e : Ext fs h h') (q : HX A h) : HX A h' := by
  obtain ⟨a, o, vs, h1, h2, h3, h4⟩ := q
  obtain ⟨sl, e₁, _⟩ := e a o h2
  exact ⟨a, _, vs, h1, e₁, h3, h4⟩
structure Here (base : Heap) (fzT : Fz) (md : Md) (n : Nat) (A : Around) (outer : List Env) (L : Addr) (env : Env) (nm : List Str) (σ : List SV) (ad : Nat → Addr) (fz : Fz) (s : Shared) : Prop where
  sit : Sit md A outer n
  hi : HI base outer s.heap
  envok : EnvOK L outer env s.heap
  inv : Inv (fsOf outer) env nm σ ad fz s.heap
  fzin : FzIn fz s.heap
  fzle : FzLe fzT fz
  hx : md = .b → HX A s.heap
  len : σ.length = nm.length
theorem Here.step {base : Heap} {fzT : Fz} {md : Md} {n : Nat} {A : Around} {outer : List Env} {L : Addr} {env : Env} {nm : List Str} {σ : List SV} {ad : Nat → Addr} {fz fz' : Fz} {s s' : Shared}
    (H : Here base fzT md n A outer L env nm σ ad fz s) (r : Rel (fsOf outer) fz s fz' s') : Here base fzT md n A outer L env nm σ ad fz' s' :=
  ⟨H.sit, H.hi.ext r.ext, H.envok.ext r.ext, H.inv.ext r.ext r.fz, r.fzin, H.fzle.trans r.fz.le, fun e => (H.hx e).ext r.ext, H.len⟩
section
variable (prog : Program) (w : World) (T : Tab) (base : Heap) (fzT : Fz) (n : Nat)
noncomputable def SoundX (md : Md) (x : X) : Prop :=
  ∀ {A : Around} {outer : List Env} {L : Addr} {env : Env} {nm : List Str} {σ : List SV} {ad : Nat → Addr} {fz : Fz} {s : Shared} (e : Expr),
    Mx T env.scope.names nm x e = true → Here base fzT md n A outer L env nm σ ad fz s → ev T x σ ≠ .bad →
    wpAny (model prog w) A (eval e env) (PostV (fsOf outer) fz s (ev T x σ)) (PostE A.handled (fsOf outer) L s (ev T x σ)) s
noncomputable def SoundB (md : Md) (x : X) : Prop :=
  ∀ {A : Around} {outer : List Env} {L : Addr} {env : Env} {nm : List Str} {σ : List SV} {ad : Nat → Addr} {fz : Fz} {s : Shared} (e : Expr),
    Mx T env.scope.names nm x e = true → Here base fzT md n A outer L env nm σ ad fz s → ev T x σ ≠ .bad → (∀ d, ev T x σ = .ok d → truth d ≠ none) →
    wpAny (model prog w) A (isTrue e env (eval e env)) (PostB (fsOf outer) fz s (ev T x σ)) (PostE A.handled (fsOf outer) L s (ev T x σ)) s
end
end Mine
end
section
open PySem PySem.W PySem.Calls PyProof.Rows
namespace Mine
section
variable {prog : Program} {w : World} {T : Tab} {base : Heap} {fzT : Fz} {n : Nat} {md : Md} {mg mb : Str → Option Value}
theorem and3 {a b : Bool} (h : (a && b) = true) : a = true ∧ b = true := Bool.and_eq_true_iff.mp h
theorem load_var {M : Model} {A : Around} {E : Value → Shared → Prop} {s : Shared} {L : Addr} {outer : List Env} {env : Env} {x : Str} {v : Value} {Q : Value → Shared → Prop} (O : EnvOK L outer env s.heap) (hv : Var env s.heap x v)
    (hc : (x == ("__classdict__" : Str)) = false) (h : Q v s) : wpAny M A (loadName env x) Q E s := by
  rcases hv with ⟨k, m, hn, hm⟩ | ⟨k, c, hl, hv⟩
  · exact wpAny_loadName_local O.kind k hn hm h
  · cases q : env.kindOf x with
    | none => rw [q] at k; cases k
    | some kk =>
      cases kk with
      | cell => exact wpAny_loadName_cell O.kind q hl hv h
      | free => exact wpAny_loadName_free O.kind q hl hv h hc
      | «local» => rw [q] at k; cases k
      | globalExplicit => rw [q] at k; cases k
      | globalImplicit => rw [q] at k; cases k
theorem ne_beq {x y : Str} (h : (x != y) = true) : (x == y) = false := by
  unfold bne at h; exact Bool.not_eq_true' _ |>.mp h
theorem sound_var (i : Nat) : SoundX prog w T base fzT n md (.var i) := by
  intro A outer L env nm σ ad fz s e hm H hb
  obtain ⟨x, pos, rfl, hm⟩ := atName_inv hm
  have hd := andR hm
  have hm := andL hm
  have hc := andR hm
  have hm := andL hm
  have hv := andR hm
  have hm := andL hm
  have hi : nmIdx nm x = some i := by simpa using hm
  rw [evq_var] at hb ⊢
  split at hb
  · rename_i d hs
    obtain ⟨v, a, b⟩ := H.inv x i _ hi hv hs
    exact wpAny_Name (load_var H.envok a (ne_beq hd) (Good.here H.fzin b)) (ne_beq hc)
  · exact absurd rfl hb
theorem sound_int (i : Int) : SoundX prog w T base fzT n md (.int i) := by
  intro A outer L env nm σ ad fz s e hm H hb
  obtain ⟨c, k, pos, rfl, hm⟩ := atConstant_inv hm
  obtain ⟨j, rfl, hm⟩ := atConstInt_inv hm
  cases (eq_of_beq hm)
  rw [evq_int]
  exact wpAny_Constant_int (Good.same _ H.fzin (.int _ _))
theorem sound_str (x : Str) : SoundX prog w T base fzT n md (.str x) := by
  intro A outer L env nm σ ad fz s e hm H hb
  obtain ⟨c, k, pos, rfl, hm⟩ := atConstant_inv hm
  obtain ⟨j, rfl, hm⟩ := atConstStr_inv hm
  cases (eq_of_beq hm)
  rw [evq_str]
  exact wpAny_Constant_str (Good.same _ H.fzin (.str _ _))
theorem sound_bool (b : Bool) : SoundX prog w T base fzT n md (.bool b) := by
  intro A outer L env nm σ ad fz s e hm H hb
  obtain ⟨c, k, pos, rfl, hm⟩ := atConstant_inv hm
  obtain ⟨j, rfl, hm⟩ := atConstBool_inv hm
  cases (eq_of_beq hm)
  rw [evq_bool]
  exact wpAny_Constant_bool (Good.here H.fzin (.bool _))
theorem sound_nothing : SoundX prog w T base fzT n md .nothing := by
  intro A outer L env nm σ ad fz s e hm H hb
  cases hm
theorem HI.ns {base h : Heap} {l : List Env} (H : HI base l h) {a : Addr} {m : Str → Option Value} (hn : base.Ns a m) : h.Ns a m := by
  obtain ⟨o, es, ep, ho, r⟩ := hn
  exact ⟨o, es, ep, H.stays _ _ ho, r⟩
theorem glob_name {M : Model} {A : Around} {E : Value → Shared → Prop} {outer : List Env} {L : Addr} {env : Env} {s : Shared} {x : Str} {pos : Pos} {v : Value} {Q : Value → Shared → Prop} (G : GOK prog w T base fzT mg mb n) (hi : HI base outer s.heap) (O : EnvOK L outer env s.heap)
    (hg : isGlob env.scope.names x = true) (hv : mg x = some v) (h : Q v s) : wpAny M A (eval (.Name x pos) env) Q E s := by
  have h2 := andR hg
  have h1 := andL hg
  refine Name_function_global O.kind (eq_of_beq h1) ?_ (ne_beq h2)
  unfold loadGlobal
  rw [O.globals]
  refine wpAny_bind (wpAny_nsGet (hi.ns G.gl) ?_)
  rw [hv]
  exact wpAny_pure h
theorem built_name {M : Model} {A : Around} {E : Value → Shared → Prop} {outer : List Env} {L : Addr} {env : Env} {s : Shared} {x : Str} {pos : Pos} {v : Value} {Q : Value → Shared → Prop} (G : GOK prog w T base fzT mg mb n) (hi : HI base outer s.heap) (O : EnvOK L outer env s.heap)
    (hg : isGlob env.scope.names x = true) (hn : mg x = none) (hv : mb x = some v) (h : Q v s) : wpAny M A (eval (.Name x pos) env) Q E s := by
  have h2 := andR hg
  have h1 := andL hg
  refine Name_function_global O.kind (eq_of_beq h1) ?_ (ne_beq h2)
  unfold loadGlobal
  rw [O.globals, O.builtins]
  refine wpAny_bind (wpAny_nsGet (hi.ns G.gl) ?_)
  rw [hn]
  refine wpAny_bind (wpAny_nsGet (hi.ns G.bu) ?_)
  rw [hv]
  exact wpAny_pure h
theorem sound_glob (G : GOK prog w T base fzT mg mb n) (g : Nat) : SoundX prog w T base fzT n md (.glob g) := by
  intro A outer L env nm σ ad fz s e hm H hb
  obtain ⟨x, pos, rfl, hm⟩ := atName_inv hm
  have h2 := andR hm
  have h1 := andL hm
  rw [evq_glob] at hb ⊢
  split at hb
  · rename_i d hd
    obtain ⟨v, a, b⟩ := G.gls g _ d (by simpa using h2) hd
    exact glob_name G H.hi H.envok h1 a (Good.here H.fzin (b.mono H.fzle))
  · exact absurd rfl hb
theorem bind_bad {r : Res} {f : PyData → Res} (h : r.bind f ≠ .bad) : r ≠ .bad := by rintro rfl; exact h rfl
/-- a last step that yields -/
theorem finV {hd : Option Value} {M : Model} {A : Around} {fs : List Addr} {fz fz₁ : Fz} {L : Addr} {s s₁ : Shared} {t : Sem Value} {r : Res} (x : Rel fs fz s fz₁ s₁) (h : wpAny M A t (PostV fs fz₁ s₁ r) (PostE hd fs L s₁ r) s₁) :
    wpAny M A t (PostV fs fz s r) (PostE hd fs L s r) s₁ := wpAny_mono h (fun _ _ q => PostV.after x q) fun _ _ q => PostE.after x q
theorem finB {hd : Option Value} {M : Model} {A : Around} {fs : List Addr} {fz fz₁ : Fz} {L : Addr} {s s₁ : Shared} {t : Sem Bool} {r : Res} (x : Rel fs fz s fz₁ s₁) (h : wpAny M A t (PostB fs fz₁ s₁ r) (PostE hd fs L s₁ r) s₁) :
    wpAny M A t (PostB fs fz s r) (PostE hd fs L s r) s₁ := wpAny_mono h (fun _ _ q => PostB.after x q) fun _ _ q => PostE.after x q
theorem opBin_exc {op : Operator} {x y : PyData} {k : String} (z : opBin op x y = .exc k) : False := by
  have ite : ∀ {p : Prop} [Decidable p] {d : PyData}, (if p then Res.ok d else .bad) = .exc k → False := fun {p} _ {d} q => by split at q <;> cases q
  have i2 : ∀ {f : Int → Int → Res}, int2 f x y = .exc k → (∀ a b, f a b = .exc k → False) → False := fun q g => by
    obtain ⟨a, b, _, _, h⟩ := int2_ok q (fun q => by cases q)
    exact g a b h
  cases op with
  | Add => cases x with
    | list xs => cases y with
      | list ys => exact ite z
      | _ => cases z
    | int a => cases y <;> cases z
    | _ => cases z
  | Sub => exact i2 z fun _ _ q => by cases q
  | BitAnd => exact i2 z fun _ _ q => by cases q
  | Mult => exact i2 z fun _ _ => ite
  | FloorDiv => exact i2 z fun _ _ => ite
  | Mod => exact i2 z fun _ _ => ite
  | Pow => exact i2 z fun _ _ => ite
  | _ => cases z
theorem sound_bin {op : Operator} {a b : X} (ha : SoundX prog w T base fzT n md a) (hb : SoundX prog w T base fzT n md b) : SoundX prog w T base fzT n md (.bin op a b) := by
  intro A outer L env nm σ ad fz s e hm H hbad
  obtain ⟨l, op', r, pos, rfl, hm⟩ := atBinOp_inv hm
  have h2 := andR hm
  have hm := andL hm
  have h1 := andR hm
  have h0 := andL hm
  cases (of_decide_eq_true h0 : op = op')
  rw [evq_bin] at hbad ⊢
  refine wpAny_BinOp (useV (ha l h1 H (bind_bad hbad)) (fun _ _ _ e h => excOf e h) fun x v fz₁ s₁ e r rep => ?_)
  rw [e, Res.bind_ok] at hbad ⊢
  refine useV (hb _ h2 (H.step r) (bind_bad hbad)) (fun _ _ _ e h => PostE.after r (excOf e h)) fun y u fz₂ s₂ e' r' rep' => ?_
  rw [e', Res.bind_ok] at hbad ⊢
  refine finV (r.trans r') ?_
  cases z : opBin op x y with
  | bad => exact absurd z hbad
  | exc k => exact (opBin_exc z).elim
  | ok d => exact bin_good r'.fzin (rep.mono r'.fz.le) rep' z
theorem opCmp_form (op : CmpOp) (x y : PyData) : opCmp op x y = .bad ∨ ∃ b, opCmp op x y = .ok (.bool b) := by
  have ite : ∀ (p : Bool) (b : Bool), (if p = true then Res.ok (.bool b) else .bad) = .bad ∨ ∃ c, (if p = true then Res.ok (.bool b) else .bad) = .ok (.bool c) := fun p b => by
    cases p
    · exact .inl rfl
    · exact .inr ⟨_, rfl⟩
  have i2 : ∀ f, intB f x y = .bad ∨ ∃ b, intB f x y = .ok (.bool b) := fun f => by
    cases x with
    | int a => cases y with
      | int b => exact .inr ⟨_, rfl⟩
      | _ => exact .inl rfl
    | _ => exact .inl rfl
  have b2 : ∀ f, bool2 f x y = .bad ∨ ∃ b, bool2 f x y = .ok (.bool b) := fun f => by
    cases x with
    | bool a => cases y with
      | bool b => exact .inr ⟨_, rfl⟩
      | _ => exact .inl rfl
    | _ => exact .inl rfl
  have n2 : ∀ f, inB f x y = .bad ∨ ∃ b, inB f x y = .ok (.bool b) := fun f => by
    cases y with
    | str a => cases x with
      | str b => exact .inr ⟨_, rfl⟩
      | _ => exact .inl rfl
    | list ds => exact ite _ _
    | _ => exact .inl rfl
  have l2 : ∀ f, ltB f x y = .bad ∨ ∃ b, ltB f x y = .ok (.bool b) := fun f => by
    cases x with
    | list xs =>
      show bits2 f xs y = .bad ∨ ∃ b, bits2 f xs y = .ok (.bool b)
      cases y with
      | list ys =>
        unfold bits2
        dsimp only
        split
        · exact .inr ⟨_, rfl⟩
        · exact .inl rfl
      | _ => exact .inl rfl
    | _ => exact i2 f
  cases op with
  | Eq => exact ite _ _
  | NotEq => exact ite _ _
  | Lt => exact l2 _
  | LtE => exact i2 _
  | Gt => exact l2 _
  | GtE => exact .inl rfl
  | Is => exact b2 _
  | IsNot => exact b2 _
  | In => exact n2 _
  | NotIn => exact n2 _
theorem opCmp_exc {op : CmpOp} {x y : PyData} {k : String} (z : opCmp op x y = .exc k) : False := by
  rcases opCmp_form op x y with q | ⟨b, q⟩ <;> cases q.symm.trans z
theorem opCmp_bool {op : CmpOp} {x y d : PyData} (z : opCmp op x y = .ok d) : ∃ b, d = .bool b := by
  rcases opCmp_form op x y with q | ⟨b, q⟩ <;> cases q.symm.trans z
  exact ⟨_, rfl⟩
theorem Sit.units70 {A : Around} {outer : List Env} (q : Sit md A outer n) : A.units + 70 < cLine := by have := q.units; omega
theorem plain_marks {op : CmpOp} {r : Expr} (h : plainE r = true) : behindInMarks op r = false := by
  cases r <;> first | rfl | (cases h; done)
theorem sound_cmp {op : CmpOp} {a b : X} (ha : SoundX prog w T base fzT n md a) (hb : SoundX prog w T base fzT n md b) : SoundX prog w T base fzT n md (.cmp op a b) := by
  intro A outer L env nm σ ad fz s e hm H hbad
  obtain ⟨l, ops, rs, pos, rfl, hm⟩ := atCompare_inv hm
  obtain ⟨op', rfl, hm⟩ := at1_inv hm
  obtain ⟨r, rfl, hm⟩ := at1_inv hm
  have h3 := andR hm
  have hm := andL hm
  have h2 := andR hm
  have hm := andL hm
  have h1 := andR hm
  have h0 := andL hm
  cases (of_decide_eq_true h0 : op = op')
  rw [evq_cmp] at hbad ⊢
  refine wpAny_Compare1 (useV (ha l h1 H (bind_bad hbad)) (fun _ _ _ e h => excOf e h) fun x v fz₁ s₁ e r rep => ?_) (plain_marks h3)
  rw [e, Res.bind_ok] at hbad ⊢
  refine useV (hb _ h2 (H.step r) (bind_bad hbad)) (fun _ _ _ e h => PostE.after r (excOf e h)) fun y u fz₂ s₂ e' r' rep' => ?_
  rw [e', Res.bind_ok] at hbad ⊢
  refine finV (r.trans r') ?_
  cases z : opCmp op x y with
  | bad => exact absurd z hbad
  | exc k => exact (opCmp_exc z).elim
  | ok d => exact cmp_good H.sit.units70 r'.fzin (rep.mono r'.fz.le) rep' z
theorem soundB_cmp {op : CmpOp} {a b : X} (ha : SoundX prog w T base fzT n md a) (hb : SoundX prog w T base fzT n md b) : SoundB prog w T base fzT n md (.cmp op a b) := by
  intro A outer L env nm σ ad fz s e hm H hbad ht
  obtain ⟨l, ops, rs, pos, rfl, hm⟩ := atCompare_inv hm
  obtain ⟨op', rfl, hm⟩ := at1_inv hm
  obtain ⟨r, rfl, hm⟩ := at1_inv hm
  have h3 := andR hm
  have hm := andL hm
  have h2 := andR hm
  have hm := andL hm
  have h1 := andR hm
  have h0 := andL hm
  cases (of_decide_eq_true h0 : op = op')
  rw [evq_cmp] at hbad ⊢
  refine wpAny_isTrue_Compare1 (useV (ha l h1 H (bind_bad hbad)) (fun _ _ _ e h => excOf e h) fun x v fz₁ s₁ e r rep => ?_) (plain_marks h3)
  rw [e, Res.bind_ok] at hbad ⊢
  refine useV (hb _ h2 (H.step r) (bind_bad hbad)) (fun _ _ _ e h => PostE.after r (excOf e h)) fun y u fz₂ s₂ e' r' rep' => ?_
  rw [e', Res.bind_ok] at hbad ⊢
  cases z : opCmp op x y with
  | bad => exact absurd z hbad
  | exc k => exact (opCmp_exc z).elim
  | ok d =>
    obtain ⟨c, rfl⟩ := opCmp_bool z
    refine wpAny_mono (cmp_good (fs := fsOf outer) (E := fun _ _ => False) H.sit.units70 r'.fzin (rep.mono r'.fz.le) rep' z) (fun v s₃ g => ?_) fun _ _ q => q.elim
    obtain ⟨fz₃, r₃, q⟩ := good_iff.mp g
    cases rep_bool_inv q
    exact wpAny_truthy_bool ⟨rfl, fz₃, (r.trans r').trans r₃⟩
end
end Mine
end
section
open PySem PySem.W PySem.Calls PyProof.Rows
namespace Mine
section
variable {prog : Program} {w : World} {T : Tab} {base : Heap} {fzT : Fz} {n : Nat} {md : Md} {mg mb : Str → Option Value}
/-! truth tests -/
noncomputable def plainT : X → Bool
  | .var _ | .int _ | .str _ | .bool _ | .list _ | .tup _ | .idx _ _ | .slice _ _ _ | .call _ _ | .bi _ _ | .bin _ _ _ => true
  | _ => false
theorem plainT_is {sc : Sc} {nm : List Str} {x : X} {e : Expr} (hp : plainT x = true) (hm : Mx T sc nm x e = true) (env : Env) (whole : Sem Value) :
    isTrue e env whole = (do let v ← whole; standAt e.pos; holding [v] (truthy v)) := by
  cases x <;> first
    | (cases hp; done)
    | (first | (obtain ⟨_, _, rfl, _⟩ := atName_inv hm; rfl) | (obtain ⟨_, _, _, rfl, _⟩ := atConstant_inv hm; rfl) | (obtain ⟨_, _, rfl, _⟩ := atList_inv hm; rfl) | (obtain ⟨_, _, _, rfl, _⟩ := atTuple_inv hm; rfl) | (obtain ⟨_, _, _, _, rfl, _⟩ := atBinOp_inv hm; rfl) | (obtain ⟨_, _, _, rfl, _⟩ := atSubscript_inv hm; rfl) | (obtain ⟨_, _, _, _, rfl, _⟩ := atCall_inv hm; rfl))
theorem soundB_plain {x : X} (hp : plainT x = true) (hx : SoundX prog w T base fzT n md x) : SoundB prog w T base fzT n md x := by
  intro A outer L env nm σ ad fz s e hm H hbad ht
  refine wpAny_isTrue_value (useV (hx e hm H hbad) (fun kk v s' q h => ?_) fun d v fz₁ s₁ q r rep => ?_) (plainT_is hp hm _ _)
  · rw [q]; exact h
  · have hd := ht d q
    cases z : truth d with
    | none => exact absurd z hd
    | some b =>
      rw [q]
      exact truth_good r.fzin rep z fun tk => ⟨z, fz₁, r.trans (Rel.same r.fzin tk)⟩
theorem sound_not {a : X} (ha : SoundX prog w T base fzT n md a) : SoundX prog w T base fzT n md (.not a) := by
  intro A outer L env nm σ ad fz s e hm H hbad
  obtain ⟨o, e, pos, rfl, hm⟩ := atUnaryOp_inv hm
  have ho := andL hm
  have hm := andR hm
  cases isUn_inv ho
  rw [evq_not] at hbad ⊢
  refine wpAny_UnaryOp (useV (ha _ hm H (bind_bad hbad)) (fun _ _ _ e h => excOf e h) fun x v fz₁ s₁ e r rep => ?_)
  rw [e, Res.bind_ok] at hbad ⊢
  cases z : truth x with
  | none => rw [z] at hbad; exact absurd rfl hbad
  | some b =>
    exact not_of (truth_good r.fzin rep z fun tk => Good.after r (Good.same tk r.fzin (.bool _)))
theorem soundB_not {a : X} (ha : SoundB prog w T base fzT n md a) : SoundB prog w T base fzT n md (.not a) := by
  intro A outer L env nm σ ad fz s e hm H hbad ht
  obtain ⟨o, e, pos, rfl, hm⟩ := atUnaryOp_inv hm
  have ho := andL hm
  have hm := andR hm
  cases isUn_inv ho
  rw [evq_not] at hbad ⊢
  refine isTrue_not (useB (ha _ hm H (bind_bad hbad) ?_) (fun _ _ _ e h => excOf e h) fun x b fz₁ s₁ e q r => ?_)
  · intro d e z; rw [e, Res.bind_ok, z] at hbad; exact hbad rfl
  · rw [e, Res.bind_ok, q]; exact ⟨rfl, fz₁, r⟩
theorem sound_and {a b : X} (ha : SoundX prog w T base fzT n md a) (hb : SoundX prog w T base fzT n md b) : SoundX prog w T base fzT n md (.and a b) := by
  intro A outer L env nm σ ad fz s e hm H hbad
  obtain ⟨o, es, pos, rfl, hm⟩ := atBoolOp_inv hm
  have ho := andL hm
  have hm := andR hm
  cases isAnd_inv ho
  obtain ⟨l, r, rfl, hm⟩ := at2_inv hm
  have h2 := andR hm
  have h1 := andL hm
  rw [evq_and] at hbad ⊢
  refine wpAny_And2 (useV (ha _ h1 H (bind_bad hbad)) (fun _ _ _ e h => excOf e h) fun x v fz₁ s₁ e r rep => ?_)
  rw [e, Res.bind_ok] at hbad ⊢
  cases z : truth x with
  | none => rw [z] at hbad; exact absurd rfl hbad
  | some c =>
    refine truth_good r.fzin rep z fun tk => ?_
    rw [z] at hbad
    have r' := r.trans (Rel.same r.fzin tk)
    cases c with
    | true => exact finV r' (hb _ h2 (H.step r') hbad)
    | false => exact good_iff.mpr ⟨fz₁, r', rep⟩
theorem sound_or {a b : X} (ha : SoundX prog w T base fzT n md a) (hb : SoundX prog w T base fzT n md b) : SoundX prog w T base fzT n md (.or a b) := by
  intro A outer L env nm σ ad fz s e hm H hbad
  obtain ⟨o, es, pos, rfl, hm⟩ := atBoolOp_inv hm
  have ho := andL hm
  have hm := andR hm
  cases isOr_inv ho
  obtain ⟨l, r, rfl, hm⟩ := at2_inv hm
  have h2 := andR hm
  have h1 := andL hm
  rw [evq_or] at hbad ⊢
  refine wpAny_Or2 (useV (ha _ h1 H (bind_bad hbad)) (fun _ _ _ e h => excOf e h) fun x v fz₁ s₁ e r rep => ?_)
  rw [e, Res.bind_ok] at hbad ⊢
  cases z : truth x with
  | none => rw [z] at hbad; exact absurd rfl hbad
  | some c =>
    refine truth_good r.fzin rep z fun tk => ?_
    rw [z] at hbad
    have r' := r.trans (Rel.same r.fzin tk)
    cases c with
    | false => exact finV r' (hb _ h2 (H.step r') hbad)
    | true => exact good_iff.mpr ⟨fz₁, r', rep⟩
theorem allTrue_one {M : Model} {A : Around} {E : Value → Shared → Prop} {s : Shared} {env : Env} {x : Expr} {Q : Bool → Shared → Prop} (op : BoolOp) (h : wpAny M A (isTrue x env (eval x env)) Q E s) : wpAny M A (allTrue op [x] env) Q E s := by
  cases op with
  | And =>
    refine wpAny_allTrue_And_cons (wpAny_mono h (fun b s₁ h₁ => ?_) fun _ _ q => q)
    cases b with
    | true => exact wpAny_allTrue_And_nil h₁
    | false => exact h₁
  | Or =>
    refine wpAny_allTrue_Or_cons (wpAny_mono h (fun b s₁ h₁ => ?_) fun _ _ q => q)
    cases b with
    | true => exact h₁
    | false => exact wpAny_allTrue_Or_nil h₁
theorem soundB_and {a b : X} (ha : SoundB prog w T base fzT n md a) (hb : SoundB prog w T base fzT n md b) : SoundB prog w T base fzT n md (.and a b) := by
  intro A outer L env nm σ ad fz s e hm H hbad ht
  obtain ⟨o, es, pos, rfl, hm⟩ := atBoolOp_inv hm
  have ho := andL hm
  have hm := andR hm
  cases isAnd_inv ho
  obtain ⟨l, r, rfl, hm⟩ := at2_inv hm
  have h2 := andR hm
  have h1 := andL hm
  rw [evq_and] at hbad ht ⊢
  refine wpAny_isTrue_BoolOp (wpAny_allTrue_And_cons (useB (ha _ h1 H (bind_bad hbad) ?_) (fun _ _ _ e h => excOf e h) fun x c fz₁ s₁ e z r => ?_))
  · intro d e z; rw [e, Res.bind_ok, z] at hbad; exact hbad rfl
  · rw [e, Res.bind_ok, z] at hbad ht ⊢
    cases c with
    | true => exact finB r (allTrue_one _ (hb _ h2 (H.step r) hbad ht))
    | false => exact ⟨z, fz₁, r⟩
theorem soundB_or {a b : X} (ha : SoundB prog w T base fzT n md a) (hb : SoundB prog w T base fzT n md b) : SoundB prog w T base fzT n md (.or a b) := by
  intro A outer L env nm σ ad fz s e hm H hbad ht
  obtain ⟨o, es, pos, rfl, hm⟩ := atBoolOp_inv hm
  have ho := andL hm
  have hm := andR hm
  cases isOr_inv ho
  obtain ⟨l, r, rfl, hm⟩ := at2_inv hm
  have h2 := andR hm
  have h1 := andL hm
  rw [evq_or] at hbad ht ⊢
  refine wpAny_isTrue_BoolOp (wpAny_allTrue_Or_cons (useB (ha _ h1 H (bind_bad hbad) ?_) (fun _ _ _ e h => excOf e h) fun x c fz₁ s₁ e z r => ?_))
  · intro d e z; rw [e, Res.bind_ok, z] at hbad; exact hbad rfl
  · rw [e, Res.bind_ok, z] at hbad ht ⊢
    cases c with
    | false => exact finB r (allTrue_one _ (hb _ h2 (H.step r) hbad ht))
    | true => exact ⟨z, fz₁, r⟩
theorem sound_ite {c a b : X} (hc : SoundB prog w T base fzT n md c) (ha : SoundX prog w T base fzT n md a) (hb : SoundX prog w T base fzT n md b) : SoundX prog w T base fzT n md (.ite c a b) := by
  intro A outer L env nm σ ad fz s e hm H hbad
  obtain ⟨t, x, y, pos, rfl, hm⟩ := atIfExp_inv hm
  have h3 := andR hm
  have hm := andL hm
  have h2 := andR hm
  have h1 := andL hm
  rw [evq_ite] at hbad ⊢
  refine wpAny_IfExp (useB (hc _ h1 H (bind_bad hbad) ?_) (fun _ _ _ e h => excOf e h) fun x t fz₁ s₁ e z r => ?_)
  · intro d e z; rw [e, Res.bind_ok, z] at hbad; exact hbad rfl
  · rw [e, Res.bind_ok, z] at hbad ⊢
    cases t with
    | true => exact finV r (ha _ h2 (H.step r) hbad)
    | false => exact finV r (hb _ h3 (H.step r) hbad)
theorem plain_sub {i : Expr} (h : plainE i = true) (o v : Value) : subscripted i false o v = operate [o, v] (getItem o v) := by
  cases i <;> first | rfl | (cases h; done)
theorem newExc_bad {hd : Option Value} {fs : List Addr} {L : Addr} {s : Shared} {h' : Heap} {tk : Nat} {e : Addr} {k : String} (hk : clsL k = k) (hx : Heap.NewExc s.heap h' e k) : Bad hd fs L s k (.ref e) { s with heap := h', toks := tk } := by
  obtain ⟨ob, t, a, b, c⟩ := hx.there
  exact ⟨h', tk, e, rfl, rfl, Ext.of_keeps hx.keeps, hx.new, ob, _, a, by rw [hk]; exact b, c, ⟨rfl, fun _ => rfl⟩, .inl rfl⟩
theorem sound_idx {a b : X} (ha : SoundX prog w T base fzT n .a a) (hb : SoundX prog w T base fzT n .a b) : SoundX prog w T base fzT n .a (.idx a b) := by
  intro A outer L env nm σ ad fz s e hm H hbad
  obtain ⟨v, i, pos, rfl, hm⟩ := atSubscript_inv hm
  have h3 := andR hm
  have hm := andL hm
  have h2 := andR hm
  have h1 := andL hm
  rw [evq_idx] at hbad ⊢
  refine Subscript_ (useV (ha _ h1 H (bind_bad hbad)) (fun _ _ _ e h => excOf e h) fun x v fz₁ s₁ e r rep => ?_)
  rw [e, Res.bind_ok] at hbad ⊢
  refine useV (hb _ h2 (H.step r) (bind_bad hbad)) (fun _ _ _ e h => PostE.after r (excOf e h)) fun y u fz₂ s₂ e' r' rep' => ?_
  rw [e', Res.bind_ok] at hbad ⊢
  refine finV (r.trans r') ?_
  cases z : opIdx x y with
  | bad => exact absurd z hbad
  | ok d => exact idx_good (plain_sub h3) r'.fzin (rep.mono r'.fz.le) rep' z
  | exc k =>
    obtain ⟨k, rfl, hk, z⟩ := opIdx_inv z (fun q => by cases q)
    obtain ⟨ds, rfl, rfl, hlt⟩ := idxAt_exc z
    obtain ⟨l, vs, rfl, e1, r1⟩ := rep_list_inv (rep.mono r'.fz.le)
    obtain ⟨t, rfl⟩ := rep_int_inv rep'
    have hl := r1.length
    exact tail_any (r'.fzin.isList e1).typeIs slot_list_getitem.lookup (wpAny_getItem_list_out (H.sit.handled rfl) (r'.fzin.isList e1) (.inr (by simp only [List.size_toArray]; omega)) (by omega) (by omega) fun h' tk e hx => newExc_bad (by decide) hx) (plain_sub h3 _ _)
end
end Mine
end
section
open PySem PySem.W PySem.Calls PyProof.Rows
namespace Mine
section
variable {prog : Program} {w : World} {T : Tab} {base : Heap} {fzT : Fz} {n : Nat} {md : Md} {mg mb : Str → Option Value}
noncomputable def PostL (fs : List Addr) (fz : Fz) (s : Shared) : Res → List Value → Shared → Prop
  | .ok (.list ds) => fun vs s' => ∃ fz', Rel fs fz s fz' s' ∧ RepAll fz' vs ds
  | _ => fun _ _ => False
variable (prog w T base fzT n) in
noncomputable def SoundL (md : Md) (xs : List X) : Prop :=
  ∀ {A : Around} {outer : List Env} {L : Addr} {env : Env} {nm : List Str} {σ : List SV} {ad : Nat → Addr} {fz : Fz} {s : Shared} (es : List Expr) (pos : Pos),
    Mxs T env.scope.names nm xs es = true → Here base fzT md n A outer L env nm σ ad fz s → evs T xs σ ≠ .bad →
    wpAny (model prog w) A (spliced (backTo pos (starEach es env))) (PostL (fsOf outer) fz s (evs T xs σ)) (PostE A.handled (fsOf outer) L s (evs T xs σ)) s
theorem plain_star {e : Expr} {rest : List Expr} {env : Env} (h : plainE e = true) : starEach (e :: rest) env = (false, eval e env) :: starEach rest env := by
  cases e <;> first | rfl | (cases h; done)
theorem evs_list : ∀ (xs : List X) (σ : List SV) (d : PyData), evs T xs σ = .ok d → ∃ ds, d = .list ds ∧ ds.length = xs.length
  | [], σ, d, h => by rw [evqs_nil] at h; cases h; exact ⟨[], rfl, rfl⟩
  | x :: r, σ, d, h => by
    rw [evqs_cons] at h
    cases q : ev T x σ with
    | ok a =>
      rw [q, Res.bind_ok] at h
      cases q' : evs T r σ with
      | ok l =>
        obtain ⟨ds, rfl, hl⟩ := evs_list r σ l q'
        rw [q', Res.bind_ok] at h
        cases h
        exact ⟨_, rfl, by simp [hl]⟩
      | exc k => rw [q'] at h; cases h
      | bad => rw [q'] at h; cases h
    | exc k => rw [q] at h; cases h
    | bad => rw [q] at h; cases h
theorem soundL_nil : SoundL prog w T base fzT n md [] := by
  intro A outer L env nm σ ad fz s es pos hm H hb
  cases es with
  | cons e es => unfold Mxs at hm; cases hm
  | nil =>
    rw [evqs_nil]
    exact args_nil ⟨fz, Rel.refl H.fzin, .nil⟩
theorem soundL_cons {x : X} {xs : List X} (hx : SoundX prog w T base fzT n md x) (hxs : SoundL prog w T base fzT n md xs) : SoundL prog w T base fzT n md (x :: xs) := by
  intro A outer L env nm σ ad fz s es pos hm H hb
  cases es with
  | nil => unfold Mxs at hm; cases hm
  | cons e es =>
    unfold Mxs at hm
    have h3 := andR hm
    have hm := andL hm
    have h2 := andR hm
    have h1 := andL hm
    rw [evqs_cons] at hb ⊢
    refine args_cons (useV (hx e h1 H (bind_bad hb)) (fun _ _ _ e h => excOf e h) fun d v fz₁ s₁ q r rep => ?_) (plain_star h2)
    rw [q, Res.bind_ok] at hb ⊢
    refine wpAny_mono (hxs es pos h3 (H.step r) (bind_bad hb)) (fun vs s₂ g => ?_) fun a s' g => ?_
    · cases z : evs T xs σ with
      | bad => rw [z] at g; exact g.elim
      | exc k => rw [z] at g; exact g.elim
      | ok l =>
        obtain ⟨ds, rfl, _⟩ := evs_list xs σ l z
        rw [z] at g
        obtain ⟨fz₂, r₂, q₂⟩ := g
        exact ⟨fz₂, r.trans r₂, .cons (rep.mono r₂.fz.le) q₂⟩
    · cases z : evs T xs σ with
      | bad => rw [z] at g; exact g.elim
      | ok l => rw [z] at g; exact g.elim
      | exc k => rw [z] at g; exact PostE.after r g
theorem useL {hd : Option Value} {M : Model} {A : Around} {fs : List Addr} {fz : Fz} {L : Addr} {s : Shared} {t : Sem (List Value)} {r₁ : Res} {K : List Value → Shared → Prop} {E : Value → Shared → Prop}
    (h₁ : wpAny M A t (PostL fs fz s r₁) (PostE hd fs L s r₁) s) (hE : ∀ kk v s', r₁ = .exc kk → Bad hd fs L s kk v s' → E v s')
    (hK : ∀ ds vs fz₁ s₁, r₁ = .ok (.list ds) → Rel fs fz s fz₁ s₁ → RepAll fz₁ vs ds → K vs s₁) : wpAny M A t K E s := by
  refine wpAny_mono h₁ (fun v s₁ h => ?_) fun v s' h => ?_
  · unfold PostL at h
    split at h
    · obtain ⟨fz₁, r, q⟩ := h; exact hK _ v fz₁ s₁ rfl r q
    · exact h.elim
  · cases r₁ with
    | ok d => exact h.elim
    | exc kk => exact hE kk v s' rfl h
    | bad => exact h.elim
theorem sound_list {es : List X} (hes : SoundL prog w T base fzT n md es) : SoundX prog w T base fzT n md (.list es) := by
  intro A outer L env nm σ ad fz s e hm H hbad
  obtain ⟨es', pos, rfl, hm⟩ := atList_inv hm
  rw [evq_list] at hbad ⊢
  refine wpAny_List (useL (hes _ _ hm H (bind_bad hbad)) (fun _ _ _ e h => excOf e h) fun ds vs fz₁ s₁ e r rep => ?_)
  rw [e, Res.bind_ok] at hbad ⊢
  have hl := rep.length
  have hle : ds.length ≤ 100000 := by
    by_cases q : ds.length ≤ 100000
    · exact q
    · simp only [if_neg q] at hbad; exact absurd trivial (by simpa using hbad)
  refine ⟨by rw [sizeLine_eq]; omega, ?_⟩
  simp only [if_pos hle]
  exact Good.after r (Good.made (t := false) s₁.toks (fun b o e => Heap.get?_push_of_some _ e) r.fzin (size_none _ (Nat.le_refl _)) (Heap.get?_push_size _ rfl) rfl rfl rep)
theorem sound_tup {es : List X} (hes : SoundL prog w T base fzT n md es) : SoundX prog w T base fzT n md (.tup es) := by
  intro A outer L env nm σ ad fz s e hm H hbad
  obtain ⟨es', k, pos, rfl, hm⟩ := atTuple_inv hm
  rw [evq_tup] at hbad ⊢
  refine wpAny_Tuple (useL (hes _ _ hm H (bind_bad hbad)) (fun _ _ _ e h => excOf e h) fun ds vs fz₁ s₁ e r rep => ?_)
  rw [e, Res.bind_ok] at hbad ⊢
  have hl := rep.length
  have hle : ds.length ≤ 100000 := by
    by_cases q : ds.length ≤ 100000
    · exact q
    · simp only [if_neg q] at hbad; exact absurd trivial (by simpa using hbad)
  refine ⟨by rw [sizeLine_eq]; omega, ?_⟩
  simp only [if_pos hle]
  exact Good.after r (Good.made (t := true) s₁.toks (fun b o e => Heap.get?_push_of_some _ e) r.fzin (size_none _ (Nat.le_refl _)) (Heap.get?_push_size _ rfl) rfl rfl rep)
theorem sound_call (G : GOK prog w T base fzT mg mb n) {f : Nat} {args : List X} (hes : SoundL prog w T base fzT n .a args) : SoundX prog w T base fzT n .a (.call f args) := by
  intro A outer L env nm σ ad fz s e hm H hbad
  obtain ⟨g, as, kw, pos, rfl, hm⟩ := atCall_inv hm
  obtain ⟨x, px, rfl, hm⟩ := atName_inv hm
  have hk := andL hm
  have hm := andR hm
  cases nil_inv hk
  have h4 := andR hm
  have hm := andL hm
  have h3 := andR hm
  have hm := andL hm
  have h2 := andR hm
  have h1 := andL hm
  obtain ⟨a, o, fd, g1, g2, g3, g4⟩ := G.fns f x (eq_of_beq h2)
  rw [evq_call] at hbad ⊢
  refine Call_ (glob_name G H.hi H.envok h1 g1 ?_)
  cases as with
  | nil => cases h4
  | cons e₀ es₀ =>
    have hp : plainE e₀ = true := by
      cases args with
      | nil => unfold Mxs at h3; cases h3
      | cons x₀ xs₀ => unfold Mxs at h3; exact (and3 (and3 h3).1).2
    refine callWith_def (o := o) (fd := fd) g3 (useL (hes _ _ h3 H (bind_bad hbad)) (fun _ _ _ e h => excOf e h) fun ds vs fz₁ s₁ e r rep => ?_) (plain_star hp)
    rw [e, Res.bind_ok] at hbad ⊢
    have H₁ := H.step r
    refine ⟨H₁.hi.stays _ _ g2, ?_⟩
    dsimp only at hbad ⊢
    cases z : T.F f ds with
    | none => simp only [z] at hbad; exact absurd trivial (by simpa using hbad)
    | some d =>
      exact wpAny_mono (g4 ds d z A outer s₁ vs fz₁ (fun _ _ => False) H₁.sit H₁.hi r.fzin H₁.fzle rep) (fun v s₂ g => Good.after r g) fun _ _ q => q.elim
theorem rep_fn {fz : Fz} {v : Value} {d : PyData} {l : Nat} (r : Rep fz v d) (h : fnOfD d = some l) : v = .ref l := by
  cases r with
  | fn a => cases h; rfl
  | _ => cases h
theorem sound_callV (G : GOK prog w T base fzT mg mb n) {i : Nat} {a : X} (hv : SoundX prog w T base fzT n .a (.var i)) (ha : SoundX prog w T base fzT n .a a) : SoundX prog w T base fzT n .a (.callV i a) := by
  intro A outer L env nm σ ad fz s e hm H hbad
  obtain ⟨g, as, kw, pos, rfl, hm⟩ := atCall_inv hm
  have hk := andL hm
  have hm := andR hm
  cases nil_inv hk
  have h1 := andL hm
  obtain ⟨e₀, rfl, hq⟩ := at1_inv (andR hm)
  have h4 := andR hq
  have h3 := andL hq
  obtain ⟨x₀, px, rfl, _⟩ := atName_inv h1
  rw [evq_callV] at hbad ⊢
  cases q1 : σ[i]? with
  | none => rw [q1] at hbad; exact absurd rfl hbad
  | some sv =>
    cases sv with
    | un => rw [q1] at hbad; exact absurd rfl hbad
    | own ds => rw [q1] at hbad; exact absurd rfl hbad
    | val fd =>
      rw [q1] at hbad
      dsimp only at hbad ⊢
      have hev : ev T (.var i) σ = .ok fd := by rw [evq_var, q1]
      cases q2 : fnOfD fd with
      | none => rw [q2] at hbad; exact absurd rfl hbad
      | some l =>
        rw [q2] at hbad
        dsimp only at hbad ⊢
        cases q3 : ev T a σ with
        | exc k => rw [q3] at hbad; exact absurd rfl hbad
        | bad => rw [q3] at hbad; exact absurd rfl hbad
        | ok x =>
          rw [q3, Res.then_ok] at hbad
          rw [Res.then_ok]
          cases q4 : T.L l [x] with
          | none => rw [q4] at hbad; exact absurd rfl hbad
          | some d =>
            dsimp only
            obtain ⟨o, fdd, g2, g3, g4⟩ := G.lam l [x] d q4
            refine Call_ (useV (hv (.Name x₀ px) h1 H (by rw [hev]; nofun)) (fun _ _ _ e _ => by rw [hev] at e; cases e) fun fd' v fz₁ s₁ e r rep => ?_)
            rw [hev] at e
            cases e
            cases rep_fn rep q2
            have H₁ := H.step r
            refine callWith_def (o := o) (fd := fdd) g3 (args_cons (useV (ha _ h3 H₁ (by rw [q3]; nofun)) (fun _ _ _ e _ => by rw [q3] at e; cases e) fun x' u fz₂ s₂ e r₂ rep₂ => args_nil ?_) (plain_star h4)) (plain_star h4)
            rw [q3] at e
            cases e
            have H₂ := H₁.step r₂
            refine ⟨H₂.hi.stays _ _ g2, ?_⟩
            exact wpAny_mono (g4 A outer s₂ [u] fz₂ (fun _ _ => False) H₂.sit H₂.hi r₂.fzin H₂.fzle (.cons rep₂ .nil)) (fun v s₃ g => Good.after (r.trans r₂) g) fun _ _ q => q.elim
theorem sortB_exc {ds : List PyData} {k : String} (z : sortB ds = .exc k) : False := by
  unfold sortB at z; split at z <;> (try split at z) <;> cases z
theorem opBi_exc {b : Bi} {x : PyData} {k : String} (z : opBi b x = .exc k) : False := by
  unfold opBi at z
  split at z <;> (try split at z) <;> (try split at z) <;> first | (cases z; done) | exact sortB_exc z
theorem sound_bi (G : GOK prog w T base fzT mg mb n) {b : Bi} {a : X} (ha : SoundX prog w T base fzT n .a a) : SoundX prog w T base fzT n .a (.bi b a) := by
  intro A outer L env nm σ ad fz s e hm H hbad
  obtain ⟨g, as, kw, pos, rfl, hm⟩ := atCall_inv hm
  obtain ⟨x, px, rfl, hm⟩ := atName_inv hm
  have hk := andL hm
  have hm := andR hm
  cases nil_inv hk
  obtain ⟨e₀, rfl, hm⟩ := at1_inv hm
  have h4 := andR hm
  have hm := andL hm
  have h3 := andR hm
  have hm := andL hm
  have h2 := andR hm
  have h1 := andL hm
  cases (eq_of_beq h2)
  rw [evq_bi] at hbad ⊢
  refine Call_ (built_name G H.hi H.envok h1 (G.bis b).1 (G.bis b).2 ?_)
  have key : wpAny (model prog w) A (spliced (backTo pos (starEach [e₀] env))) (fun vs s₁ => wpAny (model prog w) A (call b.callee vs) (PostV (fsOf outer) fz s ((ev T a σ).bind fun x => opBi b x)) (PostE A.handled (fsOf outer) L s ((ev T a σ).bind fun x => opBi b x)) s₁)
      (PostE A.handled (fsOf outer) L s ((ev T a σ).bind fun x => opBi b x)) s := by
    refine args_cons (useV (ha _ h3 H (bind_bad hbad)) (fun _ _ _ e h => excOf e h) fun d v fz₁ s₁ e r rep => args_nil ?_) (plain_star h4)
    rw [e, Res.bind_ok] at hbad ⊢
    refine finV r ?_
    cases z : opBi b d with
    | bad => exact absurd z hbad
    | exc k => exfalso; exact (opBi_exc z).elim
    | ok d' => exact bi_good H.sit.units70 (H.sit.handled rfl) r.fzin rep z
  cases b with
  | list => exact callWith_type1 key (plain_star h4)
  | len => exact callWith_builtin1 key (plain_star h4)
  | sorted => exact callWith_builtin1 key (plain_star h4)
  | sum => exact callWith_builtin1 key (plain_star h4)
  | max => exact callWith_builtin1 key (plain_star h4)
  | min => exact callWith_builtin1 key (plain_star h4)
end
end Mine
end
section
open PySem PySem.W PySem.Calls PyProof.Rows
namespace Mine
section
variable {prog : Program} {w : World} {T : Tab} {base : Heap} {fzT : Fz} {n : Nat} {md : Md} {mg mb : Str → Option Value}
theorem mo_part {nm : List Str} {A : Around} {outer : List Env} {L : Addr} {env : Env} {σ : List SV} {ad : Nat → Addr} {fz : Fz} {s : Shared} {x : X} {l : Option Expr} (hx : SoundX prog w T base fzT n md x)
    (hm : Mo T env.scope.names nm x l = true) (H : Here base fzT md n A outer L env nm σ ad fz s) (hb : ev T x σ ≠ .bad) :
    wpAny (model prog w) A (evalPart l env) (PostV (fsOf outer) fz s (ev T x σ)) (PostE A.handled (fsOf outer) L s (ev T x σ)) s := by
  cases l with
  | none =>
    have hx' : x = .nothing := by
      have hm' : x.ctorIdx = 4 := eq_of_beq (show isNothing x = true from hm)
      exact X.nothing.elim (motive_1 := fun t => t = .nothing) x hm' rfl
    subst hx'
    refine wpAny_evalPart_none ?_
    rw [evq_nothing]
    exact Good.here H.fzin .none
  | some e => exact wpAny_evalPart_some (hx _ (and3 hm).1 H hb)
theorem optD_some {y x : PyData} (h : optD y = some x) : y = x := by
  unfold optD at h; split at h <;> cases h; rfl
theorem optD_none {y : PyData} (h : optD y = none) : y = .none := by
  unfold optD at h; split at h
  · rfl
  · cases h
theorem opSlice_exc {a : PyData} {lo hi : Option PyData} {k : String} (z : opSlice a lo hi = .exc k) : False := by
  obtain ⟨_, _, _, _, _, _, _, h⟩ := opSlice_inv z (fun q => by cases q); cases h
theorem opSlice_list {a d : PyData} {lo hi : Option PyData} (z : opSlice a lo hi = .ok d) : ∃ ds, a = .list ds := by
  obtain ⟨ds, _, _, e, _⟩ := opSlice_inv z (fun q => by cases q); exact ⟨ds, e⟩
theorem sound_slice {a lo hi : X} (ha : SoundX prog w T base fzT n md a) (hlo : SoundX prog w T base fzT n md lo) (hhi : SoundX prog w T base fzT n md hi) : SoundX prog w T base fzT n md (.slice a lo hi) := by
  intro A outer L env nm σ ad fz s e hm H hbad
  obtain ⟨v, i, pos, rfl, hm⟩ := atSubscript_inv hm
  obtain ⟨l, u, st, pos', rfl, hm⟩ := atSlice_inv hm
  have hst := andL hm
  have hm := andR hm
  cases none_inv hst
  have h3 := andR hm
  have hm := andL hm
  have h2 := andR hm
  have h1 := andL hm
  rw [evq_slice] at hbad ⊢
  refine Subscript_ (useV (ha _ h1 H (bind_bad hbad)) (fun _ _ _ e h => excOf e h) fun x v fz₁ s₁ e r rep => ?_)
  rw [e, Res.bind_ok] at hbad ⊢
  refine wpAny_Slice (useV (mo_part hlo h2 (H.step r) (bind_bad hbad)) (fun _ _ _ e h => PostE.after r (excOf e h)) fun y u fz₂ s₂ e' r' rep' => ?_)
  rw [e', Res.bind_ok] at hbad ⊢
  refine useV (mo_part hhi h3 (H.step (r.trans r')) (bind_bad hbad)) (fun _ _ _ e h => PostE.after (r.trans r') (excOf e h)) fun y₂ u₂ fz₃ s₃ e'' r'' rep'' => ?_
  rw [e'', Res.bind_ok] at hbad ⊢
  refine wpAny_evalPart_none ?_
  cases z : opSlice x (optD y) (optD y₂) with
  | bad => exact absurd z hbad
  | exc k => exact (opSlice_exc z).elim
  | ok d =>
    obtain ⟨ds, rfl⟩ := opSlice_list z
    have R := (r.trans r').trans r''
    obtain ⟨l, vs, rfl, e1, r1⟩ := rep_list_inv (rep.mono (r'.fz.le.trans r''.fz.le))
    obtain ⟨lo', hi', vs', ds', p1, p2, pk, rfl, rr, hz⟩ := slice_pick (fz := fz₃) r1 z (vl := u) (vu := u₂) (fun x q => optD_some q ▸ rep'.mono r''.fz.le) (fun q => by have := optD_none q; subst this; cases rep'; rfl)
      (fun x q => optD_some q ▸ rep'') (fun q => by have := optD_none q; subst this; cases rep''; rfl)
    have hl := r''.fzin.isList e1
    have hlen := r1.length
    refine tail_any (ops := [.ref s₃.heap.objs.size, .ref l]) (hl.push _).typeIs slot_list_getitem.lookup (wpAny_getItem_list_slice (hl.push _) (Heap.IsSliceOf.new ..) p1 p2 .none (by simp) ?_ (by simp only [List.size_toArray]; rw [sizeLine_eq]; omega)) rfl
    rw [pk]
    refine Good.after R ?_
    have := Good.made (fs := fsOf outer) (fz := fz₃) (s := s₃) (t := false) (vs := vs') (ds := ds')
      (h' := (s₃.heap.push { cls := .type "slice", data := .fields #[u, u₂, .none] }).push { cls := .type "list", data := .seq vs'.toArray })
      (a := (s₃.heap.push { cls := .type "slice", data := .fields #[u, u₂, .none] }).objs.size) s₃.toks (fun b o e => Heap.get?_push_of_some _ (Heap.get?_push_of_some _ e)) R.fzin (size_none _ (by rw [Heap.size_push]; omega)) (Heap.get?_push_size _ rfl) rfl rfl rr
    exact this
/-! ranges -/
theorem const_good {A : Around} {E : Value → Shared → Prop} {s : Shared} {env : Env} {e : Expr} {i : Int} {Q : Value → Shared → Prop} (hm : constE e i = true) (h : ∀ t tk, Q (.int i t) { s with toks := tk }) : wpAny (model prog w) A (eval e env) Q E s := by
  rcases Bool.or_eq_true_iff.mp hm with hm | hm
  · obtain ⟨c, k, p, rfl, hm⟩ := atConstant_inv hm
    obtain ⟨j, rfl, hm⟩ := atConstInt_inv hm
    cases (eq_of_beq hm); exact wpAny_Constant_int (h _ _)
  · obtain ⟨o, x, p, rfl, hm⟩ := atUnaryOp_inv hm
    have ho := andL hm
    have hm := andR hm
    cases isNeg_inv ho
    obtain ⟨c, k, p, rfl, hm⟩ := atConstant_inv hm
    obtain ⟨j, rfl, hm⟩ := atConstInt_inv hm
    cases (eq_of_beq hm); exact wpAny_UnaryOp (wpAny_Constant_int (neg_int (h _ _)))
noncomputable def RangeAt (s : Shared) (a b c : Int) (v : Value) (s₁ : Shared) : Prop :=
  ∃ h' tk r t u x, s₁ = { s with heap := h', toks := tk } ∧ (∀ b o, s.heap.get? b = some o → h'.get? b = some o) ∧ v = .ref r ∧ s.heap.get? r = none ∧ IsRange h' r a b c t u x
theorem range_good (G : GOK prog w T base fzT mg mb n) {A : Around} {E : Value → Shared → Prop} {outer : List Env} {L : Addr} {env : Env} {s : Shared} {a b c : Int} {e : Expr} (hi : HI base outer s.heap) (O : EnvOK L outer env s.heap) (hm : rangeE env.scope.names a b c e = true) (hc : c ≠ 0) (hc2 : c.natAbs < 1000) :
    wpAny (model prog w) A (eval e env) (RangeAt s a b c) E s := by
  obtain ⟨f, as, kw, pos, rfl, hm⟩ := atCall_inv hm
  obtain ⟨x, px, rfl, hm⟩ := atName_inv hm
  have hcase := andR hm
  have hm := andL hm
  have hk := andR hm
  have hm := andL hm
  have h2 := andR hm
  have h1 := andL hm
  cases nil_inv hk
  cases (eq_of_beq h2)
  refine Call_ (built_name G hi O h1 G.rng.1 G.rng.2 ?_)
  rcases Bool.or_eq_true_iff.mp hcase with hcase | hm
  · rcases Bool.or_eq_true_iff.mp hcase with hm | hm
    · obtain ⟨x, rfl, hm⟩ := at1_inv hm
      have h6 := andR hm
      have hm := andL hm
      have h5 := andR hm
      have hm := andL hm
      have h4 := andR hm
      have h3 := andL hm
      cases (eq_of_beq h3); cases (eq_of_beq h5)
      refine callWith_type1 (args_cons (const_good h4 fun t tk => args_nil ?_) (plain_star h6)) (plain_star h6)
      exact call_range_1 ⟨_, _, _, _, _, _, rfl, fun b o e => Heap.get?_push_of_some _ e, rfl, size_none _ (Nat.le_refl _), Heap.get?_push_size _ rfl⟩
    · obtain ⟨x, y, rfl, hm⟩ := at2_inv hm
      have h7 := andR hm
      have hm := andL hm
      have h6 := andR hm
      have hm := andL hm
      have h5 := andR hm
      have hm := andL hm
      have h4 := andR hm
      have h3 := andL hm
      cases (eq_of_beq h5)
      refine callWith_type1 (args_cons (const_good h3 fun t tk => args_cons (const_good h4 fun t' tk' => args_nil ?_) (plain_star h7)) (plain_star h6)) (plain_star h6) (by rw [plain_star h7]; rfl)
      exact call_range_2 ⟨_, _, _, _, _, _, rfl, fun b o e => Heap.get?_push_of_some _ e, rfl, size_none _ (Nat.le_refl _), Heap.get?_push_size _ rfl⟩
  · obtain ⟨x, y, z, rfl, hm⟩ := at3_inv hm
    have h8 := andR hm
    have hm := andL hm
    have h7 := andR hm
    have hm := andL hm
    have h6 := andR hm
    have hm := andL hm
    have h5 := andR hm
    have hm := andL hm
    have h4 := andR hm
    have h3 := andL hm
    refine callWith_type1 (args_cons (const_good h3 fun t tk => args_cons (const_good h4 fun t' tk' => args_cons (const_good h5 fun t'' tk'' => args_nil ?_) (plain_star h8)) (plain_star h7)) (plain_star h6)) (plain_star h6) (by rw [plain_star h7, plain_star h8]; rfl)
    exact call_range_3 hc ⟨_, _, _, _, _, _, rfl, fun b o e => Heap.get?_push_of_some _ e, rfl, size_none _ (Nat.le_refl _), Heap.get?_push_size _ rfl⟩ (.inl (PyProof.noPylong_small (by omega)))
/-- a range is no folded set -/
theorem range_set {sc : Sc} {a b c : Int} {iter : Expr} {env : Env} (h : rangeE sc a b c iter = true) (x : Value) : foldedSetIterable iter env x = pure x := by
  obtain ⟨f, as, kw, pos, rfl, _⟩ := atCall_inv h
  rfl
end
end Mine
end
section
open PySem PySem.W PySem.Calls PyProof.Rows
namespace Mine
/-! the environment of a comprehension -/
theorem nodupB_cons {x : Str} {r : List Str} (h : nodupB (x :: r) = true) : x ∉ r ∧ nodupB r = true := by
  unfold nodupB at h
  obtain ⟨h1, h2⟩ := Bool.and_eq_true_iff.mp h
  exact ⟨by simpa using h1, h2⟩
theorem lookup_mem_nodup {α : Type} : ∀ {l : List (Str × α)} {x : Str} {a : α}, nodupB (l.map (·.1)) = true → (x, a) ∈ l → l.lookup x = some a
  | (y, b) :: r, x, a, h, hm => by
    obtain ⟨h1, h2⟩ := nodupB_cons h
    rcases List.mem_cons.mp hm with e | hm
    · cases e; simp
    · have : x ≠ y := fun e => h1 (e ▸ List.mem_map_of_mem (f := (·.1)) hm)
      rw [List.lookup_cons]
      have : (x == y) = false := by simpa using this
      rw [this]; exact lookup_mem_nodup h2 hm
theorem mem_lookup {α : Type} {l : List (Str × α)} {x : Str} {a : α} (h : l.lookup x = some a) : (x, a) ∈ l := mem_of_lookup h
noncomputable def closAcc (env : Env) : Sc → List (Str × Addr) → List (Str × Addr)
  | [], acc => acc
  | (n, k) :: r, acc => if k == .free then closAcc env r ((n, (env.cells.lookup n).getD 0) :: acc) else closAcc env r acc
theorem clos_loop {env : Env} (f : Str × NameKind → List (Str × Addr) → Sem (ForInStep (List (Str × Addr))))
    (hf : ∀ name kind cells, f (name, kind) cells = if kind == .free then (do let a ← cellOf env name; pure (.yield ((name, a) :: cells))) else pure (.yield cells)) :
    ∀ (names : Sc) (acc : List (Str × Addr)), (∀ x ∈ names, x.2 = .free → ∃ c, env.cells.lookup x.1 = some c) → (forIn names acc f : Sem _) = pure (closAcc env names acc)
  | [], acc, _ => rfl
  | (n, k) :: r, acc, h => by
    rw [List.forIn_cons, hf]
    unfold closAcc
    by_cases hk : (k == NameKind.free) = true
    · rw [if_pos hk, if_pos hk]
      obtain ⟨c, hc⟩ := h (n, k) (.head _) (by simpa using hk)
      have e : cellOf env n = pure c := by unfold cellOf; simp only at hc; rw [hc]
      simp only [e, pure_bind]
      simp only at hc
      rw [hc]
      exact clos_loop f hf r _ fun x hx => h x (.tail _ hx)
    · rw [if_neg hk, if_neg hk]
      simp only [pure_bind]
      exact clos_loop f hf r _ fun x hx => h x (.tail _ hx)
theorem clos_is {env : Env} {scope : Scope} (h : ∀ x ∈ scope.names, x.2 = .free → ∃ c, env.cells.lookup x.1 = some c) : closureFor scope env = pure (closAcc env scope.names []) := by
  unfold closureFor
  simp only [bind_pure]
  refine clos_loop _ (fun name kind cells => ?_) _ _ h
  cases hk : kind == NameKind.free <;> simp [hk]
theorem closAcc_append {env : Env} : ∀ (names : Sc) (a b : List (Str × Addr)), closAcc env names (a ++ b) = closAcc env names a ++ b
  | [], a, b => rfl
  | (n, k) :: r, a, b => by
    unfold closAcc
    split
    · rw [← List.cons_append, closAcc_append]
    · exact closAcc_append r a b
theorem closAcc_lookup {env : Env} : ∀ (names : Sc) (x : Str), nodupB (names.map (·.1)) = true → (∀ y ∈ names, y.2 = .free → ∃ c, env.cells.lookup y.1 = some c) → (x, NameKind.free) ∈ names → (closAcc env names []).lookup x = env.cells.lookup x
  | (n, k) :: r, x, hn, h, hm => by
    obtain ⟨h1, h2⟩ := nodupB_cons hn
    unfold closAcc
    have hr : ∀ y ∈ r, y.2 = .free → ∃ c, env.cells.lookup y.1 = some c := fun y hy => h y (.tail _ hy)
    by_cases hk : (k == NameKind.free) = true
    · rw [if_pos hk, show [(n, (env.cells.lookup n).getD 0)] = [] ++ [(n, (env.cells.lookup n).getD 0)] from rfl, closAcc_append, List.lookup_append]
      rcases List.mem_cons.mp hm with e | hm
      · cases e
        have : (closAcc env r []).lookup n = none := by
          cases q : (closAcc env r []).lookup n with
          | none => rfl
          | some c =>
            exfalso
            have hm := mem_lookup q
            have key : ∀ (names : Sc) (acc : List (Str × Addr)) p, p ∈ closAcc env names acc → p ∈ acc ∨ p.1 ∈ names.map (·.1) := by
              intro names
              induction names with
              | nil => intro acc p hp; exact .inl hp
              | cons y ys ih =>
                intro acc p hp
                obtain ⟨y1, y2⟩ := y
                unfold closAcc at hp
                split at hp
                · rcases ih _ p hp with q | q
                  · rcases List.mem_cons.mp q with e | q
                    · right; rw [e]; exact List.mem_map_of_mem (f := (·.1)) (List.mem_cons_self (a := (y1, y2)))
                    · exact .inl q
                  · right; exact List.mem_cons_of_mem _ q
                · rcases ih _ p hp with q | q
                  · exact .inl q
                  · right; exact List.mem_cons_of_mem _ q
            rcases key r [] _ hm with q | q
            · cases q
            · exact h1 q
        obtain ⟨c, hc⟩ := h (n, .free) (.head _) rfl
        simp only at hc
        rw [this, hc]; simp
      · rw [closAcc_lookup r x h2 hr hm]
        obtain ⟨c, hc⟩ := hr (x, .free) hm rfl
        simp only at hc
        rw [hc]; rfl
    · rw [if_neg hk]
      rcases List.mem_cons.mp hm with e | hm
      · cases e; exact absurd rfl hk
      · exact closAcc_lookup r x h2 hr hm
theorem cellsFrom_append : ∀ (names : Sc) (n : Nat) (a b : List (Str × Addr)), cellsFrom n names (a ++ b) = cellsFrom n names a ++ b
  | [], _, _, _ => rfl
  | (x, k) :: r, n, a, b => by
    unfold cellsFrom
    split
    · rw [← List.cons_append, cellsFrom_append]
    · exact cellsFrom_append r n a b
theorem cellsFrom_mem : ∀ (names : Sc) (n : Nat) (acc : List (Str × Addr)) p, p ∈ cellsFrom n names acc → p ∈ acc ∨ (p.1, NameKind.cell) ∈ names
  | [], _, _, p, h => .inl h
  | (x, k) :: r, n, acc, p, h => by
    unfold cellsFrom at h
    split at h
    · rename_i hk
      rcases cellsFrom_mem r _ _ p h with q | q
      · rcases List.mem_cons.mp q with e | q
        · right; rw [e]; rw [show k = .cell by simpa using hk]; exact .head _
        · exact .inl q
      · exact .inr (.tail _ q)
    · rcases cellsFrom_mem r _ _ p h with q | q
      · exact .inl q
      · exact .inr (.tail _ q)
/-- what the comprehension's environment is -/
noncomputable def cEnv (scope : Scope) (env : Env) (C : Addr) : Env :=
  { scope := relabel scope env, locals := C, globals := env.globals, cells := cellsFrom (C + 1) scope.names (closAcc env scope.names []), qual := env.qual, func := none, code := env.code, frame := env.frame, builtins := env.builtins }
theorem comp_env {M : Model} {A : Around} {E : Value → Shared → Prop} {s : Shared} {scope : Scope} {env : Env} {cl : List (Str × Addr)} {Q : Env → Shared → Prop}
    (h : Q { scope := scope, locals := s.heap.objs.size, globals := env.globals, cells := cellsFrom (s.heap.objs.size + 1) scope.names cl, qual := env.qual, func := none, code := env.code, frame := env.frame, builtins := env.builtins }
      { s with heap := pushCells (s.heap.push { cls := .type "dict", data := .dict #[] }) scope.names }) :
    wpAny M A (newFunctionEnv scope env.globals cl [] env.qual none .none (some env)) Q E s := by
  simp only [newFunctionEnv, Option.isSome_some, if_true]
  refine wpAny_bind (wpAny_alloc ?_)
  refine wpAny_bind (wpAny_layCells _ (fun name kind cells => by cases hkc : kind == NameKind.cell <;> simp [hkc]) _ _ _ _ ?_)
  rw [show ({ s with heap := s.heap.push { cls := .type "dict", data := .dict #[] } } : Shared).heap.objs.size = s.heap.objs.size + 1 from Heap.size_push ..]
  exact wpAny_bind (wpAny_pure (wpAny_pure h))
theorem relabel_names {scope : Scope} {env : Env} (hk : env.scope.kind = .function) : (relabel scope env).names = relab env.scope.names scope.names := by
  unfold relabel relab
  simp only [hk, beq_self_eq_true, Bool.and_true]
  rfl
theorem relab_lookup (sc : Sc) (x : Str) : ∀ names : Sc, (relab sc names).lookup x = (names.lookup x).map fun k => if (k == .free && sc.lookup x == some .cell) then .cell else k
  | [] => rfl
  | (n, k) :: r => by
    have ih := relab_lookup sc x r
    unfold relab at ih ⊢
    rw [List.map_cons]
    by_cases q : x = n
    · subst q
      by_cases hc : (k == NameKind.free && sc.lookup x == some NameKind.cell) = true
      · dsimp only
        rw [if_pos hc, List.lookup_cons, List.lookup_cons]
        simp only [beq_self_eq_true, Option.map_some, if_pos hc]
      · dsimp only
        rw [if_neg hc, List.lookup_cons, List.lookup_cons]
        simp only [beq_self_eq_true, Option.map_some, if_neg hc]
    · have q' : (x == n) = false := by simpa using q
      by_cases hc : (k == NameKind.free && sc.lookup n == some NameKind.cell) = true
      · dsimp only
        rw [if_pos hc, List.lookup_cons, List.lookup_cons]
        simp only [q']; exact ih
      · dsimp only
        rw [if_neg hc, List.lookup_cons, List.lookup_cons]
        simp only [q']; exact ih
theorem cell_new {h : Heap} {C : Nat} {names : Sc} {cl : List (Str × Addr)} {x : Str} (hC : h.objs.size = C) (hx : names.lookup x = some .cell) :
    ∃ c, (cellsFrom C names cl).lookup x = some c ∧ C ≤ c ∧ (pushCells h names).IsCell c none ∧ (cellsFrom C names []).lookup x = some c := by
  have ok := cellsFrom_ok names h C [] ⟨fun _ _ hm => (nomatch hm), List.Pairwise.nil⟩ (Nat.le_of_eq hC.symm)
  rw [hC] at ok
  have hs := cellsFrom_some (x := x) names C [] (.inl hx)
  obtain ⟨c, hc⟩ := Option.isSome_iff_exists.mp hs
  have e := cellsFrom_append names C [] cl
  rw [List.nil_append] at e
  exact ⟨c, by rw [e, List.lookup_append, hc]; rfl, (ok.empty x c (mem_lookup hc)).2, (ok.empty x c (mem_lookup hc)).1, hc⟩
theorem cell_old {C : Nat} {names : Sc} {cl : List (Str × Addr)} {x : Str} (hx : ∀ k, (x, k) ∈ names → k ≠ .cell) : (cellsFrom C names cl).lookup x = cl.lookup x := by
  have e := cellsFrom_append names C [] cl
  rw [List.nil_append] at e
  rw [e, List.lookup_append]
  cases q : (cellsFrom C names []).lookup x with
  | none => rfl
  | some c =>
    rcases cellsFrom_mem names C [] _ (mem_lookup q) with z | z
    · cases z
    · exact absurd rfl (hx _ z)
theorem cells_apart {h : Heap} {C : Nat} {names : Sc} {x y : Str} {c : Addr} (hC : h.objs.size = C) (hx : (cellsFrom C names []).lookup x = some c) (hy : (cellsFrom C names []).lookup y = some c) : x = y := by
  have ok := cellsFrom_ok names h C [] ⟨fun _ _ hm => (nomatch hm), List.Pairwise.nil⟩ (Nat.le_of_eq hC.symm)
  rw [hC] at ok
  exact name_of_addr ok.apart (mem_lookup hx) (mem_lookup hy)
end Mine
end
section
open PySem PySem.W PySem.Calls PyProof.Rows
namespace Mine
/-- what stood stands, but for W -/
noncomputable def ExtW (W : Addr → Prop) (fs : List Addr) (h h' : Heap) : Prop :=
  ∀ b o, h.get? b = some o → ¬ W b → ∃ sl, h'.get? b = some { o with slots := sl } ∧ (b ∉ fs → sl = o.slots)
section
variable {W : Addr → Prop} {fs : List Addr} {h h' h₁ h₂ h₃ : Heap}
theorem ExtW.refl (W : Addr → Prop) (fs : List Addr) (h : Heap) : ExtW W fs h h := fun _ o e _ => ⟨o.slots, e, fun _ => rfl⟩
theorem ExtW.trans (x : ExtW W fs h₁ h₂) (y : ExtW W fs h₂ h₃) : ExtW W fs h₁ h₃ := fun b o e hb => by
  obtain ⟨sl, e₁, q₁⟩ := x b o e hb
  obtain ⟨sl', e₂, q₂⟩ := y b _ e₁ hb
  exact ⟨sl', e₂, fun hf => (q₂ hf).trans (q₁ hf)⟩
theorem ExtW.of_ext (x : Ext fs h h') : ExtW W fs h h' := fun b o e _ => x b o e
theorem ExtW.of_but {a : Addr} (x : Heap.SameBut a h h') (ha : W a) : ExtW W fs h h' := fun b o e hb => ⟨o.slots, (x.2 b fun q => hb (q ▸ ha)).trans e, fun _ => rfl⟩
theorem ExtW.of_moved {wr : List Addr} (x : ∀ b o, b ∉ wr → h.get? b = some o → h'.get? b = some o) (hw : ∀ b ∈ wr, W b) : ExtW W fs h h' := fun b o e hb => ⟨o.slots, x b o (fun q => hb (hw b q)) e, fun _ => rfl⟩
theorem ExtW.get (x : ExtW W fs h h') {b : Addr} {o : Obj} (hb : ¬ W b) (hf : b ∉ fs) (e : h.get? b = some o) : h'.get? b = some o := by
  obtain ⟨sl, e₁, q₁⟩ := x b o e hb
  rw [q₁ hf] at e₁; exact e₁
theorem ExtW.gone (x : ExtW W fs h h') {b : Addr} (hb : ¬ W b) (e : h'.get? b = none) : h.get? b = none := by
  cases q : h.get? b with
  | none => rfl
  | some o => obtain ⟨sl, e₁, _⟩ := x b o q hb; rw [e] at e₁; cases e₁
theorem ExtW.fzIn (x : ExtW W fs h h') {fz : Fz} (hw : ∀ b, W b → fz b = none) (f : FzIn fz h) : FzIn fz h' := fun a t vs e => by
  obtain ⟨o, n, ho, hc, hd⟩ := f a t vs e
  obtain ⟨sl, e₁, _⟩ := x a o ho (fun q => by rw [hw a q] at e; cases e)
  exact ⟨_, n, e₁, hc, hd⟩
theorem ExtW.ns (x : ExtW W fs h h') {a : Addr} {m : Str → Option Value} (ha : ¬ W a) (hn : h.Ns a m) : h'.Ns a m := by
  obtain ⟨o, es, ep, ho, hd, r⟩ := hn
  obtain ⟨sl, e₁, _⟩ := x a o ho ha
  exact ⟨_, es, ep, e₁, hd, r⟩
theorem ExtW.isCell (x : ExtW W fs h h') {c : Addr} {v : Option Value} (hc : ¬ W c) (hv : h.IsCell c v) : h'.IsCell c v := by
  obtain ⟨o, ho, hd⟩ := hv
  obtain ⟨sl, e₁, _⟩ := x c o ho hc
  exact ⟨_, e₁, hd⟩
theorem ExtW.plain (x : ExtW W fs h h') {a : Addr} {vs : Array Value} (ha : ¬ W a) (hf : a ∉ fs) (hp : h.PlainList a vs) : h'.PlainList a vs := by
  obtain ⟨n, e⟩ := hp; exact ⟨n, x.get ha hf e⟩
/-- W is new: the elder heap grows -/
theorem ExtW.old {h₀ : Heap} (k : ∀ b o, h₀.get? b = some o → h.get? b = some o) (x : ExtW W fs h h') (hw : ∀ b o, h₀.get? b = some o → ¬ W b) : Ext fs h₀ h' := fun b o e => x b o (k b o e) (hw b o e)
end
/-! places of names -/
theorem nmIdx_append (x : Str) (l : List Str) : ∀ nm : List Str, nmIdx (nm ++ l) x = match nmIdx l x with
    | some j => some (nm.length + j)
    | none => nmIdx nm x
  | [] => by cases q : nmIdx l x <;> simp [nmIdx, q]
  | y :: r => by
    have ih := nmIdx_append x l r
    rw [List.cons_append, nmIdx, ih]
    cases q : nmIdx l x with
    | some j => simp only [List.length_cons]; congr 1; omega
    | none => simp only [nmIdx]
theorem nmIdx_get (x : Str) : ∀ (l : List Str) (j : Nat), nmIdx l x = some j → l[j]? = some x
  | [], _, h => by cases h
  | y :: r, j, h => by
    unfold nmIdx at h
    split at h
    · rename_i i hi
      cases h
      simpa using nmIdx_get x r i hi
    · split at h
      · rename_i e; cases h; simp [e]
      · cases h
theorem nmIdx_none (x : Str) : ∀ (l : List Str), nmIdx l x = none → x ∉ l
  | [], _ => by simp
  | y :: r, h => by
    unfold nmIdx at h
    split at h
    · cases h
    · rename_i hr
      split at h
      · cases h
      · rename_i hy
        intro hm
        rcases List.mem_cons.mp hm with e | hm
        · exact hy e.symm
        · exact nmIdx_none x r hr hm
/-- a name of the comprehension's own -/
noncomputable def ownN (scope : Scope) (x : Str) : Prop := scope.names.lookup x = some .local ∨ scope.names.lookup x = some .cell
section
variable {base : Heap} {fzT : Fz} {md : Md} {n : Nat} {A : Around} {outer : List Env} {L : Addr} {env : Env} {nm : List Str} {σ : List SV} {ad : Nat → Addr} {fz : Fz} {s₀ : Shared} {scope : Scope} {t : Str} {C : Addr}
structure CompCx (sc : Sc) (nm : List Str) (t : Str) (scope : Scope) : Prop where
  kind : scope.kind = .function
  nodup : nodupB (scope.names.map (·.1)) = true
  free : ∀ x ∈ scope.names, x.2 = .free → sc.lookup x.1 = some .cell ∨ sc.lookup x.1 = some .free
  own : ∀ x, ownN scope x → x = t ∨ nmIdx nm x = none
theorem compCx_of {sc : Sc} (h : compOk sc nm t scope = true) : CompCx sc nm t scope := by
  obtain ⟨h, h4⟩ := Bool.and_eq_true_iff.mp h
  obtain ⟨h, h3⟩ := Bool.and_eq_true_iff.mp h
  obtain ⟨h1, h2⟩ := Bool.and_eq_true_iff.mp h
  refine ⟨eq_of_beq h1, h2, fun x hx e => ?_, fun x hx => ?_⟩
  · have := List.all_eq_true.mp h3 x hx
    rw [e] at this
    simpa using this
  · have key : ∀ k, (x, k) ∈ scope.names → (k = .local ∨ k = .cell) → x = t ∨ nmIdx nm x = none := by
      intro k hm hk
      have := List.all_eq_true.mp h4 _ hm
      rcases hk with rfl | rfl <;> simpa using this
    rcases hx with hx | hx
    · exact key _ (mem_lookup hx) (.inl rfl)
    · exact key _ (mem_lookup hx) (.inr rfl)
theorem cEnv_kind (hk : env.scope.kind = .function) (x : Str) : (cEnv scope env C).kindOf x = (scope.names.lookup x).map fun k => if (k == .free && env.scope.names.lookup x == some .cell) then .cell else k := by
  show (relabel scope env).names.lookup x = _
  rw [relabel_names hk, relab_lookup]
theorem cells_some (X : CompCx env.scope.names nm t scope) {h : Heap} (O : EnvOK L outer env h) : ∀ x ∈ scope.names, x.2 = .free → ∃ c, env.cells.lookup x.1 = some c := by
  intro x hx e
  obtain ⟨c, v, hc, _⟩ := O.cells x.1 (by
    show isCellK (env.scope.names.lookup x.1) = true
    rcases X.free x hx e with q | q <;> rw [q] <;> rfl)
  exact ⟨c, hc⟩
theorem cEnv_free (X : CompCx env.scope.names nm t scope) {h : Heap} (O : EnvOK L outer env h) {x : Str} (hx : scope.names.lookup x = some .free) : (cEnv scope env C).cells.lookup x = env.cells.lookup x := by
  show (cellsFrom (C + 1) scope.names (closAcc env scope.names [])).lookup x = _
  rw [cell_old fun k hm e => by
    have := lookup_mem_nodup X.nodup hm
    rw [hx, e] at this; cases this]
  exact closAcc_lookup _ _ X.nodup (cells_some X O) (mem_lookup hx)
/-- the comprehension's own places stand: its namespace, its own cells -/
structure OwnOk (scope : Scope) (cenv : Env) (h : Heap) : Prop where
  ns : ∃ m, h.Ns cenv.locals m
  cells : ∀ x, scope.names.lookup x = some .cell → ∃ c v, cenv.cells.lookup x = some c ∧ h.IsCell c v
theorem comp_envok (X : CompCx env.scope.names nm t scope) {h : Heap} (O : EnvOK L outer env h) (W : OwnOk scope (cEnv scope env C) h) : EnvOK L outer (cEnv scope env C) h := by
  refine ⟨?_, O.globals, O.builtins, O.frame, O.head, W.ns, fun x hx => ?_⟩
  · show scope.kind = _; exact X.kind
  · rw [cEnv_kind O.kind] at hx
    cases q : scope.names.lookup x with
    | none => rw [q] at hx; cases hx
    | some k =>
      cases k with
      | cell => exact W.cells x q
      | free =>
        rw [cEnv_free X O q]
        refine O.cells x ?_
        show isCellK (env.scope.names.lookup x) = true
        rcases X.free _ (mem_lookup q) rfl with z | z <;> (simp only at z; rw [z]; rfl)
      | «local» => rw [q] at hx; cases hx
      | globalExplicit => rw [q] at hx; cases hx
      | globalImplicit => rw [q] at hx; cases hx
theorem var_cenv (X : CompCx env.scope.names nm t scope) {h : Heap} (O : EnvOK L outer env h) {x : Str} (hx : scope.names.lookup x = some .free) {v : Value} (hv : Var env h x v) : Var (cEnv scope env C) h x v := by
  have hf := X.free _ (mem_lookup hx) rfl
  simp only at hf
  rcases hv with ⟨k, _⟩ | ⟨k, c, hc, hv⟩
  · exfalso
    have k : env.scope.names.lookup x = some .local := k
    rcases hf with z | z <;> (rw [k] at z; cases z)
  · refine .inr ⟨?_, c, by rw [cEnv_free X O hx]; exact hc, hv⟩
    rw [cEnv_kind O.kind, hx]
    simp only [Option.map_some]
    split <;> rfl
theorem comp_here (H : Here base fzT md n A outer L env nm σ ad fz s₀) (X : CompCx env.scope.names nm t scope) {h' : Heap} {tk : Nat} {fz' : Fz} (e : Ext (fsOf outer) s₀.heap h') (f : FzExt s₀.heap fz fz') (fi : FzIn fz' h')
    (W : OwnOk scope (cEnv scope env C) h') (l : List (Str × PyData)) (hl : ∀ (j : Nat) x d, l[j]? = some (x, d) → ∃ v, Var (cEnv scope env C) h' x v ∧ Rep fz' v d) (ht : t ∈ l.map (·.1)) :
    Here base fzT md n A outer L (cEnv scope env C) (nm ++ l.map (·.1)) (σ ++ l.map fun p => .val p.2) ad fz' { s₀ with heap := h', toks := tk } := by
  have O' := H.envok.ext e
  have I' := H.inv.ext e f
  refine ⟨H.sit, H.hi.ext e, comp_envok X O' W, ?_, fi, H.fzle.trans f.le, fun q => (H.hx q).ext e, by simp [H.len]⟩
  intro x i sv h1 h2 h3
  rw [nmIdx_append] at h1
  cases q : nmIdx (l.map (·.1)) x with
  | some j =>
    rw [q] at h1
    cases h1
    rw [List.getElem?_append_right (by rw [H.len]; omega)] at h3
    rw [H.len, Nat.add_sub_cancel_left, List.getElem?_map] at h3
    have hj := nmIdx_get x _ j q
    rw [List.getElem?_map] at hj
    cases z : l[j]? with
    | none => rw [z] at hj; cases hj
    | some p =>
      obtain ⟨y, d⟩ := p
      rw [z] at hj h3
      cases h3
      simp only [Option.map_some, Option.some.injEq] at hj
      subst hj
      exact hl j _ d z
  | none =>
    rw [q] at h1
    have hnt : x ≠ t := fun e => nmIdx_none _ _ q (e ▸ ht)
    have h3' : σ[i]? = some sv := by
      have hi : i < nm.length := by
        have := nmIdx_get x nm i h1
        exact (List.getElem?_eq_some_iff.mp this).1
      rw [List.getElem?_append_left (by rw [H.len]; exact hi)] at h3
      exact h3
    have hfree : scope.names.lookup x = some .free := by
      rw [cEnv_kind H.envok.kind] at h2
      cases z : scope.names.lookup x with
      | none => rw [z] at h2; cases h2
      | some k =>
        cases k with
        | free => rfl
        | «local» => rcases X.own x (.inl z) with e | e
                     · exact absurd e hnt
                     · rw [e] at h1; cases h1
        | cell => rcases X.own x (.inr z) with e | e
                  · exact absurd e hnt
                  · rw [e] at h1; cases h1
        | globalExplicit => rw [z] at h2; cases h2
        | globalImplicit => rw [z] at h2; cases h2
    have hv : isVar (env.kindOf x) = true := by
      show isVar (env.scope.names.lookup x) = true
      rcases X.free _ (mem_lookup hfree) rfl with z | z <;> (simp only at z; rw [z]; rfl)
    have := I' x i sv h1 hv h3'
    cases sv with
    | un => trivial
    | val d => obtain ⟨v, a, b⟩ := this; exact ⟨v, var_cenv X O' hfree a, b⟩
    | own ds => obtain ⟨a, b⟩ := this; exact ⟨var_cenv X O' hfree a, b⟩
end
end Mine
end
section
open PySem PySem.W PySem.Calls PyProof.Rows
namespace Mine
/-- an iterator over what stands for ds -/
structure Itr (prog : Program) (w : World) (A : Around) (fs : List Addr) (fz : Fz) (ds : List PyData) (h₀ h : Heap) (I : Addr) (fp wr : List Addr) (P : Nat → Value → Prop) (St : Nat → Heap → Prop) : Prop where
  walks : Walks prog w A I fp wr ds.length P St
  item : ∀ (i : Nat) v d, P i v → ds[i]? = some d → Rep fz v d
  new : ∀ b ∈ wr, h₀.get? b = none
  fpo : ∀ b ∈ fp, b ∉ fs ∧ (b ∈ wr ∨ fz b ≠ none) ∧ ∃ o, h.get? b = some o
  st : St 0 h
  ex : ∀ i h, St i h → ∀ b ∈ wr, ∃ o, h.get? b = some o
noncomputable def IterAt (prog : Program) (w : World) (A : Around) (fs : List Addr) (fz : Fz) (ds : List PyData) (s : Shared) (it : Value) (s' : Shared) : Prop :=
  ∃ h' tk I fp wr P St, s' = { s with heap := h', toks := tk } ∧ (∀ b o, s.heap.get? b = some o → h'.get? b = some o) ∧ it = .ref I ∧ Itr prog w A fs fz ds s.heap h' I fp wr P St
section
variable {prog : Program} {w : World} {A : Around} {E : Value → Shared → Prop} {s : Shared} {fz : Fz} {base : Heap} {outer : List Env}
theorem fs_not_list (hi : HI base outer s.heap) (hf : FzIn fz s.heap) {a : Addr} {t : Bool} {vs : List Value} (e : fz a = some (t, vs)) : a ∉ fsOf outer := by
  intro hm
  obtain ⟨o, es, ep, ho, hd⟩ := hi.dicts a hm
  obtain ⟨o', n, ho', _, hd'⟩ := hf a t vs e
  rw [ho] at ho'; cases ho'; rw [hd] at hd'; cases hd'
theorem fs_old (hi : HI base outer s.heap) {a : Addr} (e : s.heap.get? a = none) : a ∉ fsOf outer := by
  intro hm
  obtain ⟨o, es, ep, ho, hd⟩ := hi.dicts a hm
  rw [e] at ho; cases ho
theorem iter_good {v : Value} {d : PyData} {ds : List PyData} (hh : A.handled = none) (hi : HI base outer s.heap) (hf : FzIn fz s.heap) (r : Rep fz v d) (hd : itemsOf d = some ds) :
    wpAny (model prog w) A (pyIter v) (IterAt prog w A (fsOf outer) fz ds s) E s := by
  have new : s.heap.get? s.heap.objs.size = none := size_none _ (Nat.le_refl _)
  unfold itemsOf at hd
  split at hd
  · split at hd
    · cases hd
      obtain ⟨l, vs, rfl, e1, r1⟩ := rep_list_inv r
      have hl := hf.isList e1
      have hlt : l < s.heap.objs.size := by obtain ⟨o, ho, _⟩ := hl; exact Heap.lt_size ho
      refine wpAny_pyIter_list hl ?_
      have W := Walks.list (prog := prog) (w := w) (A := A) hh s.heap.objs.size l (Nat.ne_of_lt hlt) vs.toArray
      rw [show vs.toArray.size = ds.length by simp [r1.length]] at W
      refine ⟨_, s.toks, _, _, _, _, _, rfl, fun b o e => Heap.get?_push_of_some _ e, rfl, W, fun i v d hp hd => ?_, fun b hb => ?_, fun b hb => ?_, ?_, ?_⟩
      · obtain ⟨d', h1, h2⟩ := r1.get' (by simpa using hp); rw [hd] at h1; cases h1; exact h2
      · rw [List.mem_singleton.mp hb]; exact new
      · rcases List.mem_cons.mp hb with e | hb
        · subst e; exact ⟨fs_old hi new, .inl (.head _), _, Heap.get?_push_size _ rfl⟩
        · rw [List.mem_singleton.mp hb]
          obtain ⟨o, ho, _⟩ := hl
          exact ⟨fs_not_list hi hf e1, .inr (by rw [e1]; intro z; cases z), _, Heap.get?_push_of_some _ ho⟩
      · exact ⟨⟨_, Heap.get?_push_size _ rfl, rfl, rfl⟩, hl.push _⟩
      · intro i h hst b hb; rw [List.mem_singleton.mp hb]; obtain ⟨⟨o, ho, _⟩, _⟩ := hst; exact ⟨o, ho⟩
    · cases hd
  · split at hd
    · cases hd
      obtain ⟨l, vs, rfl, e1, r1⟩ := rep_tuple_inv r
      have hl : s.heap.IsTuple l vs.toArray := by
        obtain ⟨o, n, ho, hc, hd⟩ := hf _ _ _ e1; exact ⟨o, ho, hc, n, hd⟩
      have hlt : l < s.heap.objs.size := by obtain ⟨o, ho, _⟩ := hl; exact Heap.lt_size ho
      refine wpAny_pyIter_tuple hl ?_
      have W := Walks.tuple (prog := prog) (w := w) (A := A) hh s.heap.objs.size l (Nat.ne_of_lt hlt) vs.toArray
      rw [show vs.toArray.size = ds.length by simp [r1.length]] at W
      refine ⟨_, s.toks, _, _, _, _, _, rfl, fun b o e => Heap.get?_push_of_some _ e, rfl, W, fun i v d hp hd => ?_, fun b hb => ?_, fun b hb => ?_, ?_, ?_⟩
      · obtain ⟨d', h1, h2⟩ := r1.get' (by simpa using hp); rw [hd] at h1; cases h1; exact h2
      · rw [List.mem_singleton.mp hb]; exact new
      · rcases List.mem_cons.mp hb with e | hb
        · subst e; exact ⟨fs_old hi new, .inl (.head _), _, Heap.get?_push_size _ rfl⟩
        · rw [List.mem_singleton.mp hb]
          obtain ⟨o, ho, _⟩ := hl
          exact ⟨fs_not_list hi hf e1, .inr (by rw [e1]; intro z; cases z), _, Heap.get?_push_of_some _ ho⟩
      · obtain ⟨o, ho, r⟩ := hl
        exact ⟨⟨_, Heap.get?_push_size _ rfl, rfl, rfl⟩, ⟨o, Heap.get?_push_of_some _ ho, r⟩⟩
      · intro i h hst b hb; rw [List.mem_singleton.mp hb]; obtain ⟨⟨o, ho, _⟩, _⟩ := hst; exact ⟨o, ho⟩
    · cases hd
  · cases hd
theorem iter_range {v : Value} {a b c : Int} {s₀ : Shared} (hh : A.handled = none) (hi : HI base outer s₀.heap) (hk : rangeOk a b c = true) (g : RangeAt s₀ a b c v s) :
    wpAny (model prog w) A (pyIter v) (IterAt prog w A (fsOf outer) fz (rangeD a b c) s₀) E s := by
  obtain ⟨h', tk, r, t, u, x, rfl, kp, rfl, hr, hR⟩ := g
  obtain ⟨hk, h4⟩ := Bool.and_eq_true_iff.mp hk
  obtain ⟨hk, h3⟩ := Bool.and_eq_true_iff.mp hk
  obtain ⟨h1, h2⟩ := Bool.and_eq_true_iff.mp hk
  refine wpAny_pyIter_range hR h1 ?_
  have new : h'.get? h'.objs.size = none := size_none _ (Nat.le_refl _)
  have new₀ : s₀.heap.get? h'.objs.size = none := by
    cases q : s₀.heap.get? h'.objs.size with
    | none => rfl
    | some o => have := kp _ _ q; rw [new] at this; cases this
  have W := Walks.range (prog := prog) (w := w) (A := A) hh h'.objs.size a c (rangeN a b c)
  rw [show rangeN a b c = (rangeD a b c).length by simp [rangeD]] at W
  refine ⟨_, tk, _, _, _, _, _, rfl, fun b o e => Heap.get?_push_of_some _ (kp b o e), rfl, W, fun i v d hp hd => ?_, fun b hb => ?_, fun b hb => ?_, ?_, ?_⟩
  · obtain ⟨t, rfl⟩ := hp
    unfold rangeD at hd
    rw [List.getElem?_map] at hd
    cases q : (List.range (rangeN a b c))[i]? with
    | none => rw [q] at hd; cases hd
    | some j =>
      rw [q] at hd
      rw [List.getElem?_range (by have := (List.getElem?_eq_some_iff.mp q).1; simpa using this)] at q
      cases q; cases hd
      exact .int _ _
  · rw [List.mem_singleton.mp hb]; exact new₀
  · rw [List.mem_singleton.mp hb]; exact ⟨fs_old hi new₀, .inl (.head _), _, Heap.get?_push_size _ rfl⟩
  · have e : (Builtin.Range.rangeSize a b c) = ((rangeN a b c : Nat) : Int) := by
      unfold rangeN; rw [Int.toNat_of_nonneg (of_decide_eq_true h3)]
    show IsRangeIter _ _ (a + ((0 : Nat) : Int) * c) (((rangeD a b c).length : Int) - ((0 : Nat) : Int)) c
    have e2 : (rangeD a b c).length = rangeN a b c := by simp [rangeD]
    rw [e2]
    simp only [Int.ofNat_zero, Int.zero_mul, Int.add_zero, Int.sub_zero, Int.natCast_zero]
    rw [e]
    exact Heap.get?_push_size _ rfl
  · intro i h hst b hb; rw [List.mem_singleton.mp hb]; exact ⟨_, hst⟩
end
end Mine
end
section
open PySem PySem.W PySem.Calls PyProof.Rows
namespace Mine
section
variable {prog : Program} {w : World} {T : Tab} {base : Heap} {fzT : Fz} {n : Nat} {A : Around} {outer : List Env} {L : Addr} {env : Env} {nm : List Str} {σ : List SV} {ad : Nat → Addr} {fz : Fz} {s₀ : Shared} {scope : Scope} {t : Str} {C D : Addr}
/-- storing into a name of the comprehension's own -/
theorem store_own {M : Model} {E : Value → Shared → Prop} {s : Shared} (O : env.scope.kind = .function) (X : CompCx env.scope.names nm t scope) (hap : ∀ x y c, scope.names.lookup x = some .cell → scope.names.lookup y = some .cell → (cEnv scope env C).cells.lookup x = some c → (cEnv scope env C).cells.lookup y = some c → x = y)
    (W : OwnOk scope (cEnv scope env C) s.heap) {x : Str} (hx : ownN scope x) {v : Value} {Q : Unit → Shared → Prop}
    (h : ∀ h' tk a, Heap.SameBut a s.heap h' → (a = C ∨ ∃ y, scope.names.lookup y = some .cell ∧ (cEnv scope env C).cells.lookup y = some a) → OwnOk scope (cEnv scope env C) h' → Var (cEnv scope env C) h' x v →
      (∀ y u, y ≠ x → ownN scope y → Var (cEnv scope env C) s.heap y u → Var (cEnv scope env C) h' y u) → Q () { s with heap := h', toks := tk }) :
    wpAny M A (storeName (cEnv scope env C) x v) Q E s := by
  have kx : ∀ y, scope.names.lookup y = some .local → (cEnv scope env C).kindOf y = some .local := fun y hy => by rw [cEnv_kind O, hy]; rfl
  have kc : ∀ y, scope.names.lookup y = some .cell → (cEnv scope env C).kindOf y = some .cell := fun y hy => by rw [cEnv_kind O, hy]; rfl
  rcases hx with hx | hx
  · obtain ⟨m, hm⟩ := W.ns
    refine wpAny_storeName_local (kx x hx) hm (fun h' hn hs => ?_) (by show (scope.kind == .class || (scope.kind == .module && _)) = false; rw [X.kind]; rfl)
    refine h h' _ C hs (.inl rfl) ⟨⟨_, hn⟩, fun y hy => ?_⟩ (.inl ⟨kx x hx, _, hn, by simp⟩) fun y u hyx hy hv => ?_
    · obtain ⟨c, v', hc, hv'⟩ := W.cells y hy
      refine ⟨c, v', hc, hv'.sameBut hs fun e => ?_⟩
      obtain ⟨o, ho, hd⟩ := hv'
      obtain ⟨o', es, ep, ho', hd', _⟩ := hm
      rw [e] at ho; have : some o = some o' := ho.symm.trans ho'; cases this; rw [hd] at hd'; cases hd'
    · rcases hv with ⟨k, m', hm', e⟩ | ⟨k, c, hc, hv⟩
      · refine .inl ⟨k, _, hn, ?_⟩
        rw [if_neg hyx]
        obtain ⟨o1, es1, ep1, ho1, hd1, _, hf1⟩ := hm
        obtain ⟨o2, es2, ep2, ho2, hd2, _, hf2⟩ := hm'
        have : some o1 = some o2 := ho1.symm.trans ho2
        cases this
        rw [hd1] at hd2; cases hd2
        rw [← hf1, hf2]; exact e
      · refine .inr ⟨k, c, hc, hv.sameBut hs fun e => ?_⟩
        obtain ⟨o, ho, hd⟩ := hv
        obtain ⟨o', es, ep, ho', hd', _⟩ := hm
        rw [e] at ho; have : some o = some o' := ho.symm.trans ho'; cases this; rw [hd] at hd'; cases hd'
  · obtain ⟨c, v₀, hc, hv₀⟩ := W.cells x hx
    refine wpAny_storeName_cell (by show scope.kind = _; exact X.kind) (kc x hx) hc hv₀ fun h' hv' hs => ?_
    have hCc : C ≠ c := by
      rintro rfl
      obtain ⟨o, ho, hd⟩ := hv₀
      obtain ⟨m, o', es, ep, ho', hd', _⟩ := W.ns
      have : some o = some o' := ho.symm.trans ho'; cases this; rw [hd] at hd'; cases hd'
    refine h h' _ c hs (.inr ⟨x, hx, hc⟩) ⟨W.ns.elim fun m hm => ⟨m, hm.sameBut hs hCc⟩, fun y hy => ?_⟩ (.inr ⟨by rw [kc x hx]; rfl, c, hc, hv'⟩) fun y u hyx hy hv => ?_
    · obtain ⟨c', v', hc', hv''⟩ := W.cells y hy
      by_cases e : c' = c
      · subst e; exact ⟨_, _, hc', hv'⟩
      · exact ⟨c', v', hc', hv''.sameBut hs e⟩
    · rcases hv with ⟨k, m', hm', e⟩ | ⟨k, c', hc', hv⟩
      · exact .inl ⟨k, m', hm'.sameBut hs hCc, e⟩
      · refine .inr ⟨k, c', hc', hv.sameBut hs fun e => hyx ?_⟩
        subst e
        rcases hy with hy | hy
        · rw [kx y hy] at k; cases k
        · exact hap y x _ hy hx hc' hc
/-- the places that a comprehension's loop writes -/
structure CW (scope : Scope) (cenv : Env) (fz : Fz) (h₀ h₁ : Heap) (fs wr : List Addr) (D : Addr) (W : Addr → Prop) : Prop where
  wrs : ∀ b ∈ wr, W b
  acc : W D
  loc : W cenv.locals
  cells : ∀ y c, scope.names.lookup y = some .cell → cenv.cells.lookup y = some c → W c
  old : ∀ b o, h₀.get? b = some o → ¬ W b
  fzn : ∀ b, W b → fz b = none
  there : ∀ b, W b → ∃ o, h₁.get? b = some o
  dfs : D ∉ fs
  dwr : D ∉ wr
  lwr : cenv.locals ∉ wr
  cwr : ∀ y c, scope.names.lookup y = some .cell → cenv.cells.lookup y = some c → c ∉ wr ∧ c ≠ D
  ld : cenv.locals ≠ D
  only : ∀ b, W b → b ∈ wr ∨ b = D ∨ b = cenv.locals ∨ ∃ y, scope.names.lookup y = some .cell ∧ cenv.cells.lookup y = some b
structure CI (scope : Scope) (cenv : Env) (fz : Fz) (s₁ : Shared) (fs : List Addr) (W : Addr → Prop) (St : Nat → Heap → Prop) (D : Addr) (pre : List (Str × PyData)) (i : Nat) (fz' : Fz) (ys : List Value) (s' : Shared) : Prop where
  ext : ∃ h' tk, s' = { s₁ with heap := h', toks := tk } ∧ ExtW W fs s₁.heap h'
  fze : FzExt s₁.heap fz fz'
  fzi : FzIn fz' s'.heap
  st : St i s'.heap
  acc : s'.heap.PlainList D ys.toArray
  own : OwnOk scope cenv s'.heap
  live : ∀ b, W b → ∃ o, s'.heap.get? b = some o
  pre : ∀ (j : Nat) x d, pre[j]? = some (x, d) → ∃ v, Var cenv s'.heap x v ∧ Rep fz' v d
theorem fzExt_W {h₁ : Heap} {fz fz' : Fz} {W : Addr → Prop} (f : FzExt h₁ fz fz') (hf : ∀ b, W b → fz b = none) (ht : ∀ b, W b → ∃ o, h₁.get? b = some o) : ∀ b, W b → fz' b = none := by
  intro b hb
  cases q : fz' b with
  | none => rfl
  | some p =>
    have := f.new b (hf b hb) (by rw [q]; intro z; cases z)
    obtain ⟨o, ho⟩ := ht b hb
    rw [this] at ho; cases ho
/-- what is seen of the comprehension's own places, after a step elsewhere -/
theorem OwnOk.keep {scope : Scope} {cenv : Env} {h h' : Heap} (W : OwnOk scope cenv h) (hs : ∀ b o, (b = cenv.locals ∨ ∃ y, scope.names.lookup y = some .cell ∧ cenv.cells.lookup y = some b) → h.get? b = some o → ∃ o', h'.get? b = some o' ∧ o'.data = o.data) : OwnOk scope cenv h' := by
  refine ⟨?_, fun x hx => ?_⟩
  · obtain ⟨m, o, es, ep, ho, hd, r⟩ := W.ns
    obtain ⟨o', ho', e⟩ := hs _ _ (.inl rfl) ho
    exact ⟨m, o', es, ep, ho', e.trans hd, r⟩
  · obtain ⟨c, v, hc, o, ho, hd⟩ := W.cells x hx
    obtain ⟨o', ho', e⟩ := hs _ _ (.inr ⟨x, hx, hc⟩) ho
    exact ⟨c, v, hc, o', ho', e.trans hd⟩
theorem Var.keep {cenv : Env} {h h' : Heap} {x : Str} {v : Value} (hs : ∀ b o, ((cenv.kindOf x = some .local ∧ b = cenv.locals) ∨ (isCellK (cenv.kindOf x) = true ∧ cenv.cells.lookup x = some b)) → h.get? b = some o → ∃ o', h'.get? b = some o' ∧ o'.data = o.data) (q : Var cenv h x v) : Var cenv h' x v := by
  rcases q with ⟨k, m, ⟨o, es, ep, ho, hd, r⟩, e⟩ | ⟨k, c, e, ⟨o, ho, hd⟩⟩
  · obtain ⟨o', ho', e'⟩ := hs _ _ (.inl ⟨k, rfl⟩) ho
    exact .inl ⟨k, m, ⟨o', es, ep, ho', e'.trans hd, r⟩, e⟩
  · obtain ⟨o', ho', e'⟩ := hs _ _ (.inr ⟨k, e⟩) ho
    exact .inr ⟨k, c, e, ⟨o', ho', e'.trans hd⟩⟩
end
end Mine
end
section
open PySem PySem.W PySem.Calls PyProof.Rows
namespace Mine
section
variable {prog : Program} {w : World} {T : Tab} {base : Heap} {fzT : Fz} {n : Nat} {A : Around} {outer : List Env} {L : Addr} {env : Env} {nm : List Str} {σ : List SV} {ad : Nat → Addr} {fz : Fz} {s₀ s₁ : Shared} {scope : Scope} {t : Str} {C D : Addr}
  {wr fp : List Addr} {W : Addr → Prop} {I : Addr} {ds : List PyData} {P : Nat → Value → Prop} {St : Nat → Heap → Prop} {hit : Heap} {pre : List (Str × PyData)}
theorem FzExt.throughW {fs : List Addr} {h h' : Heap} {a b c : Fz} (x : FzExt h a b) (e : ExtW W fs h h') (lv : ∀ b, W b → ∃ o, h'.get? b = some o) (y : FzExt h' b c) : FzExt h a c :=
  ⟨x.le.trans y.le, fun p ha hc => by
    cases q : b p with
    | none =>
      have := y.new p q hc
      by_cases hw : W p
      · obtain ⟨o, ho⟩ := lv p hw; rw [this] at ho; cases ho
      · exact e.gone hw this
    | some o => exact x.new p ha (by rw [q]; intro z; cases z)⟩
theorem CI.step {cenv : Env} {fs : List Addr} {i : Nat} {fz' fz'' : Fz} {ys : List Value} {s' s'' : Shared} (hf : ∀ b ∈ fp, b ∉ fs) (hD : D ∉ fs) (Wk : Walks prog w A I fp wr ds.length P St) (ci : CI scope cenv fz s₁ fs W St D pre i fz' ys s') (r : Rel fs fz' s' fz'' s'') : CI scope cenv fz s₁ fs W St D pre i fz'' ys s'' := by
  obtain ⟨⟨h', tk, rfl, ex⟩, fze, fzi, st, ac, ow, lv, pr⟩ := ci
  obtain ⟨h'', tk', rfl, e, f, fi⟩ := r
  have kd : ∀ b o, h'.get? b = some o → ∃ o', h''.get? b = some o' ∧ o'.data = o.data := fun b o ho => by obtain ⟨sl, q, _⟩ := e b o ho; exact ⟨_, q, rfl⟩
  refine ⟨⟨h'', tk', rfl, ex.trans (.of_ext e)⟩, fze.throughW ex lv f, fi, ?_, ?_, ow.keep fun b o _ ho => kd b o ho, fun b hb => ?_, fun j x d hj => ?_⟩
  · exact Wk.frame _ _ _ st fun b hb o ho => e.get (hf b hb) ho
  · obtain ⟨k, hk⟩ := ac; exact ⟨k, e.get hD hk⟩
  · obtain ⟨o, ho⟩ := lv b hb; obtain ⟨o', q, _⟩ := kd b o ho; exact ⟨o', q⟩
  · obtain ⟨v, a, b⟩ := pr j x d hj
    exact ⟨v, a.keep fun b o _ ho => kd b o ho, b.mono f.le⟩
theorem isTrueX_eq {c : X} (h : isTrueX c = true) : c = .bool true := by
  unfold isTrueX at h; split at h
  · rfl
  · cases h
theorem inner_turn2 {fzI : Fz} (fI : FzExt s₀.heap fz fzI) {u : Str} {pu : Pos} {cond elt : X} {e : Expr} {ifs : List Expr} {i : Nat} {fz' : Fz} {ys : List Value} {es out r : List PyData} {d : PyData} {s' : Shared} {Next RR : Shared → Prop} {EE : Value → Shared → Prop}
    (H : Here base fzT .a n A outer L env nm σ ad fz s₀) (X : CompCx env.scope.names nm t scope)
    (hap : ∀ x y c, scope.names.lookup x = some .cell → scope.names.lookup y = some .cell → (cEnv scope env C).cells.lookup x = some c → (cEnv scope env C).cells.lookup y = some c → x = y)
    (hs₁ : ∃ h₁ t₁, s₁ = { s₀ with heap := h₁, toks := t₁ }) (kp : Ext (fsOf outer) s₀.heap s₁.heap)
    (Wc : CW scope (cEnv scope env C) fzI s₀.heap s₁.heap (fsOf outer) wr D W) (It : Itr prog w A (fsOf outer) fzI ds s₀.heap hit I fp wr P St)
    (hu : ownN scope u) (hpo : ∀ p ∈ pre, ownN scope p.1 ∧ p.1 ≠ u) (htl : t ∈ (pre ++ [(u, d)]).map (·.1))
    (hc : SoundB prog w T base fzT n .a cond) (he : SoundX prog w T base fzT n .a elt)
    (hifs : (ifs = [] ∧ isTrueX cond = true) ∨ ∃ q, ifs = [q] ∧ Mx T (relab env.scope.names scope.names) (nm ++ (pre ++ [(u, d)]).map (·.1)) cond q = true)
    (helt : Mx T (relab env.scope.names scope.names) (nm ++ (pre ++ [(u, d)]).map (·.1)) elt e = true)
    (ci : CI scope (cEnv scope env C) fzI s₁ (fsOf outer) W St D pre i fz' ys s') (hr : RepAll fz' ys es) (hd : ds[i]? = some d)
    (hgo : compGo (fun d => ev T cond (σ ++ (pre ++ [(u, d)]).map fun p => .val p.2)) (fun d => ev T elt (σ ++ (pre ++ [(u, d)]).map fun p => .val p.2)) (d :: r) = .ok (.list out)) (hsz : es.length + out.length ≤ 100000)
    (hN : ∀ fz'' ys' es' out' s'', CI scope (cEnv scope env C) fzI s₁ (fsOf outer) W St D pre (i + 1) fz'' ys' s'' → RepAll fz'' ys' es' →
      compGo (fun d => ev T cond (σ ++ (pre ++ [(u, d)]).map fun p => .val p.2)) (fun d => ev T elt (σ ++ (pre ++ [(u, d)]).map fun p => .val p.2)) r = .ok (.list out') → es' ++ out' = es ++ out → Next s'') :
    wpAny (model prog w) A (pyNext (.ref I)) (fun o s₂ => match o with
      | none => RR s₂
      | some v => wpAny (model prog w) A (assign (.Name u pu) (cEnv scope env C) v) (fun _ s₃ =>
          wpAny (model prog w) A (forIn ifs true fun c r => if r = true then do let ok ← isTrue c (cEnv scope env C) (eval c (cEnv scope env C)); pure (ForInStep.yield ok) else pure (ForInStep.yield r)) (fun ok s₄ =>
            if ok = true then wpAny (model prog w) A (eval e (cEnv scope env C)) (fun x s₅ => wpAny (model prog w) A (call (.builtin "list.append") [.ref D, x]) (fun _ s₆ => Next s₆) EE s₅) EE s₄
            else Next s₄) EE s₃) EE s₂) EE s' := by
  have hOk : env.scope.kind = .function := H.envok.kind
  have hin : i < ds.length := (List.getElem?_eq_some_iff.mp hd).1
  have fpfs : ∀ b ∈ fp, b ∉ fsOf outer := fun b hb => (It.fpo b hb).1
  obtain ⟨⟨h', tk, rfl, ex⟩, fze, fzi, st, ac, ow, lv, pr⟩ := ci
  dsimp only at fzi st ac ow lv pr
  have hWz : ∀ b, W b → fz' b = none := fzExt_W fze Wc.fzn Wc.there
  refine It.walks.item i _ _ _ hin st fun v h₂ tk₂ hP st₂ mv => ?_
  dsimp only at mv
  have kd₂ : ∀ b o, b ∉ wr → h'.get? b = some o → ∃ o', h₂.get? b = some o' ∧ o'.data = o.data := fun b o hb ho => ⟨o, mv b o hb ho, rfl⟩
  have ow₂ : OwnOk scope (cEnv scope env C) h₂ := ow.keep fun b o hb ho => kd₂ b o (by
    rcases hb with rfl | ⟨y, hy, hc⟩
    · exact Wc.lwr
    · exact (Wc.cwr y b hy hc).1) ho
  refine wpAny_assign_Name (store_own hOk X hap ow₂ hu fun h₃ tk₃ a sb ha ow₃ vu vo => ?_)
  dsimp only at sb vo
  have hWa : W a := by
    rcases ha with rfl | ⟨y, hy, hc⟩
    · exact Wc.loc
    · exact Wc.cells y a hy hc
  have haD : a ≠ D := by
    rcases ha with rfl | ⟨y, hy, hc⟩
    · exact Wc.ld
    · exact (Wc.cwr y a hy hc).2
  have hawr : a ∉ wr := by
    rcases ha with rfl | ⟨y, hy, hc⟩
    · exact Wc.lwr
    · exact (Wc.cwr y a hy hc).1
  have fpa : ∀ b ∈ fp, b ≠ a := by
    intro b hb e
    subst e
    rcases (It.fpo b hb).2.1 with q | q
    · exact hawr q
    · exact q (Wc.fzn _ hWa)
  have fpD : ∀ b ∈ fp, b ≠ D := by
    intro b hb e
    subst e
    rcases (It.fpo b hb).2.1 with q | q
    · exact Wc.dwr q
    · exact q (Wc.fzn _ Wc.acc)
  have e₃ : ExtW W (fsOf outer) h' h₃ := (ExtW.of_moved mv Wc.wrs).trans (.of_but sb hWa)
  have fzi₃ : FzIn fz' h₃ := e₃.fzIn hWz fzi
  have rv : Rep fz' v d := (It.item i v d hP hd).mono fze.le
  -- the state ahead of the tests
  have ci₃ : CI scope (cEnv scope env C) fzI s₁ (fsOf outer) W St D pre (i + 1) fz' ys { s₁ with heap := h₃, toks := tk₃ } := by
    refine ⟨⟨h₃, tk₃, rfl, ex.trans e₃⟩, fze, fzi₃, It.walks.frame _ _ _ st₂ fun b hb o ho => sb.extBut b o (fpa b hb) ho, ?_, ow₃, fun b hb => ?_, fun j x d' hj => ?_⟩
    · obtain ⟨k, hk⟩ := ac
      exact ⟨k, sb.extBut _ _ (Ne.symm haD) (mv _ _ Wc.dwr hk)⟩
    · by_cases q : b = a
      · subst q
        rcases ha with rfl | ⟨y, hy, hc⟩
        · obtain ⟨m, o, _, _, ho, _⟩ := ow₃.ns; exact ⟨o, ho⟩
        · obtain ⟨c, v', hc', o, ho, _⟩ := ow₃.cells y hy
          rw [hc] at hc'; cases hc'; exact ⟨o, ho⟩
      · by_cases hbw : b ∈ wr
        · obtain ⟨o, ho⟩ := It.ex _ _ st₂ b hbw; exact ⟨o, sb.extBut b o q ho⟩
        · obtain ⟨o, ho⟩ := lv b hb; exact ⟨o, sb.extBut b o q (mv b o hbw ho)⟩
    · obtain ⟨v', a', b'⟩ := pr j x d' hj
      obtain ⟨po, pn⟩ := hpo _ (List.mem_of_getElem? hj)
      refine ⟨v', vo x v' pn po (a'.keep fun b o hb ho => kd₂ b o ?_ ho), b'⟩
      rcases hb with ⟨_, rfl⟩ | ⟨k, hb⟩
      · exact Wc.lwr
      · rcases po with q | q
        · rw [cEnv_kind hOk, q] at k; cases k
        · exact (Wc.cwr x b q hb).1
  have e₀ : Ext (fsOf outer) s₀.heap h₃ := fun b o e => by
    obtain ⟨sl, q1, q2⟩ := kp b o e
    obtain ⟨sl', q3, q4⟩ := (ex.trans e₃) b _ q1 (Wc.old b o e)
    exact ⟨sl', q3, fun hb => (q4 hb).trans (q2 hb)⟩
  have f₀ : FzExt s₀.heap fz fz' := fI.trans kp fze
  obtain ⟨h₁, t₁, rfl⟩ := hs₁
  have hl₃ : ∀ (j : Nat) x d', (pre ++ [(u, d)])[j]? = some (x, d') → ∃ v, Var (cEnv scope env C) h₃ x v ∧ Rep fz' v d' := by
    intro j x d' hj
    by_cases q : j < pre.length
    · rw [List.getElem?_append_left q] at hj; exact ci₃.pre j x d' hj
    · rw [List.getElem?_append_right (by omega)] at hj
      cases z : j - pre.length with
      | zero => rw [z] at hj; cases hj; exact ⟨v, vu, rv⟩
      | succ k => rw [z] at hj; simp at hj
  have H₃ := comp_here (tk := tk₃) H X e₀ f₀ fzi₃ ow₃ (pre ++ [(u, d)]) hl₃ htl
  have hnames : (cEnv scope env C).scope.names = relab env.scope.names scope.names := relabel_names hOk
  unfold compGo at hgo
  have fin : ∀ (b : Bool) (fz₄ : Fz) (s₄ : Shared), Rel (fsOf outer) fz' { s₀ with heap := h₃, toks := tk₃ } fz₄ s₄ → (∃ c, ev T cond (σ ++ (pre ++ [(u, d)]).map fun p => .val p.2) = .ok c ∧ truth c = some b) →
      (if b = true then wpAny (model prog w) A (eval e (cEnv scope env C)) (fun x s₅ => wpAny (model prog w) A (call (.builtin "list.append") [.ref D, x]) (fun _ s₆ => Next s₆) EE s₅) EE s₄ else Next s₄) := by
    intro b fz₄ s₄ r₄ ⟨c, hc1, hc2⟩
    have ci₄ := ci₃.step fpfs Wc.dfs It.walks r₄
    have hr₄ := hr.mono r₄.fz.le
    simp only [hc1, hc2] at hgo
    cases b with
    | false =>
      simp only [Bool.false_eq_true, if_false] at hgo ⊢
      exact hN _ _ _ _ _ ci₄ hr₄ hgo rfl
    | true =>
      simp only [if_true] at hgo ⊢
      cases ze : ev T elt (σ ++ (pre ++ [(u, d)]).map fun p => .val p.2) with
      | bad => simp only [ze] at hgo; cases hgo
      | exc k => simp only [ze] at hgo; cases hgo
      | ok ed =>
        simp only [ze] at hgo
        have H₄ := H₃.step r₄
        refine useV (he e (by rw [hnames]; exact helt) H₄ (by rw [ze]; intro q; cases q)) (fun kk _ _ q _ => by rw [ze] at q; cases q) fun d₅ x fz₅ s₅ q r₅ rep₅ => ?_
        rw [ze] at q; cases q
        have ci₅ := ci₄.step fpfs Wc.dfs It.walks r₅
        have hr₅ := hr₄.mono r₅.fz.le
        have hl5 := hr₅.length
        obtain ⟨⟨h5, tk5, rfl, ex5⟩, fze5, fzi5, st5, ac5, ow5, lv5, pr5⟩ := ci₅
        dsimp only at fzi5 st5 ac5 ow5 lv5 pr5
        refine wpAny_list_append_plain ac5 (fun h₆ pl₆ sb₆ => ?_) (by simp only [List.size_toArray]; rw [sizeLine_eq]; omega)
        dsimp only at sb₆
        have hWz5 : ∀ b, W b → fz₅ b = none := fzExt_W fze5 Wc.fzn Wc.there
        have e6 : ExtW W (fsOf outer) h5 h₆ := .of_but sb₆ Wc.acc
        have kd6 : ∀ b o, b ≠ D → h5.get? b = some o → ∃ o', h₆.get? b = some o' ∧ o'.data = o.data := fun b o hb ho => ⟨o, sb₆.extBut b o hb ho, rfl⟩
        cases zr : compGo (fun d => ev T cond (σ ++ (pre ++ [(u, d)]).map fun p => .val p.2)) (fun d => ev T elt (σ ++ (pre ++ [(u, d)]).map fun p => .val p.2)) r with
        | bad => simp only [zr] at hgo; cases hgo
        | exc k => simp only [zr] at hgo; cases hgo
        | ok lr =>
          simp only [zr] at hgo
          split at hgo
          · rename_i o' heq
            cases heq
            cases hgo
            refine hN fz₅ (ys ++ [x]) (es ++ [ed]) _ _ ⟨⟨h₆, tk5, rfl, ex5.trans e6⟩, fze5, e6.fzIn hWz5 fzi5, It.walks.frame _ _ _ st5 fun b hb o ho => sb₆.extBut b o (fpD b hb) ho, ?_, ?_, fun b hb => ?_, fun j y d' hj => ?_⟩ (hr₅.append (.cons rep₅ .nil)) zr (by simp)
            · simpa using pl₆
            · exact ow5.keep fun b o hb ho => kd6 b o (by
                rcases hb with rfl | ⟨y, hy, hc⟩
                · exact Wc.ld
                · exact (Wc.cwr y b hy hc).2) ho
            · by_cases q : b = D
              · subst q; obtain ⟨k, hk⟩ := pl₆; exact ⟨_, hk⟩
              · obtain ⟨o, ho⟩ := lv5 b hb; exact ⟨o, sb₆.extBut b o q ho⟩
            · obtain ⟨v', a', b'⟩ := pr5 j y d' hj
              obtain ⟨po, pn⟩ := hpo _ (List.mem_of_getElem? hj)
              refine ⟨v', a'.keep fun b o hb ho => kd6 b o ?_ ho, b'⟩
              rcases hb with ⟨_, rfl⟩ | ⟨k, hb⟩
              · exact Wc.ld
              · rcases po with q | q
                · rw [cEnv_kind hOk, q] at k; cases k
                · exact (Wc.cwr y b q hb).2
          · cases hgo
  rcases hifs with ⟨rfl, hct⟩ | ⟨q, rfl, hq⟩
  · refine wpAny_tests_nil (fin true fz' _ (Rel.refl fzi₃) ⟨.bool true, ?_, rfl⟩)
    rw [isTrueX_eq hct]; rw [evq_bool]
  · cases zc : ev T cond (σ ++ (pre ++ [(u, d)]).map fun p => .val p.2) with
    | bad => simp only [zc] at hgo; cases hgo
    | exc k => simp only [zc] at hgo; cases hgo
    | ok c =>
      have htr : truth c ≠ none := by
        intro z; simp only [zc, z] at hgo; cases hgo
      refine wpAny_tests_one (useB (hc q (by rw [hnames]; exact hq) H₃ (by rw [zc]; intro z; cases z) (fun d' hd' => by rw [zc] at hd'; cases hd'; exact htr)) (fun kk _ _ z _ => by rw [zc] at z; cases z) fun d' b fz₄ s₄ z1 z2 r₄ => ?_)
      exact fin b fz₄ s₄ r₄ ⟨d', by rw [← z1], z2⟩
end
end Mine
end
section
open PySem PySem.W PySem.Calls PyProof.Rows
namespace Mine
theorem compGo_length {c e : PyData → Res} : ∀ {ds out : List PyData}, compGo c e ds = .ok (.list out) → out.length ≤ ds.length
  | [], out, h => by unfold compGo at h; cases h; exact Nat.le_refl _
  | d :: r, out, h => by
    unfold compGo at h
    split at h
    · split at h
      · split at h
        · split at h
          · rename_i es hes
            cases h
            have := compGo_length hes
            simpa using this
          · cases h
        · cases h
      · have := compGo_length h
        simp only [List.length_cons]; omega
      · cases h
    · cases h
theorem compGo_list {c e : PyData → Res} : ∀ {ds : List PyData}, compGo c e ds ≠ .bad → ∃ out, compGo c e ds = .ok (.list out)
  | [], _ => ⟨[], by unfold compGo; rfl⟩
  | d :: r, h => by
    unfold compGo at h ⊢
    split at h
    · split at h
      · split at h
        · rename_i ed he
          cases z : compGo c e r with
          | bad => simp only [z] at h; exact absurd rfl h
          | exc k => simp only [z] at h; exact absurd rfl h
          | ok l =>
            simp only [z] at h ⊢
            split at h
            · rename_i es heq; cases heq; exact ⟨_, rfl⟩
            · exact absurd rfl h
        · exact absurd rfl h
      · exact compGo_list h
      · exact absurd rfl h
    · exact absurd rfl h
section
variable {prog : Program} {w : World} {T : Tab} {base : Heap} {fzT : Fz} {n : Nat} {A : Around} {outer : List Env} {L : Addr} {env : Env} {nm : List Str} {σ : List SV} {ad : Nat → Addr} {fz : Fz} {s₀ : Shared} {scope : Scope} {t : Str}
/-- the places of a comprehension that starts here -/
noncomputable def compW (scope : Scope) (cenv : Env) (wr : List Addr) (D : Addr) (b : Addr) : Prop :=
  b ∈ wr ∨ b = D ∨ b = cenv.locals ∨ ∃ y, scope.names.lookup y = some .cell ∧ cenv.cells.lookup y = some b
theorem comp_layout {hb : Heap} {ds : List PyData} {I : Addr} {fp wr : List Addr} {P : Nat → Value → Prop} {St : Nat → Heap → Prop} (H : Here base fzT .a n A outer L env nm σ ad fz s₀) (_ : CompCx env.scope.names nm t scope)
    (kp : ∀ b o, s₀.heap.get? b = some o → hb.get? b = some o) (It : Itr prog w A (fsOf outer) fz ds s₀.heap hb I fp wr P St) :
    let D := hb.objs.size
    let C := D + 1
    let h₁ := pushCells ((hb.push { cls := .type "list", data := .seq ([] : List Value).toArray }).push { cls := .type "dict", data := .dict #[] }) scope.names
    let cenv := cEnv scope env C
    CW scope cenv fz s₀.heap h₁ (fsOf outer) wr D (compW scope cenv wr D) ∧ OwnOk scope cenv h₁ ∧ h₁.PlainList D (#[] : Array Value) ∧ (∀ b o, hb.get? b = some o → h₁.get? b = some o) ∧ St 0 h₁ ∧
      (∀ x y c, scope.names.lookup x = some .cell → scope.names.lookup y = some .cell → cenv.cells.lookup x = some c → cenv.cells.lookup y = some c → x = y) := by
  intro D C h₁ cenv
  have hC : (hb.push { cls := .type "list", data := .seq ([] : List Value).toArray }).objs.size = C := Heap.size_push ..
  have hC1 : ((hb.push { cls := .type "list", data := .seq ([] : List Value).toArray }).push { cls := .type "dict", data := .dict #[] }).objs.size = C + 1 := by rw [Heap.size_push, hC]
  have k₁ : ∀ b o, hb.get? b = some o → h₁.get? b = some o := fun b o e => pushCells_keeps _ _ b o (Heap.get?_push_of_some _ (Heap.get?_push_of_some _ e))
  have hD : h₁.get? D = some { cls := .type "list", data := .seq ([] : List Value).toArray } := pushCells_keeps _ _ _ _ (Heap.get?_push_of_some _ (Heap.get?_push_size _ rfl))
  have hL : h₁.get? C = some { cls := .type "dict", data := .dict #[] } := by
    refine pushCells_keeps _ _ _ _ ?_
    have := Heap.get?_push_size (hb.push { cls := .type "list", data := .seq ([] : List Value).toArray }) (o := { cls := .type "dict", data := .dict #[] }) rfl
    rw [hC] at this; exact this
  have cell : ∀ x, scope.names.lookup x = some .cell → ∃ c, cenv.cells.lookup x = some c ∧ C + 1 ≤ c ∧ h₁.IsCell c none ∧ (cellsFrom (C + 1) scope.names []).lookup x = some c := fun x hx => cell_new hC1 hx
  have wlt : ∀ b ∈ wr, b < D := fun b hb' => by obtain ⟨o, ho⟩ := It.ex 0 hb It.st b hb'; exact Heap.lt_size ho
  have clt : ∀ y c, scope.names.lookup y = some .cell → cenv.cells.lookup y = some c → C + 1 ≤ c := fun y c hy hc => by
    obtain ⟨c', h1, h2, _⟩ := cell y hy; rw [hc] at h1; cases h1; exact h2
  have olt : ∀ b o, s₀.heap.get? b = some o → b < D := fun b o e => Heap.lt_size (kp b o e)
  have none_ge : ∀ b, D ≤ b → s₀.heap.get? b = none := fun b hb' => by
    cases q : s₀.heap.get? b with
    | none => rfl
    | some o => exact absurd (olt b o q) (Nat.not_lt.mpr hb')
  have wnone : ∀ b, compW scope cenv wr D b → s₀.heap.get? b = none := by
    rintro b (q | q | q | ⟨y, hy, hc⟩)
    · exact It.new b q
    · exact none_ge b (Nat.le_of_eq q.symm)
    · rw [q]; exact none_ge _ (Nat.le_succ _)
    · have := clt y b hy hc; exact none_ge b (by omega)
  refine ⟨⟨fun b hb' => .inl hb', .inr (.inl rfl), .inr (.inr (.inl rfl)), fun y c hy hc => .inr (.inr (.inr ⟨y, hy, hc⟩)), fun b o e hw => ?_, fun b hw => H.fzin.none (wnone b hw), ?_, fs_old H.hi (none_ge _ (Nat.le_refl _)), fun q => Nat.lt_irrefl _ (wlt _ q), fun q => ?_, fun y c hy hc => ?_, ?_, fun b hb' => hb'⟩, ⟨?_, fun x hx => ?_⟩, ⟨_, hD⟩, k₁, ?_, fun x y c hx hy h1 h2 => ?_⟩
  · rw [wnone b hw] at e; cases e
  · rintro b (q | q | q | ⟨y, hy, hc⟩)
    · obtain ⟨o, ho⟩ := It.ex 0 hb It.st b q; exact ⟨o, k₁ _ _ ho⟩
    · rw [q]; exact ⟨_, hD⟩
    · rw [q]; exact ⟨_, hL⟩
    · obtain ⟨c', h1, _, ⟨o, ho, _⟩, _⟩ := cell y hy; rw [hc] at h1; cases h1; exact ⟨o, ho⟩
  · have := wlt _ q; exact absurd this (Nat.not_lt.mpr (Nat.le_succ _))
  · have := clt y c hy hc
    have hlt : D < c := Nat.lt_of_lt_of_le (Nat.lt_succ_of_lt (Nat.lt_succ_self D)) this
    exact ⟨fun q => Nat.lt_irrefl _ (Nat.lt_trans (wlt _ q) hlt), Nat.ne_of_gt hlt⟩
  · exact Nat.succ_ne_self _
  · exact ⟨_, _, _, _, hL, rfl, by intro e he; simp at he, fun _ => rfl⟩
  · obtain ⟨c, h1, _, h3, _⟩ := cell x hx; exact ⟨c, _, h1, h3⟩
  · exact It.walks.frame _ _ _ It.st fun b _ o ho => k₁ b o ho
  · obtain ⟨c', a1, _, _, a2⟩ := cell x hx
    obtain ⟨c'', b1, _, _, b2⟩ := cell y hy
    rw [h1] at a1; cases a1
    rw [h2] at b1; cases b1
    exact cells_apart hC1 a2 b2
theorem plain_set {iter : Expr} {env : Env} (h : plainE iter = true) (x : Value) : foldedSetIterable iter env x = pure x := by
  cases iter <;> first | rfl | (cases h; done)
/-- a comprehension over ds, from its iterator on -/
theorem comp_run {E : Value → Shared → Prop} {elt cond : X} {e iter : Expr} {pt pos : Pos} {ifs : List Expr} {ds out : List PyData} {it : Value} {s₂ : Shared}
    (H : Here base fzT .a n A outer L env nm σ ad fz s₀) (X : CompCx env.scope.names nm t scope) (ht : ownN scope t)
    (hc : SoundB prog w T base fzT n .a cond) (he : SoundX prog w T base fzT n .a elt)
    (hifs : (ifs = [] ∧ isTrueX cond = true) ∨ ∃ q, ifs = [q] ∧ Mx T (relab env.scope.names scope.names) (nm ++ [t]) cond q = true)
    (helt : Mx T (relab env.scope.names scope.names) (nm ++ [t]) elt e = true)
    (g : IterAt prog w A (fsOf outer) fz ds s₀ it s₂) (hlen : ds.length ≤ 100000)
    (hgo : compGo (fun d => ev T cond (σ ++ [.val d])) (fun d => ev T elt (σ ++ [.val d])) ds = .ok (.list out)) :
    wpAny (model prog w) A (newList []) (fun acc s₃ => wpAny (model prog w) A (newFunctionEnv scope env.globals (closAcc env scope.names []) [] env.qual none .none (some env)) (fun cenv s₄ =>
      codeAny (model prog w) A (.compStart (.ListComp e [⟨.Name t pt, iter, ifs, 0⟩] scope pos) 0 it acc { cenv with scope := relabel scope env }) (compPost (model prog w) A E none (Good (fsOf outer) fz s₀ (.list out)) acc cenv.locals) s₄) E s₃) E s₂ := by
  obtain ⟨hb, tk, I, fp, wr, P, St, rfl, kp, rfl, It⟩ := g
  obtain ⟨Wc, ow, pl, k₁, st₁, hap⟩ := comp_layout H X kp It
  refine wpAny_newList (comp_env ?_) (by decide)
  dsimp only
  rw [show (hb.push { cls := .type "list", data := .seq ([] : List Value).toArray }).objs.size = hb.objs.size + 1 from Heap.size_push ..]
  generalize hh₁ : pushCells ((hb.push { cls := .type "list", data := .seq ([] : List Value).toArray }).push { cls := .type "dict", data := .dict #[] }) scope.names = h₁ at *
  have hcl : out.length ≤ ds.length := compGo_length hgo
  have loop : codeAny (model prog w) A (.compLoop (.ListComp e [⟨.Name t pt, iter, ifs, 0⟩] scope pos) 0 (.ref I) (.ref hb.objs.size) (cEnv scope env (hb.objs.size + 1)))
      (compPost (model prog w) A E none (Good (fsOf outer) fz s₀ (.list out)) (.ref hb.objs.size) (hb.objs.size + 1)) { s₀ with heap := h₁, toks := tk } := by
    refine codeAny_compLoop_tests (fun m s' => ∃ i fz' ys es o', CI scope (cEnv scope env (hb.objs.size + 1)) fz { s₀ with heap := h₁, toks := tk } (fsOf outer) (compW scope (cEnv scope env (hb.objs.size + 1)) wr hb.objs.size) St hb.objs.size [] i fz' ys s' ∧ RepAll fz' ys es ∧ i ≤ ds.length ∧ m = ds.length + 1 - i ∧
        compGo (fun d => ev T cond (σ ++ [.val d])) (fun d => ev T elt (σ ++ [.val d])) (ds.drop i) = .ok (.list o') ∧ es ++ o' = out) ?_ (ds.length + 1) ?_
    · rintro m s' ⟨i, fz', ys, es, o', ci, hr, hi, rfl, hgo', htot⟩
      have hlo : es.length + o'.length ≤ 100000 := by
        have : (es ++ o').length = out.length := by rw [htot]
        simp only [List.length_append] at this; omega
      by_cases hlt : i < ds.length
      · obtain ⟨d, hd⟩ : ∃ d, ds[i]? = some d := ⟨_, List.getElem?_eq_getElem hlt⟩
        have hdr : ds.drop i = d :: ds.drop (i + 1) := by
          rw [List.drop_eq_getElem_cons hlt]; rw [List.getElem?_eq_getElem hlt] at hd; cases hd; rfl
        rw [hdr] at hgo'
        refine inner_turn2 (pre := []) (FzExt.refl _ _) H X hap ⟨h₁, tk, rfl⟩ (Ext.of_keeps fun b o e => k₁ b o (kp b o e)) Wc It ht (fun p hp => by cases hp) (by simp) hc he (by simpa using hifs) (by simpa using helt) ci hr hd (by simpa using hgo') hlo ?_
        intro fz'' ys' es' out' s'' ci' hr' hg' ht'
        exact ⟨ds.length + 1 - (i + 1), by omega, i + 1, fz'', ys', es', out', ci', hr', hlt, rfl, by simpa using hg', by rw [ht', htot]⟩
      · have hin : i = ds.length := by omega
        subst hin
        obtain ⟨⟨h', tk', rfl, ex⟩, fze, fzi, st, ac, ow', lv, pr⟩ := ci
        refine It.walks.done _ _ _ st fun h₂ tk₂ mv => ?_
        dsimp only at mv fzi st ac ow' lv
        rw [List.drop_of_length_le (Nat.le_refl _)] at hgo'
        unfold compGo at hgo'
        cases hgo'
        rw [List.append_nil] at htot
        subst htot
        obtain ⟨m₀, o₀, es₀, ep₀, ho₀, hd₀, r₀⟩ := ow'.ns
        refine ⟨m₀, ⟨o₀, es₀, ep₀, mv _ _ Wc.lwr ho₀, hd₀, r₀⟩, fun h₃ sb => ?_⟩
        dsimp only at sb
        have hWz := fzExt_W fze Wc.fzn Wc.there
        have e3 : ExtW (compW scope (cEnv scope env (hb.objs.size + 1)) wr hb.objs.size) (fsOf outer) h' h₃ := (ExtW.of_moved mv Wc.wrs).trans (.of_but sb Wc.loc)
        have e0 : Ext (fsOf outer) s₀.heap h₃ := ExtW.old (fun b o e => k₁ b o (kp b o e)) (ex.trans e3) Wc.old
        have hDn : s₀.heap.get? hb.objs.size = none := by
          cases q : s₀.heap.get? hb.objs.size with
          | none => rfl
          | some o => exact absurd Wc.acc (Wc.old _ _ q)
        obtain ⟨kk, hk⟩ := ac
        have hD3 := sb.extBut _ _ (Ne.symm Wc.ld) (mv _ _ Wc.dwr hk)
        have f0 : FzExt s₀.heap fz fz' := ⟨fze.le, fun p h1 h2 => by
          have := fze.new p h1 h2
          cases q : s₀.heap.get? p with
          | none => rfl
          | some o => have := k₁ _ _ (kp _ _ q); rw [fze.new p h1 h2] at this; cases this⟩
        have fA := fzAdd_ext (h := s₀.heap) (t := false) (vs := ys) hDn (hWz _ Wc.acc)
        refine ⟨h₃, tk₂, fzAdd fz' hb.objs.size false ys, rfl, e0, ⟨f0.le.trans fA.le, fun p h1 h2 => ?_⟩, fzAdd_in (e3.fzIn hWz fzi) hD3 rfl rfl, .list (fzAdd_self ..) (hr.mono fA.le)⟩
        cases q : fz' p with
        | none => exact fA.new p q h2
        | some o => exact f0.new p h1 (by rw [q]; intro z; cases z)
    · refine ⟨0, fz, [], [], out, ⟨⟨h₁, tk, rfl, ExtW.refl _ _ _⟩, FzExt.refl _ _, ?_, st₁, pl, ow, Wc.there, fun j x d hj => by simp at hj⟩, .nil, Nat.zero_le _, rfl, by simpa using hgo, rfl⟩
      exact (Ext.of_keeps (fs := []) fun b o e => k₁ b o (kp b o e)).fzIn H.fzin
  exact codeAny_compStart_list loop (It.walks.self 0 _ _ _ st₁ loop)
end
end Mine
end
section
open PySem PySem.W PySem.Calls PyProof.Rows
namespace Mine
section
variable {prog : Program} {w : World} {T : Tab} {base : Heap} {fzT : Fz} {n : Nat} {mg mb : Str → Option Value}
theorem names_local {scope : Scope} (hn : nodupB (scope.names.map (·.1)) = true) : ∀ x ∈ scope.names, x.2 = .local → scope.names.lookup x.1 = some .local := by
  intro x hx e
  obtain ⟨a, b⟩ := x
  simp only at e
  subst e
  exact lookup_mem_nodup hn hx
theorem tgt_own {scope : Scope} {t : Str} (h : tgtOk scope t = true) : ownN scope t := by
  unfold tgtOk at h
  rcases Bool.or_eq_true_iff.mp h with q | q
  · exact .inl (eq_of_beq q)
  · exact .inr (eq_of_beq q)
theorem ifs_cases {sc : Sc} {nm : List Str} {cond : X} {ifs : List Expr} (h : (match ifs with
        | [] => isTrueX cond
        | [q] => Mx T sc nm cond q
        | _ => false) = true) : (ifs = [] ∧ isTrueX cond = true) ∨ ∃ q, ifs = [q] ∧ Mx T sc nm cond q = true := by
  split at h
  · exact .inl ⟨rfl, h⟩
  · exact .inr ⟨_, rfl, h⟩
  · cases h
theorem compPost_after {M : Model} {A : Around} {E : Value → Shared → Prop} {Q Q' : Value → Shared → Prop} {acc : Value} {C : Addr} {r : Result} {s' : Shared} (hQ : ∀ v s, Q v s → Q' v s) (h : compPost M A E none Q acc C r s') : compPost M A E none Q' acc C r s' := by
  unfold compPost at h ⊢
  cases r with
  | ok f => obtain ⟨m, a, b⟩ := h; exact ⟨m, a, fun h' hs => hQ _ _ (b h' hs)⟩
  | error x => exact h
end
end Mine
end
section
open PySem PySem.W PySem.Calls PyProof.Rows
namespace Mine
/-! statements -/
inductive S where
  | assign (i : Nat) (x : X)
  | assignL (i : Nat) (x : X)
  | own (i : Nat) (x : X)
  | assign2 (i j : Nat) (x : X)
  | unpack2 (i j : Nat) (x : X)
  | aug (i : Nat) (op : Operator) (x : X)
  | append (i : Nat) (x : X)
  | extend (i : Nat) (x : X)
  | remove (i : Nat) (x : X)
  | freeze (i : Nat)
  | ret (x : X)
  | brk
  | ite (c : X) (a b : List S)
  | forX (i : Nat) (src : X) (body orelse : List S)
  | forR (i : Nat) (a b c : Int) (body orelse : List S)
  | forT (i j : Nat) (src : X) (body orelse : List S)
  | forE (i j : Nat) (src : X) (body orelse : List S)
  | while (c : X) (body : List S)
  | tryE (body : List S) (k : String) (h : List S)
  | tryF (body fin : List S)
inductive Out where
  | next (σ : List SV)
  | brk (σ : List SV)
  | ret (d : PyData)
  | exc (k : String) (σ : List SV)
  | bad
/-- a loop over ds: bind, body; the else part behind the last -/
noncomputable def loopGo (bind : List SV → PyData → Option (List SV)) (body orelse : List SV → Out) : List PyData → List SV → Out
  | [], σ => orelse σ
  | d :: r, σ => match bind σ d with
    | none => .bad
    | some σ₁ => (match body σ₁ with
      | .next σ₂ => loopGo bind body orelse r σ₂
      | .brk σ₂ => .next σ₂
      | .ret v => .ret v
      | .exc k σ₂ => .exc k σ₂
      | .bad => .bad)
noncomputable def whileGo (test : List SV → Res) (body : List SV → Out) : Nat → List SV → Out
  | 0, _ => .bad
  | n + 1, σ => match test σ with
    | .bad => .bad
    | .exc k => .exc k σ
    | .ok c => (match truth c with
      | none => .bad
      | some false => .next σ
      | some true => (match body σ with
        | .next σ₂ => whileGo test body n σ₂
        | .brk σ₂ => .next σ₂
        | .ret v => .ret v
        | .exc k σ₂ => .exc k σ₂
        | .bad => .bad))
noncomputable def removeD (x : PyData) : List PyData → Option (List PyData)
  | [] => none
  | y :: r => if PyData.eqv y x then some r else (removeD x r).map (y :: ·)
noncomputable def pairOf : PyData → Option (PyData × PyData)
  | .tuple [a, b] => some (a, b)
  | _ => none
/-- store a value (into a place that is no owned list's) -/
noncomputable def putV (σ : List SV) (i : Nat) (d : PyData) : List SV := σ.set i (.val d)
noncomputable def enumD (ds : List PyData) : List PyData := (List.range ds.length).zipWith (fun (i : Nat) d => .tuple [.int i, d]) ds
mutual
noncomputable def evS (T : Tab) : S → List SV → Out
  | .assign i x, σ => match ev T x σ with
    | .ok d => .next (putV σ i d)
    | .exc k => .exc k σ
    | .bad => .bad
  | .assignL i x, σ => match ev T x σ with
    | .ok d => .next (putV σ i d)
    | .exc _ => .bad
    | .bad => .bad
  | .own i x, σ => match ev T x σ with
    | .ok (.list ds) => .next (σ.set i (.own ds))
    | .exc k => .exc k σ
    | _ => .bad
  | .assign2 i j x, σ => match ev T x σ with
    | .ok d => .next (putV (putV σ i d) j d)
    | .exc k => .exc k σ
    | .bad => .bad
  | .unpack2 i j x, σ => match ev T x σ with
    | .ok p => (match pairOf p with
      | some (a, b) => .next (putV (putV σ i a) j b)
      | none => .bad)
    | .exc k => .exc k σ
    | .bad => .bad
  | .aug i op x, σ => match σ[i]? with
    | some (.val (.int a)) => (match ev T x σ with
      | .ok (.int b) => (match op with
        | .Add => .next (putV σ i (.int (a + b)))
        | _ => .bad)
      | .exc k => .exc k σ
      | _ => .bad)
    | _ => .bad
  | .append i x, σ => match σ[i]? with
    | some (.own ds) => (match ev T x σ with
      | .ok d => if ds.length < 100000 then .next (σ.set i (.own (ds ++ [d]))) else .bad
      | .exc k => .exc k σ
      | .bad => .bad)
    | _ => .bad
  | .extend i x, σ => match σ[i]? with
    | some (.own ds) => (match ev T x σ with
      | .ok (.list es) => if ds.length + es.length < 100000 then .next (σ.set i (.own (ds ++ es))) else .bad
      | .exc k => .exc k σ
      | _ => .bad)
    | _ => .bad
  | .remove i x, σ => match σ[i]? with
    | some (.own ds) => (match ev T x σ with
      | .ok d => if okD d && okD (.list ds) && decide (ds.length < 100000) then (match removeD d ds with
          | some es => .next (σ.set i (.own es))
          | none => .exc "ValueError" σ) else .bad
      | .exc k => .exc k σ
      | .bad => .bad)
    | _ => .bad
  | .freeze i, σ => match σ[i]? with
    | some (.own ds) => .next (putV σ i (.list ds))
    | _ => .bad
  | .ret x, σ => match ev T x σ with
    | .ok d => .ret d
    | .exc k => .exc k σ
    | .bad => .bad
  | .brk, σ => .brk σ
  | .ite c a b, σ => match ev T c σ with
    | .ok d => (match truth d with
      | some true => evSs T a σ
      | some false => evSs T b σ
      | none => .bad)
    | .exc k => .exc k σ
    | .bad => .bad
  | .forX i src body orelse, σ => match ev T src σ with
    | .ok l => (match itemsOf l with
      | some ds => loopGo (fun σ d => some (putV σ i d)) (fun σ => evSs T body σ) (fun σ => evSs T orelse σ) ds σ
      | none => .bad)
    | .exc k => .exc k σ
    | .bad => .bad
  | .forR i a b c body orelse, σ => if rangeOk a b c then loopGo (fun σ d => some (putV σ i d)) (fun σ => evSs T body σ) (fun σ => evSs T orelse σ) (rangeD a b c) σ else .bad
  | .forT i j src body orelse, σ => match ev T src σ with
    | .ok (.tuple ds) => if ds.length ≤ 1000 ∧ ds.all (fun d => (pairOf d).isSome) = true then loopGo (fun σ d => (pairOf d).map fun p => putV (putV σ i p.1) j p.2) (fun σ => evSs T body σ) (fun σ => evSs T orelse σ) ds σ else .bad
    | _ => .bad
  | .forE i j src body orelse, σ => match ev T src σ with
    | .ok (.tuple ds) => if ds.length ≤ 1000 then loopGo (fun σ d => (pairOf d).map fun p => putV (putV σ i p.1) j p.2) (fun σ => evSs T body σ) (fun σ => evSs T orelse σ) (enumD ds) σ else .bad
    | _ => .bad
  | .while c body, σ => whileGo (fun σ => ev T c σ) (fun σ => evSs T body σ) 1000 σ
  | .tryE body k h, σ => match evSs T body σ with
    | .exc k' σ₁ => if clsL k' = k ∧ (k = "IndexError" ∨ k = "ValueError") then (match evSs T h σ₁ with
      | .exc _ _ => .bad
      | o => o) else .bad
    | o => o
  | .tryF body fin, σ => match evSs T body σ with
    | .next σ₁ => evSs T fin σ₁
    | .exc k σ₁ => if clsL k ≠ k then .bad else (match evSs T fin σ₁ with
      | .next σ₂ => .exc k σ₂
      | .exc k' σ₂ => if clsL (starL k') = k' ∧ clsL k' = k' then .exc (starL k') σ₂ else .bad
      | _ => .bad)
    | _ => .bad
noncomputable def evSs (T : Tab) : List S → List SV → Out
  | [], σ => .next σ
  | s :: r, σ => match evS T s σ with
    | .next σ₁ => evSs T r σ₁
    | o => o
end
theorem evqS_assign (T : Tab) (σ : List SV) {i x} : evS T (.assign i x) σ = (match ev T x σ with
    | .ok d => .next (putV σ i d)
    | .exc k => .exc k σ
    | .bad => .bad) := rfl
theorem evqS_assignL (T : Tab) (σ : List SV) {i x} : evS T (.assignL i x) σ = (match ev T x σ with
    | .ok d => .next (putV σ i d)
    | .exc _ => .bad
    | .bad => .bad) := rfl
theorem evqS_own (T : Tab) (σ : List SV) {i x} : evS T (.own i x) σ = (match ev T x σ with
    | .ok (.list ds) => .next (σ.set i (.own ds))
    | .exc k => .exc k σ
    | _ => .bad) := rfl
theorem evqS_assign2 (T : Tab) (σ : List SV) {i j x} : evS T (.assign2 i j x) σ = (match ev T x σ with
    | .ok d => .next (putV (putV σ i d) j d)
    | .exc k => .exc k σ
    | .bad => .bad) := rfl
theorem evqS_unpack2 (T : Tab) (σ : List SV) {i j x} : evS T (.unpack2 i j x) σ = (match ev T x σ with
    | .ok p => (match pairOf p with
      | some (a, b) => .next (putV (putV σ i a) j b)
      | none => .bad)
    | .exc k => .exc k σ
    | .bad => .bad) := rfl
theorem evqS_aug (T : Tab) (σ : List SV) {i op x} : evS T (.aug i op x) σ = (match σ[i]? with
    | some (.val (.int a)) => (match ev T x σ with
      | .ok (.int b) => (match op with
        | .Add => .next (putV σ i (.int (a + b)))
        | _ => .bad)
      | .exc k => .exc k σ
      | _ => .bad)
    | _ => .bad) := rfl
theorem evqS_append (T : Tab) (σ : List SV) {i x} : evS T (.append i x) σ = (match σ[i]? with
    | some (.own ds) => (match ev T x σ with
      | .ok d => if ds.length < 100000 then .next (σ.set i (.own (ds ++ [d]))) else .bad
      | .exc k => .exc k σ
      | .bad => .bad)
    | _ => .bad) := rfl
theorem evqS_extend (T : Tab) (σ : List SV) {i x} : evS T (.extend i x) σ = (match σ[i]? with
    | some (.own ds) => (match ev T x σ with
      | .ok (.list es) => if ds.length + es.length < 100000 then .next (σ.set i (.own (ds ++ es))) else .bad
      | .exc k => .exc k σ
      | _ => .bad)
    | _ => .bad) := rfl
theorem evqS_remove (T : Tab) (σ : List SV) {i x} : evS T (.remove i x) σ = (match σ[i]? with
    | some (.own ds) => (match ev T x σ with
      | .ok d => if okD d && okD (.list ds) && decide (ds.length < 100000) then (match removeD d ds with
          | some es => .next (σ.set i (.own es))
          | none => .exc "ValueError" σ) else .bad
      | .exc k => .exc k σ
      | .bad => .bad)
    | _ => .bad) := rfl
theorem evqS_freeze (T : Tab) (σ : List SV) {i} : evS T (.freeze i) σ = (match σ[i]? with
    | some (.own ds) => .next (putV σ i (.list ds))
    | _ => .bad) := rfl
theorem evqS_ret (T : Tab) (σ : List SV) {x} : evS T (.ret x) σ = (match ev T x σ with
    | .ok d => .ret d
    | .exc k => .exc k σ
    | .bad => .bad) := rfl
theorem evqS_brk (T : Tab) (σ : List SV) : evS T .brk σ = (.brk σ) := rfl
theorem evqS_ite (T : Tab) (σ : List SV) {c a b} : evS T (.ite c a b) σ = (match ev T c σ with
    | .ok d => (match truth d with
      | some true => evSs T a σ
      | some false => evSs T b σ
      | none => .bad)
    | .exc k => .exc k σ
    | .bad => .bad) := rfl
theorem evqS_forX (T : Tab) (σ : List SV) {i src body orelse} : evS T (.forX i src body orelse) σ = (match ev T src σ with
    | .ok l => (match itemsOf l with
      | some ds => loopGo (fun σ d => some (putV σ i d)) (fun σ => evSs T body σ) (fun σ => evSs T orelse σ) ds σ
      | none => .bad)
    | .exc k => .exc k σ
    | .bad => .bad) := rfl
theorem evqS_forR (T : Tab) (σ : List SV) {i a b c body orelse} : evS T (.forR i a b c body orelse) σ = (if rangeOk a b c then loopGo (fun σ d => some (putV σ i d)) (fun σ => evSs T body σ) (fun σ => evSs T orelse σ) (rangeD a b c) σ else .bad) := rfl
theorem evqS_forT (T : Tab) (σ : List SV) {i j src body orelse} : evS T (.forT i j src body orelse) σ = (match ev T src σ with
    | .ok (.tuple ds) => if ds.length ≤ 1000 ∧ ds.all (fun d => (pairOf d).isSome) = true then loopGo (fun σ d => (pairOf d).map fun p => putV (putV σ i p.1) j p.2) (fun σ => evSs T body σ) (fun σ => evSs T orelse σ) ds σ else .bad
    | _ => .bad) := rfl
theorem evqS_forE (T : Tab) (σ : List SV) {i j src body orelse} : evS T (.forE i j src body orelse) σ = (match ev T src σ with
    | .ok (.tuple ds) => if ds.length ≤ 1000 then loopGo (fun σ d => (pairOf d).map fun p => putV (putV σ i p.1) j p.2) (fun σ => evSs T body σ) (fun σ => evSs T orelse σ) (enumD ds) σ else .bad
    | _ => .bad) := rfl
theorem evqS_while (T : Tab) (σ : List SV) {c body} : evS T (.while c body) σ = (whileGo (fun σ => ev T c σ) (fun σ => evSs T body σ) 1000 σ) := rfl
theorem evqS_tryE (T : Tab) (σ : List SV) {body k h} : evS T (.tryE body k h) σ = (match evSs T body σ with
    | .exc k' σ₁ => if clsL k' = k ∧ (k = "IndexError" ∨ k = "ValueError") then (match evSs T h σ₁ with
      | .exc _ _ => .bad
      | o => o) else .bad
    | o => o) := rfl
theorem evqS_tryF (T : Tab) (σ : List SV) {body fin} : evS T (.tryF body fin) σ = (match evSs T body σ with
    | .next σ₁ => evSs T fin σ₁
    | .exc k σ₁ => if clsL k ≠ k then .bad else (match evSs T fin σ₁ with
      | .next σ₂ => .exc k σ₂
      | .exc k' σ₂ => if clsL (starL k') = k' ∧ clsL k' = k' then .exc (starL k') σ₂ else .bad
      | _ => .bad)
    | _ => .bad) := rfl
theorem evqSs_nil (T : Tab) (σ : List SV) : evSs T [] σ = (.next σ) := rfl
theorem evqSs_cons (T : Tab) (σ : List SV) {s r} : evSs T (s :: r) σ = (match evS T s σ with
    | .next σ₁ => evSs T r σ₁
    | o => o) := rfl
end Mine
end
section
open PySem PySem.W PySem.Calls PyProof.Rows
namespace Mine
noncomputable def WrS (env : Env) (σ : List SV) (ad : Nat → Addr) (b : Addr) : Prop :=
  b = env.locals ∨ (∃ x, isCellK (env.kindOf x) = true ∧ env.cells.lookup x = some b) ∨ ∃ (i : Nat) (ds : List PyData), σ[i]? = some (.own ds) ∧ ad i = b
/-- a function's own frame: its names, its owned lists -/
structure HereS (base : Heap) (fzT : Fz) (md : Md) (n : Nat) (A : Around) (outer : List Env) (L : Addr) (env : Env) (nm : List Str) (σ : List SV) (ad : Nat → Addr) (fz : Fz) (s : Shared) : Prop where
  here : Here base fzT md n A outer L env nm σ ad fz s
  ap : ∀ x y c, isCellK (env.kindOf x) = true → isCellK (env.kindOf y) = true → env.cells.lookup x = some c → env.cells.lookup y = some c → x = y
  vars : ∀ (i : Nat) x, nm[i]? = some x → nmIdx nm x = some i ∧ (env.kindOf x = some .local ∨ env.kindOf x = some .cell)
  inj : ∀ (i j : Nat) ds es, σ[i]? = some (.own ds) → σ[j]? = some (.own es) → ad i = ad j → i = j
  lfs : env.frame = some env.locals
  nb : ∀ b, WrS env σ ad b → base.get? b = none
structure RelS (env : Env) (fs : List Addr) (σ : List SV) (ad : Nat → Addr) (fz : Fz) (s : Shared) (σ' : List SV) (ad' : Nat → Addr) (fz' : Fz) (s' : Shared) : Prop where
  same : ∃ h' tk, s' = { s with heap := h', toks := tk }
  ext : ExtW (WrS env σ ad) fs s.heap s'.heap
  wr : ∀ b, WrS env σ' ad' b → WrS env σ ad b ∨ s.heap.get? b = none
  le : FzLe fz fz'
  new : ∀ a, fz a = none → fz' a ≠ none → s.heap.get? a = none ∨ WrS env σ ad a
  live : ∀ b, WrS env σ ad b → ∃ o, s'.heap.get? b = some o
theorem RelS.trans {env : Env} {fs : List Addr} {σ₁ σ₂ σ₃ : List SV} {a₁ a₂ a₃ : Nat → Addr} {f₁ f₂ f₃ : Fz} {s₁ s₂ s₃ : Shared} (x : RelS env fs σ₁ a₁ f₁ s₁ σ₂ a₂ f₂ s₂) (y : RelS env fs σ₂ a₂ f₂ s₂ σ₃ a₃ f₃ s₃) : RelS env fs σ₁ a₁ f₁ s₁ σ₃ a₃ f₃ s₃ := by
  have gone : ∀ b, s₂.heap.get? b = none → WrS env σ₁ a₁ b ∨ s₁.heap.get? b = none := fun b hb => by
    by_cases q : WrS env σ₁ a₁ b
    · exact .inl q
    · exact .inr (x.ext.gone q hb)
  refine ⟨?_, fun b o e hb => ?_, fun b hb => ?_, x.le.trans y.le, fun a h1 h2 => ?_, fun b hb => ?_⟩
  · obtain ⟨h, t, rfl⟩ := x.same
    obtain ⟨h', t', rfl⟩ := y.same
    exact ⟨h', t', rfl⟩
  · obtain ⟨sl, e₁, q₁⟩ := x.ext b o e hb
    obtain ⟨sl', e₂, q₂⟩ := y.ext b _ e₁ (fun q => by
      rcases x.wr b q with z | z
      · exact hb z
      · rw [e] at z; cases z)
    exact ⟨sl', e₂, fun hf => (q₂ hf).trans (q₁ hf)⟩
  · rcases y.wr b hb with q | q
    · exact x.wr b q
    · exact gone b q
  · cases q : f₂ a with
    | some o => exact x.new a h1 (by rw [q]; intro z; cases z)
    | none =>
      rcases y.new a q h2 with z | z
      · exact (gone a z).symm
      · exact (x.wr a z).symm
  · obtain ⟨o, ho⟩ := x.live b hb
    by_cases q : WrS env σ₂ a₂ b
    · exact y.live b q
    · obtain ⟨sl, e₁, _⟩ := y.ext b o ho q; exact ⟨_, e₁⟩
theorem RelS.of_rel {env : Env} {fs : List Addr} {σ : List SV} {ad : Nat → Addr} {fz fz' : Fz} {s s' : Shared} (lv : ∀ b, WrS env σ ad b → ∃ o, s.heap.get? b = some o) (r : Rel fs fz s fz' s') : RelS env fs σ ad fz s σ ad fz' s' := by
  obtain ⟨h', tk, rfl, e, f, fi⟩ := r
  exact ⟨⟨_, _, rfl⟩, .of_ext e, fun b hb => .inl hb, f.le, fun a h1 h2 => .inl (f.new a h1 h2), fun b hb => by
    obtain ⟨o, ho⟩ := lv b hb
    obtain ⟨sl, e₁, _⟩ := e b o ho
    exact ⟨_, e₁⟩⟩
/-- what was handled where the exception rose: unknown if it bears a star -/
noncomputable def hdOf (A : Around) (k : String) : Option Value := if clsL k = k then A.handled else some .none
theorem excAt_hd {A : Around} {h₀ h : Heap} {L e : Addr} {k : String} (g : ExcAt A.handled h₀ L h e k) : ExcAt (hdOf A k) h₀ L h e k := by
  obtain ⟨a, oe, vs, b, c, d, ⟨f, f2⟩, q⟩ := g
  refine ⟨a, oe, vs, b, c, d, ⟨f, fun z => ?_⟩, q⟩
  unfold hdOf at z
  split at z
  · exact f2 z
  · cases z
noncomputable def PostS (base : Heap) (fzT : Fz) (md : Md) (n : Nat) (A : Around) (outer : List Env) (L : Addr) (env : Env) (nm : List Str) (σ : List SV) (ad : Nat → Addr) (fz : Fz) (s : Shared) : Out → Flow → Shared → Prop
  | .next σ' => fun f s' => f = .next ∧ ∃ ad' fz', RelS env (fsOf outer) σ ad fz s σ' ad' fz' s' ∧ HereS base fzT md n A outer L env nm σ' ad' fz' s'
  | .brk σ' => fun f s' => f = .brk ∧ ∃ ad' fz', RelS env (fsOf outer) σ ad fz s σ' ad' fz' s' ∧ HereS base fzT md n A outer L env nm σ' ad' fz' s'
  | .ret d => fun f s' => ∃ v σ' ad' fz', f = .ret v ∧ RelS env (fsOf outer) σ ad fz s σ' ad' fz' s' ∧ HereS base fzT md n A outer L env nm σ' ad' fz' s' ∧ Rep fz' v d
  | _ => fun _ _ => False
noncomputable def PostX (base : Heap) (fzT : Fz) (md : Md) (n : Nat) (A : Around) (outer : List Env) (L : Addr) (env : Env) (nm : List Str) (σ : List SV) (ad : Nat → Addr) (fz : Fz) (s : Shared) : Out → Value → Shared → Prop
  | .exc k σ' => fun x s' => ∃ e ad' fz', x = .ref e ∧ RelS env (fsOf outer) σ ad fz s σ' ad' fz' s' ∧ HereS base fzT md n A outer L env nm σ' ad' fz' s' ∧ ExcAt (hdOf A k) s.heap L s'.heap e k ∧ ¬ WrS env σ' ad' e
  | _ => fun _ _ => False
section
variable {base : Heap} {fzT : Fz} {md : Md} {n : Nat} {A : Around} {outer : List Env} {L : Addr} {env : Env} {nm : List Str} {σ : List SV} {ad : Nat → Addr} {fz : Fz} {s : Shared}
theorem HereS.step {fz' : Fz} {s' : Shared} (H : HereS base fzT md n A outer L env nm σ ad fz s) (r : Rel (fsOf outer) fz s fz' s') : HereS base fzT md n A outer L env nm σ ad fz' s' :=
  ⟨H.here.step r, H.ap, H.vars, H.inj, H.lfs, H.nb⟩
theorem excAt_through {hd : Option Value} {h h₁ h' : Heap} {W : Addr → Prop} {fs : List Addr} {e : Addr} {k : String} (x : ExtW W fs h h₁) (hW : ∀ b o, h.get? b = some o → W b → ∃ o', h₁.get? b = some o') (g : ExcAt hd h₁ L h' e k) : ExcAt hd h L h' e k := by
  have gone : ∀ b, h₁.get? b = none → h.get? b = none := fun b hb => by
    cases q : h.get? b with
    | none => rfl
    | some o =>
      by_cases w : W b
      · obtain ⟨o', ho⟩ := hW b o q w; rw [hb] at ho; cases ho
      · obtain ⟨sl, ho, _⟩ := x b o q w; rw [hb] at ho; cases ho
  obtain ⟨nn, oe, vs, a, b, c, d, q⟩ := g
  refine ⟨gone _ nn, oe, vs, a, b, c, d, q.imp id ?_⟩
  rintro ⟨tb, ot, ts, q1, q2, q3⟩
  exact ⟨tb, ot, ts, q1, gone _ q2, q3⟩
/-- every written place stands -/
theorem HereS.live (H : HereS base fzT md n A outer L env nm σ ad fz s) : ∀ b, WrS env σ ad b → ∃ o, s.heap.get? b = some o := by
  rintro b (rfl | ⟨x, hk, hc⟩ | ⟨i, ds, hi, rfl⟩)
  · obtain ⟨m, o, _, _, ho, _⟩ := H.here.envok.ns; exact ⟨o, ho⟩
  · obtain ⟨c, v, hc', o, ho, _⟩ := H.here.envok.cells x hk; rw [hc] at hc'; cases hc'; exact ⟨o, ho⟩
  · have hlt : i < nm.length := by rw [← H.here.len]; exact (List.getElem?_eq_some_iff.mp hi).1
    obtain ⟨x, hx⟩ : ∃ x, nm[i]? = some x := ⟨_, List.getElem?_eq_getElem hlt⟩
    obtain ⟨h1, h2⟩ := H.vars i x hx
    have := H.here.inv x i _ h1 (by rcases h2 with q | q <;> rw [q] <;> rfl) hi
    obtain ⟨_, _, _, vs, ⟨k, hp⟩, _⟩ := this
    exact ⟨_, hp⟩
/-- no frozen thing is written -/
theorem HereS.frozen (H : HereS base fzT md n A outer L env nm σ ad fz s) : ∀ b, WrS env σ ad b → fz b = none := by
  intro b hb
  cases q : fz b with
  | none => rfl
  | some p =>
    exfalso
    obtain ⟨t, vs⟩ := p
    obtain ⟨o, k, ho, hc, hd⟩ := H.here.fzin _ _ _ q
    rcases hb with rfl | ⟨x, hk, hc'⟩ | ⟨i, ds, hi, rfl⟩
    · obtain ⟨m, o', es, ep, ho', hd', _⟩ := H.here.envok.ns
      rw [ho] at ho'; cases ho'; rw [hd] at hd'; cases hd'
    · obtain ⟨c, v, hcc, o', ho', hd'⟩ := H.here.envok.cells x hk
      rw [hc'] at hcc; cases hcc
      rw [ho] at ho'; cases ho'; rw [hd] at hd'; cases hd'
    · have hlt : i < nm.length := by rw [← H.here.len]; exact (List.getElem?_eq_some_iff.mp hi).1
      obtain ⟨x, hx⟩ : ∃ x, nm[i]? = some x := ⟨_, List.getElem?_eq_getElem hlt⟩
      obtain ⟨h1, h2⟩ := H.vars i x hx
      have := H.here.inv x i _ h1 (by rcases h2 with q | q <;> rw [q] <;> rfl) hi
      obtain ⟨_, _, hz, _⟩ := this
      rw [hz] at q; cases q
theorem PostS.after {σ₁ : List SV} {ad₁ : Nat → Addr} {fz₁ : Fz} {s₁ s' : Shared} {o : Out} {f : Flow} (x : RelS env (fsOf outer) σ ad fz s σ₁ ad₁ fz₁ s₁) (g : PostS base fzT md n A outer L env nm σ₁ ad₁ fz₁ s₁ o f s') : PostS base fzT md n A outer L env nm σ ad fz s o f s' := by
  cases o with
  | next σ' => obtain ⟨a, ad', fz', r, h⟩ := g; exact ⟨a, ad', fz', x.trans r, h⟩
  | brk σ' => obtain ⟨a, ad', fz', r, h⟩ := g; exact ⟨a, ad', fz', x.trans r, h⟩
  | ret d => obtain ⟨v, σ', ad', fz', a, r, h, q⟩ := g; exact ⟨v, σ', ad', fz', a, x.trans r, h, q⟩
  | exc k σ' => exact g
  | bad => exact g
theorem PostX.after {σ₁ : List SV} {ad₁ : Nat → Addr} {fz₁ : Fz} {s₁ s' : Shared} {o : Out} {f : Value} (x : RelS env (fsOf outer) σ ad fz s σ₁ ad₁ fz₁ s₁)
    (g : PostX base fzT md n A outer L env nm σ₁ ad₁ fz₁ s₁ o f s') : PostX base fzT md n A outer L env nm σ ad fz s o f s' := by
  cases o with
  | exc k σ' =>
    obtain ⟨e, ad', fz', rfl, r, h, q, w⟩ := g
    exact ⟨e, ad', fz', rfl, x.trans r, h, excAt_through x.ext (fun b o _ w => x.live b w) q, w⟩
  | next σ' => exact g
  | brk σ' => exact g
  | ret d => exact g
  | bad => exact g
end
end Mine
end
section
open PySem PySem.W PySem.Calls PyProof.Rows
namespace Mine
theorem funFrames_weak {h h' base : Heap} (k : ∀ b o, h.get? b = some o → (∀ vs, o.data ≠ .fields vs) → ∃ o', h'.get? b = some o' ∧ ∀ vs, o'.data ≠ .fields vs) : ∀ {l : List Env}, h.FunFrames base l → h'.FunFrames base l
  | [], _ => trivial
  | env :: rest, ⟨hk, ⟨L, o, hf, hn, ho, hd⟩, hr⟩ => by
    obtain ⟨o', ho', hd'⟩ := k L o ho hd
    exact ⟨hk, ⟨L, o', hf, hn, ho', hd'⟩, funFrames_weak k hr⟩
section
variable {base : Heap} {fzT : Fz} {md : Md} {n : Nat} {A : Around} {outer : List Env} {L : Addr} {env : Env} {nm : List Str} {σ : List SV} {ad : Nat → Addr} {fz : Fz} {s : Shared}
theorem WrS.set {i : Nat} {sv : SV} {ad' : Nat → Addr} {b : Addr} (hi : i < σ.length) (ha : ∀ j, j ≠ i → ad' j = ad j) (h : WrS env (σ.set i sv) ad' b) : WrS env σ ad b ∨ ∃ ds, sv = .own ds ∧ ad' i = b := by
  rcases h with q | q | ⟨j, ds, hj, hb⟩
  · exact .inl (.inl q)
  · exact .inl (.inr (.inl q))
  · by_cases e : j = i
    · subst e
      rw [List.getElem?_set_self hi] at hj
      cases hj
      exact .inr ⟨ds, rfl, hb⟩
    · rw [List.getElem?_set_ne (Ne.symm e)] at hj
      rw [ha j e] at hb
      exact .inl (.inr (.inr ⟨j, ds, hj, hb⟩))
theorem seq_not_dict {h : Heap} {a b : Addr} {vs : Array Value} {m : Str → Option Value} (hp : h.PlainList a vs) (hn : h.Ns b m) : a ≠ b := by
  rintro rfl
  obtain ⟨k, hk⟩ := hp
  obtain ⟨o, es, ep, ho, hd, _⟩ := hn
  rw [hk] at ho; cases ho; cases hd
theorem seq_not_cell {h : Heap} {a b : Addr} {vs : Array Value} {v : Option Value} (hp : h.PlainList a vs) (hn : h.IsCell b v) : a ≠ b := by
  rintro rfl
  obtain ⟨k, hk⟩ := hp
  obtain ⟨o, ho, hd⟩ := hn
  rw [hk] at ho; cases ho; cases hd
theorem dict_not_cell {h : Heap} {a b : Addr} {m : Str → Option Value} {v : Option Value} (hp : h.Ns a m) (hn : h.IsCell b v) : a ≠ b := by
  rintro rfl
  obtain ⟨o', es, ep, ho', hd', _⟩ := hp
  obtain ⟨o, ho, hd⟩ := hn
  rw [ho] at ho'; cases ho'; rw [hd] at hd'; cases hd'
/-- an owned list as it stands -/
theorem HereS.ownAt (H : HereS base fzT md n A outer L env nm σ ad fz s) {i : Nat} {ds : List PyData} (hi : σ[i]? = some (.own ds)) :
    ∃ x vs, nm[i]? = some x ∧ Var env s.heap x (.ref (ad i)) ∧ ad i ∉ fsOf outer ∧ fz (ad i) = none ∧ s.heap.PlainList (ad i) vs.toArray ∧ RepAll fz vs ds := by
  have hlt : i < nm.length := by rw [← H.here.len]; exact (List.getElem?_eq_some_iff.mp hi).1
  obtain ⟨x, hx⟩ : ∃ x, nm[i]? = some x := ⟨_, List.getElem?_eq_getElem hlt⟩
  obtain ⟨h1, h2⟩ := H.vars i x hx
  obtain ⟨a, b, c, vs, d, e⟩ := H.here.inv x i _ h1 (by rcases h2 with q | q <;> rw [q] <;> rfl) hi
  exact ⟨x, vs, hx, a, b, c, d, e⟩
/-- no written place is a record -/
theorem HereS.kinds (H : HereS base fzT md n A outer L env nm σ ad fz s) {b : Addr} (hb : WrS env σ ad b) : ∀ o, s.heap.get? b = some o → ∀ vs, o.data ≠ .fields vs := by
  intro o ho vs hd
  rcases hb with rfl | ⟨x, hk, hc'⟩ | ⟨i, ds, hi, rfl⟩
  · obtain ⟨m, o', es, ep, ho', hd', _⟩ := H.here.envok.ns
    rw [ho] at ho'; cases ho'; rw [hd] at hd'; cases hd'
  · obtain ⟨c, v, hcc, o', ho', hd'⟩ := H.here.envok.cells x hk
    rw [hc'] at hcc; cases hcc
    rw [ho] at ho'; cases ho'; rw [hd] at hd'; cases hd'
  · obtain ⟨_, _, _, _, _, _, ⟨k, hp⟩, _⟩ := H.ownAt hi
    rw [hp] at ho; cases ho; cases hd
/-- one written place is changed -/
theorem put_gen {σ' : List SV} {ad' : Nat → Addr} {h' : Heap} {tk : Nat} {a : Addr} {fz₀ : Fz} {s₀ : Shared} (R₀ : RelS env (fsOf outer) σ ad fz₀ s₀ σ ad fz s) (H : HereS base fzT md n A outer L env nm σ ad fz s) (sb : Heap.SameBut a s.heap h') (wa : WrS env σ ad a)
    (kind : ∀ o, s.heap.get? a = some o → ∃ o', h'.get? a = some o' ∧ (∀ vs, o'.data ≠ .fields vs) ∧ (∀ es ep, o.data = .dict es ep → ∃ es' ep', o'.data = .dict es' ep'))
    (env' : EnvOK L outer env h') (inv' : Inv (fsOf outer) env nm σ' ad' fz h') (wr' : ∀ b, WrS env σ' ad' b → WrS env σ ad b ∨ (s₀.heap.get? b = none ∧ base.get? b = none))
    (inj' : ∀ (i j : Nat) ds es, σ'[i]? = some (.own ds) → σ'[j]? = some (.own es) → ad' i = ad' j → i = j) (len' : σ'.length = nm.length) :
    RelS env (fsOf outer) σ ad fz₀ s₀ σ' ad' fz { s with heap := h', toks := tk } ∧ HereS base fzT md n A outer L env nm σ' ad' fz { s with heap := h', toks := tk } := by
  have keep : ∀ b o, b ≠ a → s.heap.get? b = some o → h'.get? b = some o := fun b o hb e => sb.extBut b o hb e
  have fza : fz a = none := H.frozen a wa
  have fzi : FzIn fz h' := fun b t vs e => by
    obtain ⟨o, k, ho, hc, hd⟩ := H.here.fzin b t vs e
    exact ⟨o, k, keep b o (fun q => by rw [q, fza] at e; cases e) ho, hc, hd⟩
  have G := H.here.hi
  refine ⟨⟨?_, R₀.ext.trans (.of_but sb wa), fun b hb => (wr' b hb).imp id (·.1), R₀.le, R₀.new, fun b hb => ?_⟩, ⟨H.here.sit, ⟨fun b o e => ?_, ?_, fun b hb => ?_⟩, env', inv', fzi, H.here.fzle, fun e => ?_, len'⟩, H.ap, H.vars, inj', H.lfs, fun b hb => ?_⟩
  · obtain ⟨h₀, t₀, e⟩ := R₀.same
    exact ⟨h', tk, by rw [e]⟩
  · by_cases q : b = a
    · subst q
      obtain ⟨o, ho⟩ := H.live b hb
      obtain ⟨o', ho', _⟩ := kind o ho
      exact ⟨o', ho'⟩
    · obtain ⟨o, ho⟩ := H.live b hb; exact ⟨o, keep b o q ho⟩
  · refine keep b o (fun q => ?_) (G.stays b o e)
    subst q
    rw [H.nb _ wa] at e; cases e
  · refine funFrames_weak (fun b o ho hnf => ?_) G.frames
    by_cases q : b = a
    · subst q
      obtain ⟨o', ho', h1, _⟩ := kind o ho
      exact ⟨o', ho', h1⟩
    · exact ⟨o, keep b o q ho, hnf⟩
  · obtain ⟨o, es, ep, ho, hd⟩ := G.dicts b hb
    by_cases q : b = a
    · subst q
      obtain ⟨o', ho', _, h2⟩ := kind o ho
      obtain ⟨es', ep', z⟩ := h2 es ep hd
      exact ⟨o', es', ep', ho', z⟩
    · exact ⟨o, es, ep, keep b o q ho, hd⟩
  · obtain ⟨e, o, vs, h1, h2, h3, h4⟩ := H.here.hx e
    refine ⟨e, o, vs, h1, keep e o (fun q => ?_) h2, h3, h4⟩
    subst q
    exact H.kinds wa o h2 vs h3
  · rcases wr' b hb with q | q
    · exact H.nb b q
    · exact q.2
theorem ns_agree {h : Heap} {a : Addr} {m m' : Str → Option Value} (x : h.Ns a m) (y : h.Ns a m') (z : Str) : m z = m' z := by
  obtain ⟨o1, es1, ep1, ho1, hd1, _, hf1⟩ := x
  obtain ⟨o2, es2, ep2, ho2, hd2, _, hf2⟩ := y
  rw [ho1] at ho2; cases ho2
  rw [hd1] at hd2; cases hd2
  rw [← hf1, hf2]
theorem PlainList.but {h h' : Heap} {a b : Addr} {vs : Array Value} (sb : Heap.SameBut a h h') (hp : h.PlainList b vs) (hne : b ≠ a) : h'.PlainList b vs := by
  obtain ⟨k, hk⟩ := hp; exact ⟨k, sb.extBut _ _ hne hk⟩
/-- what stands in a place of the frame -/
inductive SvNew (base : Heap) (fs : List Addr) (fz : Fz) (h : Heap) (h₀ : Heap) (W : Addr → Prop) (v : Value) (a : Addr) : SV → Prop
  | val {d : PyData} : Rep fz v d → SvNew base fs fz h h₀ W v a (.val d)
  | own {ds : List PyData} {vs : List Value} : v = .ref a → a ∉ fs → fz a = none → h.PlainList a vs.toArray → RepAll fz vs ds → ¬ W a → h₀.get? a = none → base.get? a = none → SvNew base fs fz h h₀ W v a (.own ds)
/-- a name of the frame gets a value: a datum, or a new owned list -/
theorem store_sv {M : Model} {E : Value → Shared → Prop} {x : Str} {i : Nat} {v : Value} {sv : SV} {a' : Addr} {fz₀ : Fz} {s₀ : Shared} {Q : Unit → Shared → Prop} (R₀ : RelS env (fsOf outer) σ ad fz₀ s₀ σ ad fz s) (H : HereS base fzT md n A outer L env nm σ ad fz s) (hx : nmIdx nm x = some i) (hk : env.kindOf x = some .local ∨ env.kindOf x = some .cell)
    (hv : SvNew base (fsOf outer) fz s.heap s₀.heap (WrS env σ ad) v a' sv)
    (h : ∀ s', RelS env (fsOf outer) σ ad fz₀ s₀ (σ.set i sv) (fun j => if j = i then a' else ad j) fz s' → HereS base fzT md n A outer L env nm (σ.set i sv) (fun j => if j = i then a' else ad j) fz s' → Q () s') :
    wpAny M A (storeName env x v) Q E s := by
  have hnx := nmIdx_get x nm i hx
  have hlt : i < nm.length := (List.getElem?_eq_some_iff.mp hnx).1
  have hlt' : i < σ.length := by rw [H.here.len]; exact hlt
  have O := H.here.envok
  obtain ⟨m₀, hm₀⟩ := O.ns
  have adj : ∀ j, j ≠ i → (fun j => if j = i then a' else ad j) j = ad j := fun j hj => if_neg hj
  have adi : (fun j => if j = i then a' else ad j) i = a' := if_pos rfl
  -- the whole, once the store is done at a
  have fin : ∀ h' tk a, Heap.SameBut a s.heap h' → WrS env σ ad a → (a = env.locals ∨ (isCellK (env.kindOf x) = true ∧ env.cells.lookup x = some a)) →
      (∀ o, s.heap.get? a = some o → ∃ o', h'.get? a = some o' ∧ (∀ vs, o'.data ≠ .fields vs) ∧ (∀ es ep, o.data = .dict es ep → ∃ es' ep', o'.data = .dict es' ep')) → EnvOK L outer env h' → Var env h' x v → (∀ y u, y ≠ x → Var env s.heap y u → Var env h' y u) →
      RelS env (fsOf outer) σ ad fz₀ s₀ (σ.set i sv) (fun j => if j = i then a' else ad j) fz { s with heap := h', toks := tk } ∧ HereS base fzT md n A outer L env nm (σ.set i sv) (fun j => if j = i then a' else ad j) fz { s with heap := h', toks := tk } := by
    intro h' tk a sb wa hwa kind env' vx vo
    have plain_ne : ∀ b vs, s.heap.PlainList b vs → b ≠ a := by
      intro b vs hp
      rcases hwa with rfl | ⟨q1, q2⟩
      · exact seq_not_dict hp hm₀
      · obtain ⟨c, v', hc, hv'⟩ := O.cells x q1
        rw [q2] at hc; cases hc; exact seq_not_cell hp hv'
    refine put_gen R₀ H sb wa kind env' ?_ ?_ ?_ (by simp [H.here.len])
    · intro y j sv' h1 h2 h3
      by_cases e : y = x
      · subst e
        rw [hx] at h1; cases h1
        rw [List.getElem?_set_self hlt'] at h3
        cases h3
        simp only [if_true]
        cases hv with
        | val r => exact ⟨v, vx, r⟩
        | own e1 e2 e3 e4 e5 _ _ _ =>
          subst e1
          exact ⟨vx, e2, e3, _, PlainList.but sb e4 (plain_ne _ _ e4), e5⟩
      · have hji : j ≠ i := by
          rintro rfl
          have := nmIdx_get y nm j h1
          rw [hnx] at this; cases this; exact e rfl
        rw [List.getElem?_set_ne (Ne.symm hji)] at h3
        have := H.here.inv y j sv' h1 h2 h3
        rw [adj j hji]
        cases sv' with
        | un => trivial
        | val d => obtain ⟨u, q1, q2⟩ := this; exact ⟨u, vo y u e q1, q2⟩
        | own ds => obtain ⟨q1, q2, q3, vs, q4, q5⟩ := this; exact ⟨vo y _ e q1, q2, q3, vs, PlainList.but sb q4 (plain_ne _ _ q4), q5⟩
    · intro b hb
      rcases WrS.set hlt' adj hb with q | ⟨ds, e, rfl⟩
      · exact .inl q
      · subst e
        cases hv with
        | own e1 e2 e3 e4 e5 e6 e7 e8 => rw [if_pos rfl]; exact .inr ⟨e7, e8⟩
    · intro j k ds es hj hk' e
      by_cases e1 : j = i
      · by_cases e2 : k = i
        · rw [e1, e2]
        · subst e1
          rw [List.getElem?_set_self hlt'] at hj
          rw [List.getElem?_set_ne (Ne.symm e2)] at hk'
          cases hj
          simp only [if_true, if_neg e2] at e
          cases hv with
          | own q1 q2 q3 q4 q5 q6 q7 q8 => exact absurd (.inr (.inr ⟨k, es, hk', e.symm⟩)) q6
      · by_cases e2 : k = i
        · subst e2
          rw [List.getElem?_set_self hlt'] at hk'
          rw [List.getElem?_set_ne (Ne.symm e1)] at hj
          cases hk'
          simp only [if_true, if_neg e1] at e
          cases hv with
          | own q1 q2 q3 q4 q5 q6 q7 q8 => exact absurd (.inr (.inr ⟨j, ds, hj, e⟩)) q6
        · rw [List.getElem?_set_ne (Ne.symm e1)] at hj
          rw [List.getElem?_set_ne (Ne.symm e2)] at hk'
          simp only [if_neg e1, if_neg e2] at e
          exact H.inj j k ds es hj hk' e
  rcases hk with hk | hk
  · refine wpAny_storeName_local hk hm₀ (fun h' hn sb => ?_) (by rw [O.kind]; rfl)
    have key := fun z1 z2 z3 => fin h' (s.toks + 1) env.locals sb (.inl rfl) (.inl rfl) z1 ⟨O.kind, O.globals, O.builtins, O.frame, O.head, ⟨_, hn⟩, z2⟩ (.inl ⟨hk, _, hn, by simp⟩) z3
    refine (fun k => h _ k.1 k.2) (key (fun o ho => ?_) (fun y hy => ?_) fun y u hyx hv' => ?_)
    · obtain ⟨o', es', ep', ho', hd', _⟩ := hn
      exact ⟨o', ho', fun vs q => (by rw [hd'] at q; cases q), fun _ _ _ => ⟨es', ep', hd'⟩⟩
    · obtain ⟨c, v', hc, hv'⟩ := O.cells y hy
      exact ⟨c, v', hc, hv'.sameBut sb (Ne.symm (dict_not_cell hm₀ hv'))⟩
    · rcases hv' with ⟨k, m', hm', e⟩ | ⟨k, c, hc, hv'⟩
      · refine .inl ⟨k, _, hn, ?_⟩
        rw [if_neg hyx, ns_agree hm₀ hm' y]; exact e
      · exact .inr ⟨k, c, hc, hv'.sameBut sb (Ne.symm (dict_not_cell hm₀ hv'))⟩
  · have hck : isCellK (env.kindOf x) = true := by rw [hk]; rfl
    obtain ⟨c, v₀, hc, hv₀⟩ := O.cells x hck
    refine wpAny_storeName_cell O.kind hk hc hv₀ fun h' hv' sb => ?_
    have key := fun z1 z2 z3 => fin h' s.toks c sb (.inr (.inl ⟨x, hck, hc⟩)) (.inr ⟨hck, hc⟩) z1 ⟨O.kind, O.globals, O.builtins, O.frame, O.head, ⟨_, hm₀.sameBut sb (dict_not_cell hm₀ hv₀)⟩, z2⟩ (.inr ⟨hck, c, hc, hv'⟩) z3
    refine (fun k => h _ k.1 k.2) (key (fun o ho => ?_) (fun y hy => ?_) fun y u hyx hvy => ?_)
    · obtain ⟨o', ho', hd'⟩ := hv'
      refine ⟨o', ho', fun vs q => (by rw [hd'] at q; cases q), fun es ep q => ?_⟩
      obtain ⟨o'', ho'', hd''⟩ := hv₀
      rw [ho] at ho''; cases ho''; rw [q] at hd''; cases hd''
    · obtain ⟨c', v', hc', hvy⟩ := O.cells y hy
      by_cases e : c' = c
      · subst e; exact ⟨_, _, hc', hv'⟩
      · exact ⟨c', v', hc', hvy.sameBut sb e⟩
    · rcases hvy with ⟨k, m', hm', e⟩ | ⟨k, c', hc', hvy⟩
      · exact .inl ⟨k, m', hm'.sameBut sb (dict_not_cell hm' hv₀), e⟩
      · exact .inr ⟨k, c', hc', hvy.sameBut sb fun e => hyx (H.ap y x c k hck (e ▸ hc') hc)⟩
end
end Mine
end
section
open PySem PySem.W PySem.Calls PyProof.Rows
namespace Mine
/-! which statements an S stands for -/
noncomputable def tgt (sc : Sc) (nm : List Str) (i : Nat) (t : Str) : Bool := nmIdx nm t == some i && (sc.lookup t == some .local || sc.lookup t == some .cell) && t != ("__debug__" : Str) && t != ("__classdict__" : Str)
noncomputable def isLC (e : Expr) : Bool := e.ctorIdx == 8 || e.ctorIdx == 9 || e.ctorIdx == 10
/-- no exchange of stores at this assignment -/
noncomputable def noSwap (sc : Sc) (t : Str) (v : Expr) : Bool := !isLC v || sc.lookup t == some .cell
noncomputable def isOwnX : X → Bool
  | .list _ => true
  | .bi .list _ => true
  | _ => false
noncomputable def isName (e : Expr) (sc : Sc) (k : Str) : Bool := atName (fun x _ => x == k && isGlob sc x) e
noncomputable def excStr (k : String) : Str := Str.ofString k
noncomputable def isFz (x : S) : Bool := x.ctorIdx == 9
noncomputable def atSome {α : Type} (q : α → Bool) : Option α → Bool
  | some a => q a
  | none => false
theorem atSome_inv {α : Type} {q : α → Bool} {o : Option α} (h : atSome q o = true) : ∃ a, o = some a ∧ q a = true := by
  cases o with
  | none => cases h
  | some a => exact ⟨a, rfl, h⟩
theorem cons_inv {α : Type} {l : List α} (h : (!l.isEmpty) = true) : ∃ a r, l = a :: r := by
  cases l with
  | nil => cases h
  | cons a r => exact ⟨a, r, rfl⟩
noncomputable def atStmtReturn (q : Option Expr → Pos → Bool) (e₀ : PySem.Stmt) : Bool := if h : e₀.ctorIdx = 3 then PySem.Stmt.Return.elim (motive_2 := fun _ => Bool) e₀ h q else false
theorem atStmtReturn_inv {q : Option Expr → Pos → Bool} {e₀ : PySem.Stmt} (h : atStmtReturn q e₀ = true) : ∃ o p, e₀ = .Return o p ∧ q o p = true := by
  unfold atStmtReturn at h
  split at h
  · rename_i hi
    revert h
    exact PySem.Stmt.Return.elim (motive_2 := fun t₀ => ∀ hi, PySem.Stmt.Return.elim (motive_2 := fun _ => Bool) t₀ hi q = true → ∃ o p, t₀ = .Return o p ∧ q o p = true) e₀ hi (fun o p _ h => ⟨o, p, rfl, h⟩) hi
  · cases h
noncomputable def atStmtAssign (q : List Expr → Expr → Pos → Bool) (e₀ : PySem.Stmt) : Bool := if h : e₀.ctorIdx = 5 then PySem.Stmt.Assign.elim (motive_2 := fun _ => Bool) e₀ h q else false
theorem atStmtAssign_inv {q : List Expr → Expr → Pos → Bool} {e₀ : PySem.Stmt} (h : atStmtAssign q e₀ = true) : ∃ ts v p, e₀ = .Assign ts v p ∧ q ts v p = true := by
  unfold atStmtAssign at h
  split at h
  · rename_i hi
    revert h
    exact PySem.Stmt.Assign.elim (motive_2 := fun t₀ => ∀ hi, PySem.Stmt.Assign.elim (motive_2 := fun _ => Bool) t₀ hi q = true → ∃ ts v p, t₀ = .Assign ts v p ∧ q ts v p = true) e₀ hi (fun ts v p _ h => ⟨ts, v, p, rfl, h⟩) hi
  · cases h
noncomputable def atStmtAugAssign (q : Expr → Operator → Expr → Pos → Bool) (e₀ : PySem.Stmt) : Bool := if h : e₀.ctorIdx = 7 then PySem.Stmt.AugAssign.elim (motive_2 := fun _ => Bool) e₀ h q else false
theorem atStmtAugAssign_inv {q : Expr → Operator → Expr → Pos → Bool} {e₀ : PySem.Stmt} (h : atStmtAugAssign q e₀ = true) : ∃ t op v p, e₀ = .AugAssign t op v p ∧ q t op v p = true := by
  unfold atStmtAugAssign at h
  split at h
  · rename_i hi
    revert h
    exact PySem.Stmt.AugAssign.elim (motive_2 := fun t₀ => ∀ hi, PySem.Stmt.AugAssign.elim (motive_2 := fun _ => Bool) t₀ hi q = true → ∃ t op v p, t₀ = .AugAssign t op v p ∧ q t op v p = true) e₀ hi (fun t op v p _ h => ⟨t, op, v, p, rfl, h⟩) hi
  · cases h
noncomputable def atStmtFor (q : Expr → Expr → List Stmt → List Stmt → Pos → Bool) (e₀ : PySem.Stmt) : Bool := if h : e₀.ctorIdx = 9 then PySem.Stmt.For.elim (motive_2 := fun _ => Bool) e₀ h q else false
theorem atStmtFor_inv {q : Expr → Expr → List Stmt → List Stmt → Pos → Bool} {e₀ : PySem.Stmt} (h : atStmtFor q e₀ = true) : ∃ t it b o p, e₀ = .For t it b o p ∧ q t it b o p = true := by
  unfold atStmtFor at h
  split at h
  · rename_i hi
    revert h
    exact PySem.Stmt.For.elim (motive_2 := fun t₀ => ∀ hi, PySem.Stmt.For.elim (motive_2 := fun _ => Bool) t₀ hi q = true → ∃ t it b o p, t₀ = .For t it b o p ∧ q t it b o p = true) e₀ hi (fun t it b o p _ h => ⟨t, it, b, o, p, rfl, h⟩) hi
  · cases h
noncomputable def atStmtWhile (q : Expr → List Stmt → List Stmt → Pos → Bool) (e₀ : PySem.Stmt) : Bool := if h : e₀.ctorIdx = 11 then PySem.Stmt.While.elim (motive_2 := fun _ => Bool) e₀ h q else false
theorem atStmtWhile_inv {q : Expr → List Stmt → List Stmt → Pos → Bool} {e₀ : PySem.Stmt} (h : atStmtWhile q e₀ = true) : ∃ t b o p, e₀ = .While t b o p ∧ q t b o p = true := by
  unfold atStmtWhile at h
  split at h
  · rename_i hi
    revert h
    exact PySem.Stmt.While.elim (motive_2 := fun t₀ => ∀ hi, PySem.Stmt.While.elim (motive_2 := fun _ => Bool) t₀ hi q = true → ∃ t b o p, t₀ = .While t b o p ∧ q t b o p = true) e₀ hi (fun t b o p _ h => ⟨t, b, o, p, rfl, h⟩) hi
  · cases h
noncomputable def atStmtIf (q : Expr → List Stmt → List Stmt → Pos → Bool) (e₀ : PySem.Stmt) : Bool := if h : e₀.ctorIdx = 12 then PySem.Stmt.If.elim (motive_2 := fun _ => Bool) e₀ h q else false
theorem atStmtIf_inv {q : Expr → List Stmt → List Stmt → Pos → Bool} {e₀ : PySem.Stmt} (h : atStmtIf q e₀ = true) : ∃ t b o p, e₀ = .If t b o p ∧ q t b o p = true := by
  unfold atStmtIf at h
  split at h
  · rename_i hi
    revert h
    exact PySem.Stmt.If.elim (motive_2 := fun t₀ => ∀ hi, PySem.Stmt.If.elim (motive_2 := fun _ => Bool) t₀ hi q = true → ∃ t b o p, t₀ = .If t b o p ∧ q t b o p = true) e₀ hi (fun t b o p _ h => ⟨t, b, o, p, rfl, h⟩) hi
  · cases h
noncomputable def atStmtTry (q : List Stmt → List ExceptHandler → List Stmt → List Stmt → Pos → Bool) (e₀ : PySem.Stmt) : Bool := if h : e₀.ctorIdx = 17 then PySem.Stmt.Try.elim (motive_2 := fun _ => Bool) e₀ h q else false
theorem atStmtTry_inv {q : List Stmt → List ExceptHandler → List Stmt → List Stmt → Pos → Bool} {e₀ : PySem.Stmt} (h : atStmtTry q e₀ = true) : ∃ b hs o f p, e₀ = .Try b hs o f p ∧ q b hs o f p = true := by
  unfold atStmtTry at h
  split at h
  · rename_i hi
    revert h
    exact PySem.Stmt.Try.elim (motive_2 := fun t₀ => ∀ hi, PySem.Stmt.Try.elim (motive_2 := fun _ => Bool) t₀ hi q = true → ∃ b hs o f p, t₀ = .Try b hs o f p ∧ q b hs o f p = true) e₀ hi (fun b hs o f p _ h => ⟨b, hs, o, f, p, rfl, h⟩) hi
  · cases h
noncomputable def atStmtExpr (q : Expr → Pos → Bool) (e₀ : PySem.Stmt) : Bool := if h : e₀.ctorIdx = 24 then PySem.Stmt.Expr.elim (motive_2 := fun _ => Bool) e₀ h q else false
theorem atStmtExpr_inv {q : Expr → Pos → Bool} {e₀ : PySem.Stmt} (h : atStmtExpr q e₀ = true) : ∃ e p, e₀ = .Expr e p ∧ q e p = true := by
  unfold atStmtExpr at h
  split at h
  · rename_i hi
    revert h
    exact PySem.Stmt.Expr.elim (motive_2 := fun t₀ => ∀ hi, PySem.Stmt.Expr.elim (motive_2 := fun _ => Bool) t₀ hi q = true → ∃ e p, t₀ = .Expr e p ∧ q e p = true) e₀ hi (fun e p _ h => ⟨e, p, rfl, h⟩) hi
  · cases h
noncomputable def atStmtBreak (q : Pos → Bool) (e₀ : PySem.Stmt) : Bool := if h : e₀.ctorIdx = 26 then PySem.Stmt.Break.elim (motive_2 := fun _ => Bool) e₀ h q else false
theorem atStmtBreak_inv {q : Pos → Bool} {e₀ : PySem.Stmt} (h : atStmtBreak q e₀ = true) : ∃ p, e₀ = .Break p ∧ q p = true := by
  unfold atStmtBreak at h
  split at h
  · rename_i hi
    revert h
    exact PySem.Stmt.Break.elim (motive_2 := fun t₀ => ∀ hi, PySem.Stmt.Break.elim (motive_2 := fun _ => Bool) t₀ hi q = true → ∃ p, t₀ = .Break p ∧ q p = true) e₀ hi (fun p _ h => ⟨p, rfl, h⟩) hi
  · cases h
noncomputable def atMeth (q : Str → Str → Pos → Expr → Pos → Bool) (e : Stmt) : Bool :=
  atStmtExpr (fun c _ => atCall (fun g as kw cpos => atAttribute (fun o name apos => atName (fun t _ => kw.isEmpty && at1 (fun e => q t name apos e cpos) as) o) g) c) e
theorem atMeth_inv {q : Str → Str → Pos → Expr → Pos → Bool} {e : Stmt} (h : atMeth q e = true) : ∃ t pt name apos e₀ cpos pos, e = .Expr (.Call (.Attribute (.Name t pt) name apos) [e₀] [] cpos) pos ∧ q t name apos e₀ cpos = true := by
  obtain ⟨c, pos, rfl, h⟩ := atStmtExpr_inv h
  obtain ⟨g, as, kw, cpos, rfl, h⟩ := atCall_inv h
  obtain ⟨o, name, apos, rfl, h⟩ := atAttribute_inv h
  obtain ⟨t, pt, rfl, h⟩ := atName_inv h
  have hk := andL h
  have h := andR h
  cases nil_inv hk
  obtain ⟨e₀, rfl, h⟩ := at1_inv h
  exact ⟨t, pt, name, apos, e₀, cpos, pos, rfl, h⟩
noncomputable def atSet (q : Str → Pos → Expr → Bool) (e : Stmt) : Bool := atStmtAssign (fun ts v _ => at1 (fun t₀ => atName (fun t p => q t p v) t₀) ts) e
theorem atSet_inv {q : Str → Pos → Expr → Bool} {e : Stmt} (h : atSet q e = true) : ∃ t p v pos, e = .Assign [.Name t p] v pos ∧ q t p v = true := by
  obtain ⟨ts, v, pos, rfl, h⟩ := atStmtAssign_inv h
  obtain ⟨t₀, rfl, h⟩ := at1_inv h
  obtain ⟨t, p, rfl, h⟩ := atName_inv h
  exact ⟨t, p, v, pos, rfl, h⟩
noncomputable def atPair (q : Str → Str → Bool) (e : Expr) : Bool := atTuple (fun es _ _ => at2 (fun a b => atName (fun t _ => atName (fun u _ => q t u) b) a) es) e
theorem atPair_inv {q : Str → Str → Bool} {e : Expr} (h : atPair q e = true) : ∃ t pt u pu k p, e = .Tuple [.Name t pt, .Name u pu] k p ∧ q t u = true := by
  obtain ⟨es, k, p, rfl, h⟩ := atTuple_inv h
  obtain ⟨a, b, rfl, h⟩ := at2_inv h
  obtain ⟨t, pt, rfl, h⟩ := atName_inv h
  obtain ⟨u, pu, rfl, h⟩ := atName_inv h
  exact ⟨t, pt, u, pu, k, p, rfl, h⟩
mutual
noncomputable def Ms (T : Tab) (sc : Sc) (nm : List Str) : S → Stmt → Bool
  | .assign i x, e₀ => atSet (fun t _ v => tgt sc nm i t && Mx T sc nm x v && plainE v && noSwap sc t v) e₀
  | .assignL i x, e₀ => atSet (fun t p v => atListComp (fun _ _ scope lp => tgt sc nm i t && Mx T sc nm x v && sc.lookup t == some .local && p.line == lp.line && !(scope.names.any fun (m, k) => m == t && (k == .local || k == .cell))) v) e₀
  | .own i x, e₀ => atSet (fun t _ v => tgt sc nm i t && isOwnX x && Mx T sc nm x v && plainE v && noSwap sc t v) e₀
  | .assign2 i j x, e₀ => atStmtAssign (fun ts v _ => at2 (fun a b => atName (fun t _ => atName (fun u _ => tgt sc nm i t && tgt sc nm j u && Mx T sc nm x v && plainE v && !isLC v) b) a) ts) e₀
  | .unpack2 i j x, e₀ => atStmtAssign (fun ts v _ => at1 (fun t₀ => atPair (fun t u => tgt sc nm i t && tgt sc nm j u && Mx T sc nm x v && plainE v && !isLC v && atCall (fun _ _ _ _ => true) v) t₀) ts) e₀
  | .aug i op x, e₀ => atStmtAugAssign (fun t₀ op' v _ => atName (fun t _ => tgt sc nm i t && decide (op = op') && Mx T sc nm x v && plainE v) t₀) e₀
  | .append i x, e₀ => atMeth (fun t name apos e cpos => tgt sc nm i t && name == ("append" : Str) && apos.endLine == cpos.line && Mx T sc nm x e && plainE e) e₀
  | .extend i x, e₀ => atMeth (fun t name apos e cpos => tgt sc nm i t && name == ("extend" : Str) && apos.endLine == cpos.line && Mx T sc nm x e && plainE e) e₀
  | .remove i x, e₀ => atMeth (fun t name apos e cpos => tgt sc nm i t && name == ("remove" : Str) && apos.endLine == cpos.line && Mx T sc nm x e && plainE e) e₀
  | .ret x, e₀ => atStmtReturn (fun o _ => atSome (fun e => Mx T sc nm x e && plainE e) o) e₀
  | .brk, e₀ => atStmtBreak (fun _ => true) e₀
  | .ite c a b, e₀ => atStmtIf (fun t body orelse _ => Mx T sc nm c t && Mss T sc nm a body && Mss T sc nm b orelse) e₀
  | .forX i src body orelse, e₀ => atStmtFor (fun t₀ iter b o _ => atName (fun t _ => tgt sc nm i t && Mx T sc nm src iter && plainE iter && Mss T sc nm body b && Mss T sc nm orelse o) t₀) e₀
  | .forR i a b c body orelse, e₀ => atStmtFor (fun t₀ iter bs o _ => atName (fun t _ => tgt sc nm i t && rangeE sc a b c iter && Mss T sc nm body bs && Mss T sc nm orelse o) t₀) e₀
  | .forT i j src body orelse, e₀ => atStmtFor (fun t₀ iter b o _ => atPair (fun t u => tgt sc nm i t && tgt sc nm j u && Mx T sc nm src iter && plainE iter && Mss T sc nm body b && Mss T sc nm orelse o) t₀) e₀
  | .forE i j src body orelse, e₀ => atStmtFor (fun t₀ it b o _ => atPair (fun t u => atCall (fun g as kw _ => atName (fun f _ => kw.isEmpty && at1 (fun iter => tgt sc nm i t && tgt sc nm j u && isGlob sc f && f == ("enumerate" : Str) && Mx T sc nm src iter && plainE iter && Mss T sc nm body b && Mss T sc nm orelse o) as) g) it) t₀) e₀
  | .while c body, e₀ => atStmtWhile (fun t b o _ => o.isEmpty && (Mx T sc nm c t && Mss T sc nm body b)) e₀
  | .tryE body k h, e₀ => atStmtTry (fun b hs o f _ => (o.isEmpty && f.isEmpty) && at1 (fun hd => match hd with
    | .ExceptHandler ty nm' hb _ => (nm'.isNone && !hb.isEmpty) && atSome (fun t => Mss T sc nm body b && isName t sc (excStr k) && Mss T sc nm h hb) ty) hs) e₀
  | .tryF body fin, e₀ => atStmtTry (fun b hs o f _ => (hs.isEmpty && o.isEmpty && !f.isEmpty) && (Mss T sc nm body b && Mss T sc nm fin f)) e₀
  | .freeze _, _ => false
termination_by structural x => x
noncomputable def Mss (T : Tab) (sc : Sc) (nm : List Str) : List S → List Stmt → Bool
  | [], es => es.isEmpty
  | s :: r, es => if isFz s then Mss T sc nm r es else (match es with
    | e :: es => Ms T sc nm s e && Mss T sc nm r es
    | [] => false)
termination_by structural x => x
end
section
variable (prog : Program) (w : World) (T : Tab) (base : Heap) (fzT : Fz) (n : Nat)
noncomputable def SoundS (md : Md) (x : S) : Prop :=
  ∀ {A : Around} {outer : List Env} {L : Addr} {env : Env} {nm : List Str} {σ : List SV} {ad : Nat → Addr} {fz : Fz} {s : Shared} (e : Stmt),
    Ms T env.scope.names nm x e = true → HereS base fzT md n A outer L env nm σ ad fz s → evS T x σ ≠ .bad →
    wpAny (model prog w) A (exec e env) (PostS base fzT md n A outer L env nm σ ad fz s (evS T x σ)) (PostX base fzT md n A outer L env nm σ ad fz s (evS T x σ)) s
noncomputable def SoundSs (md : Md) (xs : List S) : Prop :=
  ∀ {A : Around} {outer : List Env} {L : Addr} {env : Env} {nm : List Str} {σ : List SV} {ad : Nat → Addr} {fz : Fz} {s : Shared} (es : List Stmt),
    Mss T env.scope.names nm xs es = true → HereS base fzT md n A outer L env nm σ ad fz s → evSs T xs σ ≠ .bad →
    wpAny (model prog w) A (execs es env) (PostS base fzT md n A outer L env nm σ ad fz s (evSs T xs σ)) (PostX base fzT md n A outer L env nm σ ad fz s (evSs T xs σ)) s
end
section
variable {prog : Program} {w : World} {T : Tab} {base : Heap} {fzT : Fz} {n : Nat} {md : Md} {A : Around} {outer : List Env} {L : Addr} {env : Env} {nm : List Str} {σ : List SV} {ad : Nat → Addr} {fz : Fz} {s : Shared}
theorem tgt_is {sc : Sc} {i : Nat} {t : Str} (h : tgt sc nm i t = true) : nmIdx nm t = some i ∧ (sc.lookup t = some .local ∨ sc.lookup t = some .cell) ∧ (t == ("__debug__" : Str)) = false ∧ (t == ("__classdict__" : Str)) = false := by
  have h4 := andR h
  have h := andL h
  have h3 := andR h
  have h := andL h
  have h2 := andR h
  have h1 := andL h
  refine ⟨eq_of_beq h1, ?_, ne_beq h3, ne_beq h4⟩
  rcases Bool.or_eq_true_iff.mp h2 with q | q
  · exact .inl (eq_of_beq q)
  · exact .inr (eq_of_beq q)
/-- an expression in a statement: its value, or the statement raises -/
theorem useS {md' : Md} {x : X} {e : Expr} {o : Out} {K : Value → Shared → Prop} (hx : SoundX prog w T base fzT n md' x) (hmd : md' = md) (hm : Mx T env.scope.names nm x e = true) (H : HereS base fzT md n A outer L env nm σ ad fz s) (hb : ev T x σ ≠ .bad)
    (he : ∀ k, ev T x σ = .exc k → o = .exc k σ)
    (hK : ∀ d v fz₁ s₁, ev T x σ = .ok d → Rel (fsOf outer) fz s fz₁ s₁ → Rep fz₁ v d → K v s₁) :
    wpAny (model prog w) A (eval e env) K (PostX base fzT md n A outer L env nm σ ad fz s o) s := by
  subst hmd
  refine useV (hx e hm H.here hb) (fun kk v s' q h => ?_) hK
  rw [he kk q]
  obtain ⟨h', tk, ex, rfl, rfl, e1, e2⟩ := h
  have r : Rel (fsOf outer) fz s fz { s with heap := h', toks := tk } := ⟨h', tk, rfl, e1, FzExt.refl _ _, e1.fzIn H.here.fzin⟩
  refine ⟨ex, ad, fz, rfl, .of_rel H.live r, H.step r, excAt_hd e2, fun w => ?_⟩
  obtain ⟨o, ho⟩ := H.live ex w
  rw [e2.new] at ho; cases ho
theorem noSwap_is {t : Str} {p : Pos} {v : Expr} {line : Nat} (h : noSwap env.scope.names t v = true) : swapsWith v (some (.Name t p)) line env = pure false := by
  unfold noSwap at h
  rcases Bool.or_eq_true_iff.mp h with q | q
  · cases v <;> first | rfl | (cases q; done)
  · have hk : (env.kindOf t == some NameKind.local) = false := by
      show (env.scope.names.lookup t == some NameKind.local) = false
      rw [eq_of_beq q]; rfl
    unfold swapsWith
    cases v <;> first | rfl | (simp [hk]; done) | (simp [hk]; rfl)
theorem soundS_assign {i : Nat} {x : X} (hx : SoundX prog w T base fzT n md x) : SoundS prog w T base fzT n md (.assign i x) := by
  intro A outer L env nm σ ad fz s e hm H hbad
  obtain ⟨t, p, v, pos, rfl, hm⟩ := atSet_inv hm
  have h4 := andR hm
  have hm := andL hm
  have h3 := andR hm
  have hm := andL hm
  have h2 := andR hm
  have h1 := andL hm
  obtain ⟨t1, t2, t3, t4⟩ := tgt_is h1
  rw [evqS_assign] at hbad ⊢
  refine wpAny_Assign_Name (useS hx rfl h2 H (fun q => by rw [q] at hbad; exact hbad rfl) (fun k q => by rw [q]) fun d v fz₁ s₁ q r rep => ?_) (noSwap_is h4)
  rw [q]
  exact store_sv (a' := 0) (.of_rel H.live r) (H.step r) t1 t2 (.val rep) fun s' r' h' => ⟨rfl, _, fz₁, r', h'⟩
theorem soundS_ret {x : X} (hx : SoundX prog w T base fzT n md x) : SoundS prog w T base fzT n md (.ret x) := by
  intro A outer L env nm σ ad fz s e hm H hbad
  obtain ⟨o, pos, rfl, hm⟩ := atStmtReturn_inv hm
  obtain ⟨v, rfl, hm⟩ := atSome_inv hm
  have h2 := andR hm
  have h1 := andL hm
  rw [evqS_ret] at hbad ⊢
  refine wpAny_Return_some (useS hx rfl h1 H (fun q => by rw [q] at hbad; exact hbad rfl) (fun k q => by rw [q]) fun d v fz₁ s₁ q r rep => ?_)
  rw [q]
  exact ⟨v, σ, ad, fz₁, rfl, .of_rel H.live r, H.step r, rep⟩
theorem soundS_brk : SoundS prog w T base fzT n md .brk := by
  intro A outer L env nm σ ad fz s e hm H hbad
  obtain ⟨pos, rfl, hm⟩ := atStmtBreak_inv hm
  rw [evqS_brk]
  exact wpAny_Break ⟨rfl, ad, fz, .of_rel H.live (Rel.refl H.here.fzin), H⟩
theorem soundSs_nil : SoundSs prog w T base fzT n md [] := by
  intro A outer L env nm σ ad fz s es hm H hbad
  cases es with
  | cons e es => unfold Mss at hm; cases hm
  | nil =>
    rw [evqSs_nil]
    exact wpAny_execs_nil ⟨rfl, ad, fz, .of_rel H.live (Rel.refl H.here.fzin), H⟩
theorem finS {t : Sem Flow} {o : Out} {σ₁ : List SV} {ad₁ : Nat → Addr} {fz₁ : Fz} {s₁ : Shared} (x : RelS env (fsOf outer) σ ad fz s σ₁ ad₁ fz₁ s₁)
    (h : wpAny (model prog w) A t (PostS base fzT md n A outer L env nm σ₁ ad₁ fz₁ s₁ o) (PostX base fzT md n A outer L env nm σ₁ ad₁ fz₁ s₁ o) s₁) :
    wpAny (model prog w) A t (PostS base fzT md n A outer L env nm σ ad fz s o) (PostX base fzT md n A outer L env nm σ ad fz s o) s₁ :=
  wpAny_mono h (fun _ _ q => PostS.after x q) fun _ _ q => PostX.after x q
theorem freeze_step {i : Nat} {ds : List PyData} (H : HereS base fzT md n A outer L env nm σ ad fz s) (hi : σ[i]? = some (.own ds)) :
    ∃ fz', RelS env (fsOf outer) σ ad fz s (putV σ i (.list ds)) ad fz' s ∧ HereS base fzT md n A outer L env nm (putV σ i (.list ds)) ad fz' s := by
  obtain ⟨x, vs, hx, hv, hf, hz, ⟨k, hp⟩, hr⟩ := H.ownAt hi
  have hlt : i < σ.length := (List.getElem?_eq_some_iff.mp hi).1
  have le : FzLe fz (fzAdd fz (ad i) false vs) := fun b o e => by
    unfold fzAdd
    by_cases q : b = ad i
    · rw [q, hz] at e; cases e
    · rw [if_neg q]; exact e
  have sub : ∀ b, WrS env (putV σ i (.list ds)) ad b → WrS env σ ad b ∧ b ≠ ad i := by
    intro b hb
    have ne : ∀ b, (b = env.locals ∨ (∃ x, isCellK (env.kindOf x) = true ∧ env.cells.lookup x = some b)) → b ≠ ad i := by
      rintro b (rfl | ⟨y, hy, hc⟩) e
      · obtain ⟨m, hm⟩ := H.here.envok.ns
        exact seq_not_dict ⟨k, hp⟩ hm e.symm
      · obtain ⟨c, v, hc', hv'⟩ := H.here.envok.cells y hy
        rw [hc] at hc'; cases hc'
        exact seq_not_cell ⟨k, hp⟩ hv' e.symm
    rcases hb with q | q | ⟨j, es, hj, hb⟩
    · exact ⟨.inl q, ne b (.inl q)⟩
    · exact ⟨.inr (.inl q), ne b (.inr q)⟩
    · unfold putV at hj
      by_cases e : j = i
      · subst e; rw [List.getElem?_set_self hlt] at hj; cases hj
      · rw [List.getElem?_set_ne (Ne.symm e)] at hj
        exact ⟨.inr (.inr ⟨j, es, hj, hb⟩), fun q => e (H.inj j i es ds hj hi (hb.trans q))⟩
  refine ⟨fzAdd fz (ad i) false vs, ⟨⟨s.heap, s.toks, rfl⟩, ExtW.refl _ _ _, fun b hb => .inl (sub b hb).1, le, fun a h1 h2 => ?_, H.live⟩, ⟨H.here.sit, H.here.hi, H.here.envok, ?_, fzAdd_in H.here.fzin hp rfl rfl, H.here.fzle.trans le, H.here.hx, by simp [putV, H.here.len]⟩, H.ap, H.vars, ?_, H.lfs, fun b hb => H.nb b (sub b hb).1⟩
  · by_cases q : a = ad i
    · exact .inr (.inr (.inr ⟨i, ds, hi, q.symm⟩))
    · unfold fzAdd at h2; rw [if_neg q] at h2; exact absurd h1 h2
  · intro y j sv h1 h2 h3
    unfold putV at h3
    by_cases e : j = i
    · subst e
      rw [List.getElem?_set_self hlt] at h3
      cases h3
      have hy := nmIdx_get y nm j h1
      rw [hx] at hy; cases hy
      exact ⟨_, hv, .list (fzAdd_self ..) (hr.mono le)⟩
    · rw [List.getElem?_set_ne (Ne.symm e)] at h3
      have := H.here.inv y j sv h1 h2 h3
      cases sv with
      | un => trivial
      | val d => obtain ⟨u, a, b⟩ := this; exact ⟨u, a, b.mono le⟩
      | own es =>
        obtain ⟨a, b, c, us, d, r⟩ := this
        refine ⟨a, b, ?_, us, d, r.mono le⟩
        unfold fzAdd
        rw [if_neg fun q => e (H.inj j i es ds h3 hi q)]; exact c
  · intro j l es fs hj hl e
    unfold putV at hj hl
    by_cases e1 : j = i
    · subst e1; rw [List.getElem?_set_self hlt] at hj; cases hj
    · by_cases e2 : l = i
      · subst e2; rw [List.getElem?_set_self hlt] at hl; cases hl
      · rw [List.getElem?_set_ne (Ne.symm e1)] at hj
        rw [List.getElem?_set_ne (Ne.symm e2)] at hl
        exact H.inj j l es fs hj hl e
theorem soundSs_freeze {i : Nat} {r : List S} (hr : SoundSs prog w T base fzT n md r) : SoundSs prog w T base fzT n md (.freeze i :: r) := by
  intro A outer L env nm σ ad fz s es hm H hbad
  have hm' : Mss T env.scope.names nm r es = true := by
    unfold Mss at hm; exact hm
  cases hi : σ[i]? with
  | none => exact absurd (by rw [evqSs_cons, evqS_freeze, hi]) hbad
  | some sv =>
    cases sv with
    | un => exact absurd (by rw [evqSs_cons, evqS_freeze, hi]) hbad
    | val d => exact absurd (by rw [evqSs_cons, evqS_freeze, hi]) hbad
    | own ds =>
      have e : evSs T (.freeze i :: r) σ = evSs T r (putV σ i (.list ds)) := by rw [evqSs_cons, evqS_freeze, hi]
      rw [e] at hbad ⊢
      obtain ⟨fz', r', h'⟩ := freeze_step H hi
      exact finS r' (hr es hm' h' hbad)
theorem soundSs_cons {x : S} {r : List S} (hnf : ∀ i, x ≠ .freeze i) (hx : SoundS prog w T base fzT n md x) (hr : SoundSs prog w T base fzT n md r) : SoundSs prog w T base fzT n md (x :: r) := by
  intro A outer L env nm σ ad fz s es hm H hbad
  have hfz : isFz x = false := by
    cases hq : isFz x with
    | false => rfl
    | true => exact (S.freeze.elim (motive_1 := fun t => (∀ i, t ≠ .freeze i) → False) x (eq_of_beq hq) (fun i h => h i rfl) hnf).elim
  unfold Mss at hm
  rw [hfz] at hm
  cases es with
  | nil => cases hm
  | cons e es =>
    have hm' : Ms T env.scope.names nm x e = true ∧ Mss T env.scope.names nm r es = true := and3 hm
    rw [evqSs_cons] at hbad ⊢
    have hxb : evS T x σ ≠ .bad := by intro q; rw [q] at hbad; exact hbad rfl
    refine wpAny_execs_cons (wpAny_mono (hx e hm'.1 H hxb) (fun f s₁ g => ?_) fun v s₁ g => ?_)
    · cases q : evS T x σ with
      | next σ₁ =>
        rw [q] at g hbad
        obtain ⟨rfl, ad₁, fz₁, r₁, h₁⟩ := g
        exact finS r₁ (hr es hm'.2 h₁ hbad)
      | brk σ₁ => rw [q] at g; obtain ⟨rfl, g⟩ := g; exact ⟨rfl, g⟩
      | ret d => rw [q] at g; obtain ⟨u, σ', ad', fz', rfl, g⟩ := g; exact ⟨u, σ', ad', fz', rfl, g⟩
      | exc k σ₁ => rw [q] at g; exact g.elim
      | bad => rw [q] at g; exact g.elim
    · cases q : evS T x σ with
      | exc k σ₁ => rw [q] at g; exact g
      | next σ₁ => rw [q] at g; exact g.elim
      | brk σ₁ => rw [q] at g; exact g.elim
      | ret d => rw [q] at g; exact g.elim
      | bad => rw [q] at g; exact g.elim
theorem soundSs_pick {x : S} {r : List S} (hx : isFz x = false → SoundS prog w T base fzT n md x) (hr : SoundSs prog w T base fzT n md r) : SoundSs prog w T base fzT n md (x :: r) := by
  cases q : isFz x with
  | true => exact S.freeze.elim (motive_1 := fun t => SoundSs prog w T base fzT n md (t :: r)) x (eq_of_beq q) fun i => soundSs_freeze hr
  | false => exact soundSs_cons (fun i e => by subst e; cases q) (hx q) hr
theorem soundS_ite {c : X} {a b : List S} (hc : SoundB prog w T base fzT n md c) (ha : SoundSs prog w T base fzT n md a) (hb : SoundSs prog w T base fzT n md b) : SoundS prog w T base fzT n md (.ite c a b) := by
  intro A outer L env nm σ ad fz s e hm H hbad
  obtain ⟨t, body, orelse, pos, rfl, hm⟩ := atStmtIf_inv hm
  have h3 := andR hm
  have hm := andL hm
  have h2 := andR hm
  have h1 := andL hm
  rw [evqS_ite] at hbad ⊢
  refine wpAny_If (useB (hc _ h1 H.here (fun q => by rw [q] at hbad; exact hbad rfl) (fun d q z => by simp only [q, z] at hbad; exact hbad rfl)) (fun kk v s' q h => ?_) fun d t fz₁ s₁ q z r => ?_)
  · rw [q]
    obtain ⟨h', tk, ex, rfl, rfl, e1, e2⟩ := h
    have r : Rel (fsOf outer) fz s fz { s with heap := h', toks := tk } := ⟨h', tk, rfl, e1, FzExt.refl _ _, e1.fzIn H.here.fzin⟩
    refine ⟨ex, ad, fz, rfl, .of_rel H.live r, H.step r, excAt_hd e2, fun w => ?_⟩
    obtain ⟨o, ho⟩ := H.live ex w
    rw [e2.new] at ho; cases ho
  · simp only [q, z] at hbad ⊢
    cases t with
    | true => exact finS (.of_rel H.live r) (ha _ h2 (H.step r) hbad)
    | false => exact finS (.of_rel H.live r) (hb _ h3 (H.step r) hbad)
end
end Mine
end
section
open PySem PySem.W PySem.Calls PyProof.Rows
namespace Mine
section
variable {prog : Program} {w : World} {T : Tab} {base : Heap} {fzT : Fz} {n : Nat} {md : Md} {A : Around} {outer : List Env} {L : Addr} {env : Env} {nm : List Str} {σ : List SV} {ad : Nat → Addr} {fz : Fz} {s : Shared}
theorem own_upd {i : Nat} {ds ds' : List PyData} {vs' : List Value} {h' : Heap} {tk : Nat} {fz₀ : Fz} {s₀ : Shared} (R₀ : RelS env (fsOf outer) σ ad fz₀ s₀ σ ad fz s) (H : HereS base fzT md n A outer L env nm σ ad fz s) (hi : σ[i]? = some (.own ds))
    (sb : Heap.SameBut (ad i) s.heap h') (hp' : h'.PlainList (ad i) vs'.toArray) (hr' : RepAll fz vs' ds') :
    RelS env (fsOf outer) σ ad fz₀ s₀ (σ.set i (.own ds')) ad fz { s with heap := h', toks := tk } ∧ HereS base fzT md n A outer L env nm (σ.set i (.own ds')) ad fz { s with heap := h', toks := tk } := by
  obtain ⟨x, vs, hx, hv, hf, hz, ⟨k, hp⟩, hr⟩ := H.ownAt hi
  have hlt : i < σ.length := (List.getElem?_eq_some_iff.mp hi).1
  have wa : WrS env σ ad (ad i) := .inr (.inr ⟨i, ds, hi, rfl⟩)
  have O := H.here.envok
  have lne : env.locals ≠ ad i := by
    obtain ⟨m, hm⟩ := O.ns; exact fun e => seq_not_dict ⟨k, hp⟩ hm e.symm
  have cne : ∀ y c, isCellK (env.kindOf y) = true → env.cells.lookup y = some c → c ≠ ad i := fun y c hy hc e => by
    obtain ⟨c', v, hc', hv'⟩ := O.cells y hy
    rw [hc] at hc'; cases hc'
    exact seq_not_cell ⟨k, hp⟩ hv' e.symm
  have vk : ∀ y u, Var env s.heap y u → Var env h' y u := fun y u hv => hv.keep fun b o hb ho => by
    refine ⟨o, sb.extBut b o ?_ ho, rfl⟩
    rcases hb with ⟨_, rfl⟩ | ⟨q1, q2⟩
    · exact lne
    · exact cne y b q1 q2
  refine put_gen R₀ H sb wa (fun o ho => ?_) ⟨O.kind, O.globals, O.builtins, O.frame, O.head, O.ns.elim fun m hm => ⟨m, hm.sameBut sb lne⟩, fun y hy => ?_⟩ ?_ (fun b hb => ?_) ?_ (by simp [H.here.len])
  · obtain ⟨k', hk'⟩ := hp'
    refine ⟨_, hk', fun vs q => (by cases q), fun es ep q => ?_⟩
    rw [hp] at ho; cases ho; cases q
  · obtain ⟨c, v, hc, hv'⟩ := O.cells y hy
    exact ⟨c, v, hc, hv'.sameBut sb (cne y c hy hc)⟩
  · intro y j sv h1 h2 h3
    by_cases e : j = i
    · subst e
      rw [List.getElem?_set_self hlt] at h3
      cases h3
      have hy := nmIdx_get y nm j h1
      rw [hx] at hy; cases hy
      exact ⟨vk _ _ hv, hf, hz, vs', hp', hr'⟩
    · rw [List.getElem?_set_ne (Ne.symm e)] at h3
      have := H.here.inv y j sv h1 h2 h3
      cases sv with
      | un => trivial
      | val d => obtain ⟨u, a, b⟩ := this; exact ⟨u, vk _ _ a, b⟩
      | own es =>
        obtain ⟨a, b, c, us, d, r⟩ := this
        exact ⟨vk _ _ a, b, c, us, PlainList.but sb d fun q => e (H.inj j i es ds h3 hi q), r⟩
  · rcases hb with q | q | ⟨j, es, hj, hb⟩
    · exact .inl (.inl q)
    · exact .inl (.inr (.inl q))
    · by_cases e : j = i
      · subst e; exact .inl (.inr (.inr ⟨j, ds, hi, hb⟩))
      · rw [List.getElem?_set_ne (Ne.symm e)] at hj
        exact .inl (.inr (.inr ⟨j, es, hj, hb⟩))
  · intro j l es fs hj hl e
    have get : ∀ (m : Nat) gs, (σ.set i (SV.own ds'))[m]? = some (SV.own gs) → ∃ gs', σ[m]? = some (SV.own gs') := by
      intro m gs hm
      by_cases q : m = i
      · subst q; exact ⟨ds, hi⟩
      · rw [List.getElem?_set_ne (Ne.symm q)] at hm; exact ⟨gs, hm⟩
    obtain ⟨a, ha⟩ := get j es hj
    obtain ⟨b, hb⟩ := get l fs hl
    exact H.inj j l a b ha hb e
theorem not_interactive (H : EnvOK L outer env s.heap) : interactive env = false := by
  unfold interactive; rw [H.kind]; rfl
theorem load_own {M : Model} {E : Value → Shared → Prop} {i : Nat} {ds : List PyData} {x : Str} {p : Pos} {Q : Value → Shared → Prop} (H : HereS base fzT md n A outer L env nm σ ad fz s) (hi : σ[i]? = some (.own ds)) (ht : tgt env.scope.names nm i x = true) (h : Q (.ref (ad i)) s) :
    wpAny M A (eval (.Name x p) env) Q E s := by
  obtain ⟨t1, t2, t3, t4⟩ := tgt_is ht
  obtain ⟨y, vs, hy, hv, _⟩ := H.ownAt hi
  have := nmIdx_get x nm i t1
  rw [hy] at this; cases this
  exact wpAny_Name (load_var H.here.envok hv t4 h) t3
theorem soundS_append {i : Nat} {x : X} (hx : SoundX prog w T base fzT n md x) : SoundS prog w T base fzT n md (.append i x) := by
  intro A outer L env nm σ ad fz s e hm H hbad
  obtain ⟨t, pt, name, apos, e₀, cpos, pos, rfl, hm⟩ := atMeth_inv hm
  have h5 := andR hm
  have hm := andL hm
  have h4 := andR hm
  have hm := andL hm
  have h3 := andR hm
  have hm := andL hm
  have h2 := andR hm
  have h1 := andL hm
  cases (eq_of_beq h2)
  rw [evqS_append] at hbad ⊢
  cases hi : σ[i]? with
  | none => rw [hi] at hbad; exact absurd rfl hbad
  | some sv =>
    cases sv with
    | un => rw [hi] at hbad; exact absurd rfl hbad
    | val d => rw [hi] at hbad; exact absurd rfl hbad
    | own ds =>
      simp only [hi] at hbad ⊢
      have tr : backTo cpos (starEach [e₀] env) = [(false, eval e₀ env)] := by rw [plain_star h5]; rfl
      refine wpAny_Expr_any (wpAny_Call_append rfl (by rw [tr]; rfl) h3 tr (load_own H hi h1 ?_)) (not_interactive H.here.envok)
      obtain ⟨_, vs, _, _, _, _, ⟨k, hp⟩, hr⟩ := H.ownAt hi
      refine ⟨ad i, vs.toArray, rfl, ⟨_, k, hp, rfl, rfl, rfl⟩, ?_⟩
      refine useS hx rfl h4 H (fun q => by rw [q] at hbad; exact hbad rfl) (fun k q => by rw [q]) fun d v fz₁ s₁ q r rep => ?_
      rw [q] at hbad ⊢
      have H₁ := H.step r
      obtain ⟨_, vs₁, _, _, _, _, hp₁, hr₁⟩ := H₁.ownAt hi
      have hlen := hr₁.length
      by_cases hz : ds.length < 100000
      · simp only [if_pos hz]
        refine wpAny_list_append_plain hp₁ (fun h' hp' sb => ?_) (by simp only [List.size_toArray]; rw [sizeLine_eq]; omega)
        obtain ⟨a, b⟩ := own_upd (tk := s₁.toks) (vs' := vs₁ ++ [v]) (.of_rel H.live r) H₁ hi sb (by simpa using hp') (hr₁.append (.cons rep .nil))
        exact ⟨rfl, ad, fz₁, a, b⟩
      · simp only [if_neg hz] at hbad; exact absurd rfl hbad
theorem soundS_own_list {i : Nat} {es : List X} (hes : SoundL prog w T base fzT n md es) : SoundS prog w T base fzT n md (.own i (.list es)) := by
  intro A outer L env nm σ ad fz s e hm H hbad
  obtain ⟨t, pt, v, pos, rfl, hm⟩ := atSet_inv hm
  have h5 := andR hm
  have hm := andL hm
  have h4 := andR hm
  have hm := andL hm
  have h3 := andR hm
  have hm := andL hm
  have h2 := andR hm
  have h1 := andL hm
  obtain ⟨t1, t2, t3, t4⟩ := tgt_is h1
  rw [evqS_own, evq_list] at hbad ⊢
  obtain ⟨es', lpos, rfl, h3⟩ := atList_inv h3
  refine wpAny_Assign_Name (wpAny_List (useL (hes _ _ h3 H.here (fun q => by rw [q] at hbad; exact hbad rfl)) (fun kk v s' q h => ?_) fun ds vs fz₁ s₁ q r rep => ?_)) (noSwap_is h5)
  · rw [q]
    obtain ⟨h', tk, ex, rfl, rfl, e1, e2⟩ := h
    have r : Rel (fsOf outer) fz s fz { s with heap := h', toks := tk } := ⟨h', tk, rfl, e1, FzExt.refl _ _, e1.fzIn H.here.fzin⟩
    refine ⟨ex, ad, fz, rfl, .of_rel H.live r, H.step r, excAt_hd e2, fun w => ?_⟩
    obtain ⟨o, ho⟩ := H.live ex w
    rw [e2.new] at ho; cases ho
  · rw [q, Res.bind_ok] at hbad ⊢
    have hl := rep.length
    by_cases hz : ds.length ≤ 100000
    · simp only [if_pos hz]
      refine ⟨by rw [sizeLine_eq]; omega, ?_⟩
      have r2 : Rel (fsOf outer) fz₁ s₁ fz₁ { s₁ with heap := s₁.heap.push { cls := .type "list", data := .seq vs.toArray } } :=
        ⟨_, s₁.toks, rfl, Ext.of_keeps fun b o e => Heap.get?_push_of_some _ e, FzExt.refl _ _, (Ext.of_keeps (fs := []) fun b o e => Heap.get?_push_of_some _ e).fzIn r.fzin⟩
      have R := r.trans r2
      have new₁ : s₁.heap.get? s₁.heap.objs.size = none := size_none _ (Nat.le_refl _)
      have new₀ : s.heap.get? s₁.heap.objs.size = none := r.ext.none new₁
      have H₁ := H.step r
      refine store_sv (.of_rel H.live R) (H.step R) t1 t2 (.own rfl (fs_old H₁.here.hi new₁) (r.fzin.none new₁) ⟨0, Heap.get?_push_size _ rfl⟩ rep (fun w => ?_) new₀ ?_) fun s' r' h' => ⟨rfl, _, fz₁, r', h'⟩
      · obtain ⟨o, ho⟩ := H₁.live _ w; rw [new₁] at ho; cases ho
      · cases q : base.get? s₁.heap.objs.size with
        | none => rfl
        | some o => have := H₁.here.hi.stays _ _ q; rw [new₁] at this; cases this
    · simp only [if_neg hz] at hbad; exact absurd rfl hbad
end
end Mine
end
section
open PySem PySem.W PySem.Calls PyProof.Rows
namespace Mine
section
variable {prog : Program} {w : World} {T : Tab} {base : Heap} {fzT : Fz} {n : Nat} {md : Md} {A : Around} {outer : List Env} {L : Addr} {env : Env} {nm : List Str} {σ : List SV} {ad : Nat → Addr} {fz : Fz} {s : Shared}
theorem funFrames_weak2 {h h' base : Heap} : ∀ {l : List Env}, (∀ b o, b ∈ fsOf l → h.get? b = some o → (∀ vs, o.data ≠ .fields vs) → ∃ o', h'.get? b = some o' ∧ ∀ vs, o'.data ≠ .fields vs) → h.FunFrames base l → h'.FunFrames base l
  | [], _, _ => trivial
  | env :: rest, k, ⟨hk, ⟨L, o, hf, hn, ho, hd⟩, hr⟩ => by
    have e : fsOf (env :: rest) = L :: fsOf rest := by unfold fsOf; rw [List.filterMap_cons, hf]
    obtain ⟨o', ho', hd'⟩ := k L o (by rw [e]; exact .head _) ho hd
    exact ⟨hk, ⟨L, o', hf, hn, ho', hd'⟩, funFrames_weak2 (fun b o hb => k b o (by rw [e]; exact .tail _ hb)) hr⟩
/-- something elsewhere changes: neither the frame's places nor what is frozen -/
theorem HereS.other {W : Addr → Prop} {h' : Heap} {tk : Nat} (H : HereS base fzT md n A outer L env nm σ ad fz s) (e : ExtW W (fsOf outer) s.heap h') (h1 : ∀ b, W b → ¬ WrS env σ ad b) (h2 : ∀ b, W b → fz b = none) (h3 : ∀ b, W b → b ∉ fsOf outer) (h4 : ∀ b, W b → base.get? b = none)
    (h5 : md = .b → ∀ a, A.handled = some (.ref a) → ¬ W a) : HereS base fzT md n A outer L env nm σ ad fz { s with heap := h', toks := tk } := by
  have nw : ∀ b, WrS env σ ad b → ¬ W b := fun b hb hw => h1 b hw hb
  have O := H.here.envok
  have vk : ∀ y u, isVar (env.kindOf y) = true → Var env s.heap y u → Var env h' y u := by
    intro y u _ hv
    rcases hv with ⟨k, m, hm, q⟩ | ⟨k, c, hc, hv⟩
    · exact .inl ⟨k, m, e.ns (nw _ (.inl rfl)) hm, q⟩
    · exact .inr ⟨k, c, hc, e.isCell (nw _ (.inr (.inl ⟨y, k, hc⟩))) hv⟩
  refine ⟨⟨H.here.sit, ⟨fun b o q => ?_, ?_, fun b hb => ?_⟩, ⟨O.kind, O.globals, O.builtins, O.frame, O.head, O.ns.elim fun m hm => ⟨m, e.ns (nw _ (.inl rfl)) hm⟩, fun y hy => ?_⟩, ?_, e.fzIn h2 H.here.fzin, H.here.fzle, fun q => ?_, H.here.len⟩, H.ap, H.vars, H.inj, H.lfs, H.nb⟩
  · have hb : ¬ W b := fun hw => by rw [h4 b hw] at q; cases q
    refine e.get hb (fun hm => ?_) (H.here.hi.stays b o q)
    rw [(H.here.hi.frames.mem hm).1] at q; cases q
  · refine funFrames_weak2 ?_ H.here.hi.frames
    intro b o hb ho hnf
    obtain ⟨sl, q, _⟩ := e b o ho (fun hw => h3 b hw hb)
    exact ⟨_, q, hnf⟩
  · obtain ⟨o, es, ep, ho, hd⟩ := H.here.hi.dicts b hb
    obtain ⟨sl, q, _⟩ := e b o ho (fun hw => h3 b hw hb)
    exact ⟨_, es, ep, q, hd⟩
  · obtain ⟨c, v, hc, hv⟩ := O.cells y hy
    exact ⟨c, v, hc, e.isCell (nw _ (.inr (.inl ⟨y, hy, hc⟩))) hv⟩
  · intro y j sv q1 q2 q3
    have := H.here.inv y j sv q1 q2 q3
    cases sv with
    | un => trivial
    | val d => obtain ⟨u, a, b⟩ := this; exact ⟨u, vk _ _ q2 a, b⟩
    | own es =>
      obtain ⟨a, b, c, us, d, r⟩ := this
      exact ⟨vk _ _ q2 a, b, c, us, e.plain (nw _ (.inr (.inr ⟨j, es, q3, rfl⟩))) b d, r⟩
  · obtain ⟨a, o, vs, k1, k2, k3, k4⟩ := H.here.hx q
    obtain ⟨sl, z, _⟩ := e a o k2 (h5 q a k1)
    exact ⟨a, _, vs, k1, z, k3, k4⟩
theorem RelS.other {W : Addr → Prop} {σ₀ : List SV} {ad₀ : Nat → Addr} {fz₀ : Fz} {s₀ : Shared} {h' : Heap} {tk : Nat} (R : RelS env (fsOf outer) σ₀ ad₀ fz₀ s₀ σ ad fz s) (e : ExtW W (fsOf outer) s.heap h') (hw : ∀ b, W b → s₀.heap.get? b = none) (hlv : ∀ b, WrS env σ₀ ad₀ b → ¬ W b) :
    RelS env (fsOf outer) σ₀ ad₀ fz₀ s₀ σ ad fz { s with heap := h', toks := tk } := by
  refine ⟨?_, fun b o q hb => ?_, R.wr, R.le, R.new, fun b hb => ?_⟩
  · obtain ⟨h₀, t₀, z⟩ := R.same; exact ⟨h', tk, by rw [z]⟩
  · obtain ⟨sl, q1, q2⟩ := R.ext b o q hb
    obtain ⟨sl', q3, q4⟩ := e b _ q1 (fun hw' => by rw [hw b hw'] at q; cases q)
    exact ⟨sl', q3, fun hf => (q4 hf).trans (q2 hf)⟩
  · obtain ⟨o, ho⟩ := R.live b hb
    obtain ⟨sl, q, _⟩ := e b o ho (hlv b hb)
    exact ⟨_, q⟩
/-- an exception with an entry: its flight is fl -/
noncomputable def Fly (base : Heap) (fzT : Fz) (md : Md) (n : Nat) (A : Around) (outer : List Env) (L : Addr) (env : Env) (nm : List Str) (σ : List SV) (ad : Nat → Addr) (fz : Fz) (s : Shared) (k : String) (σ' : List SV) (fl : Value) (e : Addr) (s' : Shared) : Prop :=
  ∃ ad' fz' tb oe ot vs ts, RelS env (fsOf outer) σ ad fz s σ' ad' fz' s' ∧ HereS base fzT md n A outer L env nm σ' ad' fz' s' ∧ ¬ WrS env σ' ad' e ∧ s.heap.get? e = none ∧ s.heap.get? tb = none ∧ tb ≠ e ∧ ¬ WrS env σ' ad' tb ∧
    s'.heap.get? e = some oe ∧ oe.cls = .type (clsL k) ∧ oe.data = .fields vs ∧ (vs.size = 6 ∧ (hdOf A k = none → vs[2]? = some .none)) ∧ vs[1]? = some (.ref tb) ∧ s'.heap.get? tb = some ot ∧ ot.data = .fields ts ∧ ts[3]? = some fl
theorem rec_apart {h : Heap} {fz : Fz} {e : Addr} {oe : Obj} {vs : Array Value} (hf : FzIn fz h) (he : h.get? e = some oe) (hd : oe.data = .fields vs) : fz e = none := by
  cases q : fz e with
  | none => rfl
  | some p => obtain ⟨t, us⟩ := p; obtain ⟨o', k', ho', _, hd'⟩ := hf _ _ _ q; rw [he] at ho'; cases ho'; rw [hd] at hd'; cases hd'
theorem fly_set {E : Value → Shared → Prop} {k : String} {σ' : List SV} {fl : Value} {e : Addr} {s' : Shared} (fo : Option Addr) (H : HereS base fzT md n A outer L env nm σ ad fz s) (g : Fly base fzT md n A outer L env nm σ ad fz s k σ' fl e s') {A' : Around} :
    wpAny (model prog w) A' (setFlight (.ref e) fo) (fun _ s'' => Fly base fzT md n A outer L env nm σ ad fz s k σ' (fo.elim .none fun f => rawInt f) e s'') E s' := by
  obtain ⟨ad', fz', tb, oe, ot, vs, ts, R, H', we, en, tn, tne, wt, k1, k2, k3, k4, k5, k6, k7, k8⟩ := g
  unfold setFlight
  refine wpAny_bind (wpAny_field k1 k3 k5 ?_)
  rw [if_pos (show (Value.ref tb != Value.none) = true from by simp)]
  have h3 : 3 < ts.size := (Array.getElem?_eq_some_iff.mp k8).1
  refine wpAny_setField k6 k7 h3 ?_
  have hd2 := Obj.data_mapFields k7 (·.setIfInBounds 3 (fo.elim Value.none fun f => rawInt f))
  have ht2 := Heap.get?_update_self (Obj.mapFields (·.setIfInBounds 3 (fo.elim Value.none fun f => rawInt f))) k6 (Obj.isFreed_of_fields hd2)
  have ex2 : ExtW (fun b => b = tb) (fsOf outer) s'.heap (s'.heap.update tb (Obj.mapFields (·.setIfInBounds 3 (fo.elim Value.none fun f => rawInt f)))) := .of_but (Heap.SameBut.update ..) rfl
  have tfs : tb ∉ fsOf outer := fun hm => by
    obtain ⟨o', es, ep, ho', hd'⟩ := H.here.hi.dicts tb hm
    rw [tn] at ho'; cases ho'
  have tbase : base.get? tb = none := by
    cases q : base.get? tb with
    | none => rfl
    | some o' => have := H.here.hi.stays _ _ q; rw [tn] at this; cases this
  refine ⟨ad', fz', tb, oe, _, vs, _, R.other (tk := s'.toks) ex2 (fun b hb => hb ▸ tn) (fun b hb hw => by
      obtain ⟨o', ho'⟩ := H.live b hb
      rw [show b = tb from hw, tn] at ho'; cases ho'), H'.other (tk := s'.toks) ex2 (fun b hb => hb ▸ wt) (fun b hb => hb ▸ rec_apart H'.here.fzin k6 k7) (fun b hb => hb ▸ tfs) (fun b hb => hb ▸ tbase) (fun hmd a ha hw => by
        obtain ⟨a', o', us, q1, q2, _⟩ := H.here.hx hmd
        rw [ha] at q1; cases q1
        rw [show a = tb from hw, tn] at q2; cases q2), we, en, tn, tne, wt, ?_, k2, k3, k4, k5, ht2, hd2, ?_⟩
  · rw [Heap.get?_update_other _ _ tne]; exact k1
  · simp [h3]
theorem fly_back {k : String} {σ' : List SV} {e : Addr} {s' : Shared} (g : Fly base fzT md n A outer L env nm σ ad fz s k σ' (rawInt L) e s') : PostX base fzT md n A outer L env nm σ ad fz s (.exc k σ') (.ref e) s' := by
  obtain ⟨ad', fz', tb, oe, ot, vs, ts, R, H', we, en, tn, tne, wt, k1, k2, k3, k4, k5, k6, k7, k8⟩ := g
  exact ⟨e, ad', fz', rfl, R, H', ⟨en, oe, vs, k1, k2, k3, k4, .inr ⟨tb, ot, ts, k5, tn, tne, k6, k7, k8⟩⟩, we⟩
theorem exc_note {E : Value → Shared → Prop} {k : String} {σ' : List SV} {e : Addr} {s' : Shared} (H : HereS base fzT md n A outer L env nm σ ad fz s) (g : PostX base fzT md n A outer L env nm σ ad fz s (.exc k σ') (.ref e) s') :
    wpAny (model prog w) A (noteFrame (.ref e) env) (fun _ s'' => Fly base fzT md n A outer L env nm σ ad fz s k σ' (rawInt L) e s'') E s' := by
  obtain ⟨e', ad', fz', he', R, H', hx, hwe⟩ := g
  cases he'
  obtain ⟨hn, oe, vs, he, hc, hd, ⟨hsz, hcx⟩, hcase⟩ := hx
  have hL : env.frame = some L := H.here.envok.frame
  obtain ⟨fe, rest, hou, hfe⟩ := H.here.envok.head
  have hfr := H'.here.sit.frames
  have hfs : e ∉ fsOf outer := fun hm => by
    obtain ⟨o', es, ep, ho', hd'⟩ := H'.here.hi.dicts e hm
    rw [he] at ho'; cases ho'; rw [hd] at hd'; cases hd'
  have hbe : base.get? e = none := by
    cases q : base.get? e with
    | none => rfl
    | some o' => have := H.here.hi.stays _ _ q; rw [hn] at this; cases this
  rcases hcase with h1 | ⟨tb, ot, ts, h1, tn, tne, ht, hdt, h3⟩
  · unfold noteFrame
    simp only [hL]
    refine wpAny_bind (wpAny_field he hd h1 ?_)
    rw [if_neg (by decide)]
    have hfr' : A.frames = some (fe :: rest) := by rw [hfr, hou]
    have hff : s'.heap.FunFrames base (fe :: rest) := by have := H'.here.hi.frames; rw [hou] at this; exact this
    have hfo : PySem.frameOf env = PySem.frameOf fe := by unfold PySem.frameOf; rw [hL, hfe]
    rw [hfo]
    refine wpAny_bind (wpAny_frameOf_fun hfr' hff hfe fun h₁ hs₁ => ?_)
    refine wpAny_bind (wpAny_entryPlaceOf fun pl hpl => ?_)
    unfold EntryCells.newEntry newFields
    refine wpAny_bind (wpAny_newObj_type ?_ (hpl.sizeOk5 _ _ _ _ _))
    have es₁ : Ext (fsOf outer) s'.heap h₁ := by
      have := Ext.slotsOnly hs₁
      rw [show fsOf outer = (fe :: rest).filterMap (·.frame) from by rw [hou]; rfl]; exact this
    have he₁ : h₁.get? e = some oe := es₁.get hfs he
    generalize hob : ({ cls := .type "traceback", dict := none, data := .fields ([Value.none, .ref L, .none, rawInt L, .none] ++ (if pl.isEmpty then List.replicate 6 Value.none else pl)).toArray } : Obj) = ob
    have he₂ := Heap.get?_push_of_some (h := h₁) ob he₁
    refine wpAny_setField he₂ hd (by omega) ?_
    have hTe : h₁.objs.size ≠ e := Nat.ne_of_gt (Heap.lt_size he₁)
    have Tn' : h₁.get? h₁.objs.size = none := size_none _ (Nat.le_refl _)
    have Tn1 : s'.heap.get? h₁.objs.size = none := es₁.none Tn'
    have Tn : s.heap.get? h₁.objs.size = none := by
      cases q : s.heap.get? h₁.objs.size with
      | none => rfl
      | some o' =>
        by_cases hw : WrS env σ ad h₁.objs.size
        · obtain ⟨o2, ho2⟩ := R.live _ hw; rw [Tn1] at ho2; cases ho2
        · obtain ⟨sl, q2, _⟩ := R.ext _ o' q hw; rw [Tn1] at q2; cases q2
    have hd₃ := Obj.data_mapFields hd (·.setIfInBounds 1 (Value.ref h₁.objs.size))
    have he₃ := Heap.get?_update_self (Obj.mapFields (·.setIfInBounds 1 (Value.ref h₁.objs.size))) he₂ (Obj.isFreed_of_fields hd₃)
    have hT₂ : (h₁.push ob).get? h₁.objs.size = some ob := Heap.get?_push_size _ (by rw [← hob]; rfl)
    have hT₃ : ((h₁.push ob).update e (Obj.mapFields (·.setIfInBounds 1 (Value.ref h₁.objs.size)))).get? h₁.objs.size = some ob := by
      rw [Heap.get?_update_other _ _ (Ne.symm hTe)]; exact hT₂
    have ex3 : ExtW (fun b => b = e) (fsOf outer) s'.heap ((h₁.push ob).update e (Obj.mapFields (·.setIfInBounds 1 (Value.ref h₁.objs.size)))) :=
      ((ExtW.of_ext es₁).trans (.of_ext (Ext.of_keeps fun b o' q => Heap.get?_push_of_some _ q))).trans (.of_but (Heap.SameBut.update ..) rfl)
    refine ⟨ad', fz', h₁.objs.size, _, ob, _, _, R.other (tk := s'.toks) ex3 (fun b hb => hb ▸ hn) (fun b hb hw => by
        obtain ⟨o', ho'⟩ := H.live b hb
        rw [show b = e from hw, hn] at ho'; cases ho'), H'.other (tk := s'.toks) ex3 (fun b hb => hb ▸ hwe) (fun b hb => hb ▸ rec_apart H'.here.fzin he hd) (fun b hb => hb ▸ hfs) (fun b hb => hb ▸ hbe) (fun hmd a ha hw => by
          obtain ⟨a', o', us, q1, q2, _⟩ := H.here.hx hmd
          rw [ha] at q1; cases q1
          rw [show a = e from hw, hn] at q2; cases q2), hwe, hn, Tn, hTe, (fun hw => by obtain ⟨o2, ho2⟩ := H'.live _ hw; rw [Tn1] at ho2; cases ho2), he₃, (Obj.cls_mapFields _ _).trans hc, hd₃, ⟨by simp [hsz], fun z => by have := hcx z; simpa using this⟩, by simp [hsz], hT₃, (by rw [← hob]), by simp⟩
  · refine wpAny_noteFrame_inFlight hL he hd h1 ht hdt h3 ?_
    exact ⟨ad', fz', tb, oe, ot, vs, ts, R, H', hwe, hn, tn, tne, fun hw => H'.kinds hw ot ht ts hdt, he, hc, hd, ⟨hsz, hcx⟩, h1, ht, hdt, h3⟩
/-- an exception goes through a loop of its own frame -/
theorem exc_pass {o : Out} {x : Value} {s' : Shared} (H : HereS base fzT md n A outer L env nm σ ad fz s) (g : PostX base fzT md n A outer L env nm σ ad fz s o x s') :
    notedBy (model prog w) A env (cameBackBy (model prog w) A env (PostX base fzT md n A outer L env nm σ ad fz s o)) x s' := by
  cases o with
  | next σ' => exact g.elim
  | brk σ' => exact g.elim
  | ret d => exact g.elim
  | bad => exact g.elim
  | exc k σ' =>
    obtain ⟨ee, _, _, rfl, _⟩ := id g
    unfold notedBy
    refine wpAny_mono (exc_note H g) (fun _ s₂ fl => ?_) fun _ _ f => f
    unfold cameBackBy
    obtain ⟨_, _, _, _, _, _, _, _, _, _, _, _, _, _, j1, _, j3, _, j5, _⟩ := id fl
    refine wpAny_bind (wpAny_field j1 j3 j5 ?_)
    rw [if_neg (by simp), H.here.envok.frame]
    exact wpAny_mono (fly_set (E := fun _ _ => False) (some L) H fl) (fun _ s₃ fl => fly_back fl) fun _ _ f => f.elim
/-- a loop's turn: what comes of it -/
noncomputable def turnOut (o : Out) (next : List SV → Out) : Out := match o with
  | .next σ₂ => next σ₂
  | .brk σ₂ => .next σ₂
  | .ret v => .ret v
  | .exc k σ₂ => .exc k σ₂
  | .bad => .bad
theorem turn_end {md : Md} {A' : Around} {t : Sem Flow} {o out : Out} {next : List SV → Out} {σ₁ : List SV} {ad₁ : Nat → Addr} {fz₁ : Fz} {s₁ s₂ : Shared} (hgo : turnOut o next = out) (hbad : out ≠ .bad) (H : HereS base fzT md n A outer L env nm σ ad fz s)
    (R : RelS env (fsOf outer) σ ad fz s σ₁ ad₁ fz₁ s₁) (h : o ≠ .bad → wpAny (model prog w) A' t (PostS base fzT md n A outer L env nm σ₁ ad₁ fz₁ s₁ o) (PostX base fzT md n A outer L env nm σ₁ ad₁ fz₁ s₁ o) s₂) {K : Flow → Shared → Prop}
    (hn : ∀ σ₂ ad₂ fz₂ s', next σ₂ = out → RelS env (fsOf outer) σ₁ ad₁ fz₁ s₁ σ₂ ad₂ fz₂ s' → HereS base fzT md n A outer L env nm σ₂ ad₂ fz₂ s' → K .next s')
    (hb : ∀ s', PostS base fzT md n A outer L env nm σ ad fz s out .next s' → K .brk s') (hr : ∀ v s', PostS base fzT md n A outer L env nm σ ad fz s out (.ret v) s' → K (.ret v) s') :
    wpAny (model prog w) A' t K (fun x s' => notedBy (model prog w) A env (cameBackBy (model prog w) A env (PostX base fzT md n A outer L env nm σ ad fz s out)) x s') s₂ := by
  subst hgo
  cases o with
  | bad => exact absurd rfl hbad
  | next σ₂ =>
    refine wpAny_mono (h (fun q => by cases q)) (fun f s' g => ?_) fun _ _ g => g.elim
    obtain ⟨rfl, ad₂, fz₂, r, q⟩ := g
    exact hn σ₂ ad₂ fz₂ s' rfl r q
  | brk σ₂ =>
    refine wpAny_mono (h (fun q => by cases q)) (fun f s' g => ?_) fun _ _ g => g.elim
    obtain ⟨rfl, ad₂, fz₂, r, q⟩ := g
    exact hb s' ⟨rfl, ad₂, fz₂, R.trans r, q⟩
  | ret d =>
    refine wpAny_mono (h (fun q => by cases q)) (fun f s' g => ?_) fun _ _ g => g.elim
    obtain ⟨v, σ₂, ad₂, fz₂, rfl, r, q, rep⟩ := g
    exact hr v s' ⟨v, σ₂, ad₂, fz₂, rfl, R.trans r, q, rep⟩
  | exc k σ₂ =>
    exact wpAny_mono (h (fun q => by cases q)) (fun _ _ g => g.elim) fun _ _ g => exc_pass H (PostX.after R g)
end
end Mine
end
section
open PySem PySem.W PySem.Calls PyProof.Rows
namespace Mine
section
variable {prog : Program} {w : World} {T : Tab} {base : Heap} {fzT : Fz} {n : Nat} {md : Md} {A : Around} {outer : List Env} {L : Addr} {env : Env} {nm : List Str} {σ : List SV} {ad : Nat → Addr} {fz : Fz} {s₀ : Shared} {mg mb : Str → Option Value}
theorem RelS.refl {s : Shared} (H : HereS base fzT md n A outer L env nm σ ad fz s) : RelS env (fsOf outer) σ ad fz s σ ad fz s := .of_rel H.live (Rel.refl H.here.fzin)
/-- the iterator's own places stay apart from the frame's -/
structure Apart (env : Env) (wr : List Addr) (σ : List SV) (ad : Nat → Addr) (fz : Fz) : Prop where
  w : ∀ b ∈ wr, ¬ WrS env σ ad b
  z : ∀ b ∈ wr, fz b = none
theorem Apart.step {wr : List Addr} {σ' : List SV} {ad' : Nat → Addr} {fz' : Fz} {s s' : Shared} (P : Apart env wr σ ad fz) (ex : ∀ b ∈ wr, ∃ o, s.heap.get? b = some o) (R : RelS env (fsOf outer) σ ad fz s σ' ad' fz' s') : Apart env wr σ' ad' fz' := by
  refine ⟨fun b hb hw => ?_, fun b hb => ?_⟩
  · rcases R.wr b hw with q | q
    · exact P.w b hb q
    · obtain ⟨o, ho⟩ := ex b hb; rw [q] at ho; cases ho
  · cases q : fz' b with
    | none => rfl
    | some p =>
      rcases R.new b (P.z b hb) (by rw [q]; intro z; cases z) with z | z
      · obtain ⟨o, ho⟩ := ex b hb; rw [z] at ho; cases ho
      · exact absurd z (P.w b hb)
theorem for_sound {t : Str} {pt : Pos} {i : Nat} {body orelse : List S} {b o : List Stmt} {ds : List PyData} {it : Value} {s₂ : Shared}
    (H : HereS base fzT .a n A outer L env nm σ ad fz s₀) (ht : tgt env.scope.names nm i t = true) (hb : SoundSs prog w T base fzT n .a body) (ho : SoundSs prog w T base fzT n .a orelse)
    (mb : Mss T env.scope.names nm body b = true) (mo : Mss T env.scope.names nm orelse o = true) (g : IterAt prog w A (fsOf outer) fz ds s₀ it s₂)
    (hbad : loopGo (fun σ d => some (putV σ i d)) (fun σ => evSs T body σ) (fun σ => evSs T orelse σ) ds σ ≠ .bad) :
    codeAny (model prog w) A (.forLoop (.Name t pt) it b o env) (fun r s' => match r with
      | .ok f => PostS base fzT .a n A outer L env nm σ ad fz s₀ (loopGo (fun σ d => some (putV σ i d)) (fun σ => evSs T body σ) (fun σ => evSs T orelse σ) ds σ) f s'
      | .error e => cameBackBy (model prog w) A env (PostX base fzT .a n A outer L env nm σ ad fz s₀ (loopGo (fun σ d => some (putV σ i d)) (fun σ => evSs T body σ) (fun σ => evSs T orelse σ) ds σ)) e s') s₂ := by
  obtain ⟨hb', tk, I, fp, wr, P, St, rfl, kp, rfl, It⟩ := g
  obtain ⟨t1, t2, t3, t4⟩ := tgt_is ht
  generalize hout : loopGo (fun σ d => some (putV σ i d)) (fun σ => evSs T body σ) (fun σ => evSs T orelse σ) ds σ = out at hbad ⊢
  have fpfs : ∀ b ∈ fp, b ∉ fsOf outer := fun b hb => (It.fpo b hb).1
  have wfs : ∀ b ∈ wr, b ∉ fsOf outer := fun b hb => fpfs b (It.walks.sub b hb)
  have wbase : ∀ b ∈ wr, base.get? b = none := fun b hb => by
    cases q : base.get? b with
    | none => rfl
    | some o => have := H.here.hi.stays _ _ q; rw [It.new b hb] at this; cases this
  -- a move of the iterator
  have move : ∀ {σ' : List SV} {ad' : Nat → Addr} {fz' : Fz} {s' : Shared} {h₂ : Heap} {tk₂ : Nat}, RelS env (fsOf outer) σ ad fz s₀ σ' ad' fz' s' → HereS base fzT .a n A outer L env nm σ' ad' fz' s' → Apart env wr σ' ad' fz' →
      (∀ b o, b ∉ wr → s'.heap.get? b = some o → h₂.get? b = some o) → RelS env (fsOf outer) σ ad fz s₀ σ' ad' fz' { s' with heap := h₂, toks := tk₂ } ∧ HereS base fzT .a n A outer L env nm σ' ad' fz' { s' with heap := h₂, toks := tk₂ } := by
    intro σ' ad' fz' s' h₂ tk₂ R' H' Pt mv
    have e : ExtW (fun b => b ∈ wr) (fsOf outer) s'.heap h₂ := .of_moved mv fun b hb => hb
    exact ⟨R'.other e (fun b hb => It.new b hb) (fun b hb hw => by obtain ⟨o, ho⟩ := H.live b hb; rw [It.new b hw] at ho; cases ho), H'.other e Pt.w Pt.z wfs wbase fun q => by cases q⟩
  refine codeAny_forLoop (fun m s' => ∃ j σ' ad' fz', RelS env (fsOf outer) σ ad fz s₀ σ' ad' fz' s' ∧ HereS base fzT .a n A outer L env nm σ' ad' fz' s' ∧ St j s'.heap ∧ Apart env wr σ' ad' fz' ∧ j ≤ ds.length ∧ m = ds.length + 1 - j ∧
    loopGo (fun σ d => some (putV σ i d)) (fun σ => evSs T body σ) (fun σ => evSs T orelse σ) (ds.drop j) σ' = out) ?_ (ds.length + 1) ?_
  · rintro m s' ⟨j, σ', ad', fz', R', H', st, Pt, hj, rfl, hgo⟩
    by_cases hlt : j < ds.length
    · obtain ⟨d, hd⟩ : ∃ d, ds[j]? = some d := ⟨_, List.getElem?_eq_getElem hlt⟩
      have hdr : ds.drop j = d :: ds.drop (j + 1) := by
        rw [List.drop_eq_getElem_cons hlt]; rw [List.getElem?_eq_getElem hlt] at hd; cases hd; rfl
      rw [hdr] at hgo
      have hgo : turnOut (evSs T body (putV σ' i d)) (loopGo (fun σ d => some (putV σ i d)) (fun σ => evSs T body σ) (fun σ => evSs T orelse σ) (ds.drop (j + 1))) = out := hgo
      refine It.walks.item j s' _ _ hlt st fun v h₂ tk₂ hP st₂ mv => ?_
      obtain ⟨R₂, H₂⟩ := move (tk₂ := tk₂) R' H' Pt mv
      refine wpAny_assign_Name (store_sv (a' := 0) (RelS.refl H₂) H₂ t1 t2 (.val ((It.item j v d hP hd).mono R'.le)) fun s₃ R₃ H₃ => ?_)
      have fpk : ∀ b ∈ fp, ¬ WrS env σ' ad' b := fun b hb hw => by
        rcases (It.fpo b hb).2.1 with q | q
        · exact Pt.w b q hw
        · cases z : fz b with
          | none => exact q z
          | some p => have := R'.le b p z; rw [H'.frozen b hw] at this; cases this
      have st₃ : St (j + 1) s₃.heap := It.walks.frame _ _ _ st₂ fun b hb o ho => R₃.ext.get (fpk b hb) (fpfs b hb) ho
      have Pt₃ : Apart env wr (σ'.set i (.val d)) _ fz' := Pt.step (It.ex _ _ st₂) R₃
      refine turn_end hgo hbad H (R₂.trans R₃) (hb b mb H₃) (fun σ₄ ad₄ fz₄ s₄ hgo R₄ H₄ => ?_) (fun s₄ k => k) fun v s₄ k => k
      have fpk₃ : ∀ b ∈ fp, ¬ WrS env (σ'.set i (.val d)) _ b := fun b hb hw => by
        rcases R₃.wr b hw with z | z
        · exact fpk b hb z
        · rcases (It.fpo b hb).2.1 with q | q
          · obtain ⟨o, ho⟩ := It.ex _ _ st₂ b q; rw [z] at ho; cases ho
          · cases z' : fz b with
            | none => exact q z'
            | some p => have := R'.le b p z'; rw [H₃.frozen b hw] at this; cases this
      exact ⟨ds.length + 1 - (j + 1), by omega, j + 1, σ₄, ad₄, fz₄, (R₂.trans R₃).trans R₄, H₄, It.walks.frame _ _ _ st₃ fun b hb o ho => R₄.ext.get (fpk₃ b hb) (fpfs b hb) ho, Pt₃.step (It.ex _ _ st₃) R₄, hlt, rfl, hgo⟩
    · have hjn : j = ds.length := by omega
      subst hjn
      rw [List.drop_of_length_le (Nat.le_refl _)] at hgo
      unfold loopGo at hgo
      refine It.walks.done s' _ _ st fun h₂ tk₂ mv => ?_
      obtain ⟨R₂, H₂⟩ := move (tk₂ := tk₂) R' H' Pt mv
      rw [← hgo] at hbad ⊢
      refine wpAny_mono (ho o mo H₂ hbad) (fun f s₃ k => PostS.after R₂ k) fun x s₃ k => exc_pass H (PostX.after R₂ k)
  · have k0 : Rel (fsOf outer) fz s₀ fz { s₀ with heap := hb', toks := tk } := ⟨hb', tk, rfl, Ext.of_keeps kp, FzExt.refl _ _, (Ext.of_keeps (fs := []) kp).fzIn H.here.fzin⟩
    refine ⟨0, σ, ad, fz, .of_rel H.live k0, H.step k0, It.st, ⟨fun b hb hw => ?_, fun b hb => H.here.fzin.none (It.new b hb)⟩, Nat.zero_le _, rfl, by simpa using hout⟩
    obtain ⟨o, ho⟩ := H.live b hw; rw [It.new b hb] at ho; cases ho
theorem soundS_forX {i : Nat} {src : X} {body orelse : List S} (hs : SoundX prog w T base fzT n .a src) (hb : SoundSs prog w T base fzT n .a body) (ho : SoundSs prog w T base fzT n .a orelse) : SoundS prog w T base fzT n .a (.forX i src body orelse) := by
  intro A outer L env nm σ ad fz s e hm H hbad
  obtain ⟨t₀, iter, bs, os, pos, rfl, hm⟩ := atStmtFor_inv hm
  obtain ⟨t, pt, rfl, hm⟩ := atName_inv hm
  have h5 := andR hm
  have hm := andL hm
  have h4 := andR hm
  have hm := andL hm
  have h3 := andR hm
  have hm := andL hm
  have h2 := andR hm
  have h1 := andL hm
  rw [evqS_forX] at hbad ⊢
  refine wpAny_For (useS hs rfl h2 H (fun q => by rw [q] at hbad; exact hbad rfl) (fun k q => by rw [q]) fun d v fz₁ s₁ q r rep => ?_) (plain_set h3)
  rw [q] at hbad ⊢
  have H₁ := H.step r
  cases z : itemsOf d with
  | none => simp only [z] at hbad; exact absurd trivial (by simpa using hbad)
  | some ds =>
    simp only [z] at hbad ⊢
    refine wpAny_mono (iter_good (E := fun _ _ => False) (H₁.here.sit.handled rfl) H₁.here.hi H₁.here.fzin rep z) (fun it s₂ g => ?_) fun _ _ f => f.elim
    refine codeAny_mono (for_sound H₁ h1 hb ho h4 h5 g hbad) fun rr s' k => ?_
    cases rr with
    | ok f => exact PostS.after (.of_rel H.live r) k
    | error x => exact wpAny_mono k (fun _ _ k => PostX.after (.of_rel H.live r) k) fun _ _ k => PostX.after (.of_rel H.live r) k
theorem soundS_forR (G : GOK prog w T base fzT mg mb n) {i : Nat} {a b c : Int} {body orelse : List S} (hb : SoundSs prog w T base fzT n .a body) (ho : SoundSs prog w T base fzT n .a orelse) : SoundS prog w T base fzT n .a (.forR i a b c body orelse) := by
  intro A outer L env nm σ ad fz s e hm H hbad
  obtain ⟨t₀, iter, bs, os, pos, rfl, hm⟩ := atStmtFor_inv hm
  obtain ⟨t, pt, rfl, hm⟩ := atName_inv hm
  have h5 := andR hm
  have hm := andL hm
  have h4 := andR hm
  have hm := andL hm
  have h2 := andR hm
  have h1 := andL hm
  rw [evqS_forR] at hbad ⊢
  by_cases hr : rangeOk a b c = true
  · rw [if_pos hr] at hbad ⊢
    have hk := hr
    unfold rangeOk at hk
    have k4 := andR hk
    have hk := andL hk
    have k3 := andR hk
    have hk := andL hk
    have k2 := andR hk
    have k1 := andL hk
    have k2' := andR k2
    have k2 := andL k2
    have hp : ∀ x, foldedSetIterable iter env x = pure x := range_set h2
    refine wpAny_For (wpAny_mono (range_good (E := fun _ _ => False) G H.here.hi H.here.envok h2 (of_decide_eq_true k2) (of_decide_eq_true k2')) (fun v s₁ g => ?_) fun _ _ f => f.elim) hp
    refine wpAny_mono (iter_range (E := fun _ _ => False) (fz := fz) (H.here.sit.handled rfl) H.here.hi hr g) (fun it s₂ g => ?_) fun _ _ f => f.elim
    exact for_sound H h1 hb ho h4 h5 g hbad
  · rw [if_neg hr] at hbad; exact absurd rfl hbad
end
end Mine
end
section
open PySem PySem.W PySem.Calls PyProof.Rows
namespace Mine
section
variable {prog : Program} {w : World} {T : Tab} {base : Heap} {fzT : Fz} {n : Nat} {md : Md} {A : Around} {outer : List Env} {L : Addr} {env : Env} {nm : List Str} {σ : List SV} {ad : Nat → Addr} {fz : Fz} {mg mb : Str → Option Value}
/-- an exception of an expression is one of its statement -/
theorem bad_postX {s s' : Shared} {k : String} {v : Value} (H : HereS base fzT md n A outer L env nm σ ad fz s) (h : Bad A.handled (fsOf outer) L s k v s') : PostX base fzT md n A outer L env nm σ ad fz s (.exc k σ) v s' := by
  obtain ⟨h', tk, ex, rfl, rfl, e1, e2⟩ := h
  have r : Rel (fsOf outer) fz s fz { s with heap := h', toks := tk } := ⟨h', tk, rfl, e1, FzExt.refl _ _, e1.fzIn H.here.fzin⟩
  refine ⟨ex, ad, fz, rfl, .of_rel H.live r, H.step r, excAt_hd e2, fun w => ?_⟩
  obtain ⟨o, ho⟩ := H.live ex w
  rw [e2.new] at ho; cases ho
theorem soundS_while {c : X} {body : List S} (hc : SoundB prog w T base fzT n md c) (hb : SoundSs prog w T base fzT n md body) : SoundS prog w T base fzT n md (.while c body) := by
  intro A outer L env nm σ ad fz s e hm H hbad
  obtain ⟨t, b, o, pos, rfl, hm⟩ := atStmtWhile_inv hm
  have ho := andL hm
  have hm := andR hm
  cases nil_inv ho
  have h2 := andR hm
  have h1 := andL hm
  rw [evqS_while] at hbad ⊢
  refine wpAny_While ?_
  generalize hout : whileGo (fun σ => ev T c σ) (fun σ => evSs T body σ) 1000 σ = out at hbad ⊢
  refine codeAny_whileLoop (fun m s' => ∃ σ' ad' fz', RelS env (fsOf outer) σ ad fz s σ' ad' fz' s' ∧ HereS base fzT md n A outer L env nm σ' ad' fz' s' ∧ whileGo (fun σ => ev T c σ) (fun σ => evSs T body σ) m σ' = out) ?_ 1000 ⟨σ, ad, fz, RelS.refl H, H, hout⟩
  rintro m s' ⟨σ', ad', fz', R', H', hgo⟩
  cases m with
  | zero => unfold whileGo at hgo; exact absurd hgo.symm hbad
  | succ m =>
    unfold whileGo at hgo
    cases q : ev T c σ' with
    | bad => simp only [q] at hgo; exact absurd hgo.symm hbad
    | exc k =>
      simp only [q] at hgo
      refine useB (hc t h1 H'.here (by rw [q]; intro z; cases z) (fun d z => by rw [q] at z; cases z)) (fun kk v s'' z h => ?_) fun d t' fz₁ s₁ z => by rw [q] at z; cases z
      rw [q] at z; cases z
      rw [← hgo]
      exact exc_pass H (PostX.after R' (bad_postX H' h))
    | ok d =>
      simp only [q] at hgo
      refine useB (hc t h1 H'.here (by rw [q]; intro z; cases z) (fun d' z y => by rw [q] at z; cases z; simp only [y] at hgo; exact hbad hgo.symm)) (fun kk v s'' z h => by rw [q] at z; cases z) fun d' t' fz₁ s₁ z y r => ?_
      rw [q] at z; cases z
      simp only [y] at hgo
      have H₁ := H'.step r
      have R₁ := R'.trans (.of_rel H'.live r)
      cases t' with
      | false =>
        simp only [Bool.false_eq_true, if_false]
        rw [← hgo]
        exact wpAny_execs_nil ⟨rfl, ad', fz₁, R₁, H₁⟩
      | true =>
        simp only [if_true]
        have hgo : turnOut (evSs T body σ') (whileGo (fun σ => ev T c σ) (fun σ => evSs T body σ) m) = out := hgo
        exact turn_end hgo hbad H R₁ (hb b h2 H₁) (fun σ₄ ad₄ fz₄ s₄ hgo R₄ H₄ => ⟨m, Nat.lt_succ_self _, σ₄, ad₄, fz₄, R₁.trans R₄, H₄, hgo⟩) (fun s₄ k => k) fun v s₄ k => k
theorem soundS_aug {i : Nat} {op : Operator} {x : X} (hx : SoundX prog w T base fzT n md x) : SoundS prog w T base fzT n md (.aug i op x) := by
  intro A outer L env nm σ ad fz s e hm H hbad
  obtain ⟨t₀, op', v, pos, rfl, hm⟩ := atStmtAugAssign_inv hm
  obtain ⟨t, pt, rfl, hm⟩ := atName_inv hm
  have h4 := andR hm
  have hm := andL hm
  have h3 := andR hm
  have hm := andL hm
  have h2 := andR hm
  have h1 := andL hm
  obtain ⟨t1, t2, t3, t4⟩ := tgt_is h1
  cases (of_decide_eq_true h2)
  rw [evqS_aug] at hbad ⊢
  split at hbad
  · rename_i a hi
    obtain ⟨v₀, hv₀, r₀⟩ := H.here.inv _ i _ t1 (by rcases t2 with q | q <;> (show isVar (List.lookup _ _) = true; rw [q]; rfl)) hi
    obtain ⟨ta, rfl⟩ := rep_int_inv r₀
    refine wpAny_AugAssign_Name (load_var H.here.envok hv₀ t4 ?_)
    refine useS hx rfl h3 H (fun q => by rw [q] at hbad; exact hbad rfl) (fun k q => by rw [q]) fun d v fz₁ s₁ q r rep => ?_
    rw [q] at hbad ⊢
    cases d with
    | int b =>
      obtain ⟨tb, rfl⟩ := rep_int_inv rep
      cases op with
      | Add =>
        refine wpAny_iadd_int ?_
        have r2 := r.trans (Rel.same r.fzin (s₁.toks + 1))
        exact store_sv (a' := 0) (.of_rel H.live r2) (H.step r2) t1 t2 (.val (.int _ _)) fun s' r' h' => ⟨rfl, _, fz₁, r', h'⟩
      | _ => exact absurd rfl hbad
    | _ => exact absurd rfl hbad
  · exact absurd rfl hbad
theorem soundS_assign2 {i j : Nat} {x : X} (hx : SoundX prog w T base fzT n md x) : SoundS prog w T base fzT n md (.assign2 i j x) := by
  intro A outer L env nm σ ad fz s e hm H hbad
  obtain ⟨ts, v, pos, rfl, hm⟩ := atStmtAssign_inv hm
  obtain ⟨a₀, b₀, rfl, hm⟩ := at2_inv hm
  obtain ⟨t, pt, rfl, hm⟩ := atName_inv hm
  obtain ⟨u, pu, rfl, hm⟩ := atName_inv hm
  have h5 := andR hm
  have hm := andL hm
  have h4 := andR hm
  have hm := andL hm
  have h3 := andR hm
  have hm := andL hm
  have h2 := andR hm
  have h1 := andL hm
  obtain ⟨t1, t2, t3, t4⟩ := tgt_is h1
  obtain ⟨u1, u2, u3, u4⟩ := tgt_is h2
  rw [evqS_assign2] at hbad ⊢
  refine wpAny_Assign_two (useS hx rfl h3 H (fun q => by rw [q] at hbad; exact hbad rfl) (fun k q => by rw [q]) fun d v fz₁ s₁ q r rep => ?_) rfl
  rw [q]
  refine wpAny_assign_Name (store_sv (a' := 0) (.of_rel H.live r) (H.step r) t1 t2 (.val rep) fun s₂ r₂ h₂ => ?_)
  refine wpAny_assign_Name (store_sv (a' := 0) (RelS.refl h₂) h₂ u1 u2 (.val rep) fun s₃ r₃ h₃ => ?_)
  exact ⟨rfl, _, fz₁, r₂.trans r₃, h₃⟩
end
end Mine
end
section
open PySem PySem.W PySem.Calls PyProof.Rows
namespace Mine
section
variable {prog : Program} {w : World} {T : Tab} {base : Heap} {fzT : Fz} {n : Nat} {md : Md} {A : Around} {outer : List Env} {L : Addr} {env : Env} {nm : List Str} {σ : List SV} {ad : Nat → Addr} {fz : Fz} {s : Shared} {mg mb : Str → Option Value}
/-- the frame under a handled exception -/
theorem HereS.mark {md' : Md} {e : Addr} (H : HereS base fzT md n A outer L env nm σ ad fz s) (h1 : md' = .a → False) (h2 : md' = .b → ∃ o vs, s.heap.get? e = some o ∧ o.data = .fields vs ∧ vs[2]? = some .none) :
    HereS base fzT md' n (A.mark (some (.ref e))) outer L env nm σ ad fz s :=
  ⟨⟨⟨H.here.sit.frames, fun q => (h1 q).elim, H.here.sit.depth, H.here.sit.units⟩, H.here.hi, H.here.envok, H.here.inv, H.here.fzin, H.here.fzle, fun q => by
    obtain ⟨o, vs, a, b, c⟩ := h2 q; exact ⟨e, o, vs, rfl, a, b, c⟩, H.here.len⟩, H.ap, H.vars, H.inj, H.lfs, H.nb⟩
theorem HereS.unmark {md' : Md} {A' : Around} (H' : HereS base fzT md' n A' outer L env nm σ ad fz s) (S : Sit md A outer n) (hx : md = .b → HX A s.heap) : HereS base fzT md n A outer L env nm σ ad fz s :=
  ⟨⟨S, H'.here.hi, H'.here.envok, H'.here.inv, H'.here.fzin, H'.here.fzle, hx, H'.here.len⟩, H'.ap, H'.vars, H'.inj, H'.lfs, H'.nb⟩
end
end Mine
end
section
open PySem PySem.W PySem.Calls PyProof.Rows
namespace Mine
section
variable {prog : Program} {w : World} {T : Tab} {base : Heap} {fzT : Fz} {n : Nat} {md : Md} {A : Around} {outer : List Env} {L : Addr} {env : Env} {nm : List Str} {σ : List SV} {ad : Nat → Addr} {fz : Fz} {s : Shared} {mg mb : Str → Option Value}
theorem excFacts (k : String) (h : k = "IndexError" ∨ k = "ValueError") : isSubtype (.type k) (.type "BaseException") = pure true ∧ isSubtype (.type ((Manifest.find? k).elim "type" fun x => x.metatype)) (.type "tuple") = pure false ∧ isSubtype (.type k) (.type k) = pure true := by
  rcases h with rfl | rfl
  · exact ⟨PySem.F.isExc_IndexError, PySem.F.notTuple_IndexError, PySem.F.self_IndexError⟩
  · exact ⟨PySem.F.isExc_ValueError, PySem.F.notTuple_ValueError, PySem.F.self_ValueError⟩
theorem excName {E : Value → Shared → Prop} {t : Expr} {k : String} {Q : Value → Shared → Prop} {A' : Around} (G : GOK prog w T base fzT mg mb n) (h : k = "IndexError" ∨ k = "ValueError") (hi : HI base outer s.heap) (O : EnvOK L outer env s.heap) (hn : isName t env.scope.names (excStr k) = true) (hQ : Q (.type k) s) :
    wpAny (model prog w) A' (eval t env) Q E s := by
  obtain ⟨x, px, rfl, hn⟩ := atName_inv hn
  have h2 := andR hn
  have h1 := andL hn
  cases (eq_of_beq h1)
  rcases h with rfl | rfl
  · exact built_name G hi O h2 G.exi.1 G.exi.2 hQ
  · exact built_name G hi O h2 G.exv.1 G.exv.2 hQ
theorem PostS.unmark {md' : Md} {A' : Around} {o : Out} {f : Flow} {s' : Shared} (S : Sit .a A outer n) (g : PostS base fzT md' n A' outer L env nm σ ad fz s o f s') : PostS base fzT .a n A outer L env nm σ ad fz s o f s' := by
  cases o with
  | next σ' => obtain ⟨a, ad', fz', r, h⟩ := g; exact ⟨a, ad', fz', r, h.unmark S fun q => by cases q⟩
  | brk σ' => obtain ⟨a, ad', fz', r, h⟩ := g; exact ⟨a, ad', fz', r, h.unmark S fun q => by cases q⟩
  | ret d => obtain ⟨v, σ', ad', fz', a, r, h, q⟩ := g; exact ⟨v, σ', ad', fz', a, r, h.unmark S (fun q => by cases q), q⟩
  | exc k σ' => exact g
  | bad => exact g
theorem soundS_tryE (G : GOK prog w T base fzT mg mb n) {k : String} {body h : List S} (hb : SoundSs prog w T base fzT n .a body) (hh : SoundSs prog w T base fzT n .c h) : SoundS prog w T base fzT n .a (.tryE body k h) := by
  intro A outer L env nm σ ad fz s e hm H hbad
  obtain ⟨b, hs', o, f, pos, rfl, hm⟩ := atStmtTry_inv hm
  have ho := andL hm
  have hm := andR hm
  have hf := andR ho
  have ho := andL ho
  cases nil_inv ho
  cases nil_inv hf
  obtain ⟨⟨ty, nm', hb', hpos⟩, rfl, hm⟩ := at1_inv hm
  have hn := andL hm
  have hm := andR hm
  have hne := andR hn
  have hn := andL hn
  cases none_inv hn
  obtain ⟨h₀, hs, rfl⟩ := cons_inv hne
  obtain ⟨t, rfl, hm⟩ := atSome_inv hm
  have h3 := andR hm
  have hm := andL hm
  have h2 := andR hm
  have h1 := andL hm
  rw [evqS_tryE] at hbad ⊢
  have hbody : evSs T body σ ≠ .bad := by intro q; rw [q] at hbad; exact hbad rfl
  refine wpAny_Try_except (wpAny_mono (hb b h1 H hbody) (fun f s₁ g => ?_) fun x s₁ g => ?_)
  · cases q : evSs T body σ with
    | next σ₁ => rw [q] at g; obtain ⟨rfl, g⟩ := g; exact wpAny_execs_nil ⟨rfl, g⟩
    | brk σ₁ => rw [q] at g; obtain ⟨rfl, g⟩ := g; exact ⟨rfl, g⟩
    | ret d => rw [q] at g; obtain ⟨v, σ', ad', fz', rfl, g⟩ := g; exact ⟨v, σ', ad', fz', rfl, g⟩
    | exc k' σ₁ => rw [q] at g; exact g.elim
    | bad => exact absurd q hbody
  · cases q : evSs T body σ with
    | next σ₁ => rw [q] at g; exact g.elim
    | brk σ₁ => rw [q] at g; exact g.elim
    | ret d => rw [q] at g; exact g.elim
    | bad => exact absurd q hbody
    | exc k' σ₁ =>
      rw [q] at g hbad
      dsimp only at hbad ⊢
      by_cases hk : clsL k' = k ∧ (k = "IndexError" ∨ k = "ValueError")
      · rw [if_pos hk] at hbad ⊢
        obtain ⟨ee, ad₁, fz₁, rfl, g'⟩ := id g
        refine wpAny_mono (exc_note H g) (fun _ s₂ fl => wpAny_mono (fly_set (E := fun _ _ => False) none H fl) (fun _ s₃ fl => ?_) fun _ _ f => f.elim) fun _ _ f => f
        obtain ⟨x1, x2, x3⟩ := excFacts k hk.2
        have fl' := fl
        obtain ⟨ad', fz', tb, oe, ot, vs, ts, R, H', we, en, tn, tne, wt, k1, k2, k3, k4, k5, k6, k7, k8⟩ := fl'
        refine wpAny_handleBy_builtin (X := k) (T := k) (b := true) x1 x2 x3 (excName G hk.2 H'.here.hi H'.here.envok h2 ⟨rfl, ⟨oe, k1, by rw [k2, hk.1]⟩, ?_⟩)
        simp only [if_true]
        refine wpAny_mono (fly_set (E := fun _ _ => False) none H fl) (fun _ s₄ fl => ?_) fun _ _ f => f.elim
        obtain ⟨ad', fz', tb, oe, ot, vs, ts, R, H', we, en, tn, tne, wt, k1, k2, k3, k4, k5, k6, k7, k8⟩ := fl
        have hhb : evSs T h σ₁ ≠ .bad := by intro z; rw [z] at hbad; exact hbad rfl
        have H₄ : HereS base fzT .c n (A.mark (some (.ref ee))) outer L env nm σ₁ ad' fz' s₄ := H'.mark (fun z => by cases z) (fun z => by cases z)
        refine wpAny_mono (hh (h₀ :: hs) h3 H₄ hhb) (fun f s₅ g => ?_) fun x s₅ g => ?_
        · have g' := PostS.unmark H.here.sit g
          cases z : evSs T h σ₁ with
          | exc k2 σ2 => rw [z] at g'; exact g'.elim
          | bad => exact absurd z hhb
          | next σ2 => rw [z] at g'; exact PostS.after R g'
          | brk σ2 => rw [z] at g'; exact PostS.after R g'
          | ret d2 => rw [z] at g'; exact PostS.after R g'
        · cases z : evSs T h σ₁ with
          | exc k2 σ2 => rw [z] at hbad; exact absurd rfl hbad
          | bad => exact absurd z hhb
          | next σ2 => rw [z] at g; exact g.elim
          | brk σ2 => rw [z] at g; exact g.elim
          | ret d2 => rw [z] at g; exact g.elim
      · rw [if_neg hk] at hbad; exact absurd rfl hbad
/-- an exception keeps standing while others work -/
theorem fly_keep {md' : Md} {A' : Around} {k : String} {σ₁ σ₂ : List SV} {ad₁ ad₂ : Nat → Addr} {fz₁ fz₂ : Fz} {fl : Value} {e : Addr} {s₁ s₂ : Shared} (S : Sit .a A outer n) (H : HereS base fzT .a n A outer L env nm σ ad fz s)
    (R₁ : RelS env (fsOf outer) σ ad fz s σ₁ ad₁ fz₁ s₁) (we : ¬ WrS env σ₁ ad₁ e) {tb : Addr} {oe ot : Obj} {vs ts : Array Value} (en : s.heap.get? e = none) (tn : s.heap.get? tb = none) (tne : tb ≠ e) (wt : ¬ WrS env σ₁ ad₁ tb)
    (k1 : s₁.heap.get? e = some oe) (k2 : oe.cls = .type (clsL k)) (k3 : oe.data = .fields vs) (k4 : vs.size = 6 ∧ (hdOf A k = none → vs[2]? = some .none)) (k5 : vs[1]? = some (.ref tb)) (k6 : s₁.heap.get? tb = some ot) (k7 : ot.data = .fields ts) (k8 : ts[3]? = some fl)
    (R₂ : RelS env (fsOf outer) σ₁ ad₁ fz₁ s₁ σ₂ ad₂ fz₂ s₂) (H₂ : HereS base fzT md' n A' outer L env nm σ₂ ad₂ fz₂ s₂) : Fly base fzT .a n A outer L env nm σ ad fz s k σ₂ fl e s₂ := by
  have nfs : ∀ b, s.heap.get? b = none → b ∉ fsOf outer := fun b hb hm => by
    obtain ⟨o', es, ep, ho', hd'⟩ := H.here.hi.dicts b hm
    rw [hb] at ho'; cases ho'
  have e2 := R₂.ext.get we (nfs e en) k1
  have t2 := R₂.ext.get wt (nfs tb tn) k6
  refine ⟨ad₂, fz₂, tb, oe, ot, vs, ts, R₁.trans R₂, H₂.unmark S (fun q => by cases q), fun hw => ?_, en, tn, tne, fun hw => ?_, e2, k2, k3, k4, k5, t2, k7, k8⟩
  · exact H₂.kinds hw oe e2 vs k3
  · exact H₂.kinds hw ot t2 ts k7
theorem soundS_tryF {body fin : List S} (hb : SoundSs prog w T base fzT n .a body) (hf : SoundSs prog w T base fzT n .a fin) (hf' : SoundSs prog w T base fzT n .b fin) : SoundS prog w T base fzT n .a (.tryF body fin) := by
  intro A outer L env nm σ ad fz s e hm H hbad
  obtain ⟨b, hs', o, f, pos, rfl, hm⟩ := atStmtTry_inv hm
  have ho := andL hm
  have hm := andR hm
  have hne := andR ho
  have ho := andL ho
  have hh' := andL ho
  have ho := andR ho
  cases nil_inv ho
  cases nil_inv hh'
  obtain ⟨f₀, fs, rfl⟩ := cons_inv hne
  have h2 := andR hm
  have h1 := andL hm
  rw [evqS_tryF] at hbad ⊢
  have hbody : evSs T body σ ≠ .bad := by intro q; rw [q] at hbad; exact hbad rfl
  refine wpAny_Try_finally (wpAny_mono (hb b h1 H hbody) (fun f s₁ g => ?_) fun x s₁ g => ?_)
  · cases q : evSs T body σ with
    | next σ₁ =>
      rw [q] at g hbad
      dsimp only at hbad ⊢
      obtain ⟨rfl, ad₁, fz₁, R₁, H₁⟩ := g
      refine wpAny_execs_nil (wpAny_mono (hf (f₀ :: fs) h2 H₁ hbad) (fun f s₂ g => ?_) fun x s₂ g => exc_pass H (PostX.after R₁ g))
      have g' := PostS.after R₁ g
      cases z : evSs T fin σ₁ with
      | next σ2 => rw [z] at g'; obtain ⟨rfl, g'⟩ := g'; exact ⟨rfl, g'⟩
      | brk σ2 => rw [z] at g'; obtain ⟨rfl, g'⟩ := g'; exact ⟨rfl, g'⟩
      | ret d2 => rw [z] at g'; obtain ⟨v, σ', ad', fz', rfl, g'⟩ := g'; exact ⟨v, σ', ad', fz', rfl, g'⟩
      | exc k2 σ2 => rw [z] at g'; exact g'.elim
      | bad => exact absurd z hbad
    | brk σ₁ => rw [q] at hbad; exact absurd rfl hbad
    | ret d => rw [q] at hbad; exact absurd rfl hbad
    | exc k' σ₁ => rw [q] at g; exact g.elim
    | bad => exact absurd q hbody
  · cases q : evSs T body σ with
    | next σ₁ => rw [q] at g; exact g.elim
    | brk σ₁ => rw [q] at g; exact g.elim
    | ret d => rw [q] at g; exact g.elim
    | bad => exact absurd q hbody
    | exc k σ₁ =>
      rw [q] at g hbad
      dsimp only at hbad ⊢
      by_cases hk : clsL k ≠ k
      · rw [if_pos hk] at hbad; exact absurd rfl hbad
      · rw [if_neg hk] at hbad ⊢
        have hk' : clsL k = k := Classical.not_not.mp hk
        obtain ⟨ee, _, _, rfl, _⟩ := id g
        have hhd : A.handled = none := H.here.sit.handled rfl
        have hnone : hdOf A k = none := by unfold hdOf; rw [if_pos hk']; exact hhd
        refine wpAny_mono (exc_note H g) (fun _ s₂ fl => ?_) fun _ _ f => f
        refine ⟨(by intro z; cases z), wpAny_mono (exc_note H (fly_back fl)) (fun _ s₃ fl => wpAny_mono (fly_set (E := fun _ _ => False) none H fl) (fun _ s₄ fl => ?_) fun _ _ f => f.elim) fun _ _ f => f⟩
        obtain ⟨ad', fz', tb, oe, ot, vs, ts, R, H', we, en, tn, tne, wt, k1, k2, k3, k4, k5, k6, k7, k8⟩ := fl
        have hfb : evSs T fin σ₁ ≠ .bad := by intro z; rw [z] at hbad; exact hbad rfl
        have H₄ : HereS base fzT .b n (A.mark (some (.ref ee))) outer L env nm σ₁ ad' fz' s₄ := H'.mark (fun z => by cases z) (fun _ => ⟨oe, vs, k1, k3, k4.2 hnone⟩)
        refine wpAny_mono (hf' (f₀ :: fs) h2 H₄ hfb) (fun f s₅ g => ?_) fun x s₅ g => ?_
        · cases z : evSs T fin σ₁ with
          | next σ₂ =>
            rw [z] at g
            obtain ⟨rfl, ad₅, fz₅, R₅, H₅⟩ := g
            have fl5 := fly_keep (k := k) H.here.sit H R we en tn tne wt k1 k2 k3 k4 k5 k6 k7 k8 R₅ H₅
            dsimp only
            unfold PySem.passOn
            obtain ⟨ad6, fz6, tb6, oe6, ot6, vs6, ts6, R6, H6, we6, en6, tn6, tne6, wt6, j1, j2, j3, j4, j5, j6, j7, j8⟩ := id fl5
            refine wpAny_bind (wpAny_field j1 j3 j5 ?_)
            rw [if_neg (by simp)]
            rw [H.here.envok.frame]
            refine wpAny_bind (wpAny_mono (fly_set (E := fun _ _ => False) (some L) H fl5) (fun _ s₆ fl => ?_) fun _ _ f => f.elim)
            exact wpAny_throw (fly_back fl)
          | brk σ₂ => rw [z] at hbad; exact absurd rfl hbad
          | ret d => rw [z] at hbad; exact absurd rfl hbad
          | exc k2' σ₂ => rw [z] at g; exact g.elim
          | bad => exact absurd z hfb
        · cases z : evSs T fin σ₁ with
          | next σ₂ => rw [z] at g; exact g.elim
          | brk σ₂ => rw [z] at g; exact g.elim
          | ret d => rw [z] at g; exact g.elim
          | bad => exact absurd z hfb
          | exc k2' σ₂ =>
            rw [z] at g hbad
            dsimp only at hbad ⊢
            by_cases hs : clsL (starL k2') = k2' ∧ clsL k2' = k2'
            · rw [if_pos hs] at hbad ⊢
              obtain ⟨e2, _, _, rfl, _⟩ := id g
              unfold notedBy
              refine wpAny_mono (exc_note H₄ g) (fun _ s₆ fl => ?_) fun _ _ f => f
              unfold cameBackBy
              obtain ⟨ad6, fz6, tb6, oe6, ot6, vs6, ts6, R6, H6, we6, en6, tn6, tne6, wt6, j1, j2, j3, j4, j5, j6, j7, j8⟩ := id fl
              refine wpAny_bind (wpAny_field j1 j3 j5 ?_)
              rw [if_neg (by simp)]
              rw [H.here.envok.frame]
              refine wpAny_mono (fly_set (E := fun _ _ => False) (some L) H₄ fl) (fun _ s₇ fl => ?_) fun _ _ f => f.elim
              obtain ⟨ad7, fz7, tb7, oe7, ot7, vs7, ts7, R7, H7, we7, en7, tn7, tne7, wt7, j1, j2, j3, j4, j5, j6, j7, j8⟩ := fl
              have gone : ∀ b, s₄.heap.get? b = none → s.heap.get? b = none := fun b hb => by
                cases y : s.heap.get? b with
                | none => rfl
                | some o' =>
                  by_cases hw : WrS env σ ad b
                  · obtain ⟨o2, ho2⟩ := R.live _ hw; rw [hb] at ho2; cases ho2
                  · obtain ⟨sl, q2, _⟩ := R.ext _ o' y hw; rw [hb] at q2; cases q2
              refine ⟨e2, ad7, fz7, rfl, R.trans R7, H7.unmark H.here.sit (fun q => by cases q), ⟨gone _ en7, oe7, vs7, j1, by rw [j2, hs.1, hs.2], j3, ⟨j4.1, fun y => ?_⟩, .inr ⟨tb7, ot7, ts7, j5, gone _ tn7, tne7, j6, j7, j8⟩⟩, we7⟩
              exfalso
              unfold hdOf at y
              rw [if_neg (by rw [hs.1]; intro y'; have := congrArg String.length y'; simp [starL] at this)] at y
              cases y
            · rw [if_neg hs] at hbad; exact absurd rfl hbad
end
end Mine
end
section
open PySem PySem.W PySem.Calls PyProof.Rows
namespace Mine
/-- a def of the text -/
structure FnAt (base : Heap) (a : Addr) (params : List Str) (body : List Stmt) (scope : Scope) : Prop where
  fn : ∃ o fd, base.get? a = some o ∧ o.data = .func fd ∧ fd.body = .stmts body ∧ fd.scope = scope ∧ fd.globals = mainGlobals ∧ fd.closure = [] ∧ fd.builtins = builtinsNs ∧ base.CodeRec fd.code fd.qualname ∧
    ∀ vs, vs.length = params.length → bindArgs fd ⟨vs, []⟩ = pure (params.zip vs)
  co : scope.isCoroutine = false
  gen : scope.isGenerator = false
  kind : scope.kind = .function
  nolimit : base.NoLimit
/-- the names of a def: its parameters first; local or cell, each once -/
noncomputable def namesOk (scope : Scope) (params nm : List Str) : Bool :=
  nodupB nm && (params.isPrefixOf nm) && nm.all (fun x => scope.names.lookup x == some .local || scope.names.lookup x == some .cell) &&
  scope.names.all (fun x => x.2 != .free) && nodupB (scope.names.map (·.1))
theorem nmIdx_nodup : ∀ {nm : List Str}, nodupB nm = true → ∀ (i : Nat) x, nm[i]? = some x → nmIdx nm x = some i
  | [], _, i, x, h => by simp at h
  | y :: r, hn, 0, x, h => by
    obtain ⟨h1, h2⟩ := nodupB_cons hn
    simp at h
    subst h
    unfold nmIdx
    cases q : nmIdx r y with
    | none => simp
    | some j => exact absurd (List.mem_of_getElem? (nmIdx_get y r j q)) h1
  | y :: r, hn, i + 1, x, h => by
    obtain ⟨h1, h2⟩ := nodupB_cons hn
    unfold nmIdx
    rw [nmIdx_nodup h2 i x (by simpa using h)]
theorem bindL_skip {K : Str → Option NameKind} : ∀ (l : List (Str × Value)) (m : Str → Option Value) (x : Str), x ∉ l.map (·.1) → bindL K l m x = m x
  | [], _, _, _ => rfl
  | (n, v) :: r, m, x, h => by
    unfold bindL
    rw [bindL_skip r _ x (fun q => h (by simp; right; simpa using q))]
    have hx : x ≠ n := fun e => h (by simp [e])
    split
    · simp [hx]
    · rfl
theorem bindC_skip {K : Str → Option NameKind} : ∀ (l : List (Str × Value)) (m : Str → Option Value) (x : Str), x ∉ l.map (·.1) → bindC K l m x = m x
  | [], _, _, _ => rfl
  | (n, v) :: r, m, x, h => by
    unfold bindC
    rw [bindC_skip r _ x (fun q => h (by simp; right; simpa using q))]
    have hx : x ≠ n := fun e => h (by simp [e])
    split
    · rfl
    · simp [hx]
theorem bindL_at {K : Str → Option NameKind} : ∀ (l : List (Str × Value)) (m : Str → Option Value) (i : Nat) (x : Str) (v : Value), nodupB (l.map (·.1)) = true → l[i]? = some (x, v) → K x = some .local → bindL K l m x = some v
  | [], _, i, _, _, _, h, _ => by simp at h
  | (n, u) :: r, m, 0, x, v, hn, h, hk => by
    obtain ⟨h1, h2⟩ := nodupB_cons hn
    simp at h
    obtain ⟨rfl, rfl⟩ := h
    unfold bindL
    rw [bindL_skip r _ _ h1, if_pos hk]; simp
  | (n, u) :: r, m, i + 1, x, v, hn, h, hk => by
    obtain ⟨h1, h2⟩ := nodupB_cons hn
    unfold bindL
    exact bindL_at r _ i x v h2 (by simpa using h) hk
theorem bindC_at {K : Str → Option NameKind} : ∀ (l : List (Str × Value)) (m : Str → Option Value) (i : Nat) (x : Str) (v : Value), nodupB (l.map (·.1)) = true → l[i]? = some (x, v) → K x = some .cell → bindC K l m x = some v
  | [], _, i, _, _, _, h, _ => by simp at h
  | (n, u) :: r, m, 0, x, v, hn, h, hk => by
    obtain ⟨h1, h2⟩ := nodupB_cons hn
    simp at h
    obtain ⟨rfl, rfl⟩ := h
    unfold bindC
    rw [bindC_skip r _ _ h1, if_neg (by rw [hk]; intro z; cases z)]; simp
  | (n, u) :: r, m, i + 1, x, v, hn, h, hk => by
    obtain ⟨h1, h2⟩ := nodupB_cons hn
    unfold bindC
    exact bindC_at r _ i x v h2 (by simpa using h) hk
theorem nodup_prefix : ∀ {p nm : List Str}, p.isPrefixOf nm = true → nodupB nm = true → nodupB p = true
  | [], _, _, _ => rfl
  | x :: p, [], h, _ => by simp [List.isPrefixOf] at h
  | x :: p, y :: r, h, hn => by
    obtain ⟨h1, h2⟩ := nodupB_cons hn
    simp only [List.isPrefixOf, Bool.and_eq_true, beq_iff_eq] at h
    obtain ⟨rfl, h⟩ := h
    have hp := nodup_prefix h h2
    have : x ∉ p := fun q => h1 (List.IsPrefix.subset (List.isPrefixOf_iff_prefix.mp h) q)
    unfold nodupB
    simp [this, hp]
section
variable {prog : Program} {w : World} {T : Tab} {base : Heap} {fzT : Fz} {n : Nat}
noncomputable def initσ (ds : List PyData) (nm : List Str) : List SV := ds.map SV.val ++ List.replicate (nm.length - ds.length) SV.un
/-- a call's own frame, new -/
structure Fresh (base : Heap) (fzT : Fz) (n : Nat) (A : Around) (outer : List Env) (env : Env) (scope : Scope) (code : Value) (qual : Str) (nm : List Str) (ds : List PyData) (fz : Fz) (s : Shared) (h₁ : Heap) (tk : Tok) : Prop where
  scope : env.scope = scope
  code : env.code = code
  qual : env.qual = qual
  frame : env.frame = some s.heap.objs.size
  here : HereS base fzT .a n (A.deeper env) (env :: outer) s.heap.objs.size env nm (initσ ds nm) (fun _ => 0) fz { s with heap := h₁, toks := tk }
  out : ∀ b, WrS env (initσ ds nm) (fun _ => 0) b → s.heap.get? b = none
  keep : ∀ b o, s.heap.get? b = some o → h₁.get? b = some o
theorem enter_ok {A : Around} {outer : List Env} {s : Shared} {vs : List Value} {fz : Fz} {a : Option Addr} {params nm : List Str} {scope : Scope} {code : Value} {qual : Str} {ds : List PyData} {K : Env → Shared → Prop} {E : Value → Shared → Prop}
    (S : Sit .a A outer (n + 1)) (hi : HI base outer s.heap) (hf : FzIn fz s.heap) (hz : FzLe fzT fz) (hr : RepAll fz vs ds) (hn : namesOk scope params nm = true) (hkd : scope.kind = .function) (hl : ds.length = params.length)
    (h : ∀ env h₁ tk, Fresh base fzT n A outer env scope code qual nm ds fz s h₁ tk → K env { s with heap := h₁, toks := tk }) :
    wpAny (model prog w) A.in1 (newFunctionEnv scope mainGlobals [] (params.zip vs) qual a code none builtinsNs) K E s := by
  have n5 := andR hn
  have hn := andL hn
  have n4 := andR hn
  have hn := andL hn
  have n3 := andR hn
  have hn := andL hn
  have n2 := andR hn
  have n1 := andL hn
  have hvl : vs.length = params.length := by rw [hr.length, hl]
  have hpre := List.isPrefixOf_iff_prefix.mp n2
  have hplen : params.length ≤ nm.length := hpre.length_le
  have kinds : ∀ x ∈ nm, scope.names.lookup x = some .local ∨ scope.names.lookup x = some .cell := fun x hx => by
    have := List.all_eq_true.mp n3 x hx
    rcases Bool.or_eq_true_iff.mp this with q | q
    · exact .inl (eq_of_beq q)
    · exact .inr (eq_of_beq q)
  refine wpAny_newFunctionEnv_cells hkd (fun x hx => ?_) fun env he s' x => ?_
  · have hxm : x.1 ∈ params := (List.of_mem_zip hx).1
    rcases kinds x.1 (hpre.subset hxm) with q | q
    · exact .inl q
    · exact .inr ⟨q, cellsFrom_some _ _ _ (.inl q)⟩
  subst he
  obtain ⟨h₁, tk, rfl⟩ := x.toInCall.same
  have hns := x.toInCall.ns
  have kp := x.toInCall.keep
  dsimp only at hns kp
  generalize henv : newEnv scope s.heap.objs.size mainGlobals (cellsFrom (s.heap.objs.size + 1) scope.names []) qual a code none builtinsNs = env at *
  have eL : env.locals = s.heap.objs.size := by rw [← henv]; rfl
  have eS : env.scope = scope := by rw [← henv]; rfl
  have eC : env.cells = cellsFrom (s.heap.objs.size + 1) scope.names [] := by rw [← henv]; rfl
  have eG : env.globals = mainGlobals := by rw [← henv]; rfl
  have eB : env.builtins = builtinsNs := by rw [← henv]; rfl
  have eF : env.frame = some s.heap.objs.size := by rw [← henv]; rfl
  have eD : env.code = code := by rw [← henv]; rfl
  have eQ : env.qual = qual := by rw [← henv]; rfl
  have eK : ∀ y, env.kindOf y = scope.names.lookup y := fun y => by show env.scope.names.lookup y = _; rw [eS]
  have Lnew : s.heap.get? s.heap.objs.size = none := size_none _ (Nat.le_refl _)
  have baseN : ∀ b, s.heap.get? b = none → base.get? b = none := fun b hb => by
    cases q : base.get? b with
    | none => rfl
    | some o' => have := hi.stays _ _ q; rw [hb] at this; cases this
  have nofree : ∀ y, scope.names.lookup y ≠ some .free := fun y q => by
    have := List.all_eq_true.mp n4 _ (mem_lookup q)
    simp at this
  have cellK : ∀ y, isCellK (env.kindOf y) = true → scope.names.lookup y = some .cell := fun y hy => by
    rw [eK] at hy
    cases q : scope.names.lookup y with
    | none => rw [q] at hy; cases hy
    | some kk =>
      cases kk with
      | cell => rfl
      | free => exact absurd q (nofree y)
      | «local» => rw [q] at hy; cases hy
      | globalExplicit => rw [q] at hy; cases hy
      | globalImplicit => rw [q] at hy; cases hy
  have cellAt : ∀ y, scope.names.lookup y = some .cell → ∃ c, env.cells.lookup y = some c ∧ s.heap.objs.size < c := fun y hy => by
    obtain ⟨c, hc⟩ := Option.isSome_iff_exists.mp (cellsFrom_some (x := y) scope.names (s.heap.objs.size + 1) [] (.inl hy))
    rw [← eC] at hc
    exact ⟨c, hc, by have := x.above y c (mem_lookup hc); rw [eL] at this; exact this⟩
  have initNo : ∀ (i : Nat) es, (initσ ds nm)[i]? = some (.own es) → False := fun i es hi' => by
    unfold initσ at hi'
    rcases Nat.lt_or_ge i (ds.map SV.val).length with q | q
    · rw [List.getElem?_append_left q, List.getElem?_map] at hi'
      cases z : ds[i]? <;> rw [z] at hi' <;> cases hi'
    · rw [List.getElem?_append_right q] at hi'
      have := List.mem_of_getElem? hi'
      rw [List.mem_replicate] at this; cases this.2
  have outW : ∀ b, WrS env (initσ ds nm) (fun _ => 0) b → s.heap.get? b = none := by
    rintro b (rfl | ⟨y, hy, hc⟩ | ⟨i, es, hi', _⟩)
    · rw [eL]; exact Lnew
    · obtain ⟨c, hc', hlt⟩ := cellAt y (cellK y hy)
      rw [hc] at hc'; cases hc'
      exact size_none s.heap (Nat.le_of_lt hlt)
    · exact (initNo i es hi').elim
  refine h env h₁ tk ⟨eS, eD, eQ, eF, ?_, outW, kp⟩
  refine ⟨⟨⟨?_, fun _ => S.handled rfl, ?_, ?_⟩, ⟨fun b o' e => kp b o' (hi.stays b o' e), ?_, fun b hb' => ?_⟩, ⟨by rw [eS]; exact hkd, eG, eB, eF, ⟨env, outer, rfl, eF⟩, ⟨_, hns⟩, fun y hy => ?_⟩, ?_, (Ext.of_keeps (fs := []) kp).fzIn hf, hz, (fun q => by cases q), ?_⟩, ?_, fun i y hy => ⟨nmIdx_nodup n1 i y hy, ?_⟩, fun i j es fs hi' hj e => (initNo i es hi').elim, by rw [eF, eL], fun b hb' => baseN b (outW b hb')⟩
  · exact Around.frames_deeper S.frames
  · have := S.depth; show A.depth + 1 + n < 900; omega
  · have := S.units; show A.units + 3 + 80 * n + 300 < cLine; omega
  · refine Heap.FunFrames.cons (by rw [eS, hkd]; intro z; cases z) eF (eL ▸ hns) (baseN _ Lnew) ?_
    exact hi.frames.of_keeps fun b o' ho' _ => ⟨o', kp b o' ho', rfl⟩
  · unfold fsOf at hb'
    rw [List.filterMap_cons, eF] at hb'
    rcases List.mem_cons.mp hb' with e | hb'
    · subst e
      obtain ⟨o', es, ep, ho', hd', _⟩ := hns
      rw [eL] at ho'
      exact ⟨o', es, ep, ho', hd'⟩
    · obtain ⟨o', es, ep, ho', hd'⟩ := hi.dicts b hb'
      exact ⟨o', es, ep, kp _ _ ho', hd'⟩
  · obtain ⟨c, hc, _⟩ := cellAt y (cellK y hy)
    exact ⟨c, _, hc, x.cell y c hc⟩
  · intro y i sv q1 q2 q3
    have hy := nmIdx_get y nm i q1
    unfold initσ at q3
    rcases Nat.lt_or_ge i (ds.map SV.val).length with q | q
    · rw [List.getElem?_append_left q, List.getElem?_map] at q3
      cases z : ds[i]? with
      | none => rw [z] at q3; cases q3
      | some dd =>
        rw [z] at q3; cases q3
        obtain ⟨v, hv, rv⟩ := hr.get z
        have hip : i < params.length := by rw [List.length_map] at q; omega
        have hpi : params[i]? = some y := by
          obtain ⟨t, ht⟩ := hpre
          rw [← ht, List.getElem?_append_left hip] at hy; exact hy
        have hzip : (params.zip vs)[i]? = some (y, v) := by
          rw [List.getElem?_zip_eq_some]; exact ⟨hpi, hv⟩
        have hnd : nodupB ((params.zip vs).map (·.1)) = true := by
          rw [List.map_fst_zip (by omega)]; exact nodup_prefix n2 n1
        refine ⟨v, ?_, rv⟩
        rcases kinds y (List.mem_of_getElem? hy) with k | k
        · exact .inl ⟨by rw [eK]; exact k, _, hns, bindL_at _ _ i y v hnd hzip (by rw [eK]; exact k)⟩
        · obtain ⟨c, hc, _⟩ := cellAt y k
          have := x.cell y c hc
          rw [bindC_at _ _ i y v hnd hzip (by rw [eK]; exact k)] at this
          exact .inr ⟨by rw [eK, k]; rfl, c, hc, this⟩
    · rw [List.getElem?_append_right q] at q3
      have := List.mem_of_getElem? q3
      rw [List.mem_replicate] at this
      rw [this.2]; trivial
  · unfold initσ; simp; omega
  · intro y z c hy hz' h1 h2
    exact name_of_addr x.apart (mem_lookup h1) (mem_lookup h2)
  · rw [eK]; exact kinds y (List.mem_of_getElem? hy)
theorem leave_ok {A : Around} {outer : List Env} {env : Env} {scope : Scope} {code : Value} {qual : Str} {nm : List Str} {ds : List PyData} {fz fz' : Fz} {s s₂ : Shared} {h₁ : Heap} {tk : Tok} {σ' : List SV} {ad' : Nat → Addr} {v : Value} {d : PyData}
    (F : Fresh base fzT n A outer env scope code qual nm ds fz s h₁ tk) (R : RelS env (fsOf (env :: outer)) (initσ ds nm) (fun _ => 0) fz { s with heap := h₁, toks := tk } σ' ad' fz' s₂) (hz : FzIn fz' s₂.heap) (rep : Rep fz' v d) : Good (fsOf outer) fz s d v s₂ := by
  obtain ⟨h₂, t₂, rfl⟩ := R.same
  have Lnew : s.heap.get? s.heap.objs.size = none := size_none _ (Nat.le_refl _)
  refine ⟨h₂, t₂, fz', rfl, fun b o' e => ?_, ⟨R.le, fun p h1 h2 => ?_⟩, hz, rep⟩
  · have hnw : ¬ WrS env (initσ ds nm) (fun _ => 0) b := fun hw => by rw [F.out b hw] at e; cases e
    obtain ⟨sl, q1, q2⟩ := R.ext b o' (F.keep b o' e) hnw
    refine ⟨sl, q1, fun hb' => q2 fun hm' => ?_⟩
    unfold fsOf at hm' hb'
    rw [List.filterMap_cons, F.frame] at hm'
    rcases List.mem_cons.mp hm' with z | z
    · subst z; rw [Lnew] at e; cases e
    · exact hb' z
  · rcases R.new p h1 h2 with q | q
    · cases z : s.heap.get? p with
      | none => rfl
      | some o' => have := F.keep _ _ z; rw [q] at this; cases this
    · exact F.out p q
/-- the contract of a def out of its body -/
theorem call_ok {a : Addr} {params nm : List Str} {body : List Stmt} {scope : Scope} {ss : List S} {ds : List PyData} {d : PyData} (hS : SoundSs prog w T base fzT n .a ss) (F : FnAt base a params body scope) (hn : namesOk scope params nm = true) (hm : Mss T scope.names nm ss body = true)
    (hl : ds.length = params.length) (hev : evSs T ss (initσ ds nm) = .ret d) : CallOK prog w base fzT a (n + 1) ds d := by
  intro A outer s vs fz E S hi hf hz hr
  obtain ⟨o, fd, ho, hd, hb, hsc, hgl, hcl, hbu, hcd, hbind⟩ := F.fn
  have hvl : vs.length = params.length := by rw [hr.length, hl]
  subst hsc
  have hcd' : s.heap.CodeRec fd.code fd.qualname := by
    obtain ⟨c, o', us, t, e1, e2, e3⟩ := hcd
    exact ⟨c, o', us, t, e1, hi.stays _ _ e2, e3⟩
  refine wpAny_call (codeAny_call_function (Nat.lt_trans (by have := S.depth; omega) (by decide : 900 < recursionLimit)) (hi.stays _ _ ho) hd F.co F.gen hb hcd' ?_)
  rw [hbind vs hvl, hcl, hgl, hbu]
  refine wpAny_pure (enter_ok S hi hf hz hr hn F.kind hl fun env h₁ tk Fr => ⟨(F.nolimit.keeps hi.stays).keeps Fr.keep, codeAny_func ?_⟩)
  refine wpAny_mono (hS body (by rw [Fr.scope]; exact hm) Fr.here (by rw [hev]; intro z; cases z)) (fun f s₂ g => ?_) fun v s₂ g => by rw [hev] at g; exact g.elim
  rw [hev] at g
  obtain ⟨v, σ', ad', fz', rfl, R, H', rep⟩ := g
  exact leave_ok Fr R H'.here.fzin rep
/-- a lambda, made -/
structure LamAt (base : Heap) (a : Addr) (params : List Str) (body : Expr) (scope : Scope) : Prop where
  fn : ∃ o fd, base.get? a = some o ∧ o.data = .func fd ∧ fd.body = .expr body ∧ fd.scope = scope ∧ fd.globals = mainGlobals ∧ fd.closure = [] ∧ fd.builtins = builtinsNs ∧ base.CodeRec fd.code fd.qualname ∧
    ∀ vs, vs.length = params.length → bindArgs fd ⟨vs, []⟩ = pure (params.zip vs)
  co : scope.isCoroutine = false
  gen : scope.isGenerator = false
  kind : scope.kind = .function
  nolimit : base.NoLimit
theorem lam_ok {a : Addr} {params nm : List Str} {body : Expr} {scope : Scope} {x : X} {ds : List PyData} {d : PyData} (hS : SoundX prog w T base fzT n .a x) (F : LamAt base a params body scope) (hn : namesOk scope params nm = true) (hm : Mx T scope.names nm x body = true)
    (hl : ds.length = params.length) (hev : ev T x (initσ ds nm) = .ok d) : CallOK prog w base fzT a (n + 1) ds d := by
  intro A outer s vs fz E S hi hf hz hr
  obtain ⟨o, fd, ho, hd, hb, hsc, hgl, hcl, hbu, hcd, hbind⟩ := F.fn
  have hvl : vs.length = params.length := by rw [hr.length, hl]
  subst hsc
  have hcd' : s.heap.CodeRec fd.code fd.qualname := by
    obtain ⟨c, o', us, t, e1, e2, e3⟩ := hcd
    exact ⟨c, o', us, t, e1, hi.stays _ _ e2, e3⟩
  refine wpAny_call (kla_callFunE (Nat.lt_trans (by have := S.depth; omega) (by decide : 900 < recursionLimit)) (hi.stays _ _ ho) hd F.co F.gen hb hcd' ?_)
  rw [hbind vs hvl, hcl, hgl, hbu]
  refine wpAny_pure (enter_ok S hi hf hz hr hn F.kind hl fun env h₁ tk Fr => ⟨(F.nolimit.keeps hi.stays).keeps Fr.keep, kla_codeExpr ?_⟩)
  refine wpAny_mono (hS body (by rw [Fr.scope]; exact hm) Fr.here.here (by rw [hev]; intro z; cases z)) (fun v s₂ g => ?_) fun v s₂ g => by rw [hev] at g; exact g.elim
  rw [hev] at g
  obtain ⟨fz', r, rep⟩ := good_iff.mp g
  exact leave_ok Fr (.of_rel Fr.here.live r) r.fzin rep
end
end Mine
end
section
open PySem PySem.W PySem.Calls PyProof.Rows
namespace Mine
section
variable {prog : Program} {w : World} {T : Tab} {base : Heap} {fzT : Fz} {n : Nat} {md : Md} {mg mb : Str → Option Value}
/-- an owned list is looked into -/
theorem sound_outside {a : X} {i : Nat} (ha : SoundX prog w T base fzT n md a) : SoundX prog w T base fzT n md (.outside a i) := by
  intro A outer L env nm σ ad fz s e hm H hbad
  obtain ⟨l, ops, rs, pos, rfl, hm⟩ := atCompare_inv hm
  obtain ⟨op', rfl, hm⟩ := at1_inv hm
  obtain ⟨r, rfl, hm⟩ := at1_inv hm
  obtain ⟨x, px, rfl, hm⟩ := atName_inv hm
  have hop := andL hm
  have hm := andR hm
  cases (of_decide_eq_true hop : op' = .NotIn)
  have h5 := andR hm
  have hm := andL hm
  have h4 := andR hm
  have hm := andL hm
  have h3 := andR hm
  have hm := andL hm
  have h2 := andR hm
  have h1 := andL hm
  rw [evq_outside] at hbad ⊢
  refine wpAny_Compare1 (useV (ha _ h1 H (bind_bad hbad)) (fun _ _ _ e h => excOf e h) fun x v fz₁ s₁ e r rep => ?_) rfl
  rw [e, Res.bind_ok] at hbad ⊢
  have H₁ := H.step r
  split at hbad
  · rename_i ds hs
    obtain ⟨hv, hf, hz, vs, ⟨k, hp⟩, hr⟩ := H₁.inv _ i _ (eq_of_beq h2) h3 hs
    refine wpAny_Name (load_var H₁.envok hv (ne_beq h5) ?_) (ne_beq h4)
    -- frozen for the while of the look
    have hin : FzIn (fzAdd fz₁ (ad i) false vs) s₁.heap := fzAdd_in H₁.fzin hp rfl rfl
    have le : FzLe fz₁ (fzAdd fz₁ (ad i) false vs) := fun b o q => by
      unfold fzAdd
      by_cases z : b = ad i
      · rw [z, hz] at q; cases q
      · rw [if_neg z]; exact q
    cases z : opCmp .NotIn x (.list ds) with
    | bad => exact absurd z hbad
    | exc k => exact (opCmp_exc z).elim
    | ok d =>
      obtain ⟨b, rfl⟩ := opCmp_bool z
      refine wpAny_mono (cmp_good (fs := fsOf outer) (E := fun _ _ => False) H.sit.units70 hin (rep.mono le) (.list (fzAdd_self ..) (hr.mono le)) z) (fun u s₂ g => ?_) fun _ _ q => q.elim
      obtain ⟨fz₂, ⟨h', tk, rfl, e1, _, _⟩, q⟩ := good_iff.mp g
      cases rep_bool_inv q
      exact good_iff.mpr ⟨fz₁, r.trans ⟨h', tk, rfl, e1, FzExt.refl _ _, e1.fzIn r.fzin⟩, .bool _⟩
  · exact absurd rfl hbad
theorem soundB_outside {a : X} {i : Nat} (ha : SoundX prog w T base fzT n md a) : SoundB prog w T base fzT n md (.outside a i) := by
  intro A outer L env nm σ ad fz s e hm H hbad ht
  obtain ⟨l, ops, rs, pos, rfl, hm⟩ := atCompare_inv hm
  obtain ⟨op', rfl, hm⟩ := at1_inv hm
  obtain ⟨r, rfl, hm⟩ := at1_inv hm
  obtain ⟨x, px, rfl, hm⟩ := atName_inv hm
  have hop := andL hm
  have hm := andR hm
  cases (of_decide_eq_true hop : op' = .NotIn)
  have h5 := andR hm
  have hm := andL hm
  have h4 := andR hm
  have hm := andL hm
  have h3 := andR hm
  have hm := andL hm
  have h2 := andR hm
  have h1 := andL hm
  rw [evq_outside] at hbad ⊢
  refine wpAny_isTrue_Compare1 (useV (ha _ h1 H (bind_bad hbad)) (fun _ _ _ e h => excOf e h) fun x v fz₁ s₁ e r rep => ?_) rfl
  rw [e, Res.bind_ok] at hbad ⊢
  have H₁ := H.step r
  split at hbad
  · rename_i ds hs
    obtain ⟨hv, hf, hz, vs, ⟨k, hp⟩, hr⟩ := H₁.inv _ i _ (eq_of_beq h2) h3 hs
    refine wpAny_Name (load_var H₁.envok hv (ne_beq h5) ?_) (ne_beq h4)
    have hin : FzIn (fzAdd fz₁ (ad i) false vs) s₁.heap := fzAdd_in H₁.fzin hp rfl rfl
    have le : FzLe fz₁ (fzAdd fz₁ (ad i) false vs) := fun b o q => by
      unfold fzAdd
      by_cases z : b = ad i
      · rw [z, hz] at q; cases q
      · rw [if_neg z]; exact q
    cases z : opCmp .NotIn x (.list ds) with
    | bad => exact absurd z hbad
    | exc k => exact (opCmp_exc z).elim
    | ok d =>
      obtain ⟨b, rfl⟩ := opCmp_bool z
      refine wpAny_mono (cmp_good (fs := fsOf outer) (E := fun _ _ => False) H.sit.units70 hin (rep.mono le) (.list (fzAdd_self ..) (hr.mono le)) z) (fun u s₂ g => ?_) fun _ _ q => q.elim
      obtain ⟨fz₂, ⟨h', tk, rfl, e1, _, _⟩, q⟩ := good_iff.mp g
      cases rep_bool_inv q
      exact wpAny_truthy_bool ⟨rfl, fz₁, r.trans ⟨h', tk, rfl, e1, FzExt.refl _ _, e1.fzIn r.fzin⟩⟩
  · exact absurd rfl hbad
/-- an owned copy: list(e) -/
theorem soundS_own_copy (G : GOK prog w T base fzT mg mb n) {i : Nat} {a : X} (ha : SoundX prog w T base fzT n .a a) : SoundS prog w T base fzT n .a (.own i (.bi .list a)) := by
  intro A outer L env nm σ ad fz s e hm H hbad
  obtain ⟨t, pt, v, pos, rfl, hm⟩ := atSet_inv hm
  have h5 := andR hm
  have hm := andL hm
  have h4 := andR hm
  have hm := andL hm
  have h3 := andR hm
  have hm := andL hm
  have h2 := andR hm
  have h1 := andL hm
  obtain ⟨t1, t2, t3, t4⟩ := tgt_is h1
  rw [evqS_own, evq_bi] at hbad ⊢
  obtain ⟨g, as, kw, cpos, rfl, h3⟩ := atCall_inv h3
  obtain ⟨x, px, rfl, h3⟩ := atName_inv h3
  have hk := andL h3
  have h3 := andR h3
  cases nil_inv hk
  obtain ⟨e₀, rfl, h3⟩ := at1_inv h3
  have g4 := andR h3
  have h3 := andL h3
  have g3 := andR h3
  have h3 := andL h3
  have g2 := andR h3
  have g1 := andL h3
  cases (eq_of_beq g2)
  refine wpAny_Assign_Name (Call_ (built_name G H.here.hi H.here.envok g1 (G.bis .list).1 (G.bis .list).2 (callWith_type1 (args_cons (useS ha rfl g3 H (fun q => by rw [q] at hbad; exact hbad rfl) (fun k q => by rw [q]; rfl) fun d v fz₁ s₁ q r rep => args_nil ?_) (plain_star g4)) (plain_star g4)))) (noSwap_is h5)
  rw [q, Res.bind_ok] at hbad ⊢
  cases d with
  | list ds =>
    by_cases hz : ds.length ≤ 100000
    · simp only [opBi, if_pos hz] at hbad ⊢
      obtain ⟨l, vs, rfl, e1, r1⟩ := rep_list_inv rep
      have hlen := r1.length
      obtain ⟨o, k, ho, hc, hd⟩ := r.fzin _ _ _ e1
      refine call_list_seq l (.inl rfl) ho hc hd (fun h' c' hk hn => ?_) (by simp only [List.size_toArray]; rw [sizeLine_eq]; omega)
      have r2 : Rel (fsOf outer) fz₁ s₁ fz₁ { s₁ with heap := h' } := ⟨_, s₁.toks, rfl, Ext.of_keeps hk, FzExt.refl _ _, (Ext.of_keeps (fs := []) hk).fzIn r.fzin⟩
      have R := r.trans r2
      have new₁ : s₁.heap.get? s₁.heap.objs.size = none := size_none _ (Nat.le_refl _)
      have new₀ : s.heap.get? s₁.heap.objs.size = none := r.ext.none new₁
      have H₁ := H.step r
      refine store_sv (.of_rel H.live R) (H.step R) t1 t2 (.own rfl (fs_old H₁.here.hi new₁) (r.fzin.none new₁) ⟨c', hn⟩ r1 (fun w => ?_) new₀ ?_) fun s' r' h' => ⟨rfl, _, fz₁, r', h'⟩
      · obtain ⟨o, ho⟩ := H₁.live _ w; rw [new₁] at ho; cases ho
      · cases q : base.get? s₁.heap.objs.size with
        | none => rfl
        | some o => have := H₁.here.hi.stays _ _ q; rw [new₁] at this; cases this
    · simp only [opBi, if_neg hz] at hbad; exact absurd rfl hbad
  | _ => exact absurd rfl hbad
theorem entry_unchain : entryFor table "proto.unchain" = some Builtin.«proto.unchain» := entryFor_of_tree (by kernel_rfl)
theorem raiseNew_under {α : Type} {A : Around} {E : Value → Shared → Prop} {s : Shared} {Q : α → Shared → Prop} {a e₀ : Addr} {o o₀ : Obj} {vs vs₀ : Array Value}
    (hh : A.handled = some (.ref e₀)) (g1 : s.heap.get? e₀ = some o₀) (g2 : o₀.data = .fields vs₀) (g3 : vs₀[2]? = some .none) (hne : e₀ ≠ a)
    (ho : s.heap.get? a = some o) (hd : o.data = .fields vs) (hz : 2 < vs.size)
    (h : E (.ref a) { s with heap := s.heap.update a (Obj.mapFields (·.setIfInBounds 2 (.ref e₀))) }) : wpAny (model prog w) A (raiseNew (.ref a) : Sem α) Q E s := by
  unfold raiseNew
  refine wpAny_bind (wpAny_handled ?_)
  rw [hh]
  dsimp only
  rw [if_pos (by simp only [bne_iff_ne, ne_eq, Value.ref.injEq]; exact hne)]
  refine wpAny_bind (wpAny_holding (wpAny_runValue (codeAny_builtin entry_unchain ?_)))
  unfold Builtin.«proto.unchain»
  dsimp only
  refine wpAny_bind (wpAny_field g1 g2 g3 ?_)
  rw [if_pos (by rfl)]
  refine wpAny_bind (wpAny_pure (wpAny_pure ?_))
  refine wpAny_bind ?_
  unfold updateField
  refine wpAny_bind (wpAny_load ho ?_)
  rw [hd]; dsimp only
  rw [if_pos hz]
  refine wpAny_update ho ?_
  exact wpAny_throw h
end
end Mine
end
section
open PySem PySem.W PySem.Calls PyProof.Rows
namespace Mine
section
variable {prog : Program} {w : World} {T : Tab} {base : Heap} {fzT : Fz} {n : Nat} {md : Md} {mg mb : Str → Option Value}
/-- an exception rises while another one, without a context, is handled -/
theorem raise_under {α : Type} {A A' : Around} {E : Value → Shared → Prop} {s : Shared} {msg : String} {fs : List Addr} {L : Addr} {Q : α → Shared → Prop} {k : String} (hp : PlainExc k) (hk : clsL k = k) (hx : HX A s.heap) (hA : A'.handled = A.handled)
    (h : ∀ v s', Bad A.handled fs L s k v s' → E v s') : wpAny (model prog w) A' (raiseErrorWords k msg : Sem α) Q E s := by
  obtain ⟨e₀, o₀, vs₀, hh, g1, g2, g3⟩ := hx
  unfold raiseErrorWords
  refine wpAny_bind (wpAny_mkText (wpAny_bind ?_))
  unfold newExc newTuple
  refine wpAny_bind (wpAny_newObj_type ?_)
  refine wpAny_bind (m := firstArgMember _ _) (wpAny_of_eq (a := Value.none) (by simp only [firstArgMember, hp.first]; rfl) ?_)
  rw [hp.own]
  refine wpAny_newObj_type ?_
  generalize hot : ({ cls := .type "tuple", data := Data.seq _ } : Obj) = ot
  generalize hoe : ({ cls := .type k, data := Data.fields _ } : Obj) = oe
  have n1 : ot.isFreed = false := by rw [← hot]; rfl
  have n2 : oe.isFreed = false := by rw [← hoe]; rfl
  have le : s.heap.objs.size ≤ (s.heap.push ot).objs.size := by show s.heap.objs.size ≤ (s.heap.objs.push ot).size; rw [Array.size_push]; exact Nat.le_succ _
  have new : s.heap.get? (s.heap.push ot).objs.size = none := size_none _ le
  have hne : e₀ ≠ (s.heap.push ot).objs.size := fun q => by rw [← q, g1] at new; cases new
  obtain ⟨vs, hv, hz⟩ : ∃ vs, oe.data = .fields vs ∧ vs.size = 6 ∧ vs[1]? = some .none := ⟨_, by rw [← hoe], by simp, by simp⟩
  have hc : oe.cls = .type k := by rw [← hoe]
  have keep : ∀ b o, s.heap.get? b = some o → ((s.heap.push ot).push oe).get? b = some o := fun b o e => Heap.get?_push_of_some _ (Heap.get?_push_of_some _ e)
  refine raiseNew_under (e₀ := e₀) (o₀ := o₀) (vs₀ := vs₀) (by rw [hA]; exact hh) (keep _ _ g1) g2 g3 hne (Heap.get?_push_size _ n2) hv (by omega) ?_
  refine h _ _ ⟨_, s.toks + 1, _, rfl, rfl, Ext.of_keeps fun b o e => ?_, new, _, vs.setIfInBounds 2 (.ref e₀), Heap.get?_update_self _ (Heap.get?_push_size _ n2) ?_, ?_, ?_, ⟨?_, fun q => ?_⟩, .inl ?_⟩
  · refine (Heap.get?_update_other _ _ (fun q => ?_)).trans (keep b o e)
    rw [← q, new] at e; cases e
  · obtain ⟨c, d, dt, sl⟩ := oe; simp only at hv; subst hv; rfl
  · rw [hk]; obtain ⟨c, d, dt, sl⟩ := oe; simp only at hv; subst hv; exact hc
  · obtain ⟨c, d, dt, sl⟩ := oe; simp only at hv; subst hv; rfl
  · simp [hz.1]
  · rw [hh] at q; cases q
  · rw [Array.getElem?_setIfInBounds_ne (by decide)]; exact hz.2
theorem getItem_list_out_b {A A' : Around} {E : Value → Shared → Prop} {s : Shared} {fs : List Addr} {L l : Addr} {items : Array Value} {k : Int} {t : Tok} {Q : Value → Shared → Prop} (hx : HX A s.heap) (hA : A'.handled = A.handled) (hl : s.heap.IsList l items)
    (hout : (items.size : Int) ≤ k) (hhi : k < 2 ^ 63) (hE : ∀ v s', Bad A.handled fs L s "IndexError" v s' → E v s') :
    wpAny (model prog w) A' (getItem (.ref l) (.int k t)) Q E s := by
  obtain ⟨o, ho, hc, ne, hd⟩ := id hl
  unfold getItem
  try with_reducible refine wpAny_holding ?_
  first | refine wpAny_bind (wpAny_pure ?_) | skip
  refine wpAny_bind (wpAny_sequenceKey hl.typeIs (by decide) ?_)
  refine wpAny_bind (wpAny_callSpecial?_slot (name := Str.ofString "__getitem__") hl.typeIs slot_list_getitem
    (wpAny_call_entry slot_list_getitem hl.typeIs entry_list_getitem ?_ (args_list_getitem _ _)))
  show wpAny _ _ (Builtin.List.listSubscript? (.int k t) >>= _) _ _ s
  refine wpAny_bind (wpAny_listSubscript_int (fitsIndex_both (by omega) hhi) ?_)
  clear hhi
  obtain ⟨j, rfl⟩ : ∃ j : Nat, k = Int.ofNat j := ⟨k.toNat, by simp only [Int.ofNat_eq_natCast]; omega⟩
  have hx' : items[j]? = none := Array.getElem?_eq_none (by have : (items.size : Int) ≤ (j : Int) := hout; omega)
  show wpAny _ _ ((seqItemAt l j >>= fun r => pure (r.map (j, ·))) >>= _) _ _ s
  refine wpAny_bind (wpAny_bind (wpAny_seqItemAt ho hd (wpAny_pure ?_)))
  rw [hx']
  first
    | exact wpAny_bind (wpAny_rule (raise_under plainExc_IndexError (by decide) hx hA hE))
    | exact wpAny_bind (wpAny_rule (wpAny_bind (raise_under plainExc_IndexError (by decide) hx hA hE)))
    | exact wpAny_bind (wpAny_bind (wpAny_rule (raise_under plainExc_IndexError (by decide) hx hA hE)))
    | exact wpAny_rule (raise_under plainExc_IndexError (by decide) hx hA hE)
theorem sound_idx_b {a b : X} (ha : SoundX prog w T base fzT n .b a) (hb : SoundX prog w T base fzT n .b b) : SoundX prog w T base fzT n .b (.idx a b) := by
  intro A outer L env nm σ ad fz s e hm H hbad
  obtain ⟨v, i, pos, rfl, hm⟩ := atSubscript_inv hm
  have h3 := andR hm
  have hm := andL hm
  have h2 := andR hm
  have h1 := andL hm
  rw [evq_idx] at hbad ⊢
  refine Subscript_ (useV (ha _ h1 H (bind_bad hbad)) (fun _ _ _ e h => excOf e h) fun x v fz₁ s₁ e r rep => ?_)
  rw [e, Res.bind_ok] at hbad ⊢
  refine useV (hb _ h2 (H.step r) (bind_bad hbad)) (fun _ _ _ e h => PostE.after r (excOf e h)) fun y u fz₂ s₂ e' r' rep' => ?_
  rw [e', Res.bind_ok] at hbad ⊢
  refine finV (r.trans r') ?_
  cases z : opIdx x y with
  | bad => exact absurd z hbad
  | ok d => exact idx_good (plain_sub h3) r'.fzin (rep.mono r'.fz.le) rep' z
  | exc k =>
    obtain ⟨k, rfl, hk, z⟩ := opIdx_inv z (fun q => by cases q)
    obtain ⟨ds, rfl, rfl, hlt⟩ := idxAt_exc z
    obtain ⟨l, vs, rfl, e1, r1⟩ := rep_list_inv (rep.mono r'.fz.le)
    obtain ⟨t, rfl⟩ := rep_int_inv rep'
    have hl := r1.length
    have hX : HX A s₂.heap := ((H.step r).step r').hx rfl
    refine tail_any (r'.fzin.isList e1).typeIs slot_list_getitem.lookup (getItem_list_out_b hX rfl (r'.fzin.isList e1) (by simp only [List.size_toArray]; omega) (by omega) fun v s' hx => hx) (plain_sub h3 _ _)
end
end Mine
end
section
open PySem PySem.W PySem.Calls PyProof.Rows
namespace Mine
section
variable {prog : Program} {w : World} {T : Tab} {base : Heap} {fzT : Fz} {n : Nat} {md : Md} {mg mb : Str → Option Value} {A : Around} {outer : List Env} {L : Addr} {env : Env} {nm : List Str} {σ : List SV} {ad : Nat → Addr} {fz : Fz} {s : Shared}
theorem list_extend_gen (l : Addr) (items : Array Value) (n : Nat) (b : Addr) (items2 : Array Value) (n2 : Nat) (d : Option Addr) (sl : Array (Option Value)) (hc0 : ¬(!items.isEmpty && Builtin.List.listTooLong (items.size + items2.size)) = true) (hc1 : items.size ≤ sizeLine) (hs2 : items.size + items2.size ≤ sizeLine + 1) :
    Meets (Builtin.«list.extend» ⟨[.ref l, .ref b], []⟩) (fun _ R s => s.heap.get? l = some { cls := .type "list", dict := none, data := .seq items n, slots := #[] } ∧ s.heap.get? b = some { cls := .type "list", dict := d, data := .seq items2 n2, slots := sl } ∧ R (.ok (.ret Value.none)) { s with heap := s.heap.update l (Obj.mapSeq fun x => x ++ items2), toks := s.toks }) :=
  .of_wp fun prog w A R s h => by
    obtain ⟨hp, g, dr, tk, os⟩ := s; obtain ⟨hl, hb, h⟩ := h; have f1 := AutoSeq1.idx_int; have f2 := AutoSeq1.sub_tuple_tuple; have f3 := AutoSeq1.sub_list_list; have f4 := AutoSeq1.sub_tuple_list; have f5 := AutoSeq1.sub_list_tuple
    have hz' : (items ++ items2).size ≤ sizeLine + 1 := by rw [Array.size_append]; exact hs2
    wp_walk using (wpAny_updateSeq hl rfl (hz := hc1) (_hz' := hz')), wpAny_loadPart' hl, wpAny_loadPart' hb
    exact ⟨_, rfl, h⟩
theorem not_tooLong {k m : Nat} (h : k + m < 100000) (e : Bool) : ¬(!e && Builtin.List.listTooLong (k + m)) = true := by
  have : Builtin.List.listTooLong (k + m) = false := by unfold Builtin.List.listTooLong; simp [sizeLine_eq]; omega
  rw [this]; cases e <;> decide
theorem plain_update {h : Heap} {a : Addr} {xs : Array Value} (f : Array Value → Array Value) (hp : h.PlainList a xs) : (h.update a (Obj.mapSeq f)).PlainList a (f xs) ∧ Heap.SameBut a h (h.update a (Obj.mapSeq f)) := by
  obtain ⟨k, hk⟩ := hp
  exact ⟨⟨_, IsL.update hk f⟩, Heap.SameBut.update ..⟩
theorem soundS_extend {i : Nat} {x : X} (hx : SoundX prog w T base fzT n md x) : SoundS prog w T base fzT n md (.extend i x) := by
  intro A outer L env nm σ ad fz s e hm H hbad
  obtain ⟨t, pt, name, apos, e₀, cpos, pos, rfl, hm⟩ := atMeth_inv hm
  have h5 := andR hm
  have hm := andL hm
  have h4 := andR hm
  have hm := andL hm
  have h3 := andR hm
  have hm := andL hm
  have h2 := andR hm
  have h1 := andL hm
  cases (eq_of_beq h2)
  rw [evqS_extend] at hbad ⊢
  cases hi : σ[i]? with
  | none => rw [hi] at hbad; exact absurd rfl hbad
  | some sv =>
    cases sv with
    | un => rw [hi] at hbad; exact absurd rfl hbad
    | val d => rw [hi] at hbad; exact absurd rfl hbad
    | own ds =>
      simp only [hi] at hbad ⊢
      have tr : backTo cpos (starEach [e₀] env) = [(false, eval e₀ env)] := by rw [plain_star h5]; rfl
      refine wpAny_Expr_any (wpAny_Call_method rfl (by rw [tr]; rfl) h3 F.plainAttrs_list F.slot_list_extend F.type_list_extend (load_own H hi h1 ?_)) (not_interactive H.here.envok)
      obtain ⟨_, vs, _, _, _, _, ⟨k, hp⟩, hr⟩ := H.ownAt hi
      refine ⟨⟨_, hp, rfl⟩, fun a q => by cases q; exact ⟨_, hp, rfl⟩, ?_⟩
      rw [tr]
      refine seqMethod1_meets F.slot_list_extend F.entry_list_extend ?_
      refine useS hx rfl h4 H (fun q => by rw [q] at hbad; exact hbad rfl) (fun k q => by rw [q]) fun d v fz₁ s₁ q r rep => ?_
      rw [q] at hbad ⊢
      have H₁ := H.step r
      obtain ⟨_, vs₁, _, _, _, _, hp₁, hr₁⟩ := H₁.ownAt hi
      have hlen := hr₁.length
      cases d with
      | list es =>
        by_cases hz : ds.length + es.length < 100000
        · simp only [if_pos hz]
          obtain ⟨b, us, rfl, e1, r1⟩ := rep_list_inv rep
          have hlen2 := r1.length
          obtain ⟨⟨c, dd, dt, sl⟩, kb, ho, hc, hd⟩ := r.fzin _ _ _ e1
          simp only at hc hd; subst hc hd
          obtain ⟨k₁, hk₁⟩ := id hp₁
          refine ⟨⟨_, hk₁, rfl⟩, F.args_list_extend_2 _ _, _, list_extend_gen (ad i) _ k₁ b _ kb dd sl (by simp only [List.size_toArray]; rw [hlen, hlen2]; exact not_tooLong hz _) (by simp only [List.size_toArray]; rw [sizeLine_eq]; omega) (by simp only [List.size_toArray]; rw [sizeLine_eq]; omega), hk₁, ho, ?_⟩
          obtain ⟨u1, u2⟩ := plain_update (· ++ us.toArray) hp₁
          obtain ⟨a, b⟩ := own_upd (tk := s₁.toks) (vs' := vs₁ ++ us) (.of_rel H.live r) H₁ hi u2 (by simpa using u1) (hr₁.append r1)
          exact ⟨rfl, ad, fz₁, a, b⟩
        · simp only [if_neg hz] at hbad; exact absurd rfl hbad
      | _ => exact absurd rfl hbad
end
end Mine
end
section
open PySem PySem.W PySem.Calls PyProof.Rows
namespace Mine
section
variable {prog : Program} {w : World} {T : Tab} {base : Heap} {fzT : Fz} {n : Nat} {md : Md} {mg mb : Str → Option Value} {A : Around} {outer : List Env} {L : Addr} {env : Env} {nm : List Str} {σ : List SV} {ad : Nat → Addr} {fz : Fz} {s : Shared}
theorem removeLoop {fz : Fz} {l : Addr} {n : Nat} {v : Value} {d : PyData} (rv : Rep fz v d) (kd : okD d = true) :
    ∀ (post : List Value) (ds : List PyData) (pre : List Value), RepAll fz post ds → ds.all (okN 5) = true → (pre ++ post).length ≤ 100000 → Meets (Builtin.«list.remove.loop» ⟨[.ref l, v, rawInt pre.length], []⟩)
      (fun A R s => IsL s.heap l (pre ++ post).toArray n ∧ FzIn fz s.heap ∧ A.units + 70 < cLine ∧
        (∀ j es, removeD d ds = some es → RepAll fz (post.eraseIdx j) es → R (.ok (.ret .none)) { s with heap := s.heap.update l (Obj.mapSeq fun xs => xs.eraseIdxIfInBounds (pre.length + j)) }) ∧
        (removeD d ds = none → raisesNew "ValueError" A R s))
  | [], ds, pre, hr, hk, hz => by
    cases hr
    intro prog w A R s h
    obtain ⟨hp, g, dr, tk, os⟩ := s; obtain ⟨hl, hf, hu, _, h⟩ := h
    wp_walk using AutoSeq1.wpAny_loadPart' hl
    have hi : (pre ++ []).toArray[((pre.length : Nat) : Int).toNat]? = none := by simp
    rw [hi]
    wp_walk
    exact_raiseError plainExc_ValueError (h rfl).1 (h rfl).2
  | y :: post, ds, pre, hr, hk, hz => by
    cases hr with
    | cons ry hr =>
    rename_i dy ds
    intro prog w A R s h
    obtain ⟨hp, g, dr, tk, os⟩ := s; obtain ⟨hl, hf, hu, h1, h2⟩ := h
    wp_walk using AutoSeq1.wpAny_loadPart' hl
    have hi : (pre ++ y :: post).toArray[((pre.length : Nat) : Int).toNat]? = some y := by simp
    rw [hi]
    rw [List.all_cons] at hk
    have ky := Bool.and_eq_true_iff.mp hk
    obtain ⟨_, q1⟩ := Rep.reads_n hf 5 ky.1 ry; obtain ⟨_, q2⟩ := rv.reads hf kd
    have dd := (okD_lay kd).2
    refine wpAny_bind (SeqAt.eqBoolOverData prog w _ _ _ _ _ _ _ _ _ _ q1 q2 (okN_lay 5 _ ky.1).1 (okD_lay kd).1 (by have : A.in1.units ≤ A.units + 1 := Nat.le_refl _; omega) ?_)
    cases he : PyData.eqv dy d with
    | true =>
      have hr0 : removeD d (dy :: ds) = some ds := by unfold removeD; rw [if_pos he]
      have hs1 : (pre ++ y :: post).toArray.size ≤ sizeLine := by simp only [List.size_toArray]; rw [sizeLine_eq]; omega
      have hz' : ((pre ++ y :: post).toArray.eraseIdxIfInBounds ((pre.length : Nat) : Int).toNat).size ≤ sizeLine + 1 := Nat.le_trans (MeetsSeq.size_erased _ _) (Nat.le_succ_of_le hs1)
      wp_walk using (wpAny_updateSeq hl rfl (hz := hs1) (_hz' := hz')), AutoSeq1.wpAny_loadPart' hl
      exact h1 0 ds hr0 (by simpa using hr)
    | false =>
      have hr0 : removeD d (dy :: ds) = (removeD d ds).map (dy :: ·) := by rw [removeD, he]; rfl
      wp_walk
      have hc : ((pre.length : Int) + 1) = (((pre ++ [y]).length : Nat) : Int) := by simp
      rw [hc]
      refine ⟨plainId_quiet MeetsSeq.plain_remove_loop _, codeAny_builtin MeetsSeq.entry_remove_loop ?_⟩
      rw [Around.under_plainId MeetsSeq.plain_remove_loop _]
      refine removeLoop rv kd post ds (pre ++ [y]) hr ky.2 (by simpa using hz) prog w A R _ ⟨by simpa using hl, hf, hu, fun j es q1 q2 => ?_, fun q => ?_⟩
      · have := h1 (j + 1) (dy :: es) (by rw [hr0, q1]; rfl) (by simpa using RepAll.cons ry q2)
        have ej : (pre ++ [y]).length + j = pre.length + (j + 1) := by simp; omega
        rw [ej]; exact this
      · exact h2 (by rw [hr0, q]; rfl)
theorem listRemove {fz : Fz} {l : Addr} {n : Nat} {v : Value} {d : PyData} {vs : List Value} {ds : List PyData} (rv : Rep fz v d) (kd : okD d = true) (kl : okD (.list ds) = true) (hr : RepAll fz vs ds) (hz : ds.length ≤ 100000) : Meets (Builtin.«list.remove» ⟨[.ref l, v], []⟩)
      (fun A R s => IsL s.heap l vs.toArray n ∧ FzIn fz s.heap ∧ A.units + 70 < cLine ∧
        (∀ j es, removeD d ds = some es → RepAll fz (vs.eraseIdx j) es → R (.ok (.ret .none)) { s with heap := s.heap.update l (Obj.mapSeq fun xs => xs.eraseIdxIfInBounds j) }) ∧
        (removeD d ds = none → raisesNew "ValueError" A R s)) := by
  intro prog w A R s h
  obtain ⟨hp, g, dr, tk, os⟩ := s; obtain ⟨hl, hf, hu, h1, h2⟩ := h
  have hlen := hr.length
  wp_walk using AutoSeq1.wpAny_loadPart' hl
  refine ⟨plainId_quiet MeetsSeq.plain_remove_loop _, codeAny_builtin MeetsSeq.entry_remove_loop ?_⟩
  rw [Around.under_plainId MeetsSeq.plain_remove_loop _]
  refine removeLoop rv kd vs ds [] hr kl (by simp only [List.nil_append]; omega) prog w A R _ ⟨hl, hf, hu, fun j es q1 q2 => ?_, h2⟩
  have := h1 j es q1 q2
  simpa using this
theorem soundS_remove {i : Nat} {x : X} (hx : SoundX prog w T base fzT n .a x) : SoundS prog w T base fzT n .a (.remove i x) := by
  intro A outer L env nm σ ad fz s e hm H hbad
  obtain ⟨t, pt, name, apos, e₀, cpos, pos, rfl, hm⟩ := atMeth_inv hm
  have h5 := andR hm
  have hm := andL hm
  have h4 := andR hm
  have hm := andL hm
  have h3 := andR hm
  have hm := andL hm
  have h2 := andR hm
  have h1 := andL hm
  cases (eq_of_beq h2)
  rw [evqS_remove] at hbad ⊢
  cases hi : σ[i]? with
  | none => rw [hi] at hbad; exact absurd rfl hbad
  | some sv =>
    cases sv with
    | un => rw [hi] at hbad; exact absurd rfl hbad
    | val d => rw [hi] at hbad; exact absurd rfl hbad
    | own ds =>
      simp only [hi] at hbad ⊢
      have tr : backTo cpos (starEach [e₀] env) = [(false, eval e₀ env)] := by rw [plain_star h5]; rfl
      refine wpAny_Expr_any (wpAny_Call_method rfl (by rw [tr]; rfl) h3 F.plainAttrs_list F.slot_list_remove F.type_list_remove (load_own H hi h1 ?_)) (not_interactive H.here.envok)
      obtain ⟨_, vs, _, _, _, _, ⟨k, hp⟩, hr⟩ := H.ownAt hi
      refine ⟨⟨_, hp, rfl⟩, fun a q => by cases q; exact ⟨_, hp, rfl⟩, ?_⟩
      rw [tr]
      refine seqMethod1_meets F.slot_list_remove F.entry_list_remove ?_
      refine useS hx rfl h4 H (fun q => by rw [q] at hbad; exact hbad rfl) (fun k q => by rw [q]) fun d v fz₁ s₁ q r rep => ?_
      rw [q] at hbad ⊢
      have H₁ := H.step r
      obtain ⟨_, vs₁, _, _, _, _, hp₁, hr₁⟩ := H₁.ownAt hi
      by_cases hz : (okD d && okD (.list ds) && decide (ds.length < 100000)) = true
      · simp only [if_pos hz] at hbad ⊢
        have hz3 := andR hz
        have hz1 := andL hz
        have hz2 := andR hz1
        have hz1 := andL hz1
        have hz3 := of_decide_eq_true hz3
        obtain ⟨k₁, hk₁⟩ := id hp₁
        refine ⟨⟨_, hk₁, rfl⟩, F.args_list_remove_2 _ _, _, listRemove (l := ad i) (n := k₁) rep hz1 hz2 hr₁ (by omega), hk₁, H₁.here.fzin, H₁.here.sit.units70, fun j es q1 q2 => ?_, fun q => ⟨H₁.here.sit.handled rfl, fun h' tk e hx => ?_⟩⟩
        · rw [q1]
          obtain ⟨u1, u2⟩ := plain_update (fun xs => xs.eraseIdxIfInBounds j) hp₁
          obtain ⟨a, b⟩ := own_upd (tk := s₁.toks) (vs' := vs₁.eraseIdx j) (.of_rel H.live r) H₁ hi u2 (by simpa using u1) q2
          exact ⟨rfl, ad, fz₁, a, b⟩
        · rw [q]
          have B : Bad A.handled (fsOf outer) L s "ValueError" (.ref e) { s₁ with heap := h', toks := tk } := PostE.after (r := .exc "ValueError") r (newExc_bad (hd := A.handled) (fs := fsOf outer) (L := L) (tk := tk) (by decide) hx)
          show PostX base fzT .a n A outer L env nm σ ad fz s (.exc "ValueError" σ) (.ref e) { s₁ with heap := h', toks := tk }
          obtain ⟨h'', tk', ex, e0, e00, e1, e2⟩ := B
          cases e00
          have r2 : Rel (fsOf outer) fz₁ s₁ fz₁ { s₁ with heap := h', toks := tk } := ⟨h', tk, rfl, Ext.of_keeps hx.keeps, FzExt.refl _ _, (Ext.of_keeps (fs := []) hx.keeps).fzIn r.fzin⟩
          have R := r.trans r2
          have e3 : h' = h'' := congrArg (·.heap) e0
          subst e3
          refine ⟨e, ad, fz₁, rfl, .of_rel H.live R, H.step R, excAt_hd e2, fun w => ?_⟩
          obtain ⟨o, ho⟩ := H.live e w
          rw [e2.new] at ho; cases ho
      · simp only [if_neg hz] at hbad; exact absurd rfl hbad
end
end Mine
end
section
open PySem PySem.W PySem.Calls PyProof.Rows
namespace Mine
section
variable {prog : Program} {w : World} {T : Tab} {base : Heap} {fzT : Fz} {n : Nat} {md : Md} {mg mb : Str → Option Value} {A : Around} {outer : List Env} {L : Addr} {env : Env} {nm : List Str} {σ : List SV} {ad : Nat → Addr} {fz : Fz} {s : Shared}
/-- a comprehension whose list is handed on -/
noncomputable def SoundC (prog : Program) (w : World) (T : Tab) (base : Heap) (fzT : Fz) (n : Nat) (x : X) : Prop :=
  ∀ {A : Around} {outer : List Env} {L : Addr} {env : Env} {nm : List Str} {σ : List SV} {ad : Nat → Addr} {fz : Fz} {s : Shared} (e : Expr) (gens : List Comprehension) (scope : Scope) (pos : Pos),
    Mx T env.scope.names nm x (.ListComp e gens scope pos) = true → Here base fzT .a n A outer L env nm σ ad fz s → ∀ out, ev T x σ = .ok (.list out) → ∀ {E : Value → Shared → Prop} (use : Option (Value → Sem Unit)) (Q : Value → Shared → Prop),
    (∀ acc C r s', compPost (model prog w) A (fun _ _ => False) none (Good (fsOf outer) fz s (.list out)) acc C r s' → compPost (model prog w) A E use Q acc C r s') →
    wpAny (model prog w) A (comprehension (.ListComp e gens scope pos) scope env (firstIterPos gens pos) (newList []) (firstAsync gens) (firstIter gens env) use) Q E s
theorem soundC_comp {src cond elt : X} (hs : SoundX prog w T base fzT n .a src) (hc : SoundB prog w T base fzT n .a cond) (he : SoundX prog w T base fzT n .a elt) : SoundC prog w T base fzT n (.comp src cond elt) := by
  intro A outer L env nm σ ad fz s e₁ gens₁ scope₁ pos₁ hm H out ho E use Q hQ
  obtain ⟨e₀, gens, scope, pos, hE, hm⟩ := atListComp_inv hm
  cases hE
  obtain ⟨⟨tg, iter, ifs, asy⟩, rfl, hm⟩ := at1_inv hm
  obtain ⟨t, pt, htg, hm⟩ := atName_inv hm
  cases (htg : tg = _)
  have hz := andL hm
  have hm := andR hm
  cases (of_decide_eq_true hz : asy = 0)
  have h7 := andR hm
  have hm := andL hm
  have h6 := andR hm
  have hm := andL hm
  have h5 := andR hm
  have hm := andL hm
  have h4 := andR hm
  have hm := andL hm
  have h3 := andR hm
  have hm := andL hm
  have h2 := andR hm
  have h1 := andL hm
  have X := compCx_of h3
  rw [evq_comp] at ho
  have hb1 : ev T src σ ≠ .bad := fun q => by rw [q] at ho; cases ho
  refine wpAny_comprehension_free (use := use) rfl (plain_set h2) (clos_is (cells_some X H.envok)) X.kind (names_local X.nodup) ?_
  refine useV (hs iter h1 H hb1) (fun k _ _ e h => by rw [e] at ho; cases ho) fun d v fz₁ s₁ q r rep => ?_
  rw [q, Res.then_ok] at ho
  have H₁ := H.step r
  cases z : itemsOf d with
  | none => simp only [z] at ho; cases ho
  | some ds =>
    simp only [z] at ho
    have hlen : ds.length ≤ 100000 := by
      unfold itemsOf at z
      split at z <;> first | (split at z <;> first | (cases z; assumption) | cases z) | cases z
    refine wpAny_mono (iter_good (E := fun _ _ => False) (H₁.sit.handled rfl) H₁.hi H₁.fzin rep z) (fun it s₂ g => ?_) fun _ _ f => f.elim
    refine wpAny_mono (comp_run (E := fun _ _ => False) (pt := pt) (iter := iter) (pos := pos₁) H₁ X (tgt_own h4) hc he (ifs_cases h7) h5 g hlen ho) (fun acc s₃ k => ?_) fun _ _ f => f.elim
    refine wpAny_mono k (fun cenv s₄ k => ?_) fun _ _ f => f.elim
    exact codeAny_mono k fun rr s' k => hQ _ _ _ _ (compPost_after (fun _ _ g => Good.after r g) k)
theorem soundC_compR (G : GOK prog w T base fzT mg mb n) {a b c : Int} {cond elt : X} (hc : SoundB prog w T base fzT n .a cond) (he : SoundX prog w T base fzT n .a elt) : SoundC prog w T base fzT n (.compR a b c cond elt) := by
  intro A outer L env nm σ ad fz s e₁ gens₁ scope₁ pos₁ hm H out ho E use Q hQ
  obtain ⟨e₀, gens, scope, pos, hE, hm⟩ := atListComp_inv hm
  cases hE
  obtain ⟨⟨tg, iter, ifs, asy⟩, rfl, hm⟩ := at1_inv hm
  obtain ⟨t, pt, htg, hm⟩ := atName_inv hm
  cases (htg : tg = _)
  have hz := andL hm
  have hm := andR hm
  cases (of_decide_eq_true hz : asy = 0)
  have h7 := andR hm
  have hm := andL hm
  have h6 := andR hm
  have hm := andL hm
  have h5 := andR hm
  have hm := andL hm
  have h4 := andR hm
  have hm := andL hm
  have h3 := andR hm
  have h1 := andL hm
  have X := compCx_of h3
  rw [evq_compR] at ho
  have hp : ∀ x, foldedSetIterable iter env x = pure x := range_set h1
  refine wpAny_comprehension_free (use := use) rfl hp (clos_is (cells_some X H.envok)) X.kind (names_local X.nodup) ?_
  by_cases hr : rangeOk a b c = true
  · rw [if_pos hr] at ho
    have hk := hr
    unfold rangeOk at hk
    have k4 := andR hk
    have hk := andL hk
    have k3 := andR hk
    have hk := andL hk
    have k2 := andR hk
    have k1 := andL hk
    have k2' := andR k2
    have k2 := andL k2
    have hlen : (rangeD a b c).length ≤ 100000 := by
      have := of_decide_eq_true k4; unfold rangeD; simp only [List.length_map, List.length_range]; omega
    refine wpAny_mono (range_good (E := fun _ _ => False) G H.hi H.envok h1 (of_decide_eq_true k2) (of_decide_eq_true k2')) (fun v s₁ g => ?_) fun _ _ f => f.elim
    refine wpAny_mono (iter_range (E := fun _ _ => False) (fz := fz) (H.sit.handled rfl) H.hi hr g) (fun it s₂ g => ?_) fun _ _ f => f.elim
    refine wpAny_mono (comp_run (E := fun _ _ => False) (pt := pt) (iter := iter) (pos := pos₁) H X (tgt_own h4) hc he (ifs_cases h7) h5 g hlen ho) (fun acc s₃ k => ?_) fun _ _ f => f.elim
    refine wpAny_mono k (fun cenv s₄ k => ?_) fun _ _ f => f.elim
    exact codeAny_mono k fun rr s' k => hQ _ _ _ _ k
  · rw [if_neg hr] at ho; cases ho
theorem compPost_E {M : Model} {A : Around} {E : Value → Shared → Prop} {Q Q' : Value → Shared → Prop} {acc : Value} {C : Addr} {r : Result} {s' : Shared} (hQ : ∀ v s, Q v s → Q' v s) (h : compPost M A (fun _ _ => False) none Q acc C r s') : compPost M A E none Q' acc C r s' := by
  unfold compPost at h ⊢
  cases r with
  | ok f => obtain ⟨m, a, b⟩ := h; exact ⟨m, a, fun h' hs => hQ _ _ (b h' hs)⟩
  | error x =>
    obtain ⟨m, hn, h⟩ := h
    exact ⟨m, hn, fun h' hs cenv hc => wpAny_mono (h h' hs cenv hc) (fun _ _ f => f) fun _ _ f => f.elim⟩
/-- a comprehension as an expression -/
theorem soundX_C {x : X} (hx : SoundC prog w T base fzT n x) (hl : ∀ σ, ev T x σ ≠ .bad → ∃ out, ev T x σ = .ok (.list out)) (he : ∀ sc nm e, Mx T sc nm x e = true → ∃ e₀ gens scope pos, e = .ListComp e₀ gens scope pos) : SoundX prog w T base fzT n .a x := by
  intro A outer L env nm σ ad fz s e hm H hbad
  obtain ⟨e₀, gens, scope, pos, rfl⟩ := he _ _ _ hm
  obtain ⟨out, ho⟩ := hl σ hbad
  rw [eval_ListComp, ho]
  exact hx e₀ gens scope pos hm H out ho none _ fun acc C r s' k => compPost_E (fun _ _ g => g) k
theorem swaps_is {t : Str} {p : Pos} {e : Expr} {gens : List Comprehension} {scope : Scope} {lp : Pos} {line : Nat} (hk : env.blockKind = .function) (h1 : env.scope.names.lookup t = some .local) (h2 : (p.line == lp.line) = true) (h3 : (!(scope.names.any fun (m, k) => m == t && (k == .local || k == .cell))) = true) :
    swapsWith (.ListComp e gens scope lp) (some (.Name t p)) line env = pure true := by
  have hl : (env.kindOf t == some NameKind.local) = true := by show (env.scope.names.lookup t == some NameKind.local) = true; rw [h1]; rfl
  have e : swapsWith (.ListComp e gens scope lp) (some (.Name t p)) line env = pure (env.blockKind == .function && env.kindOf t == some .local && p.line == lp.line && !(scope.names.any fun (m, k) => m == t && (k == .local || k == .cell))) := rfl
  rw [e, hk, hl, h2, h3]
  rfl
theorem post_used {E : Value → Shared → Prop} {i : Nat} {t : Str} {p : Pos} {acc : Value} {C : Addr} {r : Result} {s' : Shared} {d : PyData} (H : HereS base fzT md n A outer L env nm σ ad fz s) (ht : tgt env.scope.names nm i t = true)
    (h : compPost (model prog w) A (fun _ _ => False) none (Good (fsOf outer) fz s d) acc C r s') :
    compPost (model prog w) A E (some (assign (.Name t p) env)) (fun _ s'' => ∃ ad' fz', RelS env (fsOf outer) σ ad fz s (putV σ i d) ad' fz' s'' ∧ HereS base fzT md n A outer L env nm (putV σ i d) ad' fz' s'') acc C r s' := by
  obtain ⟨t1, t2, t3, t4⟩ := tgt_is ht
  unfold compPost at h ⊢
  cases r with
  | error x =>
    obtain ⟨m, hn, h⟩ := h
    refine ⟨m, hn, fun h' hs cenv hc => ?_⟩
    exact wpAny_mono (h h' hs cenv hc) (fun _ _ f => f) fun _ _ f => f.elim
  | ok f =>
    obtain ⟨m, hn, h⟩ := h
    have hC : s.heap.get? C = none := by
      cases q : s.heap.get? C with
      | none => rfl
      | some o =>
        obtain ⟨o', es, ep, ho, hd, _⟩ := id hn
        obtain ⟨fz₁, ⟨h1, tk1, e1, x1, _, _⟩, _⟩ := good_iff.mp (h (s'.heap.update C (fun o => { o with data := .seq #[] })) (Heap.SameBut.update ..))
        obtain ⟨fz₂, ⟨h2, tk2, e2, x2, _, _⟩, _⟩ := good_iff.mp (h _ (Heap.SameBut.refl _ _))
        have e1' : s'.heap.update C (fun o => { o with data := .seq #[] }) = h1 := congrArg (·.heap) e1
        have e2' : s'.heap = h2 := congrArg (·.heap) e2
        rw [← e1'] at x1; rw [← e2'] at x2
        obtain ⟨sl1, g1, _⟩ := x1 C o q
        obtain ⟨sl2, g2, _⟩ := x2 C o q
        rw [Heap.get?_update_self _ ho rfl] at g1
        rw [ho] at g2
        have a1 := congrArg (fun o => o.map (·.data)) g1
        have a2 := congrArg (fun o => o.map (·.data)) g2
        simp only [Option.map_some, Option.some.injEq] at a1 a2
        rw [← a2, hd] at a1; cases a1
    obtain ⟨fz₁, R, rep⟩ := good_iff.mp (h _ (Heap.SameBut.refl _ _))
    have H₁ := H.step R
    have nC : ¬ WrS env σ ad C := fun w => by
      obtain ⟨o, ho⟩ := H.live C w; rw [hC] at ho; cases ho
    refine wpAny_assign_Name (store_sv (a' := 0) (RelS.refl H₁) H₁ t1 t2 (.val rep) fun s'' r' h' => ?_)
    have hC' : s''.heap.Ns C m := r'.ext.ns nC hn
    refine ⟨m, hC', fun h2 hs2 => ⟨fun j => if j = i then 0 else ad j, fz₁, ?_, ?_⟩⟩
    · refine RelS.other (W := (· = C)) (tk := s''.toks) (RelS.trans (.of_rel H.live R) r') (ExtW.of_but hs2 rfl) (fun b q => by rw [q]; exact hC) fun b hb q => ?_
      rw [q] at hb; exact nC hb
    · obtain ⟨oC, es, ep, hoC, hdC, _⟩ := id hn
      refine HereS.other (W := (· = C)) (tk := s''.toks) h' (ExtW.of_but hs2 rfl) (fun b q hb => ?_) (fun b q => ?_) (fun b q => ?_) (fun b q => ?_) fun q a ha z => ?_
      · rw [q] at hb
        rcases r'.wr C hb with z | z
        · exact nC z
        · rw [hoC] at z; cases z
      · rw [q]
        cases z : fz₁ C with
        | none => rfl
        | some y =>
          obtain ⟨tt, vs⟩ := y
          obtain ⟨o, k, g1, _, g3⟩ := R.fzin C tt vs z
          rw [hoC] at g1; cases g1; rw [hdC] at g3; cases g3
      · rw [q]; exact fs_old H.here.hi hC
      · rw [q]
        cases z : base.get? C with
        | none => rfl
        | some o => have := H.here.hi.stays _ _ z; rw [hC] at this; cases this
      · obtain ⟨e, o, vs, g1, g2, _⟩ := H.here.hx q
        rw [ha] at g1; cases g1
        rw [z, hC] at g2; cases g2
theorem soundS_assignL {i : Nat} {x : X} (hx : SoundC prog w T base fzT n x) (hxl : ∀ σ, ev T x σ ≠ .bad → ∃ out, ev T x σ = .ok (.list out)) : SoundS prog w T base fzT n .a (.assignL i x) := by
  intro A outer L env nm σ ad fz s e hm H hbad
  obtain ⟨t, p, v, pos, rfl, hm⟩ := atSet_inv hm
  obtain ⟨e₀, gens, scope, lp, rfl, hm⟩ := atListComp_inv hm
  have h5 := andR hm
  have hm := andL hm
  have h4 := andR hm
  have hm := andL hm
  have h3 := andR hm
  have hm := andL hm
  have h2 := andR hm
  have h1 := andL hm
  rw [evqS_assignL] at hbad ⊢
  cases z : ev T x σ with
  | bad => rw [z] at hbad; exact absurd rfl hbad
  | exc k => rw [z] at hbad; exact absurd rfl hbad
  | ok d =>
    obtain ⟨out, hz⟩ := hxl σ (by rw [z]; intro q; cases q)
    rw [z] at hz; cases hz
    rw [exec_Assign_Name_used _ _ _ _ (swaps_is (by unfold Env.blockKind; rw [H.here.envok.kind]; rfl) (eq_of_beq h3) h4 h5)]
    refine wpAny_bind (wpAny_standAt (wpAny_bind ?_))
    unfold evalThenUse
    refine wpAny_bind (wpAny_mono (hx e₀ gens scope lp h2 H.here out z (some (assign (.Name t p) env)) _ fun acc C r s' k => post_used H h1 k) (fun v s' k => ?_) fun _ _ f => f)
    obtain ⟨ad', fz', R, H'⟩ := k
    exact wpAny_pure (wpAny_pure ⟨rfl, ad', fz', R, H'⟩)
theorem comp_isList {src cond elt : X} (σ : List SV) (h : ev T (.comp src cond elt) σ ≠ .bad) : ∃ out, ev T (.comp src cond elt) σ = .ok (.list out) := by
  rw [evq_comp] at h ⊢
  cases q : ev T src σ with
  | bad => rw [q] at h; exact absurd rfl h
  | exc k => rw [q] at h; exact absurd rfl h
  | ok l =>
    rw [q] at h
    rw [Res.then_ok] at h ⊢
    cases z : itemsOf l with
    | none => simp only [z] at h; exact absurd trivial (by simpa using h)
    | some ds => simp only [z] at h ⊢; exact compGo_list h
theorem compR_isList {a b c : Int} {cond elt : X} (σ : List SV) (h : ev T (.compR a b c cond elt) σ ≠ .bad) : ∃ out, ev T (.compR a b c cond elt) σ = .ok (.list out) := by
  rw [evq_compR] at h ⊢
  split at h
  · rename_i q; rw [if_pos q]; exact compGo_list h
  · exact absurd rfl h
end
end Mine
end
section
open PySem PySem.W PySem.Calls PyProof.Rows
namespace Mine
section
variable {prog : Program} {w : World} {T : Tab} {base : Heap} {fzT : Fz} {n : Nat} {md : Md} {mg mb : Str → Option Value} {A : Around} {outer : List Env} {L : Addr} {env : Env} {nm : List Str} {σ : List SV} {ad : Nat → Addr} {fz : Fz} {s : Shared}
theorem glued_cat : ∀ (l : List Str), Builtin.Str.glued ⟨#[]⟩ l = catS l := by
  have go : ∀ (l : List Str) (a : Array Nat), l.foldl (fun acc p => acc ++ (#[] : Array Nat) ++ p.cps) a = a ++ (catS l).cps := by
    intro l
    induction l with
    | nil => intro a; simp [catS]
    | cons x r ih => intro a; rw [List.foldl_cons, ih]; simp [catS, Array.append_assoc]
  intro l
  cases l with
  | nil => rfl
  | cons x r =>
    unfold Builtin.Str.glued
    simp only [List.drop_succ_cons, List.drop_zero, List.headD_cons]
    rw [go]; rfl
theorem strs_inv {fz : Fz} : ∀ {vs : List Value} {ds : List PyData} {l : List Str}, RepAll fz vs ds → strsOf ds = some l → ∃ p : List (Str × Tok), vs = strValues p ∧ p.map (·.1) = l
  | [], _, l, r, h => by cases r; unfold strsOf at h; cases h; exact ⟨[], rfl, rfl⟩
  | v :: vs, _, l, r, h => by
    cases r with
    | cons ra rb =>
    rename_i d ds
    cases d <;> try (unfold strsOf at h; cases h; done)
    rename_i x
    unfold strsOf at h
    cases q : strsOf ds with
    | none => rw [q] at h; cases h
    | some l' =>
      rw [q] at h; cases h
      obtain ⟨p, rfl, rfl⟩ := strs_inv rb q
      obtain ⟨t, rfl⟩ := rep_str_inv ra
      exact ⟨(x, t) :: p, rfl, rfl⟩
theorem fold_len (l : List Str) (h : l.all (fun x => x.length ≤ 100) = true) : ∀ a, l.foldl (fun acc (x : Str) => acc + x.length + 0) a ≤ a + 100 * l.length := by
  induction l with
  | nil => intro a; exact Nat.le_refl _
  | cons x r ih =>
    intro a
    simp only [List.all_cons, Bool.and_eq_true, decide_eq_true_eq] at h
    have := ih h.2 (a + x.length + 0)
    simp only [List.foldl_cons, List.length_cons]
    omega
theorem cat_len (l : List Str) (h : l.all (fun x => x.length ≤ 100) = true) : (catS l).length ≤ 100 * l.length := by
  induction l with
  | nil => exact Nat.le_refl _
  | cons x r ih =>
    simp only [List.all_cons, Bool.and_eq_true, decide_eq_true_eq] at h
    have := ih h.2
    have e : (catS (x :: r)).length = x.length + (catS r).length := by show (x.cps ++ (catS r).cps).size = _; rw [Array.size_append]; rfl
    rw [e, List.length_cons]
    have := h.1
    omega
theorem sound_join {a : X} (ha : SoundX prog w T base fzT n md a) : SoundX prog w T base fzT n md (.join a) := by
  intro A outer L env nm σ ad fz s e hm H hbad
  obtain ⟨g, as, kw, pos, rfl, hm⟩ := atCall_inv hm
  obtain ⟨zz, name, apos, rfl, hm⟩ := atAttribute_inv hm
  obtain ⟨c, k0, p0, rfl, hm⟩ := atConstant_inv hm
  obtain ⟨z, rfl, hm⟩ := atConstStr_inv hm
  have hk := andL hm
  have hm := andR hm
  cases nil_inv hk
  obtain ⟨e₀, rfl, hm⟩ := at1_inv hm
  have h5 := andR hm
  have hm := andL hm
  have h4 := andR hm
  have hm := andL hm
  have h3 := andR hm
  have hm := andL hm
  have h2 := andR hm
  have h1 := andL hm
  cases (eq_of_beq h2)
  cases (eq_of_beq h1)
  rw [evq_join] at hbad ⊢
  have tr : backTo pos (starEach [e₀] env) = [(false, eval e₀ env)] := by rw [plain_star h5]; rfl
  refine wpAny_Call_method rfl (by rw [tr]; rfl) h3 F.plainAttrs_str F.slot_str_join F.type_str_join (wpAny_Constant_str ?_)
  refine ⟨rfl, fun a q => (by cases q), ?_⟩
  rw [tr]
  refine seqMethod1_meets F.slot_str_join F.entry_str_join ?_
  have r0 : Rel (fsOf outer) fz s fz { s with toks := s.toks + 1 } := ⟨s.heap, _, rfl, Ext.refl _ _, FzExt.refl _ _, H.fzin⟩
  refine useV (ha _ h4 (H.step r0) (bind_bad hbad)) (fun _ _ _ e h => PostE.after r0 (excOf e h)) fun x v fz₁ s₁ e r rep => ?_
  rw [e, Res.bind_ok] at hbad ⊢
  cases x with
  | list ds =>
    unfold opJoin at hbad ⊢
    cases q : strsOf ds with
    | none => simp only [q] at hbad; exact absurd rfl hbad
    | some l =>
      simp only [q] at hbad ⊢
      split at hbad
      · rename_i hz
        obtain ⟨b, us, rfl, e1, r1⟩ := rep_list_inv rep
        obtain ⟨p, rfl, rfl⟩ := strs_inv r1 q
        rw [if_pos hz]
        have z1 := fold_len _ hz.2 0
        have z2 := cat_len _ hz.2
        have z3 := hz.1
        have R := r0.trans r
        refine ⟨rfl, F.args_str_join_2 _ _, _, meets_str_join_list ⟨#[]⟩ s.toks b p (by unfold Builtin.Str.tooLong; rw [sizeLine_eq]; simp only [List.foldl_toArray]; have : (⟨#[]⟩ : Str).length = 0 := rfl; rw [this]; simp only [gt_iff_lt, decide_eq_false_iff_not, Nat.not_lt]; omega), r.fzin.isList e1, ?_⟩
        have fin : ∀ t tk, wants (PostV (fsOf outer) fz s (.ok (.str (catS (p.map (·.1)))))) (PostE A.handled (fsOf outer) L s (.ok (.str (catS (p.map (·.1)))))) (.ok (.ret (.str (catS (p.map (·.1))) t))) { s₁ with toks := tk } := fun t tk =>
          good_iff.mpr ⟨fz₁, R.trans ⟨s₁.heap, tk, rfl, Ext.refl _ _, FzExt.refl _ _, r.fzin⟩, .str _ _⟩
        cases p with
        | nil => exact ⟨Nat.zero_le _, fin _ _⟩
        | cons x p =>
          cases p with
          | nil =>
            have := fin x.2 s₁.toks
            have ec : catS (([x] : List (Str × Tok)).map (·.1)) = x.1 := by show (⟨x.1.cps ++ #[]⟩ : Str) = x.1; rw [Array.append_empty]
            rw [ec] at this ⊢; exact this
          | cons y p =>
            have ec := glued_cat ((x :: y :: p).map (·.1))
            refine ⟨?_, ?_⟩
            · rw [ec, sizeLine_eq]; omega
            · rw [ec]; exact fin _ _
      · exact absurd rfl hbad
  | _ => exact absurd rfl hbad
end
end Mine
end
section
open PySem PySem.W PySem.Calls PyProof.Rows
namespace Mine
section
variable {prog : Program} {w : World} {T : Tab} {base : Heap} {fzT : Fz} {n : Nat} {md : Md} {mg mb : Str → Option Value} {A : Around} {outer : List Env} {L : Addr} {env : Env} {nm : List Str} {σ : List SV} {ad : Nat → Addr} {fz : Fz} {s s₀ : Shared}
structure PItr (prog : Program) (w : World) (A : Around) (fs : List Addr) (fz : Fz) (ds : List PyData) (h₀ h : Heap) (I : Addr) (fp wr : List Addr) (Pt : Nat → Array Value → Prop) (St : Nat → Heap → Prop) (Mid : Nat → Addr → Heap → Prop) : Prop where
  walks : WalksU prog w A I fp wr ds.length Pt St Mid
  item : ∀ (i : Nat) vals d p, Pt i vals → ds[i]? = some d → pairOf d = some p → ∃ v1 v2, vals = #[v1, v2] ∧ Rep fz v1 p.1 ∧ Rep fz v2 p.2
  new : ∀ b ∈ wr, h₀.get? b = none
  fpo : ∀ b ∈ fp, b ∉ fs ∧ (b ∈ wr ∨ fz b ≠ none) ∧ ∃ o, h.get? b = some o
  st : St 0 h
  ex : ∀ i h, St i h → ∀ b ∈ wr, ∃ o, h.get? b = some o
noncomputable def PIterAt (prog : Program) (w : World) (A : Around) (fs : List Addr) (fz : Fz) (ds : List PyData) (s : Shared) (it : Value) (s' : Shared) : Prop :=
  ∃ h' tk I fp wr Pt St Mid, s' = { s with heap := h', toks := tk } ∧ (∀ b o, s.heap.get? b = some o → h'.get? b = some o) ∧ it = .ref I ∧ PItr prog w A fs fz ds s.heap h' I fp wr Pt St Mid
theorem for_pairs {t u : Str} {pt pu : Pos} {kk : Nat} {tp : Pos} {i i' : Nat} {body orelse : List S} {b o : List Stmt} {ds : List PyData} {it : Value} {s₂ : Shared}
    (H : HereS base fzT .a n A outer L env nm σ ad fz s₀) (ht : tgt env.scope.names nm i t = true) (hu : tgt env.scope.names nm i' u = true) (hb : SoundSs prog w T base fzT n .a body) (ho : SoundSs prog w T base fzT n .a orelse)
    (mb : Mss T env.scope.names nm body b = true) (mo : Mss T env.scope.names nm orelse o = true) (g : PIterAt prog w A (fsOf outer) fz ds s₀ it s₂)
    (hbad : loopGo (fun σ d => (pairOf d).map fun p => putV (putV σ i p.1) i' p.2) (fun σ => evSs T body σ) (fun σ => evSs T orelse σ) ds σ ≠ .bad) :
    codeAny (model prog w) A (.forLoop (.Tuple [.Name t pt, .Name u pu] kk tp) it b o env) (fun r s' => match r with
      | .ok f => PostS base fzT .a n A outer L env nm σ ad fz s₀ (loopGo (fun σ d => (pairOf d).map fun p => putV (putV σ i p.1) i' p.2) (fun σ => evSs T body σ) (fun σ => evSs T orelse σ) ds σ) f s'
      | .error e => cameBackBy (model prog w) A env (PostX base fzT .a n A outer L env nm σ ad fz s₀ (loopGo (fun σ d => (pairOf d).map fun p => putV (putV σ i p.1) i' p.2) (fun σ => evSs T body σ) (fun σ => evSs T orelse σ) ds σ)) e s') s₂ := by
  obtain ⟨hb', tk, I, fp, wr, Pt', St, Mid, rfl, kp, rfl, It⟩ := g
  obtain ⟨t1, t2, t3, t4⟩ := tgt_is ht
  obtain ⟨u1, u2, u3, u4⟩ := tgt_is hu
  generalize hout : loopGo (fun σ d => (pairOf d).map fun p => putV (putV σ i p.1) i' p.2) (fun σ => evSs T body σ) (fun σ => evSs T orelse σ) ds σ = out at hbad ⊢
  have fpfs : ∀ b ∈ fp, b ∉ fsOf outer := fun b hb => (It.fpo b hb).1
  have wfs : ∀ b ∈ wr, b ∉ fsOf outer := fun b hb => fpfs b (It.walks.sub b hb)
  have wbase : ∀ b ∈ wr, base.get? b = none := fun b hb => by
    cases q : base.get? b with
    | none => rfl
    | some o => have := H.here.hi.stays _ _ q; rw [It.new b hb] at this; cases this
  -- a move of the iterator
  have move : ∀ {σ' : List SV} {ad' : Nat → Addr} {fz' : Fz} {s' : Shared} {h₂ : Heap} {tk₂ : Nat}, RelS env (fsOf outer) σ ad fz s₀ σ' ad' fz' s' → HereS base fzT .a n A outer L env nm σ' ad' fz' s' → Apart env wr σ' ad' fz' →
      (∀ b o, b ∉ wr → s'.heap.get? b = some o → h₂.get? b = some o) → RelS env (fsOf outer) σ ad fz s₀ σ' ad' fz' { s' with heap := h₂, toks := tk₂ } ∧ HereS base fzT .a n A outer L env nm σ' ad' fz' { s' with heap := h₂, toks := tk₂ } := by
    intro σ' ad' fz' s' h₂ tk₂ R' H' Pt mv
    have e : ExtW (fun b => b ∈ wr) (fsOf outer) s'.heap h₂ := .of_moved mv fun b hb => hb
    exact ⟨R'.other e (fun b hb => It.new b hb) (fun b hb hw => by obtain ⟨o, ho⟩ := H.live b hb; rw [It.new b hw] at ho; cases ho), H'.other e Pt.w Pt.z wfs wbase fun q => by cases q⟩
  refine codeAny_forLoop_any (fun m s' => ∃ j σ' ad' fz', RelS env (fsOf outer) σ ad fz s₀ σ' ad' fz' s' ∧ HereS base fzT .a n A outer L env nm σ' ad' fz' s' ∧ St j s'.heap ∧ Apart env wr σ' ad' fz' ∧ j ≤ ds.length ∧ m = ds.length + 1 - j ∧
    loopGo (fun σ d => (pairOf d).map fun p => putV (putV σ i p.1) i' p.2) (fun σ => evSs T body σ) (fun σ => evSs T orelse σ) (ds.drop j) σ' = out) ?_ (ds.length + 1) ?_
  · rintro m s' ⟨j, σ', ad', fz', R', H', st, Pt, hj, rfl, hgo⟩
    by_cases hlt : j < ds.length
    · obtain ⟨d, hd⟩ : ∃ d, ds[j]? = some d := ⟨_, List.getElem?_eq_getElem hlt⟩
      have hdr : ds.drop j = d :: ds.drop (j + 1) := by
        rw [List.drop_eq_getElem_cons hlt]; rw [List.getElem?_eq_getElem hlt] at hd; cases hd; rfl
      rw [hdr] at hgo
      have hgo : (match (pairOf d).map fun p => putV (putV σ' i p.1) i' p.2 with
        | none => Out.bad
        | some σ₁ => turnOut (evSs T body σ₁) (loopGo (fun σ d => (pairOf d).map fun p => putV (putV σ i p.1) i' p.2) (fun σ => evSs T body σ) (fun σ => evSs T orelse σ) (ds.drop (j + 1)))) = out := hgo
      obtain ⟨dp, hdp⟩ : ∃ p, pairOf d = some p := by
        cases q : pairOf d with
        | none => rw [q] at hgo; exact absurd hgo.symm hbad
        | some p => exact ⟨p, rfl⟩
      rw [hdp] at hgo
      have hgo : turnOut (evSs T body (putV (putV σ' i dp.1) i' dp.2)) (loopGo (fun σ d => (pairOf d).map fun p => putV (putV σ i p.1) i' p.2) (fun σ => evSs T body σ) (fun σ => evSs T orelse σ) (ds.drop (j + 1))) = out := hgo
      refine It.walks.item j s' _ _ hlt st fun Tt vals h₂ tk₂ hP hT mid mv => ?_
      refine It.walks.go _ _ _ j Tt _ _ _ mid fun h₃ st₃ mv₃ => ?_
      obtain ⟨v1, v2, rfl, rp1, rp2⟩ := It.item j vals d dp hP hd hdp
      have hT₃ : h₃.IsTuple Tt #[v1, v2] := hT.at fun o e => mv₃ _ o (It.walks.apart _ _ _ mid) e
      refine wpAny_assign_Tuple (H.here.sit.handled rfl) hT₃ rfl rfl fun h₄ ext => ?_
      have k₄ : ∀ b o, h₃.get? b = some o → h₄.get? b = some o := fun b o e => ext b o (Nat.ne_of_lt (Heap.lt_size e)) e
      have st₄ : St (j + 1) h₄ := It.walks.frame _ _ _ st₃ fun b _ o e => k₄ b o e
      obtain ⟨R₂, H₂⟩ := move (tk₂ := tk₂) R' H' Pt (fun b o hb e => k₄ b o (mv₃ b o hb (mv b o hb e)))
      refine wpAny_bind (wpAny_holding (wpAny_assign_Name (store_sv (a' := 0) (RelS.refl H₂) H₂ t1 t2 (.val (rp1.mono R'.le)) fun s₂' R₂' H₂' => ?_)))
      refine wpAny_bind (wpAny_holding (wpAny_assign_Name (store_sv (a' := 0) (RelS.refl H₂') H₂' u1 u2 (.val (rp2.mono R'.le)) fun s₃ R₃' H₃ => wpAny_pure ?_)))
      have R₃ := R₂'.trans R₃'
      have fpk : ∀ b ∈ fp, ¬ WrS env σ' ad' b := fun b hb hw => by
        rcases (It.fpo b hb).2.1 with q | q
        · exact Pt.w b q hw
        · cases z : fz b with
          | none => exact q z
          | some p => have := R'.le b p z; rw [H'.frozen b hw] at this; cases this
      have st₅ : St (j + 1) s₃.heap := It.walks.frame _ _ _ st₄ fun b hb o ho => R₃.ext.get (fpk b hb) (fpfs b hb) ho
      have Pt₃ : Apart env wr ((σ'.set i (.val dp.1)).set i' (.val dp.2)) _ fz' := Pt.step (It.ex _ _ st₄) R₃
      refine turn_end hgo hbad H (R₂.trans R₃) (hb b mb H₃) (fun σ₄ ad₄ fz₄ s₄ hgo R₄ H₄ => ?_) (fun s₄ k => k) fun v s₄ k => k
      have fpk₃ : ∀ b ∈ fp, ¬ WrS env ((σ'.set i (.val dp.1)).set i' (.val dp.2)) _ b := fun b hb hw => by
        rcases R₃.wr b hw with z | z
        · exact fpk b hb z
        · rcases (It.fpo b hb).2.1 with q | q
          · obtain ⟨o, ho⟩ := It.ex _ _ st₄ b q; rw [z] at ho; cases ho
          · cases z' : fz b with
            | none => exact q z'
            | some p => have := R'.le b p z'; rw [H₃.frozen b hw] at this; cases this
      exact ⟨ds.length + 1 - (j + 1), by omega, j + 1, σ₄, ad₄, fz₄, (R₂.trans R₃).trans R₄, H₄, It.walks.frame _ _ _ st₅ fun b hb o ho => R₄.ext.get (fpk₃ b hb) (fpfs b hb) ho, Pt₃.step (It.ex _ _ st₅) R₄, hlt, rfl, hgo⟩
    · have hjn : j = ds.length := by omega
      subst hjn
      rw [List.drop_of_length_le (Nat.le_refl _)] at hgo
      unfold loopGo at hgo
      refine It.walks.done s' _ _ st fun h₂ tk₂ mv => ?_
      obtain ⟨R₂, H₂⟩ := move (tk₂ := tk₂) R' H' Pt mv
      rw [← hgo] at hbad ⊢
      refine wpAny_mono (ho o mo H₂ hbad) (fun f s₃ k => PostS.after R₂ k) fun x s₃ k => exc_pass H (PostX.after R₂ k)
  · have k0 : Rel (fsOf outer) fz s₀ fz { s₀ with heap := hb', toks := tk } := ⟨hb', tk, rfl, Ext.of_keeps kp, FzExt.refl _ _, (Ext.of_keeps (fs := []) kp).fzIn H.here.fzin⟩
    refine ⟨0, σ, ad, fz, .of_rel H.live k0, H.step k0, It.st, ⟨fun b hb hw => ?_, fun b hb => H.here.fzin.none (It.new b hb)⟩, Nat.zero_le _, rfl, by simpa using hout⟩
    obtain ⟨o, ho⟩ := H.live b hw; rw [It.new b hb] at ho; cases ho
end
end Mine
end
section
open PySem PySem.W PySem.Calls PyProof.Rows
namespace Mine
section
variable {prog : Program} {w : World} {T : Tab} {base : Heap} {fzT : Fz} {n : Nat} {md : Md} {mg mb : Str → Option Value} {A : Around} {outer : List Env} {L : Addr} {env : Env} {nm : List Str} {σ : List SV} {ad : Nat → Addr} {fz : Fz} {s s₀ : Shared}
theorem letGo_tupleiter {E : Value → Shared → Prop} {elts : List Expr} {x1} {pos : Pos} {I l Tt : Addr} {i : Nat} {Q : Unit → Shared → Prop} (hit : s.heap.IsTupleIter I l i) (hQ : Q () s) :
    wpAny (model prog w) A (letOwnedTupleGo (.Tuple elts x1 pos) (.ref I) (.ref Tt)) Q E s := by
  obtain ⟨o, ho, hc, hd⟩ := hit
  unfold letOwnedTupleGo
  refine wpAny_bind (wpAny_load ho ?_)
  rw [hc, hd]
  dsimp only
  rw [if_neg (by
    intro h
    have h := (Bool.and_eq_true_iff.mp h).1
    exact absurd h (by decide))]
  exact wpAny_pure hQ
theorem walks_tuple_pairs (hh : A.handled = none) (I ax : Addr) (hne : ax ≠ I) (items : Array Value) (Ts : Nat → Addr) (vals : Nat → Array Value)
    (hit : ∀ j, j < items.size → items[j]? = some (.ref (Ts j))) (hTI : ∀ j, j < items.size → Ts j ≠ I) :
    WalksU prog w A I (I :: ax :: (List.range items.size).map Ts) [I] items.size (fun j v => v = vals j ∧ j < items.size)
      (fun j h => h.IsTupleIter I ax j ∧ h.IsTuple ax items ∧ ∀ k, k < items.size → h.IsTuple (Ts k) (vals k))
      (fun j Tt h => (j < items.size ∧ Tt = Ts j) ∧ h.IsTupleIter I ax (j + 1) ∧ h.IsTuple ax items ∧ ∀ k, k < items.size → h.IsTuple (Ts k) (vals k)) where
  sub := fun b hb => by simp at hb; simp [hb]
  frame := fun _ _ _ st hk => ⟨st.1.at fun o e => hk I (by simp) o e, st.2.1.at fun o e => hk ax (by simp) o e,
    fun k hk' => (st.2.2 k hk').at fun o e => hk (Ts k) (List.mem_cons_of_mem _ (List.mem_cons_of_mem _ (List.mem_map.mpr ⟨k, List.mem_range.mpr hk', rfl⟩))) o e⟩
  item := fun i s Q E hi st hQ => by
    refine wpAny_pyNext_tuple_item st.1 st.2.1 (x := .ref (Ts i)) (hit i hi) fun h' hit' hs' => ?_
    have tup : ∀ k, k < items.size → h'.IsTuple (Ts k) (vals k) := fun k hk' => (st.2.2 k hk').extBut hs'.extBut (hTI k hk')
    exact hQ (Ts i) (vals i) h' s.toks ⟨rfl, hi⟩ (tup i hi) ⟨⟨hi, rfl⟩, hit', st.2.1.extBut hs'.extBut hne, tup⟩ fun b o hb e => hs'.extBut b o (fun h => hb (by simp [h])) e
  go := fun _ _ _ _ _ s Q _ hm hQ => letGo_tupleiter hm.2.1 (hQ s.heap hm.2 fun _ _ _ e => e)
  apart := fun j Tt _ hm hmem => by
    rcases List.mem_cons.mp hmem with e | e
    · exact hTI j hm.1.1 (hm.1.2 ▸ e)
    · cases e
  done := fun s Q E st hQ => wpAny_pyNext_tuple_end hh st.1 st.2.1 (by simp) fun h' he' => hQ h' s.toks fun b o hb e => he' b o (fun h => hb (by simp [h])) e
  self := fun _ _ _ _ st hQ => wpAny_pyIter_tupleiter st.1 hQ
noncomputable def adrOf : Value → Addr
  | .ref a => a
  | _ => 0
noncomputable def partsOf (fz : Fz) (a : Addr) : Array Value := match fz a with
  | some (_, vs) => vs.toArray
  | none => #[]
theorem pair_is {d : PyData} {p : PyData × PyData} (h : pairOf d = some p) : d = .tuple [p.1, p.2] := by
  unfold pairOf at h
  split at h
  · cases h; rfl
  · cases h
theorem iter_pairs {E : Value → Shared → Prop} {v : Value} {ds : List PyData} (hh : A.handled = none) (hi : HI base outer s.heap) (hf : FzIn fz s.heap) (r : Rep fz v (.tuple ds)) (hp : ds.all (fun d => (pairOf d).isSome) = true) :
    wpAny (model prog w) A (pyIter v) (PIterAt prog w A (fsOf outer) fz ds s) E s := by
  have new : s.heap.get? s.heap.objs.size = none := size_none _ (Nat.le_refl _)
  obtain ⟨l, vs, rfl, e1, r1⟩ := rep_tuple_inv r
  have hl : s.heap.IsTuple l vs.toArray := by
    obtain ⟨o, n, ho, hc, hd⟩ := hf _ _ _ e1; exact ⟨o, ho, hc, n, hd⟩
  have hlt : l < s.heap.objs.size := by obtain ⟨o, ho, _⟩ := hl; exact Heap.lt_size ho
  have each : ∀ k, k < vs.toArray.size → ∃ a v1 v2 d1 d2, vs[k]? = some (.ref a) ∧ fz a = some (true, [v1, v2]) ∧ ds[k]? = some (.tuple [d1, d2]) ∧ Rep fz v1 d1 ∧ Rep fz v2 d2 := by
    intro k hk
    have hk' : k < vs.length := by simpa using hk
    obtain ⟨d, h1, h2⟩ := r1.get' (List.getElem?_eq_getElem hk')
    have h3 := List.all_eq_true.mp hp d (List.mem_of_getElem? h1)
    obtain ⟨p, hp'⟩ := Option.isSome_iff_exists.mp h3
    cases pair_is hp'
    obtain ⟨a, us, e2, e3, r2⟩ := rep_tuple_inv h2
    cases r2 with
    | cons ra r2 =>
    cases r2 with
    | cons rb r2 =>
    cases r2
    exact ⟨a, _, _, _, _, by rw [List.getElem?_eq_getElem hk', e2], e3, h1, ra, rb⟩
  have hT : ∀ k, k < vs.toArray.size → s.heap.IsTuple (adrOf (vs[k]?.getD .none)) (partsOf fz (adrOf (vs[k]?.getD .none))) := fun k hk => by
    obtain ⟨a, v1, v2, d1, d2, h1, h2, _⟩ := each k hk
    rw [h1]
    obtain ⟨o, n, ho, hc, hd⟩ := hf _ _ _ h2
    exact ⟨o, ho, hc, n, by simp only [Option.getD_some, adrOf, partsOf, h2]; exact hd⟩
  refine wpAny_pyIter_tuple hl ?_
  have W := walks_tuple_pairs (prog := prog) (w := w) (A := A) hh s.heap.objs.size l (Nat.ne_of_lt hlt) vs.toArray (fun k => adrOf (vs[k]?.getD .none)) (fun k => partsOf fz (adrOf (vs[k]?.getD .none)))
    (fun k hk => by obtain ⟨a, v1, v2, d1, d2, h1, _⟩ := each k hk; simp only [h1, Option.getD_some, adrOf]; simpa using h1)
    (fun k hk q => by obtain ⟨o, ho, _⟩ := hT k hk; rw [q, new] at ho; cases ho)
  rw [show vs.toArray.size = ds.length by simp [r1.length]] at W each hT
  refine ⟨_, s.toks, _, _, _, _, _, _, rfl, fun b o e => Heap.get?_push_of_some _ e, rfl, W, fun i vals d p hP hd hp' => ?_, fun b hb => ?_, fun b hb => ?_, ?_, ?_⟩
  · obtain ⟨rfl, hi'⟩ := hP
    obtain ⟨a, v1, v2, d1, d2, h1, h2, h3, h4, h5⟩ := each i hi'
    rw [hd] at h3; cases h3
    cases (pair_is hp')
    exact ⟨v1, v2, by simp [h1, adrOf, partsOf, h2], h4, h5⟩
  · rw [List.mem_singleton.mp hb]; exact new
  · rcases List.mem_cons.mp hb with e | hb
    · subst e; exact ⟨fs_old hi new, .inl (.head _), _, Heap.get?_push_size _ rfl⟩
    · rcases List.mem_cons.mp hb with e | hb
      · subst e
        obtain ⟨o, ho, _⟩ := hl
        exact ⟨fs_not_list hi hf e1, .inr (by rw [e1]; intro z; cases z), _, Heap.get?_push_of_some _ ho⟩
      · obtain ⟨k, hk, rfl⟩ := List.mem_map.mp hb
        obtain ⟨a, v1, v2, d1, d2, h1, h2, _⟩ := each k (List.mem_range.mp hk)
        obtain ⟨o, n, ho, _⟩ := hf _ _ _ h2
        simp only [h1, Option.getD_some, adrOf]
        exact ⟨fs_not_list hi hf h2, .inr (by rw [h2]; intro z; cases z), _, Heap.get?_push_of_some _ ho⟩
  · exact ⟨⟨_, Heap.get?_push_size _ rfl, rfl, rfl⟩, hl.push _, fun k hk => (hT k hk).push _⟩
  · intro i h hst b hb; rw [List.mem_singleton.mp hb]; obtain ⟨⟨o, ho, _⟩, _⟩ := hst; exact ⟨o, ho⟩
theorem soundS_forT {i j : Nat} {src : X} {body orelse : List S} (hs : SoundX prog w T base fzT n .a src) (hb : SoundSs prog w T base fzT n .a body) (ho : SoundSs prog w T base fzT n .a orelse) : SoundS prog w T base fzT n .a (.forT i j src body orelse) := by
  intro A outer L env nm σ ad fz s e hm H hbad
  obtain ⟨t₀, iter, bs, os, pos, rfl, hm⟩ := atStmtFor_inv hm
  obtain ⟨t, pt, u, pu, kt, tp, rfl, hm⟩ := atPair_inv hm
  have h6 := andR hm
  have hm := andL hm
  have h5 := andR hm
  have hm := andL hm
  have h4 := andR hm
  have hm := andL hm
  have h3 := andR hm
  have hm := andL hm
  have h2 := andR hm
  have h1 := andL hm
  rw [evqS_forT] at hbad ⊢
  refine wpAny_For (useS hs rfl h3 H (fun q => by rw [q] at hbad; exact hbad rfl) (fun k q => by rw [q] at hbad; exact absurd rfl hbad) fun d v fz₁ s₁ q r rep => ?_) (plain_set h4)
  rw [q] at hbad ⊢
  have H₁ := H.step r
  cases d with
  | tuple ds =>
    by_cases hz : ds.length ≤ 1000 ∧ ds.all (fun d => (pairOf d).isSome) = true
    · simp only [if_pos hz] at hbad ⊢
      refine wpAny_mono (iter_pairs (E := fun _ _ => False) (H₁.here.sit.handled rfl) H₁.here.hi H₁.here.fzin rep hz.2) (fun it s₂ g => ?_) fun _ _ f => f.elim
      refine codeAny_mono (for_pairs H₁ h1 h2 hb ho h5 h6 g hbad) fun rr s' k => ?_
      cases rr with
      | ok f => exact PostS.after (.of_rel H.live r) k
      | error x => exact wpAny_mono k (fun _ _ k => PostX.after (.of_rel H.live r) k) fun _ _ k => PostX.after (.of_rel H.live r) k
    · simp only [if_neg hz] at hbad; exact absurd rfl hbad
  | _ => exact absurd rfl hbad
end
end Mine
end
section
open PySem PySem.W PySem.Calls PyProof.Rows
namespace Mine
section
variable {prog : Program} {w : World} {T : Tab} {base : Heap} {fzT : Fz} {n : Nat} {md : Md} {mg mb : Str → Option Value} {A : Around} {outer : List Env} {L : Addr} {env : Env} {nm : List Str} {σ : List SV} {ad : Nat → Addr} {fz : Fz} {s s₀ : Shared}
theorem nextOf_tuple_item {E : Value → Shared → Prop} {it t : Addr} {i : Nat} {items : Array Value} {x : Value} {Q : Value → Shared → Prop} (hit : s.heap.IsTupleIter it t i) (ht : s.heap.IsTuple t items) (hx : items[i]? = some x)
    (hQ : ∀ h', h'.IsTupleIter it t (i + 1) → Heap.SameBut it s.heap h' → Q x { s with heap := h' }) :
    wpAny (model prog w) A (Builtin.SmallTypes.nextOf (.ref it)) Q E s := by
  obtain ⟨o, ho, hc, hd⟩ := id hit
  obtain ⟨ol, hol, _, nl, hdl⟩ := ht
  unfold Builtin.SmallTypes.nextOf
  refine wpAny_bind (wpAny_callSpecial?_slot (name := Str.ofString "__next__") hit.typeIs F.slot_tuple_iterator_next
    (wpAny_call_entry F.slot_tuple_iterator_next hit.typeIs F.entry_tuple_iterator_next ?_ (F.args_tuple_iterator_next_1 _)))
  show wpAny _ _ (field (.ref it) 0 >>= _) _ _ s
  refine wpAny_bind (wpAny_field ho hd (x := .ref t) rfl ?_)
  show wpAny _ _ (if (Value.ref t == Value.none) = true then _ else _) _ _ s
  rw [if_neg (show ¬ ((Value.ref t == Value.none) = true) from Bool.false_ne_true)]
  show wpAny _ _ (field (.ref it) 1 >>= _) _ _ s
  refine wpAny_bind (wpAny_field ho hd (x := .int i 0) rfl ?_)
  show wpAny _ _ (seqItems? (.ref t) >>= _) _ _ s
  refine wpAny_bind (wpAny_seqItems hol hdl ?_)
  simp only [Int.toNat_natCast, hx]
  refine wpAny_bind (wpAny_setField ho hd (by simp) (wpAny_pure ⟨x, rfl, wpAny_pure (hQ _ ?_ (Heap.SameBut.update ..))⟩))
  exact ⟨_, Heap.get?_update_self _ ho (Obj.isFreed_of_fields (Obj.data_mapFields hd _)), (Obj.cls_mapFields ..).trans hc, by
    rw [Obj.data_mapFields hd]; simp [rawInt]⟩
theorem nextOf_tuple_end {E : Value → Shared → Prop} {it t : Addr} {i : Nat} {items : Array Value} {Q : Value → Shared → Prop} (hh : A.handled = none) (hit : s.heap.IsTupleIter it t i) (ht : s.heap.IsTuple t items) (hx : items[i]? = none)
    (hE : ∀ h' e, Heap.ExtBut it s.heap h' → (∃ o, h'.get? e = some o ∧ o.cls = .type "StopIteration") → E (.ref e) { s with heap := h' }) :
    wpAny (model prog w) A (Builtin.SmallTypes.nextOf (.ref it)) Q E s := by
  obtain ⟨o, ho, hc, hd⟩ := id hit
  obtain ⟨ol, hol, _, nl, hdl⟩ := ht
  unfold Builtin.SmallTypes.nextOf
  refine wpAny_bind (wpAny_callSpecial?_slot (name := Str.ofString "__next__") hit.typeIs F.slot_tuple_iterator_next
    (wpAny_call_entry F.slot_tuple_iterator_next hit.typeIs F.entry_tuple_iterator_next ?_ (F.args_tuple_iterator_next_1 _)))
  show wpAny _ _ (field (.ref it) 0 >>= _) _ _ s
  refine wpAny_bind (wpAny_field ho hd (x := .ref t) rfl ?_)
  show wpAny _ _ (if (Value.ref t == Value.none) = true then _ else _) _ _ s
  rw [if_neg (show ¬ ((Value.ref t == Value.none) = true) from Bool.false_ne_true)]
  show wpAny _ _ (field (.ref it) 1 >>= _) _ _ s
  refine wpAny_bind (wpAny_field ho hd (x := .int i 0) rfl ?_)
  show wpAny _ _ (seqItems? (.ref t) >>= _) _ _ s
  refine wpAny_bind (wpAny_seqItems hol hdl ?_)
  simp only [Int.toNat_natCast, hx]
  refine wpAny_bind (wpAny_rule (wpAny_bind (wpAny_setField ho hd (by simp) ?_)))
  show wpAny _ _ (newExc (.type "StopIteration") [] >>= _) _ _ _
  refine wpAny_bind ?_
  simp only [newExc, newTuple]
  refine wpAny_bind (wpAny_newObj_type ?_ (by size_fits))
  refine wpAny_bind (m := firstArgMember _ _) (wpAny_of_eq (a := Value.none) (by first | rfl | (simp only [firstArgMember]; rfl)) ?_)
  refine wpAny_newObj_type ?_ (by size_fits)
  simp only [raiseNew]
  refine wpAny_bind (wpAny_handled ?_)
  first | rw [show A.in1.handled = none from hh] | rw [hh]
  refine wpAny_bind (wpAny_pure (wpAny_throw ?_))
  exact hE _ _ (((Heap.SameBut.update ..).extBut.push _).push _) ⟨_, Heap.get?_push_size _ rfl, rfl⟩
theorem draws_tuple (hh : A.handled = none) (it l : Addr) (hne : l ≠ it) (items : Array Value) :
    Draws prog w A it [it, l] items.size (fun i v => items[i]? = some v) (fun i h => h.IsTupleIter it l i ∧ h.IsTuple l items) where
  live := fun _ _ st => let ⟨o, ho, _⟩ := st.1; ⟨o, ho⟩
  frame := fun _ _ _ st hk => ⟨st.1.at fun o e => hk it (by simp) o e, st.2.at fun o e => hk l (by simp) o e⟩
  item := fun i s Q E hi st hQ => by
    refine nextOf_tuple_item st.1 st.2 (x := items[i]) (by simp [hi]) fun h' hit' hs' => ?_
    exact hQ _ h' s.toks (by simp [hi]) ⟨hit', st.2.extBut hs'.extBut hne⟩ hs'
  done := fun s Q E st hE => nextOf_tuple_end hh st.1 st.2 (by simp) hE
set_option maxRecDepth 100000 in
theorem meets_enum_newT (l : Addr) (items : Array Value) (n : Nat) (dct : Option Addr) (sl : Array (Option Value)) :
    Meets (Builtin.«enumerate.__new__» ⟨[.type "enumerate", .ref l], []⟩) (fun _ R s => s.heap.get? l = some { cls := .type "tuple", dict := dct, data := .seq items n, slots := sl } ∧
      R (.ok (.ret (.ref (s.heap.push { cls := .type "tuple_iterator", data := .fields #[.ref l, .int 0 0] }).objs.size)))
        { s with heap := (s.heap.push { cls := .type "tuple_iterator", data := .fields #[.ref l, .int 0 0] }).push { cls := .type "enumerate", data := .fields #[.none, .bool false, .ref s.heap.objs.size, rawInt 0, .none, .none] } }) :=
  .of_wp fun prog w A R s h => by
    obtain ⟨hp, g, d, tk, os⟩ := s; obtain ⟨hl, h⟩ := h
    have hsub := sub_enumerate
    have hL : Heap.IsTuple (Shared.heap ⟨hp, g, d, tk, os⟩) l items := ⟨_, hl, rfl, n, rfl⟩
    wp_walk using AutoSeq1.wpAny_loadPart' hl
    refine wpAny_stack_any fun st => wpAny_pure ?_
    split
    · rename_i c _ _ _ _ _
      cases (c == Value.type "enumerate")
      · wp_walk using AutoSeq1.wpAny_loadPart' hl, wpAny_pyIter_tuple hL
        exact ⟨_, rfl, h⟩
      · wp_walk using AutoSeq1.wpAny_loadPart' hl, wpAny_pyIter_tuple hL
        exact ⟨_, rfl, h⟩
    · wp_walk using AutoSeq1.wpAny_loadPart' hl, wpAny_pyIter_tuple hL
      exact ⟨_, rfl, h⟩
theorem call_enum_tuple {E : Value → Shared → Prop} {l : Addr} {items : Array Value} {Q : Value → Shared → Prop} (hL : s.heap.IsTuple l items)
    (h : ∀ h', IsEnum h' (s.heap.objs.size + 1) s.heap.objs.size 0 .none → h'.IsTupleIter s.heap.objs.size l 0 → h'.objs.size = s.heap.objs.size + 2 →
      (∀ b o, s.heap.get? b = some o → h'.get? b = some o) → Q (.ref (s.heap.objs.size + 1)) { s with heap := h' }) :
    wpAny (model prog w) A (call (.type "enumerate") [.ref l]) Q E s := by
  obtain ⟨⟨c, dct, dt, sl⟩, hl, hc, n, hd⟩ := hL
  replace hc : c = .type "tuple" := hc
  replace hd : dt = .seq items n := hd
  subst hc hd
  refine callType_new F.called_enumerate (by decide) (F.typeCall_enumerate_1 _) (F.newCall_enumerate_1 _) (fun obj => F.args_object_init_2 obj _) F.entry_enumerate_new
    (meets_enum_newT l items n dct sl) ⟨hl, ?_⟩
  have hz : (s.heap.push { cls := .type "tuple_iterator", data := .fields #[.ref l, .int 0 0] }).objs.size = s.heap.objs.size + 1 := Heap.size_push ..
  show _ ∧ _
  rw [hz]
  have he : IsEnum ((s.heap.push { cls := .type "tuple_iterator", data := .fields #[.ref l, .int 0 0] }).push
      { cls := .type "enumerate", data := .fields #[.none, .bool false, .ref s.heap.objs.size, rawInt 0, .none, .none] }) (s.heap.objs.size + 1) s.heap.objs.size 0 .none := by
    have := Heap.get?_push_size (s.heap.push { cls := .type "tuple_iterator", data := .fields #[.ref l, .int 0 0] })
      (o := { cls := .type "enumerate", data := .fields #[.none, .bool false, .ref s.heap.objs.size, rawInt 0, .none, .none] }) rfl
    rw [hz] at this; exact this
  refine ⟨⟨_, he, rfl⟩, h _ he ⟨_, Heap.get?_push_of_some _ (Heap.get?_push_size _ rfl), rfl, rfl⟩ (by rw [Heap.size_push, hz]) fun b o x => Heap.get?_push_of_some _ (Heap.get?_push_of_some _ x)⟩
end
end Mine
end
section
open PySem PySem.W PySem.Calls PyProof.Rows
namespace Mine
section
variable {prog : Program} {w : World} {T : Tab} {base : Heap} {fzT : Fz} {n : Nat} {md : Md} {mg mb : Str → Option Value} {A : Around} {outer : List Env} {L : Addr} {env : Env} {nm : List Str} {σ : List SV} {ad : Nat → Addr} {fz : Fz} {s s₀ : Shared}
theorem enumD_length (ds : List PyData) : (enumD ds).length = ds.length := by unfold enumD; simp
theorem enumD_get {ds : List PyData} {i : Nat} {d x : PyData} (h : (enumD ds)[i]? = some d) (hx : ds[i]? = some x) : d = .tuple [.int i, x] := by
  unfold enumD at h
  have hlt := (List.getElem?_eq_some_iff.mp hx).1
  rw [List.getElem?_zipWith, List.getElem?_range hlt, hx] at h
  cases h; rfl
theorem iter_enum {E : Value → Shared → Prop} {v : Value} {ds : List PyData} (hh : A.handled = none) (hi : HI base outer s.heap) (hf : FzIn fz s.heap) (r : Rep fz v (.tuple ds)) :
    wpAny (model prog w) A (call (.type "enumerate") [v]) (fun x s₁ => wpAny (model prog w) A (pyIter x) (PIterAt prog w A (fsOf outer) fz (enumD ds) s) E s₁) E s := by
  obtain ⟨l, vs, rfl, e1, r1⟩ := rep_tuple_inv r
  have hl : s.heap.IsTuple l vs.toArray := by
    obtain ⟨o, n, ho, hc, hd⟩ := hf _ _ _ e1; exact ⟨o, ho, hc, n, hd⟩
  have hlt : l < s.heap.objs.size := by obtain ⟨o, ho, _⟩ := hl; exact Heap.lt_size ho
  refine call_enum_tuple hl fun h' he hit _ kp => ?_
  refine wpAny_pyIter_enum he ?_
  have D := draws_tuple (prog := prog) (w := w) (A := A.in1) hh s.heap.objs.size l (Nat.ne_of_lt hlt) vs.toArray
  have W := (WalksT.enumerateD D (s.heap.objs.size + 1) (Nat.succ_ne_self _) (by
    intro q
    rcases List.mem_cons.mp q with q | q
    · exact absurd q (Nat.succ_ne_self _)
    · have q := List.mem_singleton.mp q; rw [← q] at hlt; exact absurd hlt (Nat.not_lt.mpr (Nat.le_succ _))) (by simp)).toU
  rw [show vs.toArray.size = (enumD ds).length by simp [enumD_length, r1.length]] at W
  have n0 : s.heap.get? s.heap.objs.size = none := size_none _ (Nat.le_refl _)
  have n1 : s.heap.get? (s.heap.objs.size + 1) = none := size_none _ (Nat.le_succ _)
  have hl' : h'.IsTuple l vs.toArray := hl.at fun o e => kp _ o e
  refine ⟨h', s.toks, _, _, _, _, _, _, rfl, kp, rfl, W, fun i vals d p hP hd hp' => ?_, fun b hb => ?_, fun b hb => ?_, ?_, ?_⟩
  · obtain ⟨t, x, hx, rfl⟩ := hP
    obtain ⟨dx, h1, h2⟩ := r1.get' (by simpa using hx)
    cases enumD_get hd h1
    unfold pairOf at hp'; cases hp'
    exact ⟨_, _, rfl, .int _ _, h2⟩
  · rcases List.mem_cons.mp hb with q | q
    · rw [q]; exact n1
    · rw [List.mem_singleton.mp q]; exact n0
  · rcases List.mem_cons.mp hb with q | q
    · subst q; exact ⟨fs_old hi n1, .inl (.head _), _, he⟩
    · rcases List.mem_cons.mp q with q | q
      · subst q
        obtain ⟨o, ho, _⟩ := hit
        exact ⟨fs_old hi n0, .inl (.tail _ (.head _)), _, ho⟩
      · rw [List.mem_singleton.mp q]
        obtain ⟨o, ho, _⟩ := hl
        exact ⟨fs_not_list hi hf e1, .inr (by rw [e1]; intro z; cases z), _, kp _ _ ho⟩
  · exact ⟨⟨_, he⟩, hit, hl'⟩
  · intro i h hst b hb
    obtain ⟨⟨old, he'⟩, ⟨o, ho, _⟩, _⟩ := hst
    rcases List.mem_cons.mp hb with q | q
    · rw [q]; exact ⟨_, he'⟩
    · rw [List.mem_singleton.mp q]; exact ⟨o, ho⟩
theorem soundS_forE (G : GOK prog w T base fzT mg mb n) {i j : Nat} {src : X} {body orelse : List S} (hs : SoundX prog w T base fzT n .a src) (hb : SoundSs prog w T base fzT n .a body) (ho : SoundSs prog w T base fzT n .a orelse) : SoundS prog w T base fzT n .a (.forE i j src body orelse) := by
  intro A outer L env nm σ ad fz s e hm H hbad
  obtain ⟨t₀, it, bs, os, pos, rfl, hm⟩ := atStmtFor_inv hm
  obtain ⟨t, pt, u, pu, kt, tp, rfl, hm⟩ := atPair_inv hm
  obtain ⟨g, as, kw, cpos, rfl, hm⟩ := atCall_inv hm
  obtain ⟨f, pf, rfl, hm⟩ := atName_inv hm
  have hk := andL hm
  have hm := andR hm
  cases nil_inv hk
  obtain ⟨iter, rfl, hm⟩ := at1_inv hm
  have h8 := andR hm
  have hm := andL hm
  have h7 := andR hm
  have hm := andL hm
  have h6 := andR hm
  have hm := andL hm
  have h5 := andR hm
  have hm := andL hm
  have h4 := andR hm
  have hm := andL hm
  have h3 := andR hm
  have hm := andL hm
  have h2 := andR hm
  have h1 := andL hm
  cases (eq_of_beq h4)
  rw [evqS_forE] at hbad ⊢
  refine wpAny_For (Call_ (built_name G H.here.hi H.here.envok h3 G.enu.1 G.enu.2 (callWith_type1 (args_cons (useS hs rfl h5 H (fun q => by rw [q] at hbad; exact hbad rfl) (fun k q => by rw [q] at hbad; exact absurd rfl hbad) fun d v fz₁ s₁ q r rep => args_nil ?_) (plain_star h6)) (plain_star h6)))) (fun _ => rfl)
  rw [q] at hbad ⊢
  have H₁ := H.step r
  cases d with
  | tuple ds =>
    by_cases hz : ds.length ≤ 1000
    · simp only [if_pos hz] at hbad ⊢
      refine wpAny_mono (iter_enum (E := fun _ _ => False) (H₁.here.sit.handled rfl) H₁.here.hi H₁.here.fzin rep) (fun x s₂ g => ?_) fun _ _ f => f.elim
      refine wpAny_mono g (fun it s₃ g => ?_) fun _ _ f => f.elim
      refine codeAny_mono (for_pairs H₁ h1 h2 hb ho h7 h8 g hbad) fun rr s' k => ?_
      cases rr with
      | ok f => exact PostS.after (.of_rel H.live r) k
      | error x => exact wpAny_mono k (fun _ _ k => PostX.after (.of_rel H.live r) k) fun _ _ k => PostX.after (.of_rel H.live r) k
    · simp only [if_neg hz] at hbad; exact absurd rfl hbad
  | _ => exact absurd rfl hbad
end
end Mine
end
section
open PySem PySem.W PySem.Calls PyProof.Rows
namespace Mine
section
variable {prog : Program} {w : World} {T : Tab} {base : Heap} {fzT : Fz} {n : Nat}
/-- a pair, taken apart -/
theorem soundS_unpack2 {i j : Nat} {x : X} (hx : SoundX prog w T base fzT n .a x) : SoundS prog w T base fzT n .a (.unpack2 i j x) := by
  intro A outer L env nm σ ad fz s e hm H hbad
  obtain ⟨ts, v, pos, rfl, hm⟩ := atStmtAssign_inv hm
  obtain ⟨t₀, rfl, hm⟩ := at1_inv hm
  obtain ⟨t, pt, u, pu, k, p, rfl, hm⟩ := atPair_inv hm
  obtain ⟨f₀, as₀, kw₀, p₀, rfl, _⟩ := atCall_inv (andR hm)
  have hm := andL (andL hm)
  have hm := andL hm
  have h3 := andR hm
  have hm := andL hm
  have h2 := andR hm
  have h1 := andL hm
  obtain ⟨t1, t2, t3, t4⟩ := tgt_is h1
  obtain ⟨u1, u2, u3, u4⟩ := tgt_is h2
  rw [evqS_unpack2] at hbad ⊢
  refine Assign_Tuple (useS hx rfl h3 H (fun q => by rw [q] at hbad; exact hbad rfl) (fun k q => by rw [q]) fun d v fz₁ s₁ q r rep => ?_)
  rw [q] at hbad ⊢
  dsimp only at hbad ⊢
  cases q2 : pairOf d with
  | none => rw [q2] at hbad; exact absurd rfl hbad
  | some pp =>
    cases pair_is q2
    dsimp only
    obtain ⟨l, vs, rfl, e1, r1⟩ := rep_tuple_inv rep
    cases r1 with
    | @cons va _ _ _ ra r1 =>
    cases r1 with
    | @cons vb _ _ _ rb r1 =>
    cases r1 with
    | nil =>
    have hT : s₁.heap.IsTuple l #[va, vb] := by
      obtain ⟨o, m, ho, hc, hd⟩ := r.fzin _ _ _ e1; exact ⟨o, ho, hc, m, hd⟩
    refine wpAny_assign_Tuple (H.here.sit.handled rfl) hT rfl rfl fun h₄ ext => ?_
    have k₄ : ∀ b o, s₁.heap.get? b = some o → h₄.get? b = some o := fun b o e => ext b o (Nat.ne_of_lt (Heap.lt_size e)) e
    have r₄ : Rel (fsOf outer) fz s fz₁ { s₁ with heap := h₄ } := r.trans ⟨h₄, s₁.toks, rfl, Ext.of_keeps k₄, FzExt.refl _ _, (Ext.of_keeps (fs := []) k₄).fzIn r.fzin⟩
    refine wpAny_bind (wpAny_holding (wpAny_assign_Name (store_sv (a' := 0) (.of_rel H.live r₄) (H.step r₄) t1 t2 (.val ra) fun s₂ r₂ h₂ => ?_)))
    refine wpAny_bind (wpAny_holding (wpAny_assign_Name (store_sv (a' := 0) (RelS.refl h₂) h₂ u1 u2 (.val rb) fun s₃ r₃ h₃ => wpAny_pure ?_)))
    exact ⟨rfl, _, fz₁, r₂.trans r₃, h₃⟩
end
end Mine
end
section
open PySem PySem.W PyProof.Rows
namespace Mine
section
variable {prog : Program} {w : World} {T : Tab} {base : Heap} {fzT : Fz} {n : Nat} {md : Md}
theorem sound_cmp2 {o₁ o₂ : CmpOp} {a b c : X} (ha : SoundX prog w T base fzT n md a) (hb : SoundX prog w T base fzT n md b) (hc : SoundX prog w T base fzT n md c) : SoundX prog w T base fzT n md (.cmp2 o₁ o₂ a b c) := by
  intro A outer L env nm σ ad fz s e hm H hbad
  obtain ⟨l, ops, rs, pos, rfl, hm⟩ := atCompare_inv hm
  obtain ⟨o₁', o₂', rfl, hm⟩ := at2_inv hm
  obtain ⟨m, r, rfl, hm⟩ := at2_inv hm
  have h6 := andR hm
  have hm := andL hm
  have hm := andL hm
  have h4 := andR hm
  have hm := andL hm
  have h3 := andR hm
  have hm := andL hm
  have h2 := andR hm
  have hm := andL hm
  have h1 := andR hm
  have h0 := andL hm
  cases (of_decide_eq_true h0 : o₁ = o₁')
  cases (of_decide_eq_true h1 : o₂ = o₂')
  rw [evq_cmp2] at hbad ⊢
  refine Compare_chain (useV (ha l h2 H (bind_bad hbad)) (fun _ _ _ e h => excOf e h) fun x v fz₁ s₁ e r₁ rep => ?_) (by simpa [lastMarks] using plain_marks h6)
  rw [e, Res.bind_ok] at hbad ⊢
  refine chain_link (useV (hb _ h3 (H.step r₁) (bind_bad hbad)) (fun _ _ _ e h => PostE.after r₁ (excOf e h)) fun y u fz₂ s₂ e' r₂ rep' => ?_)
  rw [e', Res.bind_ok] at hbad ⊢
  have r₁₂ := r₁.trans r₂
  cases z : opCmp o₁ x y with
  | bad => rw [z] at hbad; exact absurd rfl hbad
  | exc k => exact (opCmp_exc z).elim
  | ok d =>
    obtain ⟨t, rfl⟩ := opCmp_bool z
    rw [z, Res.bind_ok] at hbad
    rw [Res.bind_ok]
    refine wpAny_mono (cmp_good (fs := fsOf outer) (E := fun _ _ => False) H.sit.units70 r₂.fzin (rep.mono r₂.fz.le) rep' z) (fun v s₃ g => ?_) fun _ _ q => q.elim
    obtain ⟨fz₃, r₃, q⟩ := good_iff.mp g
    cases rep_bool_inv q
    refine wpAny_truthy_bool ?_
    have r₁₃ := r₁₂.trans r₃
    cases t with
    | false => exact good_iff.mpr ⟨fz₃, r₁₃, .bool _⟩
    | true =>
      refine chain_last (useV (hc _ h4 (H.step r₁₃) (bind_bad hbad)) (fun _ _ _ e h => PostE.after r₁₃ (excOf e h)) fun z' u' fz₄ s₄ e'' r₄ rep'' => ?_)
      dsimp only at hbad ⊢
      rw [e'', Res.bind_ok] at hbad ⊢
      refine finV (r₁₃.trans r₄) ?_
      cases z2 : opCmp o₂ y z' with
      | bad => exact absurd z2 hbad
      | exc k => exact (opCmp_exc z2).elim
      | ok d => exact cmp_good H.sit.units70 r₄.fzin (rep'.mono (r₃.trans r₄).fz.le) rep'' z2
end
end Mine
end
section
open PySem PySem.W PySem.Calls PyProof.Rows
namespace Mine
/-! what is sound -/
noncomputable def isA : Md → Bool
  | .a => true
  | .b => false
  | .c => false
noncomputable def notC : Md → Bool
  | .a => true
  | .b => true
  | .c => false
theorem isA_inv {md : Md} (h : isA md = true) : md = .a := by cases md <;> first | rfl | cases h
noncomputable def okT : X → Bool
  | .cmp _ _ _ => true
  | .outside _ _ => true
  | .not a => okT a
  | .and a b => okT a && okT b
  | .or a b => okT a && okT b
  | .var _ => true
  | .int _ => true
  | .str _ => true
  | .bool _ => true
  | .list _ => true
  | .tup _ => true
  | .idx _ _ => true
  | .slice _ _ _ => true
  | .call _ _ => true
  | .bi _ _ => true
  | .bin _ _ _ => true
  | .nothing => false
  | .glob _ => false
  | .cmp2 _ _ _ _ _ => false
  | .ite _ _ _ => false
  | .compR _ _ _ _ _ => false
  | .comp _ _ _ => false
  | .join _ => false
  | .callV _ _ => false
noncomputable def isComp : X → Bool := fun x => x.ctorIdx == 20 || x.ctorIdx == 21
mutual
noncomputable def okX (md : Md) : X → Bool
  | .var _ => true
  | .int _ => true
  | .str _ => true
  | .bool _ => true
  | .nothing => true
  | .glob _ => true
  | .list es => okXs md es
  | .tup es => okXs md es
  | .bin _ a b => okX md a && okX md b
  | .cmp _ a b => okX md a && okX md b
  | .cmp2 _ _ a b c => okX md a && okX md b && okX md c
  | .outside a _ => okX md a
  | .not a => okX md a
  | .and a b => okX md a && okX md b
  | .or a b => okX md a && okX md b
  | .ite c a b => okX md c && okT c && okX md a && okX md b
  | .idx a b => notC md && (okX md a && okX md b)
  | .slice a lo hi => okX md a && okX md lo && okX md hi
  | .call _ args => isA md && okXs md args
  | .bi _ a => isA md && okX md a
  | .compR _ _ _ c e => isA md && (okX md c && okT c && okX md e)
  | .comp s c e => isA md && (okX md s && okX md c && okT c && okX md e)
  | .join a => okX md a
  | .callV _ a => isA md && okX md a
termination_by structural x => x
noncomputable def okXs (md : Md) : List X → Bool
  | [] => true
  | x :: xs => okX md x && okXs md xs
termination_by structural x => x
end
section
variable {prog : Program} {w : World} {T : Tab} {base : Heap} {fzT : Fz} {n : Nat} {mg mb : Str → Option Value}
/-- an expression: its value, its truth; of a comprehension its list -/
structure SoundAll (prog : Program) (w : World) (T : Tab) (base : Heap) (fzT : Fz) (n : Nat) (md : Md) (y : X) : Prop where
  x : SoundX prog w T base fzT n md y
  b : okT y = true → SoundB prog w T base fzT n md y
  c : isComp y = true → SoundC prog w T base fzT n y ∧ ∀ σ, ev T y σ ≠ .bad → ∃ out, ev T y σ = .ok (.list out)
theorem SoundAll.plain {md : Md} {x : X} (hp : plainT x = true) (hc : isComp x = false) (hx : SoundX prog w T base fzT n md x) : SoundAll prog w T base fzT n md x :=
  ⟨hx, fun _ => soundB_plain hp hx, fun h => by rw [hc] at h; cases h⟩
theorem SoundAll.only {md : Md} {x : X} (ht : okT x = false) (hc : isComp x = false) (hx : SoundX prog w T base fzT n md x) : SoundAll prog w T base fzT n md x :=
  ⟨hx, (fun h => by rw [ht] at h; cases h), (fun h => by rw [hc] at h; cases h)⟩
theorem SoundAll.both {md : Md} {x : X} (hc : isComp x = false) (hx : SoundX prog w T base fzT n md x) (hb : okT x = true → SoundB prog w T base fzT n md x) : SoundAll prog w T base fzT n md x :=
  ⟨hx, hb, fun h => by rw [hc] at h; cases h⟩
theorem SoundAll.comp {x : X} (ht : okT x = false) (hx : SoundC prog w T base fzT n x) (hl : ∀ σ, ev T x σ ≠ .bad → ∃ out, ev T x σ = .ok (.list out)) (he : ∀ sc nm e, Mx T sc nm x e = true → ∃ e₀ gens scope pos, e = .ListComp e₀ gens scope pos) : SoundAll prog w T base fzT n .a x :=
  ⟨soundX_C hx hl he, (fun h => by rw [ht] at h; cases h), fun _ => ⟨hx, hl⟩⟩
theorem lc_of {q : Expr → List Comprehension → Scope → Pos → Bool} {e : Expr} (h : atListComp q e = true) : ∃ e₀ gens scope pos, e = .ListComp e₀ gens scope pos := by
  obtain ⟨a, b, c, d, e, _⟩ := atListComp_inv h; exact ⟨a, b, c, d, e⟩
mutual
theorem soundX_all (G : GOK prog w T base fzT mg mb n) (md : Md) : ∀ (x : X), okX md x = true → SoundAll prog w T base fzT n md x
  | .var i, _ => .plain rfl rfl (sound_var i)
  | .int i, _ => .plain rfl rfl (sound_int i)
  | .str i, _ => .plain rfl rfl (sound_str i)
  | .bool i, _ => .plain rfl rfl (sound_bool i)
  | .nothing, _ => .only rfl rfl sound_nothing
  | .glob g, _ => .only rfl rfl (sound_glob G g)
  | .list es, h => .plain rfl rfl (sound_list (soundL_all G md es h))
  | .tup es, h => .plain rfl rfl (sound_tup (soundL_all G md es h))
  | .bin op a b, h => .plain rfl rfl (sound_bin (soundX_all G md a (and3 h).1).x (soundX_all G md b (and3 h).2).x)
  | .cmp op a b, h => .both rfl (sound_cmp (soundX_all G md a (and3 h).1).x (soundX_all G md b (and3 h).2).x) fun _ => soundB_cmp (soundX_all G md a (and3 h).1).x (soundX_all G md b (and3 h).2).x
  | .cmp2 _ _ a b c, h => .only rfl rfl (sound_cmp2 (soundX_all G md a (and3 (and3 h).1).1).x (soundX_all G md b (and3 (and3 h).1).2).x (soundX_all G md c (and3 h).2).x)
  | .outside a i, h => .both rfl (sound_outside (soundX_all G md a h).x) fun _ => soundB_outside (soundX_all G md a h).x
  | .not a, h => .both rfl (sound_not (soundX_all G md a h).x) fun t => soundB_not ((soundX_all G md a h).b t)
  | .and a b, h => .both rfl (sound_and (soundX_all G md a (and3 h).1).x (soundX_all G md b (and3 h).2).x) fun t => soundB_and ((soundX_all G md a (and3 h).1).b (and3 t).1) ((soundX_all G md b (and3 h).2).b (and3 t).2)
  | .or a b, h => .both rfl (sound_or (soundX_all G md a (and3 h).1).x (soundX_all G md b (and3 h).2).x) fun t => soundB_or ((soundX_all G md a (and3 h).1).b (and3 t).1) ((soundX_all G md b (and3 h).2).b (and3 t).2)
  | .ite c a b, h => .only rfl rfl (sound_ite ((soundX_all G md c (and3 (and3 (and3 h).1).1).1).b (and3 (and3 (and3 h).1).1).2) (soundX_all G md a (and3 (and3 h).1).2).x (soundX_all G md b (and3 h).2).x)
  | .idx a b, h => match md, and3 h with
    | .a, h => .plain rfl rfl (sound_idx (soundX_all G .a a (and3 h.2).1).x (soundX_all G .a b (and3 h.2).2).x)
    | .b, h => .plain rfl rfl (sound_idx_b (soundX_all G .b a (and3 h.2).1).x (soundX_all G .b b (and3 h.2).2).x)
    | .c, h => nomatch (show false = true from h.1)
  | .slice a lo hi, h => .plain rfl rfl (sound_slice (soundX_all G md a (and3 (and3 h).1).1).x (soundX_all G md lo (and3 (and3 h).1).2).x (soundX_all G md hi (and3 h).2).x)
  | .call f args, h => match md, isA_inv (and3 h).1, (and3 h).2 with
    | _, rfl, h => .plain rfl rfl (sound_call G (f := f) (soundL_all G .a args h))
  | .bi b a, h => match md, isA_inv (and3 h).1, (and3 h).2 with
    | _, rfl, h => .plain rfl rfl (sound_bi G (b := b) (soundX_all G .a a h).x)
  | .compR a b c cond elt, h => match md, isA_inv (and3 h).1, (and3 h).2 with
    | _, rfl, h => .comp rfl (soundC_compR G ((soundX_all G .a cond (and3 (and3 h).1).1).b (and3 (and3 h).1).2) (soundX_all G .a elt (and3 h).2).x) compR_isList fun _ _ _ h => lc_of h
  | .comp src cond elt, h => match md, isA_inv (and3 h).1, (and3 h).2 with
    | _, rfl, h => .comp rfl (soundC_comp (soundX_all G .a src (and3 (and3 (and3 h).1).1).1).x ((soundX_all G .a cond (and3 (and3 (and3 h).1).1).2).b (and3 (and3 h).1).2) (soundX_all G .a elt (and3 h).2).x) comp_isList fun _ _ _ h => lc_of h
  | .join a, h => .only rfl rfl (sound_join (soundX_all G md a h).x)
  | .callV i a, h => match md, isA_inv (and3 h).1, (and3 h).2 with
    | _, rfl, h => .only rfl rfl (sound_callV G (sound_var i) (soundX_all G .a a h).x)
termination_by structural x => x
theorem soundL_all (G : GOK prog w T base fzT mg mb n) (md : Md) : ∀ (xs : List X), okXs md xs = true → SoundL prog w T base fzT n md xs
  | [], _ => soundL_nil
  | x :: xs, h => soundL_cons (soundX_all G md x (and3 h).1).x (soundL_all G md xs (and3 h).2)
termination_by structural x => x
end
end
end Mine
end
section
open PySem PySem.W PySem.Calls PyProof.Rows
namespace Mine
noncomputable def okOwn (md : Md) : X → Bool
  | .list es => okXs md es
  | .bi b a => isA md && (b.ctorIdx == 5 && okX md a)
  | _ => false
mutual
noncomputable def okS (md : Md) : S → Bool
  | .assign _ x => okX md x
  | .assignL _ x => isA md && (isComp x && okX md x)
  | .own _ x => okOwn md x
  | .assign2 _ _ x => okX md x
  | .unpack2 _ _ x => isA md && okX md x
  | .aug _ _ x => okX md x
  | .append _ x => okX md x
  | .extend _ x => okX md x
  | .remove _ x => isA md && okX md x
  | .freeze _ => false
  | .ret x => okX md x
  | .brk => true
  | .ite c a b => okX md c && okT c && okSs md a && okSs md b
  | .forX _ src b o => isA md && (okX md src && okSs md b && okSs md o)
  | .forR _ _ _ _ b o => isA md && (okSs md b && okSs md o)
  | .forT _ _ src b o => isA md && (okX md src && okSs md b && okSs md o)
  | .forE _ _ src b o => isA md && (okX md src && okSs md b && okSs md o)
  | .while c b => okX md c && okT c && okSs md b
  | .tryE b _ h => isA md && (okSs .a b && okSs .c h)
  | .tryF b f => isA md && (okSs .a b && okSs .a f && okSs .b f)
termination_by structural x => x
noncomputable def okSs (md : Md) : List S → Bool
  | [] => true
  | s :: r => (isFz s || okS md s) && okSs md r
termination_by structural x => x
end
section
variable {prog : Program} {w : World} {T : Tab} {base : Heap} {fzT : Fz} {n : Nat} {mg mb : Str → Option Value}
theorem soundS_own (G : GOK prog w T base fzT mg mb n) {md : Md} {i : Nat} {x : X} (h : okOwn md x = true) : SoundS prog w T base fzT n md (.own i x) := by
  cases x with
  | list es => exact soundS_own_list (soundL_all G md es h)
  | bi b a =>
    have h' : (isA md && (b.ctorIdx == 5 && okX md a)) = true := h
    have h2 := andR h'
    have h1 := andL h'
    have h3 := andR h2
    have h2 := andL h2
    cases isA_inv h1
    have hb : b = .list := by cases b <;> first | rfl | cases h2
    subst hb
    have q : SoundS prog w T base fzT n .a (.own i (.bi .list a)) := soundS_own_copy G (soundX_all G .a a h3).x
    exact @q
  | _ => cases h
mutual
theorem soundS_all (G : GOK prog w T base fzT mg mb n) : ∀ (x : S) (md : Md), okS md x = true → SoundS prog w T base fzT n md x
  | .assign i x, md, h => soundS_assign (soundX_all G md x h).x
  | .assignL i x, md, h => match md, isA_inv (and3 h).1, (and3 h).2 with
    | _, rfl, h => soundS_assignL ((soundX_all G .a x (and3 h).2).c (and3 h).1).1 ((soundX_all G .a x (and3 h).2).c (and3 h).1).2
  | .own i x, md, h => soundS_own G h
  | .assign2 i j x, md, h => soundS_assign2 (soundX_all G md x h).x
  | .unpack2 i j x, md, h => match md, isA_inv (and3 h).1, (and3 h).2 with
    | _, rfl, h => soundS_unpack2 (soundX_all G .a x h).x
  | .aug i op x, md, h => soundS_aug (soundX_all G md x h).x
  | .append i x, md, h => soundS_append (soundX_all G md x h).x
  | .extend i x, md, h => soundS_extend (soundX_all G md x h).x
  | .remove i x, md, h => match md, isA_inv (and3 h).1, (and3 h).2 with
    | _, rfl, h => soundS_remove (soundX_all G .a x h).x
  | .freeze i, md, h => nomatch (show false = true from h)
  | .ret x, md, h => soundS_ret (soundX_all G md x h).x
  | .brk, md, _ => soundS_brk
  | .ite c a b, md, h => soundS_ite ((soundX_all G md c (and3 (and3 (and3 h).1).1).1).b (and3 (and3 (and3 h).1).1).2) (soundSs_all G a md (and3 (and3 h).1).2) (soundSs_all G b md (and3 h).2)
  | .forX i src b o, md, h => match md, isA_inv (and3 h).1, (and3 h).2 with
    | _, rfl, h => soundS_forX (soundX_all G .a src (and3 (and3 h).1).1).x (soundSs_all G b .a (and3 (and3 h).1).2) (soundSs_all G o .a (and3 h).2)
  | .forR i x y z b o, md, h => match md, isA_inv (and3 h).1, (and3 h).2 with
    | _, rfl, h => soundS_forR G (soundSs_all G b .a (and3 h).1) (soundSs_all G o .a (and3 h).2)
  | .forT i j src b o, md, h => match md, isA_inv (and3 h).1, (and3 h).2 with
    | _, rfl, h => soundS_forT (soundX_all G .a src (and3 (and3 h).1).1).x (soundSs_all G b .a (and3 (and3 h).1).2) (soundSs_all G o .a (and3 h).2)
  | .forE i j src b o, md, h => match md, isA_inv (and3 h).1, (and3 h).2 with
    | _, rfl, h => soundS_forE G (soundX_all G .a src (and3 (and3 h).1).1).x (soundSs_all G b .a (and3 (and3 h).1).2) (soundSs_all G o .a (and3 h).2)
  | .while c b, md, h => soundS_while ((soundX_all G md c (and3 (and3 h).1).1).b (and3 (and3 h).1).2) (soundSs_all G b md (and3 h).2)
  | .tryE b k e, md, h => match md, isA_inv (and3 h).1, (and3 h).2 with
    | _, rfl, h => soundS_tryE G (soundSs_all G b .a (and3 h).1) (soundSs_all G e .c (and3 h).2)
  | .tryF b f, md, h => match md, isA_inv (and3 h).1, (and3 h).2 with
    | _, rfl, h => soundS_tryF (soundSs_all G b .a (and3 (and3 h).1).1) (soundSs_all G f .a (and3 (and3 h).1).2) (soundSs_all G f .b (and3 h).2)
termination_by structural x => x
theorem soundSs_all (G : GOK prog w T base fzT mg mb n) : ∀ (xs : List S) (md : Md), okSs md xs = true → SoundSs prog w T base fzT n md xs
  | [], md, _ => soundSs_nil
  | x :: xs, md, h => soundSs_pick (fun hx => soundS_all G x md ((Bool.or_eq_true_iff.mp (and3 h).1).resolve_left (by rw [hx]; intro q; cases q))) (soundSs_all G xs md (and3 h).2)
termination_by structural x => x
end
/-! a text of defs -/
structure Def where
  name : Str
  params : List Str
  nm : List Str
  body : List S
noncomputable def Fn (ds : List Def) (gn : List Str) (gv : List PyData) : Nat → Nat → List PyData → Option PyData
  | 0, _, _ => none
  | k + 1, f, as => match ds[f]? with
    | none => none
    | some d => if as.length = d.params.length then (match evSs ⟨ds.map (·.name), gn, gv, Fn ds gn gv k, fun _ _ => none⟩ d.body (initσ as d.nm) with
      | .ret r => some r
      | _ => none) else none
noncomputable def Tn (ds : List Def) (gn : List Str) (gv : List PyData) (k : Nat) : Tab := ⟨ds.map (·.name), gn, gv, Fn ds gn gv k, fun _ _ => none⟩
/-- the def d is the text's -/
structure DefAt (p : Program) (ds : List Def) (gn : List Str) (gv : List PyData) (d : Def) (r : DefRec) : Prop where
  mem : r ∈ recsOf p
  name : r.name = d.name
  co : r.scope.isCoroutine = false
  gen : r.scope.isGenerator = false
  kind : r.scope.kind = .function
  names : namesOk r.scope d.params d.nm = true
  ms : ∀ k, Mss (Tn ds gn gv k) r.scope.names d.nm d.body r.body = true
  ok : okSs .a d.body = true
  bind : ∀ pm code doc vs, vs.length = d.params.length → bindArgs (docDef r.name r.params r.body r.scope pm code doc) ⟨vs, []⟩ = pure (d.params.zip vs)
structure Ground0 (p : Program) (base : Heap) (fzT : Fz) (mg mb : Str → Option Value) (gn : List Str) (gv : List PyData) : Prop where
  gl : base.Ns mainGlobals mg
  bu : base.Ns builtinsNs mb
  nolimit : base.NoLimit
  bis : ∀ b : Bi, mg b.name = none ∧ mb b.name = some b.callee
  rng : mg "range" = none ∧ mb "range" = some (.type "range")
  enu : mg "enumerate" = none ∧ mb "enumerate" = some (.type "enumerate")
  exi : mg "IndexError" = none ∧ mb "IndexError" = some (.type "IndexError")
  exv : mg "ValueError" = none ∧ mb "ValueError" = some (.type "ValueError")
  gls : ∀ (g : Nat) x d, gn[g]? = some x → gv[g]? = some d → ∃ v, mg x = some v ∧ Rep fzT v d
  fn : ∀ d ∈ recsOf p, ∃ a o pm code doc, mg d.name = some (.ref a) ∧ base.get? a = some o ∧ o.data = .func (docDef d.name d.params d.body d.scope pm code doc) ∧ base.CodeRec code d.name
theorem tower {p : Program} {ds : List Def} {gn : List Str} {gv : List PyData} (B : Ground0 p base fzT mg mb gn gv) (hd : ∀ d ∈ ds, ∃ r, DefAt p ds gn gv d r) : ∀ k, GOK prog w (Tn ds gn gv k) base fzT mg mb k := by
  intro k
  induction k with
  | zero =>
    refine ⟨B.gl, B.bu, B.bis, B.rng, B.enu, B.exi, B.exv, fun f x hx => ?_, fun a ds d q => (by cases (show (none : Option PyData) = some d from q)), B.gls⟩
    have hx' : (ds.map (·.name))[f]? = some x := hx
    rw [List.getElem?_map] at hx'
    obtain ⟨d, h1, rfl⟩ := Option.map_eq_some_iff.mp hx'
    obtain ⟨r, D⟩ := hd d (List.mem_of_getElem? h1)
    obtain ⟨a, o, pm, code, doc, g1, g2, g3, g4⟩ := B.fn r D.mem
    refine ⟨a, o, _, by rw [← D.name]; exact g1, g2, g3, fun as x h => ?_⟩
    have : (none : Option PyData) = some x := h
    cases this
  | succ k ih =>
    refine ⟨B.gl, B.bu, B.bis, B.rng, B.enu, B.exi, B.exv, fun f x hx => ?_, fun a ds d q => (by cases (show (none : Option PyData) = some d from q)), B.gls⟩
    have hx' : (ds.map (·.name))[f]? = some x := hx
    rw [List.getElem?_map] at hx'
    obtain ⟨d, h1, rfl⟩ := Option.map_eq_some_iff.mp hx'
    obtain ⟨r, D⟩ := hd d (List.mem_of_getElem? h1)
    obtain ⟨a, o, pm, code, doc, g1, g2, g3, g4⟩ := B.fn r D.mem
    refine ⟨a, o, _, by rw [← D.name]; exact g1, g2, g3, fun as x h => ?_⟩
    have h' : Fn ds gn gv (k + 1) f as = some x := h
    unfold Fn at h'
    rw [h1] at h'
    dsimp only at h'
    split at h'
    · rename_i hl
      split at h'
      · rename_i rr hev
        cases h'
        refine call_ok (T := Tn ds gn gv k) (soundSs_all ih d.body .a D.ok) (body := r.body) ⟨⟨o, _, g2, g3, rfl, rfl, rfl, rfl, rfl, g4, fun vs hv => D.bind pm code doc vs hv⟩, D.co, D.gen, D.kind, B.nolimit⟩ D.names (D.ms k) hl hev
      · cases h'
    · cases h'
end
end Mine
end
section
open PySem PySem.W PySem.Calls PyProof.Rows
namespace Mine
/-! the text's defs, checked -/
noncomputable def recAt (p : Program) (d : Def) : Option DefRec := (recsOf p).find? fun r => r.name == d.name
noncomputable def defOk (ds : List Def) (gn : List Str) (gv : List PyData) (k : Nat) (d : Def) (r : DefRec) : Bool :=
  (r.name == d.name) && !r.scope.isCoroutine && !r.scope.isGenerator && (r.scope.kind == .function) && namesOk r.scope d.params d.nm && Mss (Tn ds gn gv k) r.scope.names d.nm d.body r.body && okSs .a d.body && decide (d.params.length ≤ 2)
noncomputable def defsOk (p : Program) (ds : List Def) (gn : List Str) (gv : List PyData) (k : Nat) (l : List Def) : Bool :=
  l.all fun d => match recAt p d with
    | some r => defOk ds gn gv k d r
    | none => false
/-- the parameters, bound -/
noncomputable def bindOf (p : Program) (pm code doc v u : Value) (d : Def) : Sem (List (Str × Value)) := match recAt p d with
  | some r => bindArgs (docDef r.name r.params r.body r.scope pm code doc) ⟨[v, u].take d.params.length, []⟩
  | none => pure []
theorem defAt_of {p : Program} {ds : List Def} {gn : List Str} {gv : List PyData} {l : List Def} (h : ∀ k, defsOk p ds gn gv k l = true) (hb : ∀ pm code doc v u, l.map (bindOf p pm code doc v u) = l.map fun d => pure (d.params.zip ([v, u].take d.params.length))) : ∀ d ∈ l, ∃ r, DefAt p ds gn gv d r := by
  intro d hd
  have hk := fun k => List.all_eq_true.mp (h k) d hd
  have hb' := fun pm code doc v u => List.map_inj_left.mp (hb pm code doc v u) d hd
  cases q : recAt p d with
  | none => have := hk 0; rw [q] at this; cases this
  | some r =>
    have hk' : ∀ k, defOk ds gn gv k d r = true := fun k => by have := hk k; rw [q] at this; exact this
    have h0 := hk' 0
    have a8 := of_decide_eq_true (andR h0)
    have h0 := andL h0
    have a7 := andR h0
    have h0 := andL (andL h0)
    have a5 := andR h0
    have h0 := andL h0
    have a4 := eq_of_beq (andR h0)
    have h0 := andL h0
    have a3 : r.scope.isGenerator = false := by simpa using andR h0
    have h0 := andL h0
    have a2 : r.scope.isCoroutine = false := by simpa using andR h0
    refine ⟨r, List.mem_of_find?_eq_some q, eq_of_beq (andL h0), a2, a3, a4, a5, fun k => andR (andL (andL (hk' k))), a7, fun pm code doc vs hv => ?_⟩
    have e : [vs.headD .none, (vs.drop 1).headD .none].take d.params.length = vs := by
      rw [← hv]
      rw [← hv] at a8
      rcases vs with _ | ⟨a, _ | ⟨b, _ | ⟨c, r⟩⟩⟩
      · rfl
      · rfl
      · rfl
      · exact absurd a8 (by simp)
    have := hb' pm code doc (vs.headD .none) ((vs.drop 1).headD .none)
    unfold bindOf at this
    rw [q, e] at this
    exact this
/-! what stands at the call -/
noncomputable def fzOf (h : Heap) : Fz := fun a => match h.get? a with
  | some o => (match o.cls, o.data with
    | .type c, .seq vs _ => if c = "tuple" then some (true, vs.toList) else if c = "list" then some (false, vs.toList) else none
    | _, _ => none)
  | none => none
theorem fzOf_in (h : Heap) : FzIn (fzOf h) h := by
  intro a t vs e
  unfold fzOf at e
  split at e
  · rename_i o ho
    split at e
    · rename_i c xs n hc hd
      split at e
      · rename_i q; cases e; exact ⟨o, n, ho, by rw [hc, q]; rfl, by rw [hd]⟩
      · split at e
        · rename_i q; cases e; exact ⟨o, n, ho, by rw [hc, q]; rfl, by rw [hd]⟩
        · cases e
    · cases e
  · cases e
theorem fzOf_tuple {h : Heap} {a : Addr} {o : Obj} {vs : Array Value} {n : Nat} (ho : h.get? a = some o) (hc : o.cls = .type "tuple") (hd : o.data = .seq vs n) : fzOf h a = some (true, vs.toList) := by
  unfold fzOf; simp [ho, hc, hd]
theorem fzOf_list {h : Heap} {a : Addr} {o : Obj} {vs : Array Value} {n : Nat} (ho : h.get? a = some o) (hc : o.cls = .type "list") (hd : o.data = .seq vs n) : fzOf h a = some (false, vs.toList) := by
  unfold fzOf; simp [ho, hc, hd]
theorem rep_of_reads {h : Heap} : ∀ (n : Nat) {v : Value} {d : PyData} {as : List Addr}, okN n d = true → Reads h v d as → Rep (fzOf h) v d := by
  have all : ∀ m, (∀ {v : Value} {d : PyData} {as : List Addr}, okN m d = true → Reads h v d as → Rep (fzOf h) v d) → ∀ (vs : List Value) (ds : List PyData) (as : List Addr), (∀ d ∈ ds, okN m d = true) → ReadsAll h vs ds as → RepAll (fzOf h) vs ds := by
    intro m ih vs
    induction vs with
    | nil => intro ds as _ r; cases r; exact .nil
    | cons v vs hi => intro ds as hd r; cases r with | cons r1 r2 => exact .cons (ih (hd _ (.head _)) r1) (hi _ _ (fun d q => hd d (.tail _ q)) r2)
  intro n
  induction n with
  | zero =>
    intro v d as hk r
    cases r with
    | none => exact .none
    | bool b => exact .bool b
    | int i t => exact .int i t
    | str x t => exact .str x t
    | list _ _ _ _ => cases hk
    | tuple _ _ _ _ => cases hk
    | dict _ _ _ _ _ => cases hk
  | succ n ih =>
    intro v d as hk r
    cases r with
    | none => exact .none
    | bool b => exact .bool b
    | int i t => exact .int i t
    | str x t => exact .str x t
    | list ho hc hd r => exact .list (fzOf_list ho hc hd) (all n ih _ _ _ (List.all_eq_true.mp hk) r)
    | tuple ho hc hd r => exact .tuple (fzOf_tuple ho hc hd) (all n ih _ _ _ (List.all_eq_true.mp hk) r)
    | dict _ _ _ _ _ => cases hk
end Mine
end
section
open PySem PySem.W PySem.Calls PyProof.Rows
namespace Mine
noncomputable def freeOk (p : Program) (loose : List Str) (x : Str) : Bool :=
  !startupNames.contains x && !loose.contains x && !((recsOf p).map (·.name)).contains x && !((litsOf p).map (·.1)).contains x && !((clssOf p loose).map (·.name)).contains x
noncomputable def wantedFree : List Str := ["len", "sorted", "sum", "max", "min", "list", "range", "enumerate", "IndexError", "ValueError"]
noncomputable def freesOk (p : Program) (loose : List Str) : Bool := wantedFree.all (freeOk p loose)
theorem bi_boot (b : Bi) : bootBuiltins b.name = some b.callee := by
  cases b <;> kernel_rfl
theorem rng_boot : bootBuiltins "range" = some (.type "range") := by kernel_rfl
theorem enu_boot : bootBuiltins "enumerate" = some (.type "enumerate") := by kernel_rfl
theorem exi_boot : bootBuiltins "IndexError" = some (.type "IndexError") := by kernel_rfl
theorem exv_boot : bootBuiltins "ValueError" = some (.type "ValueError") := by kernel_rfl
theorem free_of {p : Program} {loose : List Str} {mean : ExcName → Option Value} {mg mb : Str → Option Value} {h : Heap} (T : Top p loose mean mg mb h) {x : Str} (hx : freeOk p loose x = true) : mg x = none := by
  unfold freeOk at hx
  simp only [Bool.and_eq_true, Bool.not_eq_true', List.contains_eq_mem, decide_eq_false_iff_not] at hx
  obtain ⟨⟨⟨⟨a1, a2⟩, a3⟩, a4⟩, a5⟩ := hx
  exact T.free x a1 a2 a3 a4 a5
theorem ground0 {p : Program} {loose : List Str} {mean : ExcName → Option Value} {mg mb : Str → Option Value} {h : Heap} {gn : List Str} {gv : List PyData} (T : Top p loose mean mg mb h) (hf : freesOk p loose = true)
    (hg : ∀ (g : Nat) x d, gn[g]? = some x → gv[g]? = some d → ∃ v, mg x = some v ∧ Rep (fzOf h) v d) : Ground0 p h (fzOf h) mg mb gn gv := by
  have fr : ∀ x ∈ wantedFree, mg x = none := fun x hx => free_of T (List.all_eq_true.mp hf x hx)
  have bt : ∀ x : Str, x ≠ "__name__" → mb x = bootBuiltins x := T.builtins
  refine ⟨T.g, T.b, T.nolimit, fun b => ⟨fr _ ?_, ?_⟩, ⟨fr _ (by decide +kernel), ?_⟩, ⟨fr _ (by decide +kernel), ?_⟩, ⟨fr _ (by decide +kernel), ?_⟩, ⟨fr _ (by decide +kernel), ?_⟩, hg, T.fn⟩
  · cases b <;> decide +kernel
  · rw [bt _ (by cases b <;> decide +kernel)]; exact bi_boot b
  · rw [bt _ (by decide +kernel)]; exact rng_boot
  · rw [bt _ (by decide +kernel)]; exact enu_boot
  · rw [bt _ (by decide +kernel)]; exact exi_boot
  · rw [bt _ (by decide +kernel)]; exact exv_boot
end Mine
end
section
open PySem PySem.W PySem.Calls PyProof.Rows
namespace Mine
/-! making lambdas -/
noncomputable def atLambda (q : Arguments → Expr → Scope → Pos → Bool) (e₀ : PySem.Expr) : Bool := if h : e₀.ctorIdx = 4 then PySem.Expr.Lambda.elim (motive_1 := fun _ => Bool) e₀ h q else false
theorem atLambda_inv {q : Arguments → Expr → Scope → Pos → Bool} {e₀ : PySem.Expr} (h : atLambda q e₀ = true) : ∃ a b c p, e₀ = .Lambda a b c p ∧ q a b c p = true := by
  unfold atLambda at h
  split at h
  · rename_i hi
    revert h
    exact PySem.Expr.Lambda.elim (motive_1 := fun t₀ => ∀ hi, PySem.Expr.Lambda.elim (motive_1 := fun _ => Bool) t₀ hi q = true → ∃ a b c p, t₀ = .Lambda a b c p ∧ q a b c p = true) e₀ hi (fun a b c p _ h => ⟨a, b, c, p, rfl, h⟩) hi
  · cases h
noncomputable def noFree (sc : Sc) : Bool := sc.all fun x => x.2 != .free
theorem closure_nil {scope : Scope} {env : Env} (h : noFree scope.names = true) : closureFor scope env = pure [] := by
  unfold closureFor
  have go : ∀ (l : Sc) (acc : List (Str × Addr)), noFree l = true → (forIn l acc fun (x : Str × NameKind) cs => (do
      let (name, kind) := x
      let mut cs := cs
      if kind == .free then cs := (name, ← cellOf env name) :: cs
      return ForInStep.yield cs : Sem (ForInStep (List (Str × Addr))))) = pure acc := by
    intro l
    induction l with
    | nil => intro acc _; rfl
    | cons x l ih =>
      intro acc hl
      unfold noFree at hl
      rw [List.all_cons] at hl
      have h1 := andL hl
      have h2 := andR hl
      have hx : (x.2 == NameKind.free) = false := by
        cases q : x.2 == NameKind.free with
        | false => rfl
        | true => rw [bne, q] at h1; cases h1
      rw [List.forIn_cons]
      dsimp only
      rw [hx]
      simp only [Bool.false_eq_true, if_false, pure_bind]
      exact ih acc h2
  have := go scope.names [] h
  simp only [bind_pure]
  exact this
/-- a lambda as data of the text -/
noncomputable def lamScope (e : Expr) : Bool := atLambda (fun _ _ scope _ => noFree scope.names) e
noncomputable def posOf (e : Expr) : Pos := if h : e.ctorIdx = 4 then PySem.Expr.Lambda.elim (motive_1 := fun _ => Pos) e h (fun _ _ _ p => p) else default
noncomputable def dfltOf (e : Expr) (env : Env) : List (Sem Value) × List (Option (Sem Value)) := if h : e.ctorIdx = 4 then PySem.Expr.Lambda.elim (motive_1 := fun _ => List (Sem Value) × List (Option (Sem Value))) e h (fun a _ _ _ => defaultsOf a env) else ([], [])
noncomputable def samePos (p q : Pos) : Bool := p.line == q.line && p.col == q.col
noncomputable def posFree (seen : List Pos) : List Expr → Bool
  | [] => true
  | e :: r => seen.all (fun p => !samePos p (posOf e)) && posFree (posOf e :: seen) r
/-- the function that a lambda has become -/
noncomputable def LamMade (P : Addr) (h : Heap) (a : Addr) (e : Expr) : Prop := ∃ params body scope pos qual pm c' ctv, e = .Lambda params body scope pos ∧ a ≠ P ∧ c' ≠ P ∧ h.get? a = some (kla_obj "<lambda>" qual params body scope [] pm c' ctv) ∧ h.CodeRec (.ref c') qual
theorem LamMade.keeps {h h' : Heap} {P a : Addr} {e : Expr} (x : LamMade P h a e) (hx : Heap.ExtBut P h h') : LamMade P h' a e := by
  obtain ⟨params, body, scope, pos, qual, pm, c', ctv, rfl, n1, n2, h1, c, o, us, t, e1, e2, e3⟩ := x
  cases e1
  exact ⟨params, body, scope, pos, qual, pm, c', ctv, rfl, n1, n2, hx a _ n1 h1, c', o, us, t, rfl, hx _ _ n2 e2, e3⟩
noncomputable def trip (l : List (Pos × Value)) : Array Value := (l.flatMap fun x => [rawInt x.1.line, rawInt x.1.col, x.2]).toArray
theorem trip_ok : ∀ l : List (Pos × Value), TriplesOk (trip l).toList
  | [] => trivial
  | x :: l => trip_ok l
theorem trip_none {pos : Pos} : ∀ {l : List (Pos × Value)}, (l.map (·.1)).all (fun p => !samePos p pos) = true → codeAmong pos (trip l).toList = none
  | [], _ => rfl
  | x :: l, h => by
    rw [List.map_cons, List.all_cons] at h
    have h1 := andL h
    have h2 := trip_none (l := l) (andR h)
    have e : (trip (x :: l)).toList = rawInt x.1.line :: rawInt x.1.col :: x.2 :: (trip l).toList := rfl
    rw [e]
    show (if ((x.1.line : Int) == (pos.line : Int) && (x.1.col : Int) == (pos.col : Int)) = true then some x.2 else codeAmong pos (trip l).toList) = none
    rw [if_neg, h2]
    intro q
    have q1 := of_decide_eq_true (p := (x.1.line : Int) = pos.line) (by simpa using andL q)
    have q2 := of_decide_eq_true (p := (x.1.col : Int) = pos.col) (by simpa using andR q)
    unfold samePos at h1
    have q1' : x.1.line = pos.line := by omega
    have q2' : x.1.col = pos.col := by omega
    rw [q1', q2'] at h1
    simp at h1
theorem trip_snoc (l : List (Pos × Value)) (p : Pos) (v : Value) : trip l ++ #[rawInt p.line, rawInt p.col, v] = trip (l ++ [(p, v)]) := by
  unfold trip
  simp [List.flatMap_append]
noncomputable def MadeAll (P : Addr) (h : Heap) (as : List Addr) (es : List Expr) : Prop := ∀ (i : Nat) a e, as[i]? = some a → es[i]? = some e → LamMade P h a e
theorem MadeAll.cons {P : Addr} {h : Heap} {a : Addr} {as : List Addr} {e : Expr} {es : List Expr} (x : LamMade P h a e) (r : MadeAll P h as es) : MadeAll P h (a :: as) (e :: es) := fun i b f h1 h2 => by
  cases i with
  | zero => cases h1; cases h2; exact x
  | succ i => exact r i b f h1 h2
theorem MadeAll.keeps {P : Addr} {h h' : Heap} (hx : Heap.ExtBut P h h') {as : List Addr} {es : List Expr} (r : MadeAll P h as es) : MadeAll P h' as es := fun i a e h1 h2 => (r i a e h1 h2).keeps hx
theorem extBut_trans {P : Addr} {a b c : Heap} (x : Heap.ExtBut P a b) (y : Heap.ExtBut P b c) : Heap.ExtBut P a c := fun p o hp e => y p o hp (x p o hp e)
theorem extBut_push {P : Addr} {a b : Heap} (x : Heap.ExtBut P a b) (o : Obj) : Heap.ExtBut P a (b.push o) := fun p q hp e => Heap.get?_push_of_some _ (x p q hp e)
theorem codeHd_extBut {h h' : Heap} {c P : Addr} (x : CodeHd h c P) (hx : Heap.ExtBut P h h') : CodeHd h' c P := by
  obtain ⟨o, vs, file, tf, flags, tg, inF, text, tt, e, r⟩ := x
  exact ⟨o, vs, file, tf, flags, tg, inF, text, tt, hx _ _ r.2.2.2.2.2.2.2.2 e, r⟩
theorem builtinsAt_extBut {h h' : Heap} {mg : Str → Option Value} {P : Addr} (x : h.BuiltinsAt mg P) (hx : Heap.ExtBut P h h') : h'.BuiltinsAt mg P := by
  obtain ⟨bm, o, a1, a2, a3, a4, a5, r⟩ := x
  exact ⟨bm, o, a1, a2, a3, a4, hx _ _ a4 a5, r⟩
section
variable {prog : Program} {w : World} {A : Around} {E : Value → Shared → Prop} {env : Env} {c P : Addr} {mg : Str → Option Value}
/-- a row of lambdas -/
theorem make_lams {pos : Pos} (hge : env.globals = mainGlobals) (hcode : env.code = .ref c) (hgP : mainGlobals ≠ P) : ∀ (es : List Expr) (tri : List (Pos × Value)) (s : Shared) (Q : List Value → Shared → Prop),
    s.heap.Ns mainGlobals mg → CodeHd s.heap c P → s.heap.get? P = some (tabObj (trip tri)) → s.heap.BuiltinsAt mg P → (∀ e ∈ es, lamScope e = true) → (∀ e ∈ es, dfltOf e env = ([], [])) → posFree (tri.map (·.1)) es = true →
    (∀ as h' tk tri', MadeAll P h' as es → as.length = es.length → (∀ a ∈ as, s.heap.objs.size ≤ a ∧ a < h'.objs.size) → as.Nodup → Heap.ExtBut P s.heap h' → s.heap.objs.size ≤ h'.objs.size → h'.get? P = some (tabObj (trip tri')) → Q (as.map .ref) { s with heap := h', toks := tk }) →
    wpAny (model prog w) A (spliced (backTo pos (starEach es env))) Q E s
  | [], tri, s, Q, _, _, hP, _, _, _, _, h => args_nil (h [] s.heap s.toks tri (fun i a e h1 => by cases h1) rfl (fun a ha => by cases ha) List.nodup_nil (fun _ _ _ e => e) (Nat.le_refl _) hP)
  | e :: es, tri, s, Q, hg, C, hP, hb, hs, hd, hp, h => by
    have hse := hs e (.head _)
    obtain ⟨params, body, scope, lpos, rfl, hfr⟩ := atLambda_inv hse
    have hd0 : defaultsOf params env = ([], []) := hd _ (.head _)
    unfold posFree at hp
    have hp1 := andL hp
    have hp2 := andR hp
    refine args_cons (kla_eval hd0 (kla_makeFunction (mg := mg) (closure_nil hfr) hge hg hcode C hP (trip_ok tri) (trip_none hp1) hgP hb fun c' ctv h' tk hx hge' hlt hrec htb => ?_)) rfl
    have hPs : P < s.heap.objs.size := Heap.lt_size hP
    have hsz : s.heap.objs.size ≤ h'.objs.size := Nat.le_trans hge' (Nat.le_of_lt hlt)
    have hPa : h'.objs.size ≠ P := Nat.ne_of_gt (Nat.lt_of_lt_of_le hPs hsz)
    have hPc : c' ≠ P := Nat.ne_of_gt (Nat.lt_of_lt_of_le hPs hge')
    rw [trip_snoc] at htb
    generalize hob : kla_obj "<lambda>" (env.qual ++ "<lambda>") params body scope [] ((mg "__name__").getD .none) c' ctv = ob
    have hx1 : Heap.ExtBut P s.heap (h'.push ob) := extBut_push hx ob
    have hmade : LamMade P (h'.push ob) h'.objs.size (.Lambda params body scope lpos) := by
      obtain ⟨c₂, o, us, t, e1, e2, e3⟩ := hrec
      cases e1
      exact ⟨params, body, scope, lpos, _, _, c', ctv, rfl, hPa, hPc, by rw [hob]; exact Heap.get?_push_size _ (by rw [← hob]; rfl), c', o, us, t, rfl, Heap.get?_push_of_some _ e2, e3⟩
    refine make_lams hge hcode hgP es (tri ++ [(lpos, .ref c')]) _ _ ((hg.extBut hx hgP).push _) (codeHd_extBut C hx1) (Heap.get?_push_of_some _ htb) (builtinsAt_extBut hb hx1) (fun e he => hs e (.tail _ he)) (fun e he => hd e (.tail _ he)) ?_ fun as h₂ tk₂ tri' hm hl ha hnd hx2 hsz2 htb2 => ?_
    · rw [List.map_append]
      have swap : ∀ (es : List Expr) (a b : List Pos), (∀ p, p ∈ a ↔ p ∈ b) → posFree a es = true → posFree b es = true := by
        intro es
        induction es with
        | nil => intro _ _ _ _; rfl
        | cons e r ih =>
          intro a b hab hh
          unfold posFree at hh ⊢
          rw [Bool.and_eq_true]
          refine ⟨List.all_eq_true.mpr fun p hpb => List.all_eq_true.mp (andL hh) p ((hab p).mpr hpb), ih _ _ (fun p => ?_) (andR hh)⟩
          simp only [List.mem_cons, hab]
      refine swap es _ _ (fun p => ?_) hp2
      simp only [List.map_cons, List.map_nil, List.mem_append, List.mem_cons, List.not_mem_nil, or_false]
      exact Or.comm
    · have hs1 : (h'.push ob).objs.size = h'.objs.size + 1 := size_push' _ _
      dsimp only at ha hx2 hsz2
      rw [hs1] at ha hsz2
      refine h (h'.objs.size :: as) h₂ tk₂ tri' (.cons (hmade.keeps hx2) hm) (by simp [hl]) (fun a hm' => ?_) (List.nodup_cons.mpr ⟨fun q => ?_, hnd⟩) (extBut_trans hx1 hx2) (Nat.le_trans (Nat.le_succ_of_le hsz) hsz2) htb2
      · rcases List.mem_cons.mp hm' with rfl | hm'
        · exact ⟨hsz, hsz2⟩
        · exact ⟨Nat.le_trans (Nat.le_succ_of_le hsz) (ha a hm').1, (ha a hm').2⟩
      · exact absurd (ha _ q).1 (Nat.not_succ_le_self _)
end
end Mine
end
section
open PySem PySem.W PySem.Calls PyProof.Rows
namespace Mine
section
variable {prog : Program} {w : World} {A : Around} {E : Value → Shared → Prop} {s : Shared}
/-- a def without parameters that gives a list of lambdas -/
theorem props_call {name : Str} {params : Arguments} {body : List Stmt} {scope : Scope} {pm doc : Value} {o : Obj} {fa c P : Addr} {mg : Str → Option Value} {es : List Expr} {lp rp : Pos} {Q : Value → Shared → Prop}
    (hroom : A.depth < recursionLimit) (ho : s.heap.get? fa = some o) (hd : o.data = .func (docDef name params body scope pm (.ref c) doc)) (hrec : s.heap.CodeRec (.ref c) name) (C : CodeHd s.heap c P) (hP : s.heap.get? P = some (tabObj #[]))
    (hg : s.heap.Ns mainGlobals mg) (hb : s.heap.BuiltinsAt mg P) (hlim : s.heap.NoLimit) (hco : scope.isCoroutine = false) (hgen : scope.isGenerator = false) (hk : scope.kind = .function)
    (hbody : body = [.Return (some (.List es lp)) rp]) (hbind : bindArgs (docDef name params body scope pm (.ref c) doc) ⟨[], []⟩ = pure []) (hs : ∀ e ∈ es, lamScope e = true) (hdf : ∀ env, ∀ e ∈ es, dfltOf e env = ([], [])) (hp : posFree [] es = true) (hz : es.length ≤ 100000)
    (h : ∀ as D h' tk, MadeAll P h' as es → as.length = es.length → (∀ a ∈ as, s.heap.objs.size ≤ a) → as.Nodup → Heap.ExtBut P s.heap h' → s.heap.objs.size ≤ D → (∃ ob n, h'.get? D = some ob ∧ ob.cls = .type "list" ∧ ob.data = .seq (as.map Value.ref).toArray n) → (∃ ps, h'.get? P = some (tabObj ps)) → Q (.ref D) { s with heap := h', toks := tk }) :
    wpAny (model prog w) A (call (.ref fa) []) Q E s := by
  have hgP : mainGlobals ≠ P := fun q => by
    obtain ⟨o', es', ep, e, hd', _⟩ := hg
    rw [q, hP] at e; cases e; cases hd'
  refine wpAny_call (codeAny_call_function hroom ho hd hco hgen rfl hrec ?_)
  rw [hbind]
  refine wpAny_pure (wpAny_newFunctionEnv_cells hk (fun x hx => by cases hx) fun env he s' x => ?_)
  subst he
  obtain ⟨h₁, tk, rfl⟩ := x.toInCall.same
  have kp := x.toInCall.keep
  dsimp only at kp
  have kpX : Heap.ExtBut P s.heap h₁ := fun b o' _ e => kp b o' e
  refine ⟨hlim.keeps kp, codeAny_func ?_⟩
  show wpAny _ _ (execs body _) _ _ _
  rw [hbody]
  have hsz : s.heap.objs.size ≤ h₁.objs.size := Nat.le_of_not_lt fun hlt => by
    have := x.toInCall.ns
    obtain ⟨o', _, _, e, _⟩ := this
    have := Heap.lt_size e
    dsimp only at this
    exact absurd (Nat.lt_trans this hlt) (Nat.lt_irrefl _)
  refine wpAny_execs_cons (wpAny_Return_some (wpAny_List (make_lams (mg := mg) (c := c) (P := P) rfl rfl hgP es [] _ _ (hg.keeps kp) (C.keeps kp) (kp _ _ hP) (builtinsAt_extBut hb kpX) hs (hdf _) hp fun as h' tk' tri' hm hl ha hnd hx hsz2 htb => ?_)))
  refine ⟨by rw [List.length_map, hl, sizeLine_eq]; omega, ?_⟩
  dsimp only at hx hsz2 ha
  refine h as h'.objs.size _ tk' (MadeAll.keeps (extBut_push (fun _ _ _ e => e) _) hm) hl (fun a hm' => Nat.le_trans hsz (ha a hm').1) hnd (extBut_push (extBut_trans kpX hx) _) (Nat.le_trans hsz hsz2) ⟨_, 0, Heap.get?_push_size _ rfl, rfl, rfl⟩ ⟨_, Heap.get?_push_of_some _ htb⟩
end
section
variable {base base' : Heap} {fzT : Fz} {n : Nat} {A : Around} {outer : List Env} {L P : Addr} {env : Env} {nm : List Str} {σ : List SV} {ad : Nat → Addr} {fz fz' : Fz} {s : Shared} {h' : Heap}
theorem ns_extBut {h : Heap} {a : Addr} {m : Str → Option Value} {ps : Array Value} (x : h.Ns a m) (hP : h.get? P = some (tabObj ps)) (hx : Heap.ExtBut P h h') : h'.Ns a m := by
  refine x.extBut hx fun q => ?_
  obtain ⟨o, es, ep, e, hd, _⟩ := x
  rw [q, hP] at e; cases e; cases hd
theorem cell_extBut {h : Heap} {a : Addr} {v : Option Value} {ps : Array Value} (x : h.IsCell a v) (hP : h.get? P = some (tabObj ps)) (hx : Heap.ExtBut P h h') : h'.IsCell a v := by
  obtain ⟨o, e, hd⟩ := x
  exact ⟨o, hx _ _ (fun q => by rw [q, hP] at e; cases e; cases hd) e, hd⟩
theorem var_extBut {h : Heap} {x : Str} {v : Value} {ps : Array Value} (hP : h.get? P = some (tabObj ps)) (hx : Heap.ExtBut P h h') (q : Var env h x v) : Var env h' x v :=
  q.imp (fun ⟨k, m, hn, hm⟩ => ⟨k, m, ns_extBut hn hP hx, hm⟩) fun ⟨k, c, hc, hv⟩ => ⟨k, c, hc, cell_extBut hv hP hx⟩
/-- the frame, on another ground -/
theorem HereS.rebase {ps : Array Value} (H : HereS base fzT .a n A outer L env nm σ ad fz s) (hP : s.heap.get? P = some (tabObj ps)) (hx : Heap.ExtBut P s.heap h') (hst : base'.StaysIn h') (hfr : ∀ b ∈ fsOf outer, base'.get? b = none)
    (hnb : ∀ b, WrS env σ ad b → base'.get? b = none) (hle : FzLe fz fz') (hfz : FzIn fz' h') (hnew : ∀ a, fz a = none → fz' a ≠ none → s.heap.get? a = none) (tk : Tok) : HereS base' fzT .a n A outer L env nm σ ad fz' { s with heap := h', toks := tk } := by
  have H0 := H.here
  refine ⟨⟨H0.sit, ⟨hst, ?_, fun b hb => ?_⟩, ⟨H0.envok.kind, H0.envok.globals, H0.envok.builtins, H0.envok.frame, H0.envok.head, H0.envok.ns.elim fun m hm => ⟨m, ns_extBut hm hP hx⟩, fun x hk => ?_⟩, ?_, hfz, H0.fzle.trans hle, (fun q => by cases q), H0.len⟩, H.ap, H.vars, H.inj, H.lfs, hnb⟩
  · have go : ∀ l : List Env, s.heap.FunFrames base l → (∀ b ∈ fsOf l, base'.get? b = none) → h'.FunFrames base' l := by
      intro l
      induction l with
      | nil => intro _ _; trivial
      | cons e r ih =>
        rintro ⟨hk, ⟨L', o, hf, hn, ho, hd⟩, hr⟩ hb
        refine ⟨hk, ⟨L', o, hf, hb L' (by unfold fsOf; rw [List.filterMap_cons, hf]; exact .head _), hx _ _ (fun q => ?_) ho, hd⟩, ih hr fun b q => hb b ?_⟩
        · rw [q, hP] at ho; cases ho; exact hd _ rfl
        · unfold fsOf at q ⊢; rw [List.filterMap_cons, hf]; exact .tail _ q
    exact go _ H0.hi.frames hfr
  · obtain ⟨o, es, ep, ho, hd⟩ := H0.hi.dicts b hb
    exact ⟨o, es, ep, hx _ _ (fun q => by rw [q, hP] at ho; cases ho; cases hd) ho, hd⟩
  · obtain ⟨c, v, a, b⟩ := H0.envok.cells x hk
    exact ⟨c, v, a, cell_extBut b hP hx⟩
  · intro x i sv h1 h2 h3
    have := H0.inv x i sv h1 h2 h3
    cases sv with
    | un => trivial
    | val d => obtain ⟨v, a, b⟩ := this; exact ⟨v, var_extBut hP hx a, b.mono hle⟩
    | own ds =>
      obtain ⟨a, b, c, vs, ⟨m, pl⟩, r⟩ := this
      refine ⟨var_extBut hP hx a, b, ?_, vs, ⟨m, hx _ _ (fun q => by rw [q, hP] at pl; cases pl) pl⟩, r.mono hle⟩
      cases z : fz' (ad i) with
      | none => rfl
      | some o => have := hnew _ c (by rw [z]; nofun); rw [this] at pl; cases pl
end
end Mine
end
section
open PySem PySem.W PySem.Calls PyProof.Rows
namespace Mine
/-- the lambdas, at the addresses as -/
noncomputable def Ln (lams : List X) (T : Tab) (as : List Nat) (a : Nat) (args : List PyData) : Option PyData := match as.findIdx? (· == a) with
  | some i => (match lams[i]? with
    | some x => if args.length = 1 then (match ev T x (initσ args ["g"]) with
      | .ok d => some d
      | _ => none) else none
    | none => none)
  | none => none
noncomputable def TL (ds : List Def) (gn : List Str) (gv : List PyData) (lams : List X) (k : Nat) (as : List Nat) : Tab := ⟨ds.map (·.name), gn, gv, Fn ds gn gv (k + 1), Ln lams (Tn ds gn gv k) as⟩
noncomputable def lamOk (T : Tab) (x : X) (e : Expr) : Bool := atLambda (fun _ body scope _ => Mx T scope.names ["g"] x body && namesOk scope ["g"] ["g"] && (scope.kind == .function) && !scope.isCoroutine && !scope.isGenerator && okX .a x) e
noncomputable def lamsCheck (T : Tab) : List X → List Expr → Bool
  | [], es => es.isEmpty
  | x :: xs, es => (match es with
    | e :: es => lamOk T x e && lamsCheck T xs es
    | [] => false)
theorem lamsCheck_at {T : Tab} : ∀ {xs : List X} {es : List Expr}, lamsCheck T xs es = true → ∀ (i : Nat) x, xs[i]? = some x → ∃ e, es[i]? = some e ∧ lamOk T x e = true
  | [], _, _, i, _, h => by simp at h
  | x :: xs, [], h, _, _, _ => by cases h
  | x :: xs, e :: es, h, 0, y, hy => by
    cases hy
    exact ⟨e, rfl, andL h⟩
  | x :: xs, e :: es, h, i + 1, y, hy => lamsCheck_at (andR h) i y hy
noncomputable def lamBind (qual : Str) (pm cd ctv v : Value) (e : Expr) : Sem (List (Str × Value)) := if h : e.ctorIdx = 4 then PySem.Expr.Lambda.elim (motive_1 := fun _ => Sem (List (Str × Value))) e h (fun params body scope _ => bindArgs (kla_fn "<lambda>" qual params body scope [] pm cd ctv) ⟨[v], []⟩) else pure []
theorem Ground0.keeps {p : Program} {base base' : Heap} {fzT : Fz} {mg mb : Str → Option Value} {gn : List Str} {gv : List PyData} (B : Ground0 p base fzT mg mb gn gv) (k : ∀ b o, base.get? b = some o → base'.get? b = some o) : Ground0 p base' fzT mg mb gn gv :=
  ⟨B.gl.keeps k, B.bu.keeps k, B.nolimit.keeps k, B.bis, B.rng, B.enu, B.exi, B.exv, B.gls, fun d hd => by
    obtain ⟨a, o, pm, code, doc, h1, h2, h3, c, oc, us, t, e1, e2, e3⟩ := B.fn d hd
    exact ⟨a, o, pm, code, doc, h1, k _ _ h2, h3, c, oc, us, t, e1, k _ _ e2, e3⟩⟩
theorem ground_ghost {p : Program} {h : Heap} {fzT : Fz} {mg mb : Str → Option Value} {gn : List Str} {gv : List PyData} {tabs : List (Addr × Addr)} (hT : TabsAt tabs h) (B : Ground0 p h fzT mg mb gn gv) : Ground0 p (ghostOf h tabs) fzT mg mb gn gv :=
  ⟨ghost_ns hT B.gl, ghost_ns hT B.bu, B.nolimit.imp fun _ a => ⟨ghost_ns hT a.1, a.2⟩, B.bis, B.rng, B.enu, B.exi, B.exv, B.gls, fun d hd => by
    obtain ⟨a, o, pm, code, doc, h1, h2, h3, c, oc, us, t, e1, e2, e3, e4⟩ := B.fn d hd
    refine ⟨a, o, pm, code, doc, h1, ghost_get hT h2 (fun q => by rw [q] at h3; cases h3), h3, c, oc, us, t, e1, ghost_get hT e2 (fun q => ?_), e3, e4⟩
    rw [q] at e3
    cases e3
    simp at e4⟩
/-- what is known of the law's text -/
structure LawText (p : Program) (ds : List Def) (gn : List Str) (gv : List PyData) (lams : List X) (K : Nat) (lawR propsR : DefRec) (x₁ : S) (law3 : List S) (i₂ : Nat) (nm : List Str) : Prop where
  defs : ∀ d ∈ ds, ∃ r, DefAt p ds gn gv d r
  lawIn : lawR ∈ recsOf p
  propsIn : propsR ∈ recsOf p
  co : lawR.scope.isCoroutine = false
  gen : lawR.scope.isGenerator = false
  kind : lawR.scope.kind = .function
  names : namesOk lawR.scope ["script"] nm = true
  body : ∃ e₁ t pt px cp ap rest, lawR.body = e₁ :: .Assign [.Name t pt] (.Call (.Name propsR.name px) [] [] cp) ap :: rest ∧ Ms (Tn ds gn gv (K + 1)) lawR.scope.names nm x₁ e₁ = true ∧ tgt lawR.scope.names nm i₂ t = true ∧ isGlob lawR.scope.names propsR.name = true ∧
    ∀ as, Mss (TL ds gn gv lams K as) lawR.scope.names nm law3 rest = true
  ok1 : okS .a x₁ = true
  ok3 : okSs .a law3 = true
  bind : ∀ pm code doc v, bindArgs (docDef lawR.name lawR.params lawR.body lawR.scope pm code doc) ⟨[v], []⟩ = pure [(("script" : Str), v)]
  pco : propsR.scope.isCoroutine = false
  pgen : propsR.scope.isGenerator = false
  pkind : propsR.scope.kind = .function
  pbind : ∀ pm code doc, bindArgs (docDef propsR.name propsR.params propsR.body propsR.scope pm code doc) ⟨[], []⟩ = pure []
  pbody : ∃ es lp rp, propsR.body = [.Return (some (.List es lp)) rp] ∧ lamsCheck (Tn ds gn gv K) lams es = true ∧ es.length = lams.length ∧ (∀ e ∈ es, lamScope e = true) ∧ (∀ env, ∀ e ∈ es, dfltOf e env = ([], [])) ∧ posFree [] es = true ∧ es.length ≤ 100000 ∧
    ∀ qual pm cd ctv v, ∀ e ∈ es, lamBind qual pm cd ctv v e = pure [(("g" : Str), v)]
end Mine
end
section
open PySem PySem.W PySem.Calls PyProof.Rows
namespace Mine
section
variable {p prog : Program} {w : World} {loose : List Str} {mean : ExcName → Option Value} {mg mb : Str → Option Value} {ds : List Def} {gn : List Str} {gv : List PyData} {lams : List X} {K : Nat} {lawR propsR : DefRec} {x₁ : S} {law3 : List S} {i₂ : Nat} {nm : List Str}
/-- the contracts, lambdas among them -/
theorem gok_lams {base : Heap} {fzT : Fz} (B : Ground0 p base fzT mg mb gn gv) (D : LawText p ds gn gv lams K lawR propsR x₁ law3 i₂ nm) {h : Heap} {P : Addr} {as : List Addr} {es : List Expr} (hm : MadeAll P h as es)
    (hk : ∀ a ∈ as, ∀ o, h.get? a = some o → base.get? a = some o) (hkc : ∀ c o us, h.get? c = some o → c ≠ P → o.data = .fields us → base.get? c = some o) (hc : lamsCheck (Tn ds gn gv K) lams es = true)
    (hb : ∀ qual pm cd ctv v, ∀ e ∈ es, lamBind qual pm cd ctv v e = pure [(("g" : Str), v)]) : GOK prog w (TL ds gn gv lams K as) base fzT mg mb (K + 1) := by
  have G := tower (prog := prog) (w := w) B D.defs (K + 1)
  have G0 := tower (prog := prog) (w := w) B D.defs K
  refine ⟨G.gl, G.bu, G.bis, G.rng, G.enu, G.exi, G.exv, G.fns, fun a args d hL => ?_, G.gls⟩
  have hL' : Ln lams (Tn ds gn gv K) as a args = some d := hL
  unfold Ln at hL'
  split at hL'
  · rename_i i hi
    split at hL'
    · rename_i x hx
      split at hL'
      · rename_i hl
        split at hL'
        · rename_i d' hev
          cases hL'
          obtain ⟨hlt, hia, _⟩ := List.findIdx?_eq_some_iff_getElem.mp hi
          have hia : as[i] = a := eq_of_beq hia
          obtain ⟨e, he, hok⟩ := lamsCheck_at hc i x hx
          have hie : as[i]? = some a := by rw [List.getElem?_eq_getElem hlt, hia]
          obtain ⟨params, body, scope, pos, qual, pm, c', ctv, rfl, n1, n2, g1, hrec⟩ := hm i a e hie he
          have hok : (Mx (Tn ds gn gv K) scope.names ["g"] x body && namesOk scope ["g"] ["g"] && (scope.kind == .function) && !scope.isCoroutine && !scope.isGenerator && okX .a x) = true := hok
          have k6 := andR hok
          have hok := andL hok
          have k5 : scope.isGenerator = false := by simpa using andR hok
          have hok := andL hok
          have k4 : scope.isCoroutine = false := by simpa using andR hok
          have hok := andL hok
          have k3 := eq_of_beq (andR hok)
          have hok := andL hok
          have gb := hk a (List.mem_of_getElem? hie) _ g1
          have bnd := fun v => hb qual pm (.ref c') ctv v _ (List.mem_of_getElem? he)
          obtain ⟨c₂, o₂, us, t, e1, e2, e3, e4⟩ := hrec
          cases e1
          refine ⟨_, _, gb, rfl, lam_ok (T := Tn ds gn gv K) (params := ["g"]) (nm := ["g"]) (body := body) (scope := scope) (soundX_all G0 .a x k6).x ⟨⟨_, _, gb, rfl, rfl, rfl, rfl, rfl, rfl, ⟨c', o₂, us, t, rfl, hkc _ _ _ e2 n2 e3, e3, e4⟩, fun vs hv => ?_⟩, k4, k5, k3, B.nolimit⟩ (andR hok) (andL hok) hl hev⟩
          obtain ⟨v, rfl⟩ := List.length_eq_one_iff.mp hv
          exact bnd v
        · cases hL'
      · cases hL'
    · cases hL'
  · cases hL'
end
end Mine
end
section
open PySem PySem.W PySem.Calls PyProof.Rows
namespace Mine
theorem rep_fns {fz : Fz} : ∀ as : List Addr, RepAll fz (as.map Value.ref) (as.map fnD)
  | [] => .nil
  | a :: as => .cons (.fn a) (rep_fns as)
open Classical in
/-- the heap without some places -/
theorem hide_places (h : Heap) (Wp : Addr → Prop) : ∃ h' : Heap, (∀ b o, h'.get? b = some o → h.get? b = some o) ∧ (∀ b, Wp b → h'.get? b = none) ∧ ∀ b o, h.get? b = some o → ¬ Wp b → h'.get? b = some o := by
  refine ⟨hideAll h ((List.range h.objs.size).filter fun b => decide (Wp b)), fun b o e => of_hideAll _ e, fun b hb => ?_, fun b o e hn => hideAll_get _ e fun q => hn (of_decide_eq_true (List.mem_filter.mp q).2)⟩
  by_cases hlt : b < h.objs.size
  · exact hideAll_none _ (List.mem_filter.mpr ⟨List.mem_range.mpr hlt, decide_eq_true hb⟩)
  · cases q : (hideAll h ((List.range h.objs.size).filter fun b => decide (Wp b))).get? b with
    | none => rfl
    | some o => exact absurd (Heap.lt_size (of_hideAll _ q)) hlt
section
variable {p prog : Program} {w : World} {loose : List Str} {mean : ExcName → Option Value} {mg mb : Str → Option Value} {ds : List Def} {gn : List Str} {gv : List PyData} {lams : List X} {K : Nat} {lawR propsR : DefRec} {x₁ : S} {law3 : List S} {i₂ : Nat} {nm : List Str}
/-- the law's call: a statement, the lambdas made, the rest -/
theorem law_walk {s : Shared} {fa : Addr} {v₀ : Value} {d₀ : PyData} {σ : List SV} {E : Value → Shared → Prop} (T : Top p loose mean mg mb s.heap) (hf : freesOk p loose = true) (hg : ∀ (g : Nat) x d, gn[g]? = some x → gv[g]? = some d → ∃ v, mg x = some v ∧ Rep (fzOf s.heap) v d)
    (D : LawText p ds gn gv lams K lawR propsR x₁ law3 i₂ nm) (hm : mg lawR.name = some (.ref fa)) (hr : Rep (fzOf s.heap) v₀ d₀) (S : Sit .a callerA [] (K + 2))
    (hev1 : evS (Tn ds gn gv (K + 1)) x₁ (initσ [d₀] nm) = .next σ)
    (hev3 : ∀ as : List Nat, as.length = lams.length → as.Nodup → evSs (TL ds gn gv lams K as) law3 (putV σ i₂ (.list (as.map fnD))) = .ret (.bool true))
    {Q : Value → Shared → Prop} (hQ : ∀ h' tk, OldK s.heap h' → Q (.bool true) { s with heap := h', toks := tk }) :
    wpAny (model prog w) callerA (call (.ref fa) [v₀]) Q E s := by
  -- the lambdas' def
  obtain ⟨ap, op, fdp, c, P, q1, q2, q3, q4, q5, q6⟩ := T.tab propsR D.propsIn
  obtain ⟨ap', op', pmp, codep, docp, r1, r2, r3, r4⟩ := T.fn propsR D.propsIn
  rw [q1] at r1; cases r1
  rw [q2] at r2; cases r2
  rw [q3] at r3; cases r3
  cases (show codep = .ref c from q4)
  have C₀ : CodeHd s.heap c P := CodeHd.of q5 q6
  have hP₀ : s.heap.get? P = some (tabObj #[]) := q6.2
  have hT : TabsAt [(c, P)] s.heap := fun q hq => by cases List.mem_singleton.mp hq; exact ⟨C₀, hP₀⟩
  have B₀ := ground_ghost hT (ground0 T hf hg)
  obtain ⟨base₀, B₀, b0s, b0P, sb0⟩ : ∃ base₀ : Heap, Ground0 p base₀ (fzOf s.heap) mg mb gn gv ∧ (∀ b o, base₀.get? b = some o → s.heap.get? b = some o) ∧ base₀.get? P = none ∧ ∀ b o, b ≠ P → s.heap.get? b = some o → base₀.get? b = some o :=
    ⟨_, B₀, fun b o e => of_hideAll _ e, hideAll_none _ (by simp), fun b o hb e => ghost_ne e (by simpa using hb)⟩
  have G₀ := tower (prog := prog) (w := w) B₀ D.defs (K + 1)
  -- the call
  obtain ⟨al, ol, pml, codel, docl, l1, l2, l3, l4⟩ := T.fn lawR D.lawIn
  rw [hm] at l1; cases l1
  refine wpAny_call (codeAny_call_function (by have := S.depth; exact Nat.lt_trans (show callerA.depth < 900 by omega) (by decide : 900 < recursionLimit)) l2 l3 D.co D.gen rfl l4 ?_)
  rw [D.bind]
  have hi₀ : HI base₀ [] s.heap := ⟨b0s, trivial, fun b hb => by simp [fsOf] at hb⟩
  refine wpAny_pure (enter_ok (n := K + 1) (vs := [v₀]) (params := ["script"]) (ds := [d₀]) (nm := nm) (code := codel) (qual := lawR.name ++ ".<locals>.") S hi₀ (fzOf_in s.heap) (FzLe.refl _) (.cons hr .nil) D.names D.kind rfl fun env h₁ tk Fr => ⟨T.nolimit.keeps Fr.keep, codeAny_func ?_⟩)
  obtain ⟨e₁, t, pt, px, cp, apos, rest, hbody, hm1, htg, hgl, hm3⟩ := D.body
  rw [hbody]
  -- the first statement
  have sound1 : SoundS prog w (Tn ds gn gv (K + 1)) base₀ (fzOf s.heap) (K + 1) .a x₁ := soundS_all G₀ x₁ .a D.ok1
  refine wpAny_execs_cons (wpAny_mono (sound1 e₁ (by rw [Fr.scope]; exact hm1) Fr.here (by rw [hev1]; nofun)) (fun f s₁ g => ?_) fun v s₁ g => by rw [hev1] at g; exact g.elim)
  rw [hev1] at g
  obtain ⟨rfl, ad₁, fz₁, R₁, H₁⟩ := g
  have keep₁ : ∀ b o, s.heap.get? b = some o → s₁.heap.get? b = some o := fun b o e => by
    have hnw : ¬ WrS env (initσ [d₀] nm) (fun _ => 0) b := fun hw => by rw [Fr.out b hw] at e; cases e
    obtain ⟨sl, z1, z2⟩ := R₁.ext b o (Fr.keep b o e) hnw
    have := z2 fun hm' => by
      unfold fsOf at hm'
      rw [List.filterMap_cons, Fr.frame] at hm'
      rcases List.mem_cons.mp hm' with z | z
      · rw [z, size_none s.heap (Nat.le_refl _)] at e; cases e
      · cases z
    rw [this] at z1; exact z1
  have hP₁ := keep₁ _ _ hP₀
  have wrP : ¬ WrS env σ ad₁ P := fun hw => H₁.kinds hw _ hP₁ _ rfl
  have T₁ := T.keeps keep₁
  -- the lambdas
  obtain ⟨es, lp, rp, hpb, hlc, hel, hls, hdf, hpf, hez, hlb⟩ := D.pbody
  obtain ⟨t1, t2, t3, t4⟩ := tgt_is htg
  have hgl' : isGlob env.scope.names propsR.name = true := by rw [Fr.scope]; exact hgl
  refine wpAny_execs_cons (wpAny_Assign_Name (Call_ (glob_name G₀ H₁.here.hi H₁.here.envok hgl' q1 ?_)) rfl)
  refine callWith_function (o := op) (PyProof.Rows.evalArgs_none ⟨⟨keep₁ _ _ q2, q3⟩, ?_⟩)
  obtain ⟨bm, ob, b1, b2, b3, b4, b5, b6⟩ := T₁.bmain
  have hbP : bm ≠ P := fun q => by rw [q, hP₁] at b3; cases b3; cases b4
  have hbG : bm ≠ mainGlobals := fun q => by
    obtain ⟨o, es, ep, e, hd, _⟩ := T₁.g
    rw [q, e] at b3; cases b3; rw [hd] at b6; cases b6
  have l4' : s₁.heap.CodeRec (.ref c) propsR.name := by
    obtain ⟨c₂, o, us, t, e1, e2, e3⟩ := r4
    exact ⟨c₂, o, us, t, e1, keep₁ _ _ e2, e3⟩
  refine props_call (mg := mg) (es := es) (by have := H₁.here.sit.depth; exact Nat.lt_trans (by omega) (by decide : 900 < recursionLimit)) (keep₁ _ _ q2) q3 l4' (C₀.keeps keep₁) hP₁ T₁.g ⟨bm, ob, b1, b2, hbG, hbP, b3, b4, b5, b6⟩ T₁.nolimit D.pco D.pgen D.pkind hpb (D.pbind _ _ _) hls hdf hpf hez fun as Dl h₂ tk₂ hmade hal hage hnd hx hDge hDat hPg => ?_
  obtain ⟨obD, nD, hD1, hD2, hD3⟩ := hDat
  obtain ⟨ps₂, hP₂⟩ := hPg
  -- the new ground
  have live₁ := H₁.live
  obtain ⟨base₁, b1s, hb1n, b1k⟩ := hide_places h₂ (WrS env σ ad₁)
  have b1P := b1k _ _ hP₂ wrP
  have b01 : ∀ b o, base₀.get? b = some o → base₁.get? b = some o := fun b o e => by
    refine b1k _ _ (hx b o (fun q => by rw [q, b0P] at e; cases e) (keep₁ _ _ (b0s b o e))) fun q => ?_
    have := H₁.nb b q
    rw [this] at e; cases e
  have Dnew : s₁.heap.get? Dl = none := size_none _ hDge
  have fzD : fz₁ Dl = none := H₁.here.fzin.none Dnew
  have fz1in : FzIn fz₁ h₂ := fun a tt vs e => by
    obtain ⟨o, n, ho, hc, hd⟩ := H₁.here.fzin _ _ _ e
    exact ⟨o, n, hx _ _ (fun q => by rw [q, hP₁] at ho; cases ho; cases hc) ho, hc, hd⟩
  have hle : FzLe fz₁ (fzAdd fz₁ Dl false (as.map Value.ref)) := (fzAdd_ext (h := s₁.heap) Dnew fzD).le
  have H₂ := H₁.rebase (base' := base₁) (fz' := fzAdd fz₁ Dl false (as.map Value.ref)) hP₁ hx b1s (fun b hb => by
      unfold fsOf at hb
      rw [List.filterMap_cons, H₁.lfs] at hb
      rcases List.mem_cons.mp hb with z | z
      · rw [z]; exact hb1n _ (.inl rfl)
      · cases z) hb1n hle (fzAdd_in fz1in hD1 hD2 hD3) (fun a h1 h2 => (fzAdd_ext (h := s₁.heap) Dnew fzD).new a h1 h2) tk₂
  have Gl : GOK prog w (TL ds gn gv lams K as) base₁ (fzOf s.heap) mg mb (K + 1) := by
    refine gok_lams (B₀.keeps b01) D hmade (fun a ha o ho => ?_) (fun c' o us ho hne hd => ?_) hlc hlb
    · refine b1k _ _ ho fun q => ?_
      obtain ⟨o', ho'⟩ := live₁ a q
      rw [size_none s₁.heap (hage a ha)] at ho'; cases ho'
    · refine b1k _ _ ho fun hw => ?_
      obtain ⟨o', ho'⟩ := live₁ c' hw
      have := hx c' o' hne ho'
      rw [ho] at this; cases this
      exact H₁.kinds hw _ ho' _ hd
  refine store_sv (a' := 0) (RelS.refl H₂) H₂ t1 (by rw [show env.kindOf t = lawR.scope.names.lookup t by show env.scope.names.lookup t = _; rw [Fr.scope]; rfl]; exact t2) (.val (.list (fzAdd_self ..) (rep_fns as))) fun s₃ R₃ H₃ => ?_
  -- the rest
  have sound3 : SoundSs prog w (TL ds gn gv lams K as) base₁ (fzOf s.heap) (K + 1) .a law3 := soundSs_all Gl law3 .a D.ok3
  have ev3 := hev3 as (by rw [hal, hel]) hnd
  refine wpAny_mono (sound3 rest (by rw [Fr.scope]; exact hm3 as) H₃ (by rw [show σ.set i₂ (.val (.list (as.map fnD))) = putV σ i₂ (.list (as.map fnD)) from rfl, ev3]; nofun)) (fun f s₄ g => ?_) fun v s₄ g => by rw [show σ.set i₂ (.val (.list (as.map fnD))) = putV σ i₂ (.list (as.map fnD)) from rfl, ev3] at g; exact g.elim
  rw [show σ.set i₂ (.val (.list (as.map fnD))) = putV σ i₂ (.list (as.map fnD)) from rfl, ev3] at g
  obtain ⟨v, σ', ad', fz', rfl, R₄, H₄, rep⟩ := g
  have stays := H₄.here.hi.stays
  cases rep_bool_inv rep
  obtain ⟨h₅, t₅, rfl⟩ := R₁.same
  obtain ⟨h₆, t₆, rfl⟩ := R₃.same
  obtain ⟨h₇, t₇, rfl⟩ := R₄.same
  refine hQ h₇ t₇ ⟨fun b o e => ?_, fun b o e => ?_⟩
  · by_cases hb : b = P
    · subst hb
      rw [hP₀] at e; cases e
      exact .inr (.inl ⟨(C₀.tab hP₀).isCodeTable, rfl, #[], ps₂, rfl, by rw [Array.empty_append]; exact stays _ _ b1P⟩)
    · exact .inl (stays _ _ (b01 _ _ (sb0 b o hb e)))
  · by_cases hb : b = P
    · subst hb; exact ⟨_, stays _ _ b1P⟩
    · exact ⟨o, stays _ _ (b01 _ _ (sb0 b o hb e))⟩
end
end Mine
end
section
open PySem PySem.W PySem.Calls PyProof.Rows
namespace Mine.L2
noncomputable def b_S_IFMT : List S :=
  [
    .ret (.bin .BitAnd (.var 0) (.int 61440))]
noncomputable def d_S_IFMT : Def := ⟨"S_IFMT", ["mode"], ["mode"], b_S_IFMT⟩
noncomputable def b_filemode : List S :=
  [
    .own 1 (.list []),
    .forE 2 3 (.glob 0)
      [
        .forT 4 5 (.var 3)
          [
            .ite (.cmp .Eq (.var 2) (.int 0))
              [
                .ite (.cmp .Eq (.call 0 [(.var 0)]) (.var 4))
                  [
                    .append 1 (.var 5),
                    .brk]
                  []]
              [
                .ite (.cmp .Eq (.bin .BitAnd (.var 0) (.var 4)) (.var 4))
                  [
                    .append 1 (.var 5),
                    .brk]
                  []]]
          [
            .ite (.cmp .Eq (.var 2) (.int 0))
              [
                .append 1 (.str "?")]
              [
                .append 1 (.str "-")]]]
      [],
    .freeze 1,
    .ret (.join (.var 1))]
noncomputable def d_filemode : Def := ⟨"filemode", ["mode"], ["mode", "perm", "index", "table", "bit", "char"], b_filemode⟩
noncomputable def b_deduplicate_unhashable : List S :=
  [
    .own 1 (.list []),
    .forX 2 (.var 0)
      [
        .ite (.outside (.var 2) 1)
          [
            .append 1 (.var 2)]
          []]
      [],
    .freeze 1,
    .ret (.var 1)]
noncomputable def d_deduplicate_unhashable : Def := ⟨"_deduplicate_unhashable", ["unhashable_params"], ["unhashable_params", "new_unhashable", "t"], b_deduplicate_unhashable⟩
noncomputable def b_compare_args_orderless : List S :=
  [
    .assign 2 (.call 2 [(.var 0)]),
    .assign 3 (.call 2 [(.var 1)]),
    .own 4 (.bi .list (.var 3)),
    .tryE
      [
        .forX 5 (.var 2)
          [
            .remove 4 (.var 5)]
          []] "ValueError"
      [
        .ret (.bool false)],
    .freeze 4,
    .ret (.not (.var 4))]
noncomputable def d_compare_args_orderless : Def := ⟨"_compare_args_orderless", ["first_args", "second_args"], ["first_args", "second_args", "first_unhashable", "second_unhashable", "t", "elem"], b_compare_args_orderless⟩
noncomputable def b_sorted_list_difference : List S :=
  [
    .assign2 2 3 (.int 0),
    .own 4 (.list []),
    .own 5 (.list []),
    .while (.bool true)
      [
        .tryE
          [
            .assign 6 (.idx (.var 0) (.var 2)),
            .assign 7 (.idx (.var 1) (.var 3)),
            .ite (.cmp .Lt (.var 6) (.var 7))
              [
                .append 4 (.var 6),
                .aug 2 .Add (.int 1),
                .while (.cmp .Eq (.idx (.var 0) (.var 2)) (.var 6))
                  [
                    .aug 2 .Add (.int 1)]]
              [
                .ite (.cmp .Gt (.var 6) (.var 7))
                  [
                    .append 5 (.var 7),
                    .aug 3 .Add (.int 1),
                    .while (.cmp .Eq (.idx (.var 1) (.var 3)) (.var 7))
                      [
                        .aug 3 .Add (.int 1)]]
                  [
                    .aug 2 .Add (.int 1),
                    .tryF
                      [
                        .while (.cmp .Eq (.idx (.var 0) (.var 2)) (.var 6))
                          [
                            .aug 2 .Add (.int 1)]]
                      [
                        .aug 3 .Add (.int 1),
                        .while (.cmp .Eq (.idx (.var 1) (.var 3)) (.var 7))
                          [
                            .aug 3 .Add (.int 1)]]]]] "IndexError"
          [
            .extend 4 (.slice (.var 0) (.var 2) .nothing),
            .extend 5 (.slice (.var 1) (.var 3) .nothing),
            .brk]],
    .freeze 4,
    .freeze 5,
    .ret (.tup [(.var 4), (.var 5)])]
noncomputable def d_sorted_list_difference : Def := ⟨"sorted_list_difference", ["expected", "actual"], ["expected", "actual", "i", "j", "missing", "unexpected", "e", "a"], b_sorted_list_difference⟩
noncomputable def b_law_gates : List S :=
  [
    .assign 2 (.call 1 [(.var 0)]),
    .own 3 (.list [(.idx (.var 1) (.bin .FloorDiv (.call 0 [(.var 0)]) (.int 4096)))]),
    .forR 4 1 10 3
      [
        .assign 5 (.list [(.cmp .Eq (.idx (.var 2) (.var 4)) (.str "r")), (.cmp .Eq (.idx (.var 2) (.bin .Add (.var 4) (.int 1))) (.str "w")), (.cmp .In (.idx (.var 2) (.bin .Add (.var 4) (.int 2))) (.str "xst")), (.cmp .In (.idx (.var 2) (.bin .Add (.var 4) (.int 2))) (.str "sStT"))]),
        .append 3 (.comp (.var 5) (.bool true) (.ite (.var 6) (.int 1) (.int 0)))]
      [],
    .freeze 3,
    .ret (.call 2 [(.var 3)])]
noncomputable def d_law_gates : Def := ⟨"_law_gates", ["mode", "sixteen"], ["mode", "sixteen", "text", "gates", "k", "shown"], b_law_gates⟩
noncomputable def b_law_made : List S :=
  [
    .assign 1 (.call 2 [(.bin .Add (.var 0) (.comp (.var 0) (.bool true) (.list [(.idx (.var 8) (.int 0)), (.idx (.var 8) (.int 2)), (.idx (.var 8) (.int 1)), (.idx (.var 8) (.int 3))])))]),
    .assign 2 (.list [(.list [(.int 0), (.int 1), (.int 0), (.int 1)]), (.list [(.int 0), (.int 0), (.int 1), (.int 1)])]),
    .assign 3 (.int 0),
    .while (.and (.cmp .Lt (.var 3) (.bi .len (.var 2))) (.cmp .Lt (.bi .len (.var 2)) (.int 16)))
      [
        .own 4 (.list []),
        .forX 5 (.var 1)
          [
            .assign 6 (.and (.cmp .NotEq (.list [(.idx (.var 5) (.int 0)), (.idx (.var 5) (.int 2))]) (.list [(.idx (.var 5) (.int 1)), (.idx (.var 5) (.int 3))])) (.cmp .NotEq (.list [(.idx (.var 5) (.int 0)), (.idx (.var 5) (.int 1))]) (.list [(.idx (.var 5) (.int 2)), (.idx (.var 5) (.int 3))]))),
            .forX 7 (.ite (.var 6) (.slice (.var 2) .nothing (.bin .Add (.var 3) (.int 1))) (.list [(.idx (.var 2) (.var 3))]))
              [
                .append 4 (.compR 0 4 1 (.bool true) (.idx (.var 5) (.bin .Add (.idx (.var 7) (.var 8)) (.bin .Mult (.int 2) (.idx (.idx (.var 2) (.var 3)) (.var 8))))))]
              []]
          [],
        .freeze 4,
        .assign 2 (.call 2 [(.bin .Add (.var 2) (.var 4))]),
        .assign 3 (.bin .Add (.var 3) (.int 1))],
    .ret (.var 2)]
noncomputable def d_law_made : Def := ⟨"_law_made", ["gates"], ["gates", "asked", "made", "k", "new", "gate", "both", "one"], b_law_made⟩
noncomputable def b_law_numbers : List S :=
  [
    .own 1 (.list [(.bin .Mod (.bin .FloorDiv (.var 0) (.int 4096)) (.int 16))]),
    .forR 2 0 3 1
      [
        .assign 3 (.list [(.bin .Sub (.int 8) (.bin .Mult (.int 3) (.var 2))), (.bin .Sub (.int 7) (.bin .Mult (.int 3) (.var 2))), (.bin .Sub (.int 6) (.bin .Mult (.int 3) (.var 2))), (.bin .Sub (.int 11) (.var 2))]),
        .append 1 (.bi .sum (.compR 0 4 1 (.bool true) (.bin .Mult (.bin .Mod (.bin .FloorDiv (.var 0) (.bin .Pow (.int 2) (.idx (.var 3) (.var 4)))) (.int 2)) (.bin .Pow (.int 2) (.var 4)))))]
      [],
    .freeze 1,
    .ret (.var 1)]
noncomputable def d_law_numbers : Def := ⟨"_law_numbers", ["mode"], ["mode", "numbers", "k", "bits"], b_law_numbers⟩
noncomputable def b_law_rises : List S :=
  [
    .ret (.and (.cmp2 .LtE .LtE (.idx (.var 0) (.int 0)) (.idx (.var 0) (.int 1)) (.idx (.var 0) (.int 3))) (.cmp2 .LtE .LtE (.idx (.var 0) (.int 0)) (.idx (.var 0) (.int 2)) (.idx (.var 0) (.int 3))))]
noncomputable def d_law_rises : Def := ⟨"_law_rises", ["gate"], ["gate"], b_law_rises⟩
noncomputable def defs : List Def := [d_S_IFMT, d_filemode, d_deduplicate_unhashable, d_compare_args_orderless, d_sorted_list_difference, d_law_gates, d_law_made, d_law_numbers, d_law_rises]
noncomputable def law1 : List S :=
  [
    .assignL 1 (.compR 0 16 1 (.bool true) (.compR 0 4 1 (.bool true) (.bin .Mod (.bin .FloorDiv (.var 14) (.bin .Pow (.int 2) (.var 15))) (.int 2))))]
noncomputable def law3 : List S :=
  [
    .assign 3 (.comp (.var 1) (.bool true) (.comp (.var 2) (.bool true) (.callV 15 (.var 14)))),
    .own 4 (.list []),
    .forX 5 (.bin .Add (.slice (.var 0) .nothing (.int 2)) (.slice (.list [(.int 25808), (.int 36383)]) (.bi .len (.slice (.var 0) .nothing (.int 2))) .nothing))
      [
        .assign 6 (.bin .Mod (.var 5) (.bin .Pow (.int 2) (.int 32))),
        .assign 7 (.call 6 [(.call 5 [(.var 6), (.var 1)])]),
        .assign 8 (.call 7 [(.var 6)]),
        .assign 9 (.compR 0 10 1 (.bool true) (.cmp .Eq (.comp (.var 8) (.not (.idx (.idx (.var 3) (.var 15)) (.var 14))) (.var 15)) (.list []))),
        .own 10 (.list []),
        .forR 11 0 16 1
          [
            .ite (.cmp .Eq (.compR 0 10 1 (.and (.idx (.var 9) (.var 14)) (.not (.idx (.idx (.var 3) (.var 11)) (.var 14)))) (.var 14)) (.list []))
              [
                .append 10 (.idx (.var 1) (.var 11))]
              []]
          [],
        .freeze 10,
        .ite (.cmp .IsNot (.call 3 [(.var 7), (.var 10)]) (.bool true))
          [
            .ret (.bool false)]
          [],
        .unpack2 12 13 (.call 4 [(.bi .sorted (.var 1)), (.bi .sorted (.var 7))]),
        .ite (.or (.cmp .NotEq (.var 13) (.list [])) (.cmp .NotEq (.var 12) (.comp (.bi .sorted (.var 1)) (.cmp .NotIn (.var 14) (.var 10)) (.var 14))))
          [
            .ret (.bool false)]
          [],
        .ite (.cmp .Is (.cmp .Eq (.var 12) (.list [])) (.cmp .In (.bool true) (.slice (.var 9) .nothing (.int 5))))
          [
            .ret (.bool false)]
          [],
        .append 4 (.tup [(.var 7), (.var 9)])]
      [],
    .freeze 4,
    .ret (.cmp .Is (.call 3 [(.idx (.idx (.var 4) (.int 0)) (.int 0)), (.idx (.idx (.var 4) (.int 1)) (.int 0))]) (.cmp .Eq (.idx (.idx (.var 4) (.int 0)) (.int 1)) (.idx (.idx (.var 4) (.int 1)) (.int 1))))]
noncomputable def lawNm : List Str := ["script", "sixteen", "properties", "has", "told", "x", "mode", "made", "numbers", "common", "due", "q", "lacking", "more"]
noncomputable def lams : List X := [
  (.cmp .Eq (.idx (.var 0) (.int 0)) (.int 0)),
  (.cmp .Eq (.idx (.var 0) (.int 3)) (.int 1)),
  (.call 8 [(.var 0)]),
  (.and (.cmp .NotEq (.idx (.var 0) (.int 0)) (.idx (.var 0) (.int 3))) (.cmp .NotEq (.idx (.var 0) (.int 1)) (.idx (.var 0) (.int 2)))),
  (.cmp .Eq (.bin .Mod (.bi .sum (.var 0)) (.int 2)) (.int 0)),
  (.and (.cmp .Eq (.idx (.var 0) (.int 3)) (.int 1)) (.cmp .In (.int 1) (.slice (.var 0) (.int 1) (.int 3)))),
  (.and (.cmp .Eq (.idx (.var 0) (.int 0)) (.int 0)) (.cmp .In (.int 0) (.slice (.var 0) (.int 1) (.int 3)))),
  (.and (.call 8 [(.var 0)]) (.cmp .Eq (.idx (.var 0) (.int 0)) (.bi .min (.slice (.var 0) (.int 1) (.int 3))))),
  (.and (.call 8 [(.var 0)]) (.cmp .Eq (.idx (.var 0) (.int 3)) (.bi .max (.slice (.var 0) (.int 1) (.int 3))))),
  (.or (.cmp .Eq (.list [(.idx (.var 0) (.int 0)), (.idx (.var 0) (.int 2))]) (.list [(.idx (.var 0) (.int 1)), (.idx (.var 0) (.int 3))])) (.cmp .Eq (.list [(.idx (.var 0) (.int 0)), (.idx (.var 0) (.int 1))]) (.list [(.idx (.var 0) (.int 2)), (.idx (.var 0) (.int 3))])))]
noncomputable def st (c : Nat) : PyData := .str ⟨#[c]⟩
noncomputable def pr (b : Int) (c : Nat) : PyData := .tuple [.int b, st c]
noncomputable def table : PyData := .tuple [
  .tuple [pr 40960 108, pr 49152 115, pr 32768 45, pr 24576 98, pr 16384 100, pr 8192 99, pr 4096 112],
  .tuple [pr 256 114], .tuple [pr 128 119], .tuple [pr 2112 115, pr 2048 83, pr 64 120],
  .tuple [pr 32 114], .tuple [pr 16 119], .tuple [pr 1032 115, pr 1024 83, pr 8 120],
  .tuple [pr 4 114], .tuple [pr 2 119], .tuple [pr 513 116, pr 512 84, pr 1 120]]
noncomputable def gn : List Str := ["_filemode_table"]
noncomputable def gv : List PyData := [table]
/-- the law in plain words of the small language -/
noncomputable def Plain : Prop := ∀ ns : List Int, ns.length ≤ 63 → ∃ σ, (∀ x₁ ∈ law1, evS (Tn defs gn gv 6) x₁ (initσ [.list (ns.map .int)] lawNm) = .next σ) ∧
  ∀ as : List Nat, as.length = lams.length → as.Nodup → evSs (TL defs gn gv lams 5 as) law3 (putV σ 2 (.list (as.map fnD))) = .ret (.bool true)
end Mine.L2
end
section
open PySem PySem.W PySem.Calls PyProof.Rows
set_option maxRecDepth 100000
set_option maxHeartbeats 8000000
namespace Mine.L2
noncomputable def keepS : Stmt → Bool
  | .Assign [.Name x _] _ _ => x != ("__name__" : Str)
  | _ => true
noncomputable def view : Program := { PySem.Challenge.pw_oc0073_02 with main := { PySem.Challenge.pw_oc0073_02.main with body := PySem.Challenge.pw_oc0073_02.main.body.filter keepS } }
theorem t1 : ∀ k, defsOk view defs gn gv k defs = true := fun k => by kernel_rfl
theorem t2 (pm code doc v u : Value) : defs.map (bindOf view pm code doc v u) = defs.map fun d => pure (d.params.zip ([v, u].take d.params.length)) := by kernel_rfl
end Mine.L2
end
section
open PySem PySem.W PySem.Calls PyProof.Rows
set_option maxRecDepth 100000
set_option maxHeartbeats 8000000
namespace Mine.L2
noncomputable def lv : List (Str × WData) := [("_filemode_table", ofPy table)]
noncomputable def lawDef : DefRec × List (Str × Expr) := match defOf view "law" with
  | some x => x
  | none => (⟨"", default, [], default, default⟩, [])
theorem said : PySem.Challenge.rw_oc0073_02.wellSaid = true := by kernel_rfl
theorem left : LeftO PySem.Challenge.rw_oc0073_02.row.prog view ["_filemode_table"] (fun s => xlAt view lv s && recOk (RowW.records PySem.Challenge.rw_oc0073_02.row.toRowW) s) (Hook.obs Hook.none) (Hook.val Hook.none) 1590 := fun w => by kernel_rfl
theorem lawName : lawDef.1.name = "law" := by kernel_rfl
end Mine.L2
end
section
open PySem PySem.W PySem.Calls PyProof.Rows
set_option maxRecDepth 100000
set_option maxHeartbeats 8000000
namespace Mine.L2
noncomputable def nobody : DefRec := ⟨"", default, [], default, default⟩
noncomputable def recOf (x : Str) : DefRec := ((recsOf view).find? fun r => r.name == x).getD nobody
noncomputable def lawR : DefRec := recOf "law"
noncomputable def propsR : DefRec := recOf "_law_properties"
theorem rec_in {x : Str} (h : ((recsOf view).find? fun r => r.name == x).isSome = true) : recOf x ∈ recsOf view ∧ (recOf x).name = x := by
  obtain ⟨r, hr⟩ := Option.isSome_iff_exists.mp h
  have e : recOf x = r := by unfold recOf; rw [hr]; rfl
  rw [e]
  exact ⟨List.mem_of_find?_eq_some hr, eq_of_beq (List.find?_some (p := fun r : DefRec => r.name == x) hr)⟩
noncomputable def x1 : Mine.S := law1.headD .brk
/-- the law's body: a statement, the lambdas, the rest -/
noncomputable def bodyOk (T0 T1 : Tab) (sc : Sc) (b : List Stmt) : Bool := match b with
  | e₁ :: e₂ :: rest => Ms T0 sc lawNm x1 e₁ && (atSet (fun t _ v => tgt sc lawNm 2 t && atCall (fun g as kw _ => kw.isEmpty && (as.isEmpty && atName (fun x _ => isGlob sc x && x == ("_law_properties" : Str)) g)) v) e₂ && Mss T1 sc lawNm law3 rest)
  | _ => false
noncomputable def retOk (q : List Expr → Bool) (b : List Stmt) : Bool := at1 (fun s => atStmtReturn (fun o _ => atSome (fun e => atList (fun es _ => q es) e) o) s) b
noncomputable def esQ (T : Tab) (es : List Expr) : Bool := lamsCheck T lams es && (es.length == 10) && es.all lamScope && posFree [] es
noncomputable def retEs (b : List Stmt) : List Expr := match b with
  | [s] => (if h : s.ctorIdx = 3 then PySem.Stmt.Return.elim (motive_2 := fun _ => List Expr) s h (fun o _ => match o with
    | some e => (if h : e.ctorIdx = 24 then PySem.Expr.List.elim (motive_1 := fun _ => List Expr) e h (fun es _ => es) else [])
    | none => []) else [])
  | _ => []
theorem c1 (k : Nat) (as : List Nat) : bodyOk (Tn defs gn gv k) (TL defs gn gv lams k as) lawR.scope.names lawR.body = true := by kernel_rfl
theorem c2 (k : Nat) : retOk (esQ (Tn defs gn gv k)) propsR.body = true := by kernel_rfl
theorem c3 (env : Env) : (retEs propsR.body).map (fun e => dfltOf e env) = (retEs propsR.body).map fun _ => ([], []) := by kernel_rfl
theorem c4 (qual : Str) (pm cd ctv v : Value) : (retEs propsR.body).map (lamBind qual pm cd ctv v) = (retEs propsR.body).map fun _ => pure [(("g" : Str), v)] := by kernel_rfl
theorem c5 (pm code doc v : Value) : bindArgs (docDef lawR.name lawR.params lawR.body lawR.scope pm code doc) ⟨[v], []⟩ = pure [(("script" : Str), v)] := by kernel_rfl
theorem c6 (pm code doc : Value) : bindArgs (docDef propsR.name propsR.params propsR.body propsR.scope pm code doc) ⟨[], []⟩ = pure [] := by kernel_rfl
theorem c7 : (((recsOf view).find? fun r => r.name == ("law" : Str)).isSome && ((recsOf view).find? fun r => r.name == ("_law_properties" : Str)).isSome && !lawR.scope.isCoroutine && !lawR.scope.isGenerator && (lawR.scope.kind == .function) && namesOk lawR.scope ["script"] lawNm && okS .a x1 && okSs .a law3 && !propsR.scope.isCoroutine && !propsR.scope.isGenerator && (propsR.scope.kind == .function)) = true := by kernel_rfl
theorem text : LawText view defs gn gv lams 5 lawR propsR x1 law3 2 lawNm := by
  have h := c7
  have a11 := eq_of_beq (andR h)
  have h := andL h
  have a10 : propsR.scope.isGenerator = false := by simpa using andR h
  have h := andL h
  have a9 : propsR.scope.isCoroutine = false := by simpa using andR h
  have h := andL h
  have a8 := andR h
  have h := andL h
  have a7 := andR h
  have h := andL h
  have a6 := andR h
  have h := andL h
  have a5 := eq_of_beq (andR h)
  have h := andL h
  have a4 : lawR.scope.isGenerator = false := by simpa using andR h
  have h := andL h
  have a3 : lawR.scope.isCoroutine = false := by simpa using andR h
  have h := andL h
  have p := rec_in (andR h)
  have l := rec_in (andL h)
  refine ⟨defAt_of t1 t2, l.1, p.1, a3, a4, a5, a6, ?_, a7, a8, c5, a9, a10, a11, c6, ?_⟩
  · have hc := fun k as => c1 k as
    generalize hb : lawR.body = b at hc
    cases b with
    | nil => cases hc 0 []
    | cons e₁ b =>
    cases b with
    | nil => cases hc 0 []
    | cons e₂ rest =>
    have hc' : ∀ k as, (Ms (Tn defs gn gv k) lawR.scope.names lawNm x1 e₁ && (atSet (fun t _ v => tgt lawR.scope.names lawNm 2 t && atCall (fun g as kw _ => kw.isEmpty && (as.isEmpty && atName (fun x _ => isGlob lawR.scope.names x && x == ("_law_properties" : Str)) g)) v) e₂ && Mss (TL defs gn gv lams k as) lawR.scope.names lawNm law3 rest)) = true := hc
    obtain ⟨t, pt, v, pos, rfl, hq⟩ := atSet_inv (andL (andR (hc' 0 [])))
    have q1 := andL hq
    obtain ⟨g, as, kw, cp, rfl, hq2⟩ := atCall_inv (andR hq)
    have z1 := andL hq2
    have z2 := andL (andR hq2)
    cases nil_inv z1
    cases nil_inv z2
    obtain ⟨x, px, rfl, hq3⟩ := atName_inv (andR (andR hq2))
    have ex := eq_of_beq (andR hq3)
    have eg := andL hq3
    subst ex
    refine ⟨e₁, t, pt, px, cp, pos, rest, ?_, andL (hc' 6 []), q1, ?_, fun as => andR (andR (hc' 5 as))⟩
    · rw [show propsR.name = "_law_properties" from p.2]
    · rw [show propsR.name = "_law_properties" from p.2]; exact eg
  · obtain ⟨st, hb, hq⟩ := at1_inv (c2 5)
    obtain ⟨o, rp, rfl, hq⟩ := atStmtReturn_inv hq
    obtain ⟨e, rfl, hq⟩ := atSome_inv hq
    obtain ⟨es, lp, rfl, hq⟩ := atList_inv hq
    have ees : retEs propsR.body = es := by rw [hb]; rfl
    have hq : (lamsCheck (Tn defs gn gv 5) lams es && (es.length == 10) && es.all lamScope && posFree [] es) = true := hq
    have k4 := andR hq
    have hq := andL hq
    have k3 := andR hq
    have hq := andL hq
    have k2 : es.length = 10 := eq_of_beq (andR hq)
    refine ⟨es, lp, rp, hb, andL hq, k2, List.all_eq_true.mp k3, fun env e he => ?_, k4, by rw [k2]; decide, fun qual pm cd ctv v e he => ?_⟩
    · have := c3 env
      rw [ees] at this
      exact List.map_inj_left.mp this e he
    · have := c4 qual pm cd ctv v
      rw [ees] at this
      exact List.map_inj_left.mp this e he
end Mine.L2
end
section
open PySem PySem.W PySem.Calls PyProof.Rows
namespace Mine
/-! evaluation, in general -/
theorem fn_of {ds : List Def} {gn : List Str} {gv : List PyData} {k f : Nat} {d : Def} {as : List PyData} {r : PyData} (h1 : ds[f]? = some d) (h2 : as.length = d.params.length) (h3 : evSs (Tn ds gn gv k) d.body (initσ as d.nm) = .ret r) :
    Fn ds gn gv (k + 1) f as = some r := by
  unfold Fn
  rw [h1]
  dsimp only
  rw [if_pos h2]
  have h3' : evSs ⟨ds.map (·.name), gn, gv, Fn ds gn gv k, fun _ _ => none⟩ d.body (initσ as d.nm) = .ret r := h3
  rw [h3']
theorem evSs_next {T : Tab} {s : S} {r : List S} {σ σ' : List SV} (h : evS T s σ = .next σ') : evSs T (s :: r) σ = evSs T r σ' := by rw [evqSs_cons, h]
theorem evSs_nil {T : Tab} {σ : List SV} : evSs T [] σ = .next σ := by rw [evqSs_nil]
theorem evSs_ret {T : Tab} {x : X} {r : List S} {σ : List SV} {d : PyData} (h : ev T x σ = .ok d) : evSs T (.ret x :: r) σ = .ret d := by rw [evqSs_cons, evqS_ret, h]
theorem evS_assign {T : Tab} {i : Nat} {x : X} {σ : List SV} {d : PyData} (h : ev T x σ = .ok d) : evS T (.assign i x) σ = .next (putV σ i d) := by rw [evqS_assign, h]
theorem evS_freeze {T : Tab} {i : Nat} {σ : List SV} {ds : List PyData} (h : σ[i]? = some (.own ds)) : evS T (.freeze i) σ = .next (putV σ i (.list ds)) := by rw [evqS_freeze, h]
theorem ev_var {T : Tab} {i : Nat} {σ : List SV} {d : PyData} (h : σ[i]? = some (.val d)) : ev T (.var i) σ = .ok d := by rw [evq_var, h]
theorem evS_ite {T : Tab} {c : X} {a b : List S} {σ : List SV} {d : PyData} {t : Bool} (h : ev T c σ = .ok d) (ht : truth d = some t) : evS T (.ite c a b) σ = if t then evSs T a σ else evSs T b σ := by
  rw [evqS_ite, h]; dsimp only; rw [ht]; cases t <;> rfl
theorem ev_call {T : Tab} {f : Nat} {args : List X} {σ : List SV} {ds : List PyData} {d : PyData} (h : evs T args σ = .ok (.list ds)) (h2 : T.F f ds = some d) : ev T (.call f args) σ = .ok d := by
  rw [evq_call, h, Res.bind_ok]; dsimp only; rw [h2]
theorem evs_nil {T : Tab} {σ : List SV} : evs T [] σ = .ok (.list []) := by rw [evqs_nil]
theorem evs_cons {T : Tab} {x : X} {xs : List X} {σ : List SV} {d : PyData} {ds : List PyData} (h : ev T x σ = .ok d) (h2 : evs T xs σ = .ok (.list ds)) : evs T (x :: xs) σ = .ok (.list (d :: ds)) := by
  rw [evqs_cons, h, Res.bind_ok, h2, Res.bind_ok]
theorem compGo_fm {α : Type} (f : α → PyData) (p : α → Bool) (g : α → PyData) {cond elt : PyData → Res} : ∀ {l : List α}, (∀ a ∈ l, cond (f a) = .ok (.bool (p a))) → (∀ a ∈ l, p a = true → elt (f a) = .ok (g a)) →
    compGo cond elt (l.map f) = .ok (.list ((l.filter p).map g))
  | [], _, _ => by rw [List.map_nil, compGo]; rfl
  | a :: l, hc, he => by
    have ih := compGo_fm f p g (cond := cond) (elt := elt) (l := l) (fun b hb => hc b (.tail _ hb)) (fun b hb => he b (.tail _ hb))
    rw [List.map_cons, compGo, hc a (.head _)]
    dsimp only
    cases q : p a with
    | true =>
      simp only [truth, he a (.head _) q, ih, List.filter_cons, q, if_true, List.map_cons]
    | false =>
      simp only [truth, ih, List.filter_cons, q, Bool.false_eq_true, if_false]
theorem compGo_m {α : Type} (f : α → PyData) (g : α → PyData) {elt : PyData → Res} {l : List α} (he : ∀ a ∈ l, elt (f a) = .ok (g a)) :
    compGo (fun _ => .ok (.bool true)) elt (l.map f) = .ok (.list (l.map g)) := by
  have := compGo_fm f (fun _ => true) g (cond := fun _ => .ok (.bool true)) (elt := elt) (l := l) (fun _ _ => rfl) (fun a ha _ => he a ha)
  rw [this, List.filter_eq_self.mpr fun _ _ => rfl]
theorem ev_comp {T : Tab} {src cond elt : X} {σ : List SV} {ds : List PyData} {r : Res} (h : ev T src σ = .ok (.list ds)) (hl : ds.length ≤ 100000) (h2 : compGo (fun d => ev T cond (σ ++ [.val d])) (fun d => ev T elt (σ ++ [.val d])) ds = r) : ev T (.comp src cond elt) σ = r := by
  rw [evq_comp, h, Res.then_ok]; simp only [itemsOf, if_pos hl]; exact h2
theorem ev_compR {T : Tab} {a b c : Int} {cond elt : X} {σ : List SV} {r : Res} (h : rangeOk a b c = true) (h2 : compGo (fun d => ev T cond (σ ++ [.val d])) (fun d => ev T elt (σ ++ [.val d])) (rangeD a b c) = r) : ev T (.compR a b c cond elt) σ = r := by
  rw [evq_compR, if_pos h]; exact h2
theorem ev_true {T : Tab} {σ : List SV} {b : Bool} : ev T (.bool b) σ = .ok (.bool b) := by rw [evq_bool]
/-- the loop's name behind the loop -/
noncomputable def lastV {α : Type} (f : α → PyData) : List α → SV → SV
  | [], sv => sv
  | a :: l, _ => lastV f l (.val (f a))
theorem evS_forX {T : Tab} {i : Nat} {src : X} {body orelse : List S} {σ : List SV} {ds : List PyData} (h : ev T src σ = .ok (.list ds)) (hl : ds.length ≤ 100000) :
    evS T (.forX i src body orelse) σ = loopGo (fun σ d => some (putV σ i d)) (fun σ => evSs T body σ) (fun σ => evSs T orelse σ) ds σ := by
  rw [evqS_forX, h]; simp only [itemsOf, if_pos hl]
theorem evS_forR {T : Tab} {i : Nat} {a b c : Int} {body orelse : List S} {σ : List SV} (h : rangeOk a b c = true) :
    evS T (.forR i a b c body orelse) σ = loopGo (fun σ d => some (putV σ i d)) (fun σ => evSs T body σ) (fun σ => evSs T orelse σ) (rangeD a b c) σ := by
  rw [evqS_forR, if_pos h]
theorem nodup_length {α : Type} [DecidableEq α] : ∀ (l u : List α), l.Nodup → (∀ x ∈ l, x ∈ u) → l.length ≤ u.length
  | [], _, _, _ => Nat.zero_le _
  | a :: l, u, h, hs => by
    obtain ⟨h1, h2⟩ := List.nodup_cons.mp h
    have ha : a ∈ u := hs a (.head _)
    have := nodup_length l (u.erase a) h2 fun x hx => by
      have hne : x ≠ a := fun q => h1 (q ▸ hx)
      exact (List.mem_erase_of_ne hne).mpr (hs x (.tail _ hx))
    rw [List.length_erase_of_mem ha] at this
    have hp : 0 < u.length := List.length_pos_of_mem ha
    simp only [List.length_cons]; omega
theorem foldl_filter {α : Type} (p : α → Bool) : ∀ (l acc : List α), l.foldl (fun acc a => if p a then acc ++ [a] else acc) acc = acc ++ l.filter p
  | [], acc => by simp
  | a :: l, acc => by
    rw [List.foldl_cons, foldl_filter p l]
    cases q : p a <;> simp [q]
section
variable {T : Tab} {σ : List SV}
theorem ev_cmp {op : CmpOp} {a b : X} {x y : PyData} (h1 : ev T a σ = .ok x) (h2 : ev T b σ = .ok y) : ev T (.cmp op a b) σ = opCmp op x y := by
  rw [evq_cmp, h1, Res.bind_ok, h2, Res.bind_ok]
theorem ev_bin {op : Operator} {a b : X} {x y : PyData} (h1 : ev T a σ = .ok x) (h2 : ev T b σ = .ok y) : ev T (.bin op a b) σ = opBin op x y := by
  rw [evq_bin, h1, Res.bind_ok, h2, Res.bind_ok]
theorem ev_idx {a b : X} {x y : PyData} (h1 : ev T a σ = .ok x) (h2 : ev T b σ = .ok y) : ev T (.idx a b) σ = opIdx x y := by
  rw [evq_idx, h1, Res.bind_ok, h2, Res.bind_ok]
theorem ev_bi {b : Bi} {a : X} {x : PyData} (h1 : ev T a σ = .ok x) : ev T (.bi b a) σ = opBi b x := by
  rw [evq_bi, h1, Res.bind_ok]
theorem ev_and {a b : X} {p q : Bool} (h1 : ev T a σ = .ok (.bool p)) (h2 : p = true → ev T b σ = .ok (.bool q)) : ev T (.and a b) σ = .ok (.bool (p && q)) := by
  rw [evq_and, h1, Res.bind_ok]
  cases p with
  | true => exact h2 rfl
  | false => rfl
theorem ev_not {a : X} {x : PyData} {p : Bool} (h1 : ev T a σ = .ok x) (h2 : truth x = some p) : ev T (.not a) σ = .ok (.bool (!p)) := by
  rw [evq_not, h1, Res.bind_ok, h2]
theorem ev_int {i : Int} : ev T (.int i) σ = .ok (.int i) := by rw [evq_int]
theorem ev_str {x : Str} : ev T (.str x) σ = .ok (.str x) := by rw [evq_str]
theorem ev_nil : ev T (.list []) σ = .ok (.list []) := by rw [evq_list, evs_nil]; rfl
theorem ev_list {es : List X} {ds : List PyData} (h : evs T es σ = .ok (.list ds)) (hl : ds.length ≤ 100000) : ev T (.list es) σ = .ok (.list ds) := by
  rw [evq_list, h, Res.bind_ok]; dsimp only; rw [if_pos hl]
theorem evS_own {i : Nat} {x : X} {ds : List PyData} (h : ev T x σ = .ok (.list ds)) : evS T (.own i x) σ = .next (σ.set i (.own ds)) := by rw [evqS_own, h]
end
theorem eqv_nil (ds : List PyData) : PyData.eqv (.list ds) (.list []) = ds.isEmpty := by
  rw [PyData.eqv]
  cases ds <;> rfl
theorem cmp_nil {ds : List PyData} (h : okD (.list ds) = true) : opCmp .Eq (.list ds) (.list []) = .ok (.bool ds.isEmpty) := by
  simp only [opCmp]
  rw [if_pos (by rw [h]; rfl), eqv_nil]
theorem cmp_nil' {ds : List PyData} (h : okD (.list ds) = true) : opCmp .NotEq (.list ds) (.list []) = .ok (.bool !ds.isEmpty) := by
  simp only [opCmp]
  rw [if_pos (by rw [h]; rfl), eqv_nil]
end Mine
end
section
open PySem PySem.W PySem.Calls PyProof.Rows
namespace Mine
theorem loopGo_inv {α β : Type} {i : Nat} (f : α → PyData) (st : β → SV → List SV) (step : β → α → β) (Iv : List α → β → Prop) {body orelse : List SV → Out}
    (h1 : ∀ b sv d, putV (st b sv) i d = st b (.val d)) (h2 : ∀ a r b, Iv (a :: r) b → body (st b (.val (f a))) = .next (st (step b a) (.val (f a))) ∧ Iv r (step b a)) : ∀ (l : List α) (b : β) (sv : SV), Iv l b →
    loopGo (fun σ d => some (putV σ i d)) body orelse (l.map f) (st b sv) = orelse (st (l.foldl step b) (lastV f l sv))
  | [], b, sv, _ => by rw [List.map_nil, loopGo]; rfl
  | a :: l, b, sv, hI => by
    obtain ⟨q1, q2⟩ := h2 a l b hI
    rw [List.map_cons, loopGo]
    dsimp only
    rw [h1 b sv (f a), q1]
    dsimp only
    rw [loopGo_inv f st step Iv h1 h2 l _ _ q2]
    rfl
theorem opCmp_notIn (a : PyData) (ds : List PyData) : opCmp .NotIn a (.list ds) = if okD a && okD (.list ds) then .ok (.bool (!ds.any fun y => PyData.eqv y a)) else .bad := by
  rw [← Bool.bne_true]; rfl
theorem opCmp_in (a : PyData) (ds : List PyData) : opCmp .In a (.list ds) = if okD a && okD (.list ds) then .ok (.bool (ds.any fun y => PyData.eqv y a)) else .bad := by
  rw [← Bool.bne_false (ds.any fun y => PyData.eqv y a)]; rfl
theorem evS_append {T : Tab} {i : Nat} {x : X} {σ : List SV} {ds : List PyData} {d : PyData} (h1 : σ[i]? = some (.own ds)) (h2 : ev T x σ = .ok d) (h3 : ds.length < 100000) : evS T (.append i x) σ = .next (σ.set i (.own (ds ++ [d]))) := by
  rw [evqS_append, h1]; dsimp only; rw [h2]; dsimp only; rw [if_pos h3]
/-- data told apart by their letters -/
structure Enc {α : Type} [DecidableEq α] (f : α → PyData) : Prop where
  eqv : ∀ a b, PyData.eqv (f a) (f b) = decide (a = b)
  ok5 : ∀ a, okN 5 (f a) = true
  ok6 : ∀ a, okN 6 (f a) = true
section
variable {α : Type} [DecidableEq α] {f : α → PyData}
theorem Enc.okL (e : Enc f) (l : List α) : okD (.list (l.map f)) = true := by
  unfold okD okN
  rw [List.all_eq_true]
  intro x hx
  obtain ⟨a, _, rfl⟩ := List.mem_map.mp hx
  exact e.ok5 a
theorem Enc.any (e : Enc f) (l : List α) (a : α) : ((l.map f).any fun y => PyData.eqv y (f a)) = decide (a ∈ l) := by
  induction l with
  | nil => rfl
  | cons b l ih =>
    rw [List.map_cons, List.any_cons, ih, e.eqv]
    by_cases q : b = a
    · subst q; simp
    · have q' : ¬ a = b := fun h => q h.symm
      simp [q, q']
noncomputable def dedupL (l : List α) : List α := l.foldl (fun acc a => if a ∈ acc then acc else acc ++ [a]) []
theorem dedup_fold (l : List α) : ∀ acc : List α, acc.Nodup → (l.foldl (fun acc a => if a ∈ acc then acc else acc ++ [a]) acc).Nodup ∧ ∀ x, x ∈ l.foldl (fun acc a => if a ∈ acc then acc else acc ++ [a]) acc ↔ x ∈ acc ∨ x ∈ l := by
  induction l with
  | nil => intro acc h; exact ⟨h, fun x => by simp⟩
  | cons a l ih =>
    intro acc h
    rw [List.foldl_cons]
    by_cases q : a ∈ acc
    · rw [if_pos q]
      obtain ⟨h1, h2⟩ := ih acc h
      refine ⟨h1, fun x => (h2 x).trans ⟨fun z => z.imp id fun z => .tail _ z, fun z => ?_⟩⟩
      rcases z with z | z
      · exact .inl z
      · rcases List.mem_cons.mp z with rfl | z
        · exact .inl q
        · exact .inr z
    · rw [if_neg q]
      obtain ⟨h1, h2⟩ := ih (acc ++ [a]) (List.nodup_append.mpr ⟨h, by simp, fun x hx y hy => by
        rw [List.mem_singleton.mp hy]; rintro rfl; exact q hx⟩)
      refine ⟨h1, fun x => (h2 x).trans ?_⟩
      simp only [List.mem_append, List.mem_cons, List.not_mem_nil, or_false, or_assoc]
theorem mem_dedupL {l : List α} {x : α} : x ∈ dedupL l ↔ x ∈ l := by
  have := (dedup_fold l [] List.nodup_nil).2 x
  simpa [dedupL] using this
theorem nodup_dedupL (l : List α) : (dedupL l).Nodup := (dedup_fold l [] List.nodup_nil).1
theorem dedup_eval {T : Tab} (e : Enc f) (l : List α) (hl : l.length ≤ 50000) : evSs T L2.b_deduplicate_unhashable (initσ [.list (l.map f)] L2.d_deduplicate_unhashable.nm) = .ret (.list ((dedupL l).map f)) := by
  unfold L2.b_deduplicate_unhashable
  show evSs T _ [.val (.list (l.map f)), .un, .un] = _
  rw [evSs_next (σ' := [.val (.list (l.map f)), .own [], .un])]
  rotate_left
  · exact evS_own (i := 1) (ds := []) ev_nil
  have hloop := loopGo_inv (i := 2) f (fun (acc : List α) sv => [.val (.list (l.map f)), .own (acc.map f), sv]) (fun acc a => if a ∈ acc then acc else acc ++ [a]) (fun r acc => acc.length + r.length ≤ 50000)
    (body := fun σ => evSs T [.ite (.outside (.var 2) 1) [.append 1 (.var 2)] []] σ) (orelse := fun σ => evSs T [] σ) (fun _ _ _ => rfl) (fun a r acc hI => ?_) l [] .un (by simpa using hl)
  · rw [evSs_next (σ' := [.val (.list (l.map f)), .own ((dedupL l).map f), lastV f l .un])]
    · rw [evSs_next (evS_freeze (i := 1) (ds := (dedupL l).map f) rfl)]
      exact evSs_ret (ev_var rfl)
    · rw [evS_forX (ds := l.map f) (ev_var rfl) (by simp; omega)]
      rw [show ([.val (.list (l.map f)), .own [], .un] : List SV) = (fun (acc : List α) sv => [.val (.list (l.map f)), .own (acc.map f), sv]) [] .un from rfl, hloop]
      rw [evSs_nil]; rfl
  · have hc : ev T (.outside (.var 2) 1) [.val (.list (l.map f)), .own (acc.map f), .val (f a)] = .ok (.bool (!decide (a ∈ acc))) := by
      rw [evq_outside, ev_var (d := f a) rfl, Res.bind_ok]
      show opCmp .NotIn (f a) (.list (acc.map f)) = _
      rw [opCmp_notIn, if_pos (by rw [show okD (f a) = true from e.ok6 a, e.okL]; rfl), e.any]
    by_cases q : a ∈ acc
    · refine ⟨?_, by simp only [if_pos q]; simp only [List.length_cons] at hI; omega⟩
      rw [evSs_next (σ' := [.val (.list (l.map f)), .own (acc.map f), .val (f a)]), evSs_nil]
      · simp only [if_pos q]
      · rw [evS_ite hc (t := false) (by simp [truth, q])]
        simp only [Bool.false_eq_true, if_false]; exact evSs_nil
    · refine ⟨?_, by simp only [if_neg q, List.length_append, List.length_cons, List.length_nil]; simp only [List.length_cons] at hI; omega⟩
      rw [evSs_next (σ' := [.val (.list (l.map f)), .own ((acc ++ [a]).map f), .val (f a)]), evSs_nil]
      · simp only [if_neg q]
      · rw [evS_ite hc (t := true) (by simp [truth, q])]
        simp only [if_true]
        rw [evSs_next (σ' := [.val (.list (l.map f)), .own ((acc ++ [a]).map f), .val (f a)]), evSs_nil]
        rw [evS_append (ds := acc.map f) rfl (ev_var (d := f a) rfl) (by simp only [List.length_map]; simp only [List.length_cons] at hI; omega)]
        simp
end
end Mine
end
section
open PySem PySem.W PySem.Calls PyProof.Rows
namespace Mine
section
variable {α : Type} [DecidableEq α] {f : α → PyData}
noncomputable def remAll : List α → List α → Option (List α)
  | [], t => some t
  | a :: l, t => if a ∈ t then remAll l (t.erase a) else none
theorem remAll_some : ∀ (l t t' : List α), l.Nodup → t.Nodup → remAll l t = some t' → (∀ x ∈ l, x ∈ t) ∧ ∀ x, x ∈ t' ↔ x ∈ t ∧ x ∉ l
  | [], t, t', _, _, h => by cases h; exact ⟨by simp, by simp⟩
  | a :: l, t, t', hl, ht, h => by
    obtain ⟨hl1, hl2⟩ := List.nodup_cons.mp hl
    unfold remAll at h
    split at h
    · rename_i ha
      obtain ⟨h1, h2⟩ := remAll_some l _ t' hl2 (ht.erase a) h
      refine ⟨fun x hx => ?_, fun x => ?_⟩
      · rcases List.mem_cons.mp hx with rfl | hx
        · exact ha
        · exact List.mem_of_mem_erase (h1 x hx)
      · rw [h2 x, ht.mem_erase_iff]
        simp only [List.mem_cons, not_or]
        constructor
        · rintro ⟨⟨q1, q2⟩, q3⟩; exact ⟨q2, q1, q3⟩
        · rintro ⟨q1, q2, q3⟩; exact ⟨⟨q2, q1⟩, q3⟩
    · cases h
theorem remAll_none : ∀ (l t : List α), l.Nodup → t.Nodup → remAll l t = none → ¬ ∀ x ∈ l, x ∈ t
  | [], t, _, _, h => by cases h
  | a :: l, t, hl, ht, h => by
    obtain ⟨hl1, hl2⟩ := List.nodup_cons.mp hl
    unfold remAll at h
    split at h
    · intro hall
      refine remAll_none l _ hl2 (ht.erase a) h fun x hx => ?_
      exact (ht.mem_erase_iff).mpr ⟨fun q => hl1 (q ▸ hx), hall x (.tail _ hx)⟩
    · rename_i ha
      exact fun hall => ha (hall a (.head _))
noncomputable def sameL (a b : List α) : Bool := a.all (b.contains ·) && b.all (a.contains ·)
theorem sameL_iff {a b : List α} : sameL a b = true ↔ ∀ x, x ∈ a ↔ x ∈ b := by
  unfold sameL
  simp only [Bool.and_eq_true, List.all_eq_true, List.contains_iff_mem]
  exact ⟨fun h x => ⟨h.1 x, h.2 x⟩, fun h => ⟨fun x => (h x).1, fun x => (h x).2⟩⟩
theorem rem_same (a b : List α) : (match remAll (dedupL a) (dedupL b) with | some t => t.isEmpty | none => false) = sameL a b := by
  cases q : remAll (dedupL a) (dedupL b) with
  | none =>
    have := remAll_none _ _ (nodup_dedupL a) (nodup_dedupL b) q
    symm
    rw [Bool.eq_false_iff]
    intro h
    rw [sameL_iff] at h
    exact this fun x hx => mem_dedupL.mpr ((h x).1 (mem_dedupL.mp hx))
  | some t =>
    obtain ⟨h1, h2⟩ := remAll_some _ _ t (nodup_dedupL a) (nodup_dedupL b) q
    show t.isEmpty = sameL a b
    rw [Bool.eq_iff_iff, sameL_iff, List.isEmpty_iff]
    constructor
    · rintro rfl x
      refine ⟨fun hx => mem_dedupL.mp (h1 x (mem_dedupL.mpr hx)), fun hx => ?_⟩
      have := h2 x
      simp only [List.not_mem_nil, false_iff, not_and, mem_dedupL] at this
      exact Classical.not_not.mp (this hx)
    · intro h
      apply List.eq_nil_iff_forall_not_mem.mpr
      intro x hx
      obtain ⟨g1, g2⟩ := (h2 x).mp hx
      exact g2 (mem_dedupL.mpr ((h x).2 (mem_dedupL.mp g1)))
theorem removeD_enc (e : Enc f) (a : α) : ∀ l : List α, removeD (f a) (l.map f) = if a ∈ l then some ((l.erase a).map f) else none
  | [] => by simp [removeD]
  | b :: l => by
    have ih := removeD_enc e a l
    rw [List.map_cons, removeD, e.eqv]
    by_cases q : b = a
    · subst q; simp
    · have q' : ¬ a = b := fun h => q h.symm
      simp only [q, decide_false, Bool.false_eq_true, if_false, ih, List.mem_cons, q', false_or]
      split
      · simp [q]
      · rfl
theorem evS_remove {T : Tab} {i : Nat} {x : X} {σ : List SV} {ds : List PyData} {d : PyData} (h1 : σ[i]? = some (.own ds)) (h2 : ev T x σ = .ok d) (h3 : (okD d && okD (.list ds) && decide (ds.length < 100000)) = true) :
    evS T (.remove i x) σ = match removeD d ds with | some es => .next (σ.set i (.own es)) | none => .exc "ValueError" σ := by
  rw [evqS_remove, h1]; dsimp only; rw [h2]; dsimp only; rw [if_pos h3]
  try (cases removeD d ds <;> rfl)
theorem remove_loop {T : Tab} (e : Enc f) (v0 v1 v2 v3 : SV) : ∀ (l t : List α) (sv : SV), t.length ≤ 50000 →
    (∃ t', remAll l t = some t' ∧ t'.length ≤ 50000 ∧ loopGo (fun σ d => some (putV σ 5 d)) (fun σ => evSs T [.remove 4 (.var 5)] σ) (fun σ => evSs T [] σ) (l.map f) [v0, v1, v2, v3, .own (t.map f), sv] = .next [v0, v1, v2, v3, .own (t'.map f), lastV f l sv]) ∨
    (remAll l t = none ∧ ∃ σ', loopGo (fun σ d => some (putV σ 5 d)) (fun σ => evSs T [.remove 4 (.var 5)] σ) (fun σ => evSs T [] σ) (l.map f) [v0, v1, v2, v3, .own (t.map f), sv] = .exc "ValueError" σ')
  | [], t, sv, ht => .inl ⟨t, rfl, ht, by rw [List.map_nil, loopGo, evSs_nil]; rfl⟩
  | a :: l, t, sv, ht => by
    have hb : evS T (.remove 4 (.var 5)) [v0, v1, v2, v3, .own (t.map f), .val (f a)] = if a ∈ t then .next [v0, v1, v2, v3, .own ((t.erase a).map f), .val (f a)] else .exc "ValueError" [v0, v1, v2, v3, .own (t.map f), .val (f a)] := by
      rw [evS_remove (ds := t.map f) rfl (ev_var (d := f a) rfl) (by
        rw [show okD (f a) = true from e.ok6 a, e.okL]; simp; omega), removeD_enc e]
      by_cases q : a ∈ t
      · rw [if_pos q, if_pos q]; rfl
      · rw [if_neg q, if_neg q]
    by_cases q : a ∈ t
    · rw [if_pos q] at hb
      have hr : remAll (a :: l) t = remAll l (t.erase a) := by rw [remAll, if_pos q]
      have hg : loopGo (fun σ d => some (putV σ 5 d)) (fun σ => evSs T [.remove 4 (.var 5)] σ) (fun σ => evSs T [] σ) ((a :: l).map f) [v0, v1, v2, v3, .own (t.map f), sv] =
          loopGo (fun σ d => some (putV σ 5 d)) (fun σ => evSs T [.remove 4 (.var 5)] σ) (fun σ => evSs T [] σ) (l.map f) [v0, v1, v2, v3, .own ((t.erase a).map f), .val (f a)] := by
        rw [List.map_cons, loopGo]
        dsimp only
        rw [show putV [v0, v1, v2, v3, .own (t.map f), sv] 5 (f a) = [v0, v1, v2, v3, .own (t.map f), .val (f a)] from rfl, evSs_next hb, evSs_nil]
      rw [hr, hg]
      exact remove_loop e v0 v1 v2 v3 l (t.erase a) (.val (f a)) (Nat.le_trans (List.length_erase_le) ht)
    · rw [if_neg q] at hb
      refine .inr ⟨by rw [remAll, if_neg q], [v0, v1, v2, v3, .own (t.map f), .val (f a)], ?_⟩
      rw [List.map_cons, loopGo]
      dsimp only
      rw [show putV [v0, v1, v2, v3, .own (t.map f), sv] 5 (f a) = [v0, v1, v2, v3, .own (t.map f), .val (f a)] from rfl, evqSs_cons, hb]
theorem length_dedup (l : List α) : (dedupL l).length ≤ l.length := by
  have : ∀ (l acc : List α), (l.foldl (fun acc a => if a ∈ acc then acc else acc ++ [a]) acc).length ≤ acc.length + l.length := by
    intro l
    induction l with
    | nil => intro acc; simp
    | cons a l ih =>
      intro acc
      rw [List.foldl_cons]
      have := ih (if a ∈ acc then acc else acc ++ [a])
      split at this
      · rename_i q; rw [if_pos q]; simp only [List.length_cons]; omega
      · rename_i q; rw [if_neg q]; simp only [List.length_append, List.length_cons, List.length_nil] at this ⊢; omega
  have := this l []
  simpa [dedupL] using this
theorem compare_eval {T : Tab} (e : Enc f) (hT : ∀ l : List α, l.length ≤ 50000 → T.F 2 [.list (l.map f)] = some (.list ((dedupL l).map f))) (a b : List α) (ha : a.length ≤ 50000) (hb : b.length ≤ 50000) :
    evSs T L2.b_compare_args_orderless (initσ [.list (a.map f), .list (b.map f)] L2.d_compare_args_orderless.nm) = .ret (.bool (sameL a b)) := by
  unfold L2.b_compare_args_orderless
  show evSs T _ [.val (.list (a.map f)), .val (.list (b.map f)), .un, .un, .un, .un] = _
  rw [evSs_next (evS_assign (ev_call (evs_cons (ev_var rfl) evs_nil) (hT a ha)))]
  rw [evSs_next (evS_assign (ev_call (evs_cons (ev_var rfl) evs_nil) (hT b hb)))]
  show evSs T _ [.val (.list (a.map f)), .val (.list (b.map f)), .val (.list ((dedupL a).map f)), .val (.list ((dedupL b).map f)), .un, .un] = _
  have hla := length_dedup a
  have hlb := length_dedup b
  rw [evSs_next (σ' := [.val (.list (a.map f)), .val (.list (b.map f)), .val (.list ((dedupL a).map f)), .val (.list ((dedupL b).map f)), .own ((dedupL b).map f), .un])]
  rotate_left
  · rw [evqS_own, evq_bi, ev_var (d := .list ((dedupL b).map f)) rfl, Res.bind_ok]
    simp only [opBi]
    rw [if_pos (by simp; omega)]
    rfl
  have hloop := remove_loop (T := T) e (.val (.list (a.map f))) (.val (.list (b.map f))) (.val (.list ((dedupL a).map f))) (.val (.list ((dedupL b).map f))) (dedupL a) (dedupL b) .un (by omega)
  have hfor : evS T (.forX 5 (.var 2) [.remove 4 (.var 5)] []) [.val (.list (a.map f)), .val (.list (b.map f)), .val (.list ((dedupL a).map f)), .val (.list ((dedupL b).map f)), .own ((dedupL b).map f), .un] = _ :=
    evS_forX (ds := (dedupL a).map f) (ev_var rfl) (by simp; omega)
  have hs := rem_same a b
  rcases hloop with ⟨t, h1, h2, h3⟩ | ⟨h1, σ', h3⟩
  · rw [h1] at hs
    rw [evSs_next (σ' := [.val (.list (a.map f)), .val (.list (b.map f)), .val (.list ((dedupL a).map f)), .val (.list ((dedupL b).map f)), .own (t.map f), lastV f (dedupL a) .un])]
    · rw [evSs_next (evS_freeze (i := 4) (ds := t.map f) rfl)]
      refine evSs_ret ?_
      rw [evq_not, ev_var (d := .list (t.map f)) rfl, Res.bind_ok]
      have : truth (.list (t.map f)) = some (!(t.map f).isEmpty) := by simp only [truth]; rw [if_pos (by simp; omega)]
      rw [this]
      dsimp only
      rw [← hs]
      cases t <;> rfl
    · rw [evqS_tryE, evSs_next (by rw [hfor, h3]), evSs_nil]
  · rw [h1] at hs
    rw [evqSs_cons, evqS_tryE]
    have : evSs T [.forX 5 (.var 2) [.remove 4 (.var 5)] []] [.val (.list (a.map f)), .val (.list (b.map f)), .val (.list ((dedupL a).map f)), .val (.list ((dedupL b).map f)), .own ((dedupL b).map f), .un] = .exc "ValueError" σ' := by
      rw [evqSs_cons, hfor, h3]
    rw [this]
    dsimp only
    rw [if_pos ⟨by decide, .inr rfl⟩, evSs_ret ev_true]
    dsimp only
    rw [← hs]
end
end Mine
end
section
open PySem PySem.W PySem.Calls PyProof.Rows
namespace Mine.L2
/-! filemode -/
noncomputable def prp (p : Int × Nat) : PyData := pr p.1 p.2
noncomputable def picks (q : Int → Bool) (dflt : Nat) : List (Int × Nat) → Nat
  | [] => dflt
  | p :: r => if q p.1 then p.2 else picks q dflt r
noncomputable def bind2 (i j : Nat) : List SV → PyData → Option (List SV) := fun σ d => (pairOf d).map fun p => putV (putV σ i p.1) j p.2
noncomputable def inner : List S := [
            .ite (.cmp .Eq (.var 2) (.int 0))
              [
                .ite (.cmp .Eq (.call 0 [(.var 0)]) (.var 4))
                  [
                    .append 1 (.var 5),
                    .brk]
                  []]
              [
                .ite (.cmp .Eq (.bin .BitAnd (.var 0) (.var 4)) (.var 4))
                  [
                    .append 1 (.var 5),
                    .brk]
                  []]]
noncomputable def innerElse : List S := [
            .ite (.cmp .Eq (.var 2) (.int 0))
              [
                .append 1 (.str "?")]
              [
                .append 1 (.str "-")]]
theorem cmp_int (a b : Int) : opCmp .Eq (.int a) (.int b) = .ok (.bool (a == b)) := by
  simp only [opCmp]
  rw [if_pos (show (okD (.int a) && okD (.int b)) = true from rfl)]
  simp only [PyData.eqv]
theorem dash : (Str.ofString "-") = ⟨#[45]⟩ := by decide +kernel
theorem ques : (Str.ofString "?") = ⟨#[63]⟩ := by decide +kernel
/-- one entry of the table -/
theorem entry_eval {T : Tab} (m i : Int) (hS : T.F 0 [.int m] = some (.int (Builtin.bitAnd m 61440))) (tv : SV) : ∀ (ps : List (Int × Nat)) (acc : List PyData) (s4 s5 : SV), acc.length < 1000 →
    ∃ s4' s5', loopGo (bind2 4 5) (fun σ => evSs T inner σ) (fun σ => evSs T innerElse σ) (ps.map prp) [.val (.int m), .own acc, .val (.int i), tv, s4, s5] =
      .next [.val (.int m), .own (acc ++ [st (picks (fun b => if i == 0 then Builtin.bitAnd m 61440 == b else Builtin.bitAnd m b == b) (if i == 0 then 63 else 45) ps)]), .val (.int i), tv, s4', s5']
  | [], acc, s4, s5, hl => by
    refine ⟨s4, s5, ?_⟩
    rw [List.map_nil, loopGo]
    unfold innerElse
    have hc : ev T (.cmp .Eq (.var 2) (.int 0)) [.val (.int m), .own acc, .val (.int i), tv, s4, s5] = .ok (.bool (i == 0)) := by
      rw [ev_cmp (ev_var (d := .int i) rfl) ev_int]; exact cmp_int i 0
    rw [evSs_next (σ' := [.val (.int m), .own (acc ++ [st (if i == 0 then 63 else 45)]), .val (.int i), tv, s4, s5]), evSs_nil]
    · rfl
    · rw [evS_ite hc (t := i == 0) rfl]
      cases q : i == 0 with
      | true =>
        simp only [if_true]
        rw [evSs_next (evS_append (ds := acc) rfl ev_str (by omega)), evSs_nil]
        show Out.next [.val (.int m), .own (acc ++ [.str (Str.ofString "?")]), .val (.int i), tv, s4, s5] = _
        rw [ques]; rfl
      | false =>
        simp only [Bool.false_eq_true, if_false]
        rw [evSs_next (evS_append (ds := acc) rfl ev_str (by omega)), evSs_nil]
        show Out.next [.val (.int m), .own (acc ++ [.str (Str.ofString "-")]), .val (.int i), tv, s4, s5] = _
        rw [dash]; rfl
  | p :: ps, acc, s4, s5, hl => by
    obtain ⟨b, c⟩ := p
    have hb : bind2 4 5 [.val (.int m), .own acc, .val (.int i), tv, s4, s5] (prp (b, c)) = some [.val (.int m), .own acc, .val (.int i), tv, .val (.int b), .val (st c)] := rfl
    have hc : ev T (.cmp .Eq (.var 2) (.int 0)) [.val (.int m), .own acc, .val (.int i), tv, .val (.int b), .val (st c)] = .ok (.bool (i == 0)) := by
      rw [ev_cmp (ev_var (d := .int i) rfl) ev_int]; exact cmp_int i 0
    have h1 : ev T (.cmp .Eq (.call 0 [(.var 0)]) (.var 4)) [.val (.int m), .own acc, .val (.int i), tv, .val (.int b), .val (st c)] = .ok (.bool (Builtin.bitAnd m 61440 == b)) := by
      rw [ev_cmp (ev_call (evs_cons (d := .int m) (ev_var rfl) evs_nil) hS) (ev_var (d := .int b) rfl)]; exact cmp_int _ _
    have h2 : ev T (.cmp .Eq (.bin .BitAnd (.var 0) (.var 4)) (.var 4)) [.val (.int m), .own acc, .val (.int i), tv, .val (.int b), .val (st c)] = .ok (.bool (Builtin.bitAnd m b == b)) := by
      rw [ev_cmp (x := .int (Builtin.bitAnd m b)) (by rw [ev_bin (ev_var (d := .int m) rfl) (ev_var (d := .int b) rfl)]; rfl) (ev_var (d := .int b) rfl)]; exact cmp_int _ _
    have app : evSs T [.append 1 (.var 5), .brk] [.val (.int m), .own acc, .val (.int i), tv, .val (.int b), .val (st c)] = .brk [.val (.int m), .own (acc ++ [st c]), .val (.int i), tv, .val (.int b), .val (st c)] := by
      rw [evSs_next (evS_append (ds := acc) rfl (ev_var (d := st c) rfl) (by omega)), evqSs_cons, evqS_brk]; rfl
    have body : evSs T inner [.val (.int m), .own acc, .val (.int i), tv, .val (.int b), .val (st c)] = if (if i == 0 then Builtin.bitAnd m 61440 == b else Builtin.bitAnd m b == b) then .brk [.val (.int m), .own (acc ++ [st c]), .val (.int i), tv, .val (.int b), .val (st c)]
        else .next [.val (.int m), .own acc, .val (.int i), tv, .val (.int b), .val (st c)] := by
      unfold inner
      rw [evqSs_cons, evS_ite hc (t := i == 0) rfl]
      cases q : i == 0 with
      | true =>
        simp only [if_true]
        rw [evqSs_cons, evS_ite h1 (t := Builtin.bitAnd m 61440 == b) rfl]
        cases q2 : Builtin.bitAnd m 61440 == b with
        | true => simp only [if_true]; rw [app]
        | false => simp only [Bool.false_eq_true, if_false]; simp only [evSs_nil]
      | false =>
        simp only [Bool.false_eq_true, if_false]
        rw [evqSs_cons, evS_ite h2 (t := Builtin.bitAnd m b == b) rfl]
        cases q2 : Builtin.bitAnd m b == b with
        | true => simp only [if_true]; rw [app]
        | false => simp only [Bool.false_eq_true, if_false]; simp only [evSs_nil]
    by_cases q : (if i == 0 then Builtin.bitAnd m 61440 == b else Builtin.bitAnd m b == b) = true
    · refine ⟨.val (.int b), .val (st c), ?_⟩
      rw [List.map_cons, loopGo, hb]
      dsimp only
      rw [body, if_pos q]
      dsimp only
      rw [picks, if_pos q]
    · obtain ⟨s4', s5', ih⟩ := entry_eval m i hS tv ps acc (.val (.int b)) (.val (st c)) hl
      refine ⟨s4', s5', ?_⟩
      rw [List.map_cons, loopGo, hb]
      dsimp only
      rw [body, if_neg q]
      dsimp only
      rw [ih, picks, if_neg q]
noncomputable def tab0 : List (Int × Nat) := [(40960, 108), (49152, 115), (32768, 45), (24576, 98), (16384, 100), (8192, 99), (4096, 112)]
noncomputable def tabs : List (List (Int × Nat)) := [[(256, 114)], [(128, 119)], [(2112, 115), (2048, 83), (64, 120)], [(32, 114)], [(16, 119)], [(1032, 115), (1024, 83), (8, 120)], [(4, 114)], [(2, 119)], [(513, 116), (512, 84), (1, 120)]]
noncomputable def tabD (ps : List (Int × Nat)) : PyData := .tuple (ps.map prp)
noncomputable def enF : Nat → List (List (Int × Nat)) → List PyData
  | _, [] => []
  | i, t :: r => .tuple [.int (i : Int), tabD t] :: enF (i + 1) r
noncomputable def char0 (m : Int) : Nat := picks (fun b => Builtin.bitAnd m 61440 == b) 63 tab0
noncomputable def charN (m : Int) (ps : List (Int × Nat)) : Nat := picks (fun b => Builtin.bitAnd m b == b) 45 ps
noncomputable def outerB : List S := [.forT 4 5 (.var 3) inner innerElse]
theorem forT_eval {T : Tab} {σ : List SV} {ps : List (Int × Nat)} (h : σ[3]? = some (.val (tabD ps))) (hl : ps.length ≤ 1000) :
    evS T (.forT 4 5 (.var 3) inner innerElse) σ = loopGo (bind2 4 5) (fun σ => evSs T inner σ) (fun σ => evSs T innerElse σ) (ps.map prp) σ := by
  rw [evqS_forT, ev_var h]
  simp only [tabD]
  rw [if_pos ⟨by simp; omega, by rw [List.all_map, List.all_eq_true]; intro x _; rfl⟩]
  rfl
theorem outer_eval {T : Tab} (m : Int) (hS : T.F 0 [.int m] = some (.int (Builtin.bitAnd m 61440))) : ∀ (ts : List (List (Int × Nat))) (i : Nat) (acc : List PyData) (s2 s3 s4 s5 : SV), 0 < i → acc.length + ts.length < 1000 → (∀ t ∈ ts, t.length ≤ 1000) →
    ∃ s2' s3' s4' s5', loopGo (bind2 2 3) (fun σ => evSs T outerB σ) (fun σ => evSs T [] σ) (enF i ts) [.val (.int m), .own acc, s2, s3, s4, s5] = .next [.val (.int m), .own (acc ++ ts.map fun t => st (charN m t)), s2', s3', s4', s5']
  | [], i, acc, s2, s3, s4, s5, _, _, _ => ⟨s2, s3, s4, s5, by rw [enF, loopGo, evSs_nil]; simp⟩
  | t :: ts, i, acc, s2, s3, s4, s5, hi, hl, ht => by
    simp only [List.length_cons] at hl
    obtain ⟨s4', s5', he⟩ := entry_eval (T := T) m (i : Int) hS (.val (tabD t)) t acc s4 s5 (by omega)
    have hi0 : ((i : Int) == 0) = false := by simp; omega
    simp only [hi0, Bool.false_eq_true, if_false] at he
    obtain ⟨s2', s3', s4'', s5'', ih⟩ := outer_eval m hS ts (i + 1) (acc ++ [st (charN m t)]) (.val (.int i)) (.val (tabD t)) s4' s5' (by omega) (by simp only [List.length_append, List.length_cons, List.length_nil]; omega) (fun x hx => ht x (.tail _ hx))
    refine ⟨s2', s3', s4'', s5'', ?_⟩
    have hb : bind2 2 3 [.val (.int m), .own acc, s2, s3, s4, s5] (.tuple [.int (i : Int), tabD t]) = some [.val (.int m), .own acc, .val (.int i), .val (tabD t), s4, s5] := rfl
    rw [enF, loopGo, hb]
    dsimp only
    have hbody : evSs T outerB [.val (.int m), .own acc, .val (.int i), .val (tabD t), s4, s5] = .next [.val (.int m), .own (acc ++ [st (charN m t)]), .val (.int i), .val (tabD t), s4', s5'] := by
      unfold outerB
      rw [evSs_next (by rw [forT_eval (ps := t) rfl (ht t (.head _)), he]), evSs_nil]
      rfl
    rw [hbody]
    dsimp only
    rw [ih]
    simp
noncomputable def fmText (m : Int) : Str := ⟨(char0 m :: tabs.map (charN m)).toArray⟩
theorem strs_st : ∀ l : List Nat, strsOf (l.map st) = some (l.map fun c => ⟨#[c]⟩)
  | [] => rfl
  | c :: l => by rw [List.map_cons, st, strsOf, strs_st l]; rfl
theorem cat_st : ∀ l : List Nat, catS (l.map fun c => (⟨#[c]⟩ : Str)) = ⟨l.toArray⟩
  | [] => rfl
  | c :: l => by rw [List.map_cons, catS, cat_st l]; simp
theorem filemode_eval {T : Tab} (hg : T.gvals[0]? = some table) (m : Int) (hS : T.F 0 [.int m] = some (.int (Builtin.bitAnd m 61440))) :
    evSs T b_filemode (initσ [.int m] d_filemode.nm) = .ret (.str (fmText m)) := by
  show evSs T [.own 1 (.list []), .forE 2 3 (.glob 0) outerB [], .freeze 1, .ret (.join (.var 1))] [.val (.int m), .un, .un, .un, .un, .un] = _
  rw [evSs_next (evS_own (i := 1) (ds := []) ev_nil)]
  show evSs T _ [.val (.int m), .own [], .un, .un, .un, .un] = _
  obtain ⟨s4', s5', he⟩ := entry_eval (T := T) m 0 hS (.val (tabD tab0)) tab0 [] .un .un (by decide)
  simp only [beq_self_eq_true, if_true] at he
  obtain ⟨a2, a3, a4, a5, ho⟩ := outer_eval (T := T) m hS tabs 1 [st (char0 m)] (.val (.int 0)) (.val (tabD tab0)) s4' s5' (by omega) (by simp [tabs]) (by decide)
  have hfor : evS T (.forE 2 3 (.glob 0) outerB []) [.val (.int m), .own [], .un, .un, .un, .un] = .next [.val (.int m), .own ((char0 m :: tabs.map (charN m)).map st), a2, a3, a4, a5] := by
    rw [evqS_forE, evq_glob, hg]
    show (if (List.length _ ≤ 1000) then loopGo (bind2 2 3) (fun σ => evSs T outerB σ) (fun σ => evSs T [] σ) (.tuple [.int 0, tabD tab0] :: enF 1 tabs) [.val (.int m), .own [], .un, .un, .un, .un] else _) = _
    rw [if_pos (by decide), loopGo]
    have hb : bind2 2 3 [.val (.int m), .own [], .un, .un, .un, .un] (.tuple [.int 0, tabD tab0]) = some [.val (.int m), .own [], .val (.int 0), .val (tabD tab0), .un, .un] := rfl
    rw [hb]
    dsimp only
    have hbody : evSs T outerB [.val (.int m), .own [], .val (.int 0), .val (tabD tab0), .un, .un] = .next [.val (.int m), .own [st (char0 m)], .val (.int 0), .val (tabD tab0), s4', s5'] := by
      unfold outerB
      rw [evSs_next (by rw [forT_eval (ps := tab0) rfl (by decide), he]), evSs_nil]
      rfl
    rw [hbody]
    dsimp only
    rw [ho]
    simp
  rw [evSs_next hfor, evSs_next (evS_freeze (i := 1) (ds := (char0 m :: tabs.map (charN m)).map st) rfl)]
  refine evSs_ret ?_
  rw [evq_join, ev_var (d := .list ((char0 m :: tabs.map (charN m)).map st)) rfl, Res.bind_ok]
  simp only [opJoin]
  rw [strs_st]
  dsimp only
  rw [if_pos ⟨by simp [tabs], by rw [List.all_map, List.all_eq_true]; intro x _; rfl⟩, cat_st]
  rfl
/-! bits -/
theorem and_pow (n k : Nat) : (n &&& 2 ^ k == 2 ^ k) = n.testBit k := by
  rw [Bool.eq_iff_iff, beq_iff_eq]
  constructor
  · intro h
    have := congrArg (·.testBit k) h
    simpa using this
  · intro h
    apply Nat.eq_of_testBit_eq
    intro i
    rw [Nat.testBit_and, Nat.testBit_two_pow]
    by_cases q : k = i
    · subst q; simp [h]
    · simp [q]
theorem and_pow2 (n a b : Nat) : (n &&& (2 ^ a ||| 2 ^ b) == (2 ^ a ||| 2 ^ b)) = (n.testBit a && n.testBit b) := by
  rw [Bool.eq_iff_iff, beq_iff_eq, Bool.and_eq_true]
  constructor
  · intro h
    have h1 := congrArg (·.testBit a) h
    have h2 := congrArg (·.testBit b) h
    simp at h1 h2
    exact ⟨h1, h2⟩
  · rintro ⟨h1, h2⟩
    apply Nat.eq_of_testBit_eq
    intro i
    rw [Nat.testBit_and, Nat.testBit_or, Nat.testBit_two_pow, Nat.testBit_two_pow]
    by_cases q : a = i
    · subst q; simp [h1]
    · by_cases q2 : b = i
      · subst q2; simp [h2]
      · simp [q, q2]
theorem band_nat (n c : Nat) : (Builtin.bitAnd (n : Int) (c : Int) == (c : Int)) = (n &&& c == c) := by
  rw [bitAnd_pp (Int.natCast_nonneg _) (Int.natCast_nonneg _)]
  simp only [Int.toNat_natCast]
  rw [Bool.eq_iff_iff, beq_iff_eq, beq_iff_eq]
  exact Int.ofNat_inj
theorem char1 (n k c : Nat) : charN (n : Int) [(((2 ^ k : Nat) : Int), c)] = if n.testBit k then c else 45 := by
  simp only [charN, picks, band_nat, and_pow]
theorem char3 (n a b c1 c2 c3 : Nat) : charN (n : Int) [(((2 ^ a ||| 2 ^ b : Nat) : Int), c1), (((2 ^ b : Nat) : Int), c2), (((2 ^ a : Nat) : Int), c3)] = if n.testBit a && n.testBit b then c1 else if n.testBit b then c2 else if n.testBit a then c3 else 45 := by
  simp only [charN, picks, band_nat, and_pow, and_pow2]
/-- the nine signs behind the first -/
theorem fm_at (n : Nat) : tabs.map (charN (n : Int)) = [
    if n.testBit 8 then 114 else 45, if n.testBit 7 then 119 else 45, if n.testBit 6 && n.testBit 11 then 115 else if n.testBit 11 then 83 else if n.testBit 6 then 120 else 45,
    if n.testBit 5 then 114 else 45, if n.testBit 4 then 119 else 45, if n.testBit 3 && n.testBit 10 then 115 else if n.testBit 10 then 83 else if n.testBit 3 then 120 else 45,
    if n.testBit 2 then 114 else 45, if n.testBit 1 then 119 else 45, if n.testBit 0 && n.testBit 9 then 116 else if n.testBit 9 then 84 else if n.testBit 0 then 120 else 45] := by
  unfold tabs
  simp only [List.map_cons, List.map_nil]
  rw [← char1 n 8 114, ← char1 n 7 119, ← char3 n 6 11 115 83 120, ← char1 n 5 114, ← char1 n 4 119, ← char3 n 3 10 115 83 120, ← char1 n 2 114, ← char1 n 1 119, ← char3 n 0 9 116 84 120]
  rfl
noncomputable def charAt (n : Nat) (j : Nat) : Nat := ((char0 (n : Int)) :: tabs.map (charN (n : Int))).getD j 0
theorem fm_get (n j : Nat) (h : j < 10) : (fmText (n : Int)).cps[j]? = some (charAt n j) := by
  unfold fmText charAt
  have hl : ((char0 (n : Int)) :: tabs.map (charN (n : Int))).length = 10 := rfl
  rw [List.getElem?_toArray, List.getD_eq_getElem?_getD, List.getElem?_eq_getElem (by rw [hl]; exact h)]
  rfl
end Mine.L2
end
section
open PySem PySem.W PySem.Calls PyProof.Rows
namespace Mine.L2
/-! gates of two inputs, as numbers -/
noncomputable def bt (q j : Nat) : Nat := q / 2 ^ j % 2
noncomputable def appN (h a b : Nat) : Nat := bt h (bt a 0 + 2 * bt b 0) + 2 * bt h (bt a 1 + 2 * bt b 1) + 4 * bt h (bt a 2 + 2 * bt b 2) + 8 * bt h (bt a 3 + 2 * bt b 3)
noncomputable def app (h a b : Fin 16) : Fin 16 := Fin.ofNat 16 (appN h.val a.val b.val)
noncomputable def flip (g : Fin 16) : Fin 16 := Fin.ofNat 16 (bt g.val 0 + 2 * bt g.val 2 + 4 * bt g.val 1 + 8 * bt g.val 3)
noncomputable def both (g : Fin 16) : Bool := !(bt g.val 0 == bt g.val 1 && bt g.val 2 == bt g.val 3) && !(bt g.val 0 == bt g.val 2 && bt g.val 1 == bt g.val 3)
noncomputable def gd (q : Fin 16) : PyData := .list [.int (bt q.val 0), .int (bt q.val 1), .int (bt q.val 2), .int (bt q.val 3)]
theorem encG : Enc gd := ⟨by decide +kernel, by decide +kernel, by decide +kernel⟩
noncomputable def states : List Nat := [1023, 981, 0, 65, 536, 17, 199, 18, 34, 295, 950, 528, 197, 16, 261, 916, 1, 2, 7, 134, 294, 5, 132, 260, 6, 4]
noncomputable def propTab : List Nat := [981, 0, 65, 536, 65, 536, 17, 0, 199, 18, 1023, 34, 1023, 34, 295, 950]
noncomputable def certTab : List Nat := [0, 5888910660720348382615851861896284861107380497, 11948139042, 826, 19499631684, 1477, 1638, 5844320064668151288706121688102544099258107767, 0, 2457, 0, 50645875626, 0, 50128006570, 0, 0, 0, 1437722329277428611006444673577982071148800, 2917026, 3187456, 4760652, 6030592, 0, 1426835953288122873219687794702889275324160, 0, 53492115872000, 0, 1437722329277428611006453889969858051877632, 0, 1437722329277428649682622788364129367887104, 0, 0, 0, 0, 0, 0, 0, 0, 0, 0, 0, 0, 0, 0, 0, 0, 0, 0, 0, 20763195832310098844766782361856, 0, 20763195822863058909980915663410, 0, 20763195832307791875720206090836, 1580, 20763195832303179626683090420338, 0, 21238293993842684775737399968408, 0, 21238293993842684212718711964338, 0, 21238293993842684775668665385684, 744, 21238293993842684775675510735602, 768, 351006428046247228898751162630001500433, 351006428046247228926421839697185808930, 0, 343033006944943069717266427056765481780, 0, 12891403062, 348342130165418189411424893818429985591, 348342130165418189411424893818429985592, 12891403065, 0, 343033006944943069717266427056765481787, 0, 351006428046247228926421558158623384381, 351006428046247228898751162630001500990, 831, 0, 343033006786525462431756728464449736960, 26510762594, 13055845120, 26510763078, 24701699328, 0, 343033006786525481307386194237903079015, 10240960104, 13059597929, 0, 351006428362695684506866934381992916587, 0, 351006428362695684506866934381992916589, 10240960110, 13059597935, 0, 1459484449697523893706611234412433608114449, 2916898, 1426809365157552903829196365080289220993848, 4760644, 1426809365157552903829196365080289223660933, 41946972587622, 1426835953288122873219267990259410180482936, 0, 167991381105032, 0, 167781785447304, 0, 167781787798920, 0, 0, 13059598601, 356319445726895849323294682681953063185, 345690814057823275004342818828494414370, 13945250617, 343033007420041282242272631242526868548, 13947917717, 13059597926, 357649322997595149618458432695571027831, 41013520777, 0, 0, 41315645851, 0, 41315645853, 41013520798, 0, 20921613457575277770269775301386, 20921613457575277488643815620890, 21238313341379319167985727971874, 20921613457575360261537534292794, 21317560846706697373806544340036, 20921613457575277770269773809077, 21317560851430216813374331086438, 21317560851430603839067127277431, 2237, 2462, 0, 0, 0, 0, 0, 0, 0, 1437722329277428804349573208470772671168794, 51139238830626, 1437722329277428649569284762132486148055866, 51146790323268, 1437722329277428649569284762132486148056517, 41946972612198, 1464931626998149732837205740884146339153783, 0, 167991381191065, 0, 12364714, 0, 14462378, 0, 0, 0, 1437722329277428804349573208472834221908241, 1459484450022200903685814638680131834094114, 3404602, 1459484450022200865000188401469893143479364, 3405253, 53492113143398, 1426835953288122873219267990259410180482935, 0, 0, 0, 12364715, 0, 12238282, 0, 0, 0, 20921613457575274675130562879745, 20921613457575275237943043691058, 0, 20446360525187436921433593455364, 0, 774, 20446360515745011150209569477383, 20446360515745011150209569477384, 777, 0, 20446360525187436921433593455371, 0, 20921613457575275237943028163341, 20921613457575274675130562880270, 0, 0, 343033006786525452989329605734406557952, 712, 343033006786525452989474392389115216640, 1162, 343033006786525452989474392400761193728, 10240960104, 348348621408233123344650340503635076864, 0, 357649322997595149972397171698094344448, 0, 348348621408233123344650340503605250816, 0, 348348621408233123344650340503641394432, 0, 0, 0, 1218698055490554077208833, 1228140483738909082128946, 0, 1218698054701869235933956, 0, 0, 1218698054701869170914055, 1218698054701869170914056, 0, 0, 1218698054701869235933963, 0, 1228140483738909066601229, 1218698055490554077209358, 0, 0, 351006428046247219483995281635249529088, 12485165730, 351006428046247219483995281643875115776, 12487009356, 351006428046247219483995281643877958912, 10240960110, 357649322997595149972397734785501853440, 0, 343033006786525481307386572699373443328, 0, 351006428046247219483997589186500668160, 0, 351006428046247228926507444119524740352, 0, 0, 0, 351006428046247219483995281635249529089, 356319445806201392501419589521516561058, 778, 356319445806201383056686621452610630732, 1472, 13059597935, 348348621408233123344650340503635076983, 0, 13059598601, 0, 351006428046247219483997531730922375946, 0, 351006428046247228926421579190461271456, 0, 0, 0, 1265900968856693056217344, 0, 1256453929484857126158898, 0, 1265898662450596416586324, 0, 1265896356044499778355826, 0, 1265900968856555583701656, 0, 1265900968856418112864946, 0, 1265900968856555551818452, 0, 1265900968856562397168370, 1270625642027294865856776, 1265900968858342726410520, 1265902122341353843687970, 2654599691913856510300984, 1270625641745728097784900, 1270625874582384928183685, 1270625642027271796069990, 1270625642027294864598937, 0, 0, 0, 0, 0, 0, 0, 0, 0, 356319445726934544361965633401473048856, 12485165602, 348342130165418189411424893818425811768, 12487009348, 348342130165418189411424893818428478853, 10240960102, 357649322997595149618458432833043539832, 0, 41013520776, 0, 37542734728, 0, 37545086344, 0, 0, 0, 356319445726934544361974077513301852433, 356319445806201392501419589521516560930, 343033006786525452989474392390004613944, 356319445806201383056686621452610630724, 343033006786525452989474392390007281029, 343033006786525481307386572699387463270, 348348621408233123344547849184426313594, 0, 41013520777, 0, 40962349962, 0, 40962350536, 0, 0, 0, 351006428046247266686907521599813042458, 356319445726897767109198671770443981346, 351006428046247228898759606741832557370, 356319445806201383525933024611594978372, 351006428046247228898759606741832558021, 343033006786525481307386572699387487846, 357649322997595149618458432833043539831, 0, 41013520798, 0, 3018, 0, 3530, 0, 0, 0, 83748292672491565671223048275001600, 3048136, 83748292672491565671258378678076160, 3048586, 83748292672491565671258390324053248, 2500234, 87316729247459753411229915719116544, 0, 87316729247459753411229778248239360, 0, 87316729247459753411229915689290496, 0, 87316729247459753411229915725434112, 0, 0, 0, 83748292672491565671223048275001601, 86992052198779636841166891973026504, 83748292672491565671258396579373832, 86992052198779634535323882190578767, 83748292672491565671258396582217088, 83748292672491572584811174975436392, 85046050148494414879065024537020282, 0, 87316729247459753411229778246605064, 0, 85046050148494414879065024537013000, 0, 85046050148494414879065024537021824, 0, 0, 0, 85694928722228325069334785555480842, 86992052179418400173144206975206050, 85694928722228325069334785557586698, 86992052198779634649885992336815180, 85694928722228325069334785557587392, 83748292672491572584811174975436398, 87316729247459753411229915719116663, 0, 83748292672491572584811174975432969, 0, 85694928722228325069335348922485514, 0, 85694928722228327374635606474493344, 0, 0, 0, 86992052179427378994622577517895960, 86992052179418400173144206975205922, 85044465372558218837353657695183672, 86992052198779634649885992336815172, 85044465372558218837353657697850757, 83748292672491572584811174975436390, 87316729247459753324818953328379770, 0, 10013066, 0, 9165706, 0, 9166280, 0, 0, 0, 20446360515745011150200939520264, 21238293989115820354771534906056, 20446360515745011150209565106952, 21238293993842684240694822347855, 20446360515745011150209567950208, 20446360515745012838088665765487, 21317560851430603860163553642362, 0, 21317560851430603860163520080136, 0, 21317560851430603860163553635080, 0, 21317560851430603860163553643904, 0, 0]
noncomputable def propsOf (q : Fin 16) : Nat := propTab.getD q.val 0
noncomputable def dueC (C : Nat) : List (Fin 16) := (List.finRange 16).filter fun q => C &&& propsOf q == C
noncomputable def sub2 (A B : Nat) : Bool := A &&& B == A
noncomputable def allF (p : Fin 16 → Bool) : Bool := (List.finRange 16).all p
theorem allF_at {p : Fin 16 → Bool} (h : allF p = true) (q : Fin 16) : p q = true := List.all_eq_true.mp h q (List.mem_finRange q)
theorem app_props : (allF fun h => allF fun a => allF fun b => sub2 (propsOf h &&& propsOf a &&& propsOf b) (propsOf (app h a b))) = true := by decide +kernel
theorem flip_props : (allF fun h => propsOf (flip h) == propsOf h) = true := by decide +kernel
theorem both_flip : (allF fun h => both (flip h) == both h) = true := by decide +kernel
theorem app_flip : (allF fun h => allF fun a => allF fun b => app (flip h) a b == app h b a) = true := by decide +kernel
theorem one_var : (allF fun h => both h || (allF fun a => allF fun b => app h a b == app h a a) || (allF fun a => allF fun b => app h a b == app h b b)) = true := by decide +kernel
theorem proj1 : (allF fun a => allF fun b => app 10 a b == a && app 12 a b == b) = true := by decide +kernel
theorem proj_self : (allF fun h => app h 10 12 == h) = true := by decide +kernel
theorem proj_props : (propsOf 10 == 1023 && propsOf 12 == 1023 && allF fun h => propsOf h ≤ 1023) = true := by decide +kernel
/-- a certificate, digit by digit -/
noncomputable def run : Nat → Nat → Nat → Nat
  | 0, _, known => known
  | f + 1, n, known => if n = 0 then known else
    (let h := n % 4096 / 256; let a := n % 4096 / 16 % 16; let b := n % 16
     if known.testBit h && known.testBit a && known.testBit b then run f (n / 4096) (known ||| 2 ^ appN h a b) else 0)
noncomputable def maskOf (l : List (Fin 16)) : Nat := l.foldl (fun m q => m ||| 2 ^ q.val) 0
noncomputable def stepOk (i : Nat) (C : Nat) : Bool := allF fun g => (dueC (C &&& propsOf g)).all fun q => (run 14 (certTab.getD (16 * i + g.val) 0) (maskOf (dueC C) ||| 2 ^ g.val)).testBit q.val
noncomputable def idxAll (p : Nat → Nat → Bool) : Nat → List Nat → Bool
  | _, [] => true
  | i, C :: r => p i C && idxAll p (i + 1) r
theorem steps_ok : idxAll stepOk 0 states = true := by decide +kernel
theorem states_closed : (states.all fun C => allF fun g => states.contains (C &&& propsOf g)) = true := by decide +kernel
theorem states_first : (states.contains 1023 && (dueC 1023).all fun q => q == 10 || q == 12) = true := by decide +kernel
theorem states_apart : (states.all fun C => states.all fun B => sameL (dueC C) (dueC B) == (C == B)) = true := by decide +kernel
end Mine.L2
end
section
open PySem PySem.W PySem.Calls PyProof.Rows
namespace Mine.L2
theorem bt_lt (q j : Nat) : bt q j < 2 := Nat.mod_lt _ (by omega)
theorem bt_app_all : (allF fun h => allF fun a => allF fun b => (List.range 4).all fun j => bt (app h a b).val j == bt h.val (bt a.val j + 2 * bt b.val j)) = true := by decide +kernel
theorem bt_app (h a b : Fin 16) {j : Nat} (hj : j < 4) : bt (app h a b).val j = bt h.val (bt a.val j + 2 * bt b.val j) :=
  eq_of_beq (List.all_eq_true.mp (allF_at (allF_at (allF_at bt_app_all h) a) b) j (List.mem_range.mpr hj))
theorem eq_of_bt_all : (allF fun p => allF fun q => p == q || !((List.range 4).all fun j => bt p.val j == bt q.val j)) = true := by decide +kernel
theorem eq_of_bt {p q : Fin 16} (h : ∀ j, j < 4 → bt p.val j = bt q.val j) : p = q := by
  have := allF_at (allF_at eq_of_bt_all p) q
  rw [Bool.or_eq_true] at this
  rcases this with z | z
  · exact eq_of_beq z
  · rw [Bool.not_eq_true', Bool.eq_false_iff] at z
    exact absurd (List.all_eq_true.mpr fun j hj => beq_iff_eq.mpr (h j (List.mem_range.mp hj))) z
theorem app_app (h x y a b : Fin 16) : app (app h x y) a b = app h (app x a b) (app y a b) := by
  refine eq_of_bt fun j hj => ?_
  have hm : bt a.val j + 2 * bt b.val j < 4 := by have := bt_lt a.val j; have := bt_lt b.val j; omega
  rw [bt_app _ _ _ hj, bt_app _ _ _ hm, bt_app _ _ _ hj, bt_app _ _ _ hj, bt_app _ _ _ hj]
/-- a set of gates kept by composition -/
structure Clo (N : Fin 16 → Prop) : Prop where
  p1 : N 10
  p2 : N 12
  cl : ∀ h x y, N h → N x → N y → N (app h x y)
theorem run_sound {N : Fin 16 → Prop} (c : Clo N) : ∀ (f n known : Nat), (∀ q : Fin 16, known.testBit q.val = true → N q) → ∀ q : Fin 16, (run f n known).testBit q.val = true → N q
  | 0, _, known, hk, q, h => hk q h
  | f + 1, n, known, hk, q, h => by
    unfold run at h
    by_cases h0 : n = 0
    · rw [if_pos h0] at h; exact hk q h
    · rw [if_neg h0] at h
      dsimp only at h
      by_cases ht : (known.testBit (n % 4096 / 256) && known.testBit (n % 4096 / 16 % 16) && known.testBit (n % 16)) = true
      · rw [if_pos ht] at h
        have b1 : n % 4096 / 256 < 16 := by omega
        have b2 : n % 4096 / 16 % 16 < 16 := by omega
        have b3 : n % 16 < 16 := by omega
        have t1 := hk ⟨_, b1⟩ (andL (andL ht))
        have t2 := hk ⟨_, b2⟩ (andR (andL ht))
        have t3 := hk ⟨_, b3⟩ (andR ht)
        refine run_sound c f _ _ (fun r hr => ?_) q h
        rw [Nat.testBit_or, Nat.testBit_two_pow, Bool.or_eq_true, decide_eq_true_eq] at hr
        rcases hr with hr | hr
        · exact hk r hr
        · have e : r = app ⟨_, b1⟩ ⟨_, b2⟩ ⟨_, b3⟩ := by
            apply Fin.ext
            show r.val = appN (n % 4096 / 256) (n % 4096 / 16 % 16) (n % 16) % 16
            rw [hr]; exact (Nat.mod_eq_of_lt r.isLt).symm
          rw [e]; exact c.cl _ _ _ t1 t2 t3
      · rw [if_neg ht] at h
        simp at h
theorem maskOf_bit (l : List (Fin 16)) (q : Nat) : (maskOf l).testBit q = l.any fun x => x.val == q := by
  unfold maskOf
  have go : ∀ (l : List (Fin 16)) (m : Nat), (l.foldl (fun m q => m ||| 2 ^ q.val) m).testBit q = (m.testBit q || l.any fun x => x.val == q) := by
    intro l
    induction l with
    | nil => intro m; simp
    | cons a l ih =>
      intro m
      rw [List.foldl_cons, ih, Nat.testBit_or, Nat.testBit_two_pow, List.any_cons, Bool.or_assoc]
      rfl
  rw [go]; simp
theorem idxAll_at {p : Nat → Nat → Bool} : ∀ {l : List Nat} {i : Nat}, idxAll p i l = true → ∀ C ∈ l, ∃ j, p j C = true
  | _ :: _, i, h, _, .head _ => ⟨i, andL h⟩
  | _ :: _, _, h, C, .tail _ hm => idxAll_at (andR h) C hm
theorem due_step {N : Fin 16 → Prop} (c : Clo N) {C : Nat} (hC : C ∈ states) {g : Fin 16} (hg : N g) (hd : ∀ q ∈ dueC C, N q) : ∀ q ∈ dueC (C &&& propsOf g), N q := by
  intro q hq
  obtain ⟨i, hi⟩ := idxAll_at steps_ok C hC
  have h1 := List.all_eq_true.mp (allF_at hi g) q hq
  refine run_sound c _ _ _ (fun r hr => ?_) q h1
  rw [Nat.testBit_or, Nat.testBit_two_pow, Bool.or_eq_true, decide_eq_true_eq, maskOf_bit] at hr
  rcases hr with hr | hr
  · obtain ⟨x, hx, hxr⟩ := List.any_eq_true.mp hr
    have : x = r := Fin.ext (eq_of_beq hxr)
    exact this ▸ hd x hx
  · have : g = r := Fin.ext hr
    exact this ▸ hg
/-- what all gates of a list have -/
noncomputable def cmF (l : List (Fin 16)) (C : Nat) : Nat := l.foldl (fun C g => C &&& propsOf g) C
noncomputable def cm (l : List (Fin 16)) : Nat := cmF l 1023
theorem cmF_state (l : List (Fin 16)) : ∀ C ∈ states, cmF l C ∈ states := by
  induction l with
  | nil => intro C h; exact h
  | cons g l ih =>
    intro C h
    exact ih _ (List.contains_iff_mem.mp (allF_at (List.all_eq_true.mp states_closed C h) g))
theorem first_state : 1023 ∈ states := List.contains_iff_mem.mp (andL states_first)
theorem cm_state (l : List (Fin 16)) : cm l ∈ states := cmF_state l _ first_state
theorem due_low {N : Fin 16 → Prop} (c : Clo N) (l : List (Fin 16)) (hl : ∀ g ∈ l, N g) : ∀ q ∈ dueC (cm l), N q := by
  have go : ∀ (l : List (Fin 16)) (C : Nat), C ∈ states → (∀ g ∈ l, N g) → (∀ q ∈ dueC C, N q) → ∀ q ∈ dueC (cmF l C), N q := by
    intro l
    induction l with
    | nil => intro C _ _ hd; exact hd
    | cons g l ih =>
      intro C hC hl hd
      exact ih (C &&& propsOf g) (List.contains_iff_mem.mp (allF_at (List.all_eq_true.mp states_closed C hC) g)) (fun x hx => hl x (.tail _ hx)) (due_step c hC (hl g (.head _)) hd)
  refine go l 1023 first_state hl fun q hq => ?_
  have := List.all_eq_true.mp (andR states_first) q hq
  rcases Bool.or_eq_true_iff.mp this with z | z
  · rw [eq_of_beq z]; exact c.p1
  · rw [eq_of_beq z]; exact c.p2
/-! masks -/
theorem sub2_iff {A B : Nat} : sub2 A B = true ↔ ∀ i, A.testBit i = true → B.testBit i = true := by
  unfold sub2
  rw [beq_iff_eq]
  constructor
  · intro h i hi
    have := congrArg (·.testBit i) h
    simp only [Nat.testBit_and, hi, Bool.true_and] at this
    exact this
  · intro h
    apply Nat.eq_of_testBit_eq
    intro i
    rw [Nat.testBit_and]
    cases q : A.testBit i with
    | false => rfl
    | true => rw [h i q]; rfl
theorem mem_due {C : Nat} {q : Fin 16} : q ∈ dueC C ↔ sub2 C (propsOf q) = true := by
  unfold dueC
  rw [List.mem_filter]
  exact ⟨fun h => h.2, fun h => ⟨List.mem_finRange q, h⟩⟩
theorem cmF_bit (l : List (Fin 16)) : ∀ (C i : Nat), (cmF l C).testBit i = (C.testBit i && l.all fun g => (propsOf g).testBit i) := by
  induction l with
  | nil => intro C i; simp [cmF]
  | cons g l ih =>
    intro C i
    show (cmF l (C &&& propsOf g)).testBit i = _
    rw [ih, Nat.testBit_and, List.all_cons, Bool.and_assoc]
theorem cm_bit (l : List (Fin 16)) {i : Nat} (hi : i < 10) : (cm l).testBit i = l.all fun g => (propsOf g).testBit i := by
  unfold cm
  rw [cmF_bit]
  have : Nat.testBit 1023 i = true := by
    have := List.all_eq_true.mp (show ((List.range 10).all fun i => Nat.testBit 1023 i) = true by decide +kernel) i (List.mem_range.mpr hi)
    exact this
  rw [this, Bool.true_and]
theorem cm_sub (l : List (Fin 16)) : ∀ g ∈ l, sub2 (cm l) (propsOf g) = true := by
  intro g hg
  rw [sub2_iff]
  intro i hi
  unfold cm at hi
  rw [cmF_bit] at hi
  exact List.all_eq_true.mp (andR hi) g hg
theorem up_app {C : Nat} {h a b : Fin 16} (h1 : sub2 C (propsOf h) = true) (h2 : sub2 C (propsOf a) = true) (h3 : sub2 C (propsOf b) = true) : sub2 C (propsOf (app h a b)) = true := by
  have hk := allF_at (allF_at (allF_at app_props h) a) b
  rw [sub2_iff] at *
  intro i hi
  refine hk i ?_
  rw [Nat.testBit_and, Nat.testBit_and, h1 i hi, h2 i hi, h3 i hi]; rfl
theorem up_proj {l : List (Fin 16)} : sub2 (cm l) (propsOf 10) = true ∧ sub2 (cm l) (propsOf 12) = true := by
  have e1 : propsOf 10 = 1023 := eq_of_beq (andL (andL proj_props))
  have e2 : propsOf 12 = 1023 := eq_of_beq (andR (andL proj_props))
  rw [e1, e2]
  have : sub2 (cm l) 1023 = true := by
    rw [sub2_iff]; intro i hi; unfold cm at hi; rw [cmF_bit] at hi; exact andL hi
  exact ⟨this, this⟩
/-! what the loop makes -/
noncomputable def newL (asked made : List (Fin 16)) (k : Nat) : List (Fin 16) := asked.flatMap fun g => (if both g then made.take (k + 1) else [made.getD k 10]).map fun one => app g one (made.getD k 10)
noncomputable def loopN (asked : List (Fin 16)) : Nat → List (Fin 16) → Nat → List (Fin 16)
  | 0, made, _ => made
  | f + 1, made, k => if k < made.length ∧ made.length < 16 then loopN asked f (dedupL (made ++ newL asked made k)) (k + 1) else made
noncomputable def askedL (l : List (Fin 16)) : List (Fin 16) := dedupL (l ++ l.map flip)
noncomputable def madeL (l : List (Fin 16)) : List (Fin 16) := loopN (askedL l) 17 [10, 12] 0
theorem dedup_pre {α : Type} [DecidableEq α] (a b : List α) (ha : a.Nodup) : ∃ r, dedupL (a ++ b) = a ++ r := by
  have ext : ∀ (l acc : List α), ∃ r, l.foldl (fun acc a => if a ∈ acc then acc else acc ++ [a]) acc = acc ++ r := by
    intro l
    induction l with
    | nil => intro acc; exact ⟨[], by simp⟩
    | cons x l ih =>
      intro acc
      rw [List.foldl_cons]
      by_cases q : x ∈ acc
      · rw [if_pos q]; exact ih acc
      · rw [if_neg q]
        obtain ⟨r, hr⟩ := ih (acc ++ [x])
        exact ⟨[x] ++ r, by rw [hr]; simp⟩
  have same : ∀ (l acc : List α), (acc ++ l).Nodup → l.foldl (fun acc a => if a ∈ acc then acc else acc ++ [a]) acc = acc ++ l := by
    intro l
    induction l with
    | nil => intro acc _; simp
    | cons x l ih =>
      intro acc h
      have hx : x ∉ acc := fun q => by
        have := List.nodup_append.mp h
        exact this.2.2 x q x (.head _) rfl
      rw [List.foldl_cons, if_neg hx, ih (acc ++ [x]) (by simpa using h)]
      simp
  unfold dedupL
  rw [List.foldl_append, same a [] (by simpa using ha)]
  exact ext b _
structure MInv (l asked made : List (Fin 16)) (k : Nat) : Prop where
  nd : made.Nodup
  p1 : 10 ∈ made
  p2 : 12 ∈ made
  up : ∀ q ∈ made, sub2 (cm l) (propsOf q) = true
  le : k ≤ made.length
  cl : ∀ g ∈ asked, ∀ i j, i ≤ j → j < k → (both g = true → app g (made.getD i 10) (made.getD j 10) ∈ made) ∧ (both g = false → app g (made.getD j 10) (made.getD j 10) ∈ made)
theorem getD_mem16 {l : List (Fin 16)} {i : Nat} (h : i < l.length) : l.getD i 10 ∈ l := by
  rw [List.getD_eq_getElem?_getD, List.getElem?_eq_getElem h]; exact List.getElem_mem h
theorem mem_getD16 {l : List (Fin 16)} {q : Fin 16} (h : q ∈ l) : ∃ i, i < l.length ∧ l.getD i 10 = q := by
  obtain ⟨i, hi, rfl⟩ := List.mem_iff_getElem.mp h
  exact ⟨i, hi, by rw [List.getD_eq_getElem?_getD, List.getElem?_eq_getElem hi]; rfl⟩
theorem getD_pre {a r : List (Fin 16)} {i : Nat} (h : i < a.length) : (a ++ r).getD i 10 = a.getD i 10 := by
  rw [List.getD_eq_getElem?_getD, List.getD_eq_getElem?_getD, List.getElem?_append_left h]
theorem length16 {l : List (Fin 16)} (h : l.Nodup) : l.length ≤ 16 := nodup_length l (List.finRange 16) h fun x _ => List.mem_finRange x
theorem mem_newL {asked made : List (Fin 16)} {k : Nat} {q : Fin 16} : q ∈ newL asked made k ↔ ∃ g ∈ asked, ∃ one ∈ (if both g then made.take (k + 1) else [made.getD k 10]), app g one (made.getD k 10) = q := by
  unfold newL
  simp only [List.mem_flatMap, List.mem_map]
theorem minv_step {l asked made : List (Fin 16)} {k : Nat} (hup : ∀ g ∈ asked, sub2 (cm l) (propsOf g) = true) (M : MInv l asked made k) (hk : k < made.length) : MInv l asked (dedupL (made ++ newL asked made k)) (k + 1) := by
  obtain ⟨r, hr⟩ := dedup_pre made (newL asked made k) M.nd
  have mem : ∀ q, q ∈ dedupL (made ++ newL asked made k) ↔ q ∈ made ∨ q ∈ newL asked made k := fun q => by rw [mem_dedupL, List.mem_append]
  have gd : ∀ i, i < made.length → (dedupL (made ++ newL asked made k)).getD i 10 = made.getD i 10 := fun i hi => by rw [hr]; exact getD_pre hi
  have hmk := getD_mem16 hk
  refine ⟨nodup_dedupL _, (mem _).mpr (.inl M.p1), (mem _).mpr (.inl M.p2), fun q hq => ?_, by rw [hr, List.length_append]; omega, fun g hg i j hij hj => ?_⟩
  · rcases (mem q).mp hq with z | z
    · exact M.up q z
    · obtain ⟨g, hg, one, ho, rfl⟩ := mem_newL.mp z
      refine up_app (hup g hg) (M.up one ?_) (M.up _ hmk)
      split at ho
      · exact List.mem_of_mem_take ho
      · rw [List.mem_singleton.mp ho]; exact hmk
  · have hjl : j < made.length := by omega
    rw [gd i (by omega), gd j hjl]
    by_cases hjk : j < k
    · exact ⟨fun b => (mem _).mpr (.inl ((M.cl g hg i j hij hjk).1 b)), fun b => (mem _).mpr (.inl ((M.cl g hg i j hij hjk).2 b))⟩
    · have : j = k := by omega
      subst this
      refine ⟨fun b => (mem _).mpr (.inr (mem_newL.mpr ⟨g, hg, made.getD i 10, ?_, rfl⟩)), fun b => (mem _).mpr (.inr (mem_newL.mpr ⟨g, hg, made.getD j 10, ?_, rfl⟩))⟩
      · rw [if_pos b, List.getD_eq_getElem?_getD, List.getElem?_eq_getElem (by omega)]
        exact List.mem_take_iff_getElem.mpr ⟨i, by omega, rfl⟩
      · rw [if_neg (by rw [b]; nofun)]; exact .head _
/-- made: all that may be, and no more -/
structure MEnd (l asked made : List (Fin 16)) : Prop where
  nd : made.Nodup
  p1 : 10 ∈ made
  p2 : 12 ∈ made
  up : ∀ q ∈ made, sub2 (cm l) (propsOf q) = true
  cl : ∀ g ∈ asked, ∀ a ∈ made, ∀ b ∈ made, app g a b ∈ made
theorem minv_end {l asked made : List (Fin 16)} {k : Nat} (hfl : ∀ g ∈ asked, flip g ∈ asked) (M : MInv l asked made k) (h : ¬ (k < made.length ∧ made.length < 16)) : MEnd l asked made := by
  refine ⟨M.nd, M.p1, M.p2, M.up, fun g hg a ha b hb => ?_⟩
  by_cases hlen : made.length < 16
  · have hk : k = made.length := by have := M.le; omega
    obtain ⟨i, hi, rfl⟩ := mem_getD16 ha
    obtain ⟨j, hj, rfl⟩ := mem_getD16 hb
    have key : ∀ g ∈ asked, both g = true → ∀ i j, i ≤ j → j < made.length → app g (made.getD i 10) (made.getD j 10) ∈ made := fun g hg b i j hij hj => (M.cl g hg i j hij (by omega)).1 b
    have self : both g = false → ∀ j, j < made.length → app g (made.getD j 10) (made.getD j 10) ∈ made := fun b j hj => (M.cl g hg j j (Nat.le_refl _) (by omega)).2 b
    cases hb : both g with
    | true =>
      rcases Nat.le_total i j with q | q
      · exact key g hg hb i j q hj
      · have h1 := key (flip g) (hfl g hg) (by rw [eq_of_beq (allF_at both_flip g)]; exact hb) j i q hi
        rw [eq_of_beq (allF_at (allF_at (allF_at app_flip g) _) _)] at h1
        exact h1
    | false =>
      have h1 := allF_at one_var g
      rw [hb, Bool.false_or] at h1
      rcases Bool.or_eq_true_iff.mp h1 with z | z
      · rw [eq_of_beq (allF_at (allF_at z _) _)]; exact self hb i hi
      · rw [eq_of_beq (allF_at (allF_at z _) _)]; exact self hb j hj
  · by_cases q : app g a b ∈ made
    · exact q
    · have := length16 (List.nodup_cons.mpr ⟨q, M.nd⟩)
      simp only [List.length_cons] at this; omega
theorem loopN_end {l asked : List (Fin 16)} (hup : ∀ g ∈ asked, sub2 (cm l) (propsOf g) = true) (hfl : ∀ g ∈ asked, flip g ∈ asked) : ∀ (f : Nat) (made : List (Fin 16)) (k : Nat), 17 ≤ f + k → MInv l asked made k → MEnd l asked (loopN asked f made k)
  | 0, made, k, hf, M => minv_end hfl M (by have := M.le; have := length16 M.nd; omega)
  | f + 1, made, k, hf, M => by
    unfold loopN
    by_cases h : k < made.length ∧ made.length < 16
    · rw [if_pos h]
      exact loopN_end hup hfl f _ (k + 1) (by omega) (minv_step hup M h.1)
    · rw [if_neg h]
      exact minv_end hfl M h
theorem flip_flip_all : (allF fun g => flip (flip g) == g) = true := by decide +kernel
theorem mem_asked {l : List (Fin 16)} {g : Fin 16} : g ∈ askedL l ↔ g ∈ l ∨ ∃ h ∈ l, flip h = g := by
  unfold askedL
  rw [mem_dedupL, List.mem_append, List.mem_map]
theorem made_end (l : List (Fin 16)) : MEnd l (askedL l) (madeL l) := by
  refine loopN_end (fun g hg => ?_) (fun g hg => ?_) 17 [10, 12] 0 (by omega) ⟨by decide, by decide, by decide, fun q hq => ?_, by decide, fun g hg i j hij hj => by omega⟩
  · rcases mem_asked.mp hg with z | ⟨h, z, rfl⟩
    · exact cm_sub l g z
    · rw [eq_of_beq (allF_at flip_props h)]; exact cm_sub l h z
  · rcases mem_asked.mp hg with z | ⟨h, z, rfl⟩
    · exact mem_asked.mpr (.inr ⟨g, z, rfl⟩)
    · rw [eq_of_beq (allF_at flip_flip_all h)]; exact mem_asked.mpr (.inl z)
  · rcases List.mem_cons.mp hq with rfl | hq
    · exact up_proj.1
    · rw [List.mem_singleton.mp hq]; exact up_proj.2
/-- Post -/
theorem made_due (l : List (Fin 16)) (q : Fin 16) : q ∈ madeL l ↔ q ∈ dueC (cm l) := by
  have M := made_end l
  refine ⟨fun h => mem_due.mpr (M.up q h), fun h => ?_⟩
  have hp := fun a b => allF_at (allF_at proj1 a) b
  have c : Clo fun h => ∀ a ∈ madeL l, ∀ b ∈ madeL l, app h a b ∈ madeL l :=
    ⟨fun a ha b _ => by rw [eq_of_beq (andL (hp a b))]; exact ha, fun a _ b hb => by rw [eq_of_beq (andR (hp a b))]; exact hb, fun h x y h1 h2 h3 a ha b hb => by
      rw [app_app]; exact h1 _ (h2 a ha b hb) _ (h3 a ha b hb)⟩
  have := due_low c l (fun g hg a ha b hb => M.cl g (mem_asked.mpr (.inl hg)) a ha b hb) q h 10 M.p1 12 M.p2
  rwa [eq_of_beq (allF_at proj_self q)] at this
end Mine.L2
end
section
open PySem PySem.W PySem.Calls PyProof.Rows
namespace Mine.L2
section
variable {T : Tab} {σ : List SV}
theorem ev_nothing : ev T .nothing σ = .ok .none := by rw [evq_nothing]
theorem ev_ite {c a b : X} {p : Bool} (h : ev T c σ = .ok (.bool p)) : ev T (.ite c a b) σ = if p then ev T a σ else ev T b σ := by
  rw [evq_ite, h, Res.bind_ok]; cases p <;> rfl
theorem ev_slice {a lo hi : X} {x y z : PyData} (h1 : ev T a σ = .ok x) (h2 : ev T lo σ = .ok y) (h3 : ev T hi σ = .ok z) : ev T (.slice a lo hi) σ = opSlice x (optD y) (optD z) := by
  rw [evq_slice, h1, Res.bind_ok, h2, Res.bind_ok, h3, Res.bind_ok]
theorem ev_or {a b : X} {p q : Bool} (h1 : ev T a σ = .ok (.bool p)) (h2 : p = false → ev T b σ = .ok (.bool q)) : ev T (.or a b) σ = .ok (.bool (p || q)) := by
  rw [evq_or, h1, Res.bind_ok]
  cases p with
  | true => rfl
  | false => exact h2 rfl
end
noncomputable def qD (q : Fin 16) : PyData := .int (q.val : Int)
noncomputable def nD (n : Nat) : PyData := .int (n : Int)
theorem encN : Enc qD := ⟨by decide +kernel, by decide +kernel, by decide +kernel⟩
theorem idx_gd (g : Fin 16) {j : Nat} (hj : j < 4) : opIdx (gd g) (nD j) = .ok (nD (bt g.val j)) := by
  match j, hj with
  | 0, _ => rfl
  | 1, _ => rfl
  | 2, _ => rfl
  | 3, _ => rfl
theorem idx_nD (x : PyData) {k : Nat} (hk : k < 2 ^ 62) : opIdx x (nD k) = idxAt x k := by
  simp only [opIdx, nD]
  rw [if_pos ⟨by omega, by omega⟩, Int.toNat_natCast]
theorem idx_list {α : Type} (f : α → PyData) (l : List α) {k : Nat} {a : α} (h : l[k]? = some a) (hk : k < 2 ^ 62) : opIdx (.list (l.map f)) (nD k) = .ok (f a) := by
  rw [idx_nD _ hk]
  show getR (l.map f)[k]? _ = _
  rw [List.getElem?_map, h]; rfl
theorem slice_hi (ds : List PyData) (b : Nat) (h : ds.length ≤ 100000) : opSlice (.list ds) none (some (nD b)) = .ok (.list (ds.take b)) := by
  show (if ds.length ≤ 100000 then cutD ds (some none) (if 0 ≤ (b : Int) then some (some (b : Int).toNat) else none) else .bad) = _
  rw [if_pos h, if_pos (Int.natCast_nonneg b), Int.toNat_natCast]; rfl
theorem slice_lo (ds : List PyData) (a : Nat) (h : ds.length ≤ 100000) : opSlice (.list ds) (some (nD a)) none = .ok (.list (ds.drop a)) := by
  show (if ds.length ≤ 100000 then cutD ds (if 0 ≤ (a : Int) then some (some (a : Int).toNat) else none) (some none) else .bad) = _
  rw [if_pos h, if_pos (Int.natCast_nonneg a), Int.toNat_natCast]; rfl
theorem flip_gd_all : (allF fun g => bt (flip g).val 0 == bt g.val 0 && bt (flip g).val 1 == bt g.val 2 && bt (flip g).val 2 == bt g.val 1 && bt (flip g).val 3 == bt g.val 3) = true := by decide +kernel
theorem flip_gd (g : Fin 16) : gd (flip g) = .list [nD (bt g.val 0), nD (bt g.val 2), nD (bt g.val 1), nD (bt g.val 3)] := by
  have h := allF_at flip_gd_all g
  have h4 := eq_of_beq (andR h)
  have h := andL h
  have h3 := eq_of_beq (andR h)
  have h := andL h
  have h2 := eq_of_beq (andR h)
  have h1 := eq_of_beq (andL h)
  unfold gd
  rw [h1, h2, h3, h4]; rfl
theorem range_nD (n : Nat) (h : (rangeD 0 n 1).length = n := by rfl) : rangeD 0 n 1 = (List.range n).map nD := by
  unfold rangeD at h ⊢
  rw [List.length_map, List.length_range] at h
  rw [h]
  refine List.map_congr_left fun i _ => ?_
  show PyData.int (0 + (i : Int) * 1) = PyData.int (i : Int)
  rw [Int.zero_add, Int.mul_one]
theorem add_nD (a b : Nat) : opBin .Add (nD a) (nD b) = .ok (nD (a + b)) := by
  show Res.ok (.int ((a : Int) + b)) = _
  rw [← Int.natCast_add]; rfl
theorem mul_nD (a b : Nat) (h : b < 2 ^ 60) : opBin .Mult (nD a) (nD b) = .ok (nD (a * b)) := by
  show (if ((b : Int)).natAbs < 2 ^ 60 then Res.ok (.int ((a : Int) * b)) else .bad) = _
  rw [if_pos (by simpa using h), ← Int.natCast_mul]; rfl
theorem lt_nD (a b : Nat) : opCmp .Lt (nD a) (nD b) = .ok (.bool (decide (a < b))) := by
  show Res.ok (.bool (decide ((a : Int) < b))) = _
  simp only [Int.ofNat_lt]
theorem len_list (ds : List PyData) (h : ds.length ≤ 100000) : opBi .len (.list ds) = .ok (nD ds.length) := by
  simp only [opBi]; rw [if_pos h]; rfl
theorem cat_list (xs ys : List PyData) (h : xs.length + ys.length ≤ 100000) : opBin .Add (.list xs) (.list ys) = .ok (.list (xs ++ ys)) := by
  show (if xs.length + ys.length ≤ 100000 then Res.ok (.list (xs ++ ys)) else .bad) = _
  rw [if_pos h]
/-- dedup and compare, as the table has them -/
structure TG (T : Tab) : Prop where
  dd : ∀ l : List (Fin 16), l.length ≤ 50000 → T.F 2 [.list (l.map gd)] = some (.list ((dedupL l).map gd))
noncomputable def eltX : X := .compR 0 4 1 (.bool true) (.idx (.var 5) (.bin .Add (.idx (.var 7) (.var 8)) (.bin .Mult (.int 2) (.idx (.idx (.var 2) (.var 3)) (.var 8)))))
noncomputable def bothX : X := .and (.cmp .NotEq (.list [(.idx (.var 5) (.int 0)), (.idx (.var 5) (.int 2))]) (.list [(.idx (.var 5) (.int 1)), (.idx (.var 5) (.int 3))])) (.cmp .NotEq (.list [(.idx (.var 5) (.int 0)), (.idx (.var 5) (.int 1))]) (.list [(.idx (.var 5) (.int 2)), (.idx (.var 5) (.int 3))]))
noncomputable def srcX : X := .ite (.var 6) (.slice (.var 2) .nothing (.bin .Add (.var 3) (.int 1))) (.list [(.idx (.var 2) (.var 3))])
noncomputable def innerB : List S := [.append 4 eltX]
noncomputable def forB : List S := [.assign 6 bothX, .forX 7 srcX innerB []]
noncomputable def testX : X := .and (.cmp .Lt (.var 3) (.bi .len (.var 2))) (.cmp .Lt (.bi .len (.var 2)) (.int 16))
noncomputable def whileB : List S := [.own 4 (.list []), .forX 5 (.var 1) forB [], .freeze 4, .assign 2 (.call 2 [(.bin .Add (.var 2) (.var 4))]), .assign 3 (.bin .Add (.var 3) (.int 1))]
section
variable {T : Tab} {v0 v1 : SV}
theorem elt_eval {σ : List SV} {g one m : Fin 16} {made : List (Fin 16)} {k : Nat} (h2 : σ[2]? = some (.val (.list (made.map gd)))) (h3 : σ[3]? = some (.val (nD k))) (h5 : σ[5]? = some (.val (gd g))) (h7 : σ[7]? = some (.val (gd one))) (hl : σ.length = 8)
    (hm : made[k]? = some m) (hk : k < 2 ^ 62) : ev T eltX σ = .ok (gd (app g one m)) := by
  have up : ∀ {i : Nat} {sv : SV} {d : PyData}, σ[i]? = some sv → (σ ++ [.val d])[i]? = some sv := fun {i sv d} h => by
    rw [List.getElem?_append_left (List.getElem?_eq_some_iff.mp h).1]; exact h
  have last : ∀ d : PyData, (σ ++ [.val d])[8]? = some (.val d) := fun d => by rw [List.getElem?_append_right (by omega), hl]; rfl
  refine ev_compR (by decide +kernel) ?_
  rw [show rangeD 0 4 1 = (List.range 4).map nD from range_nD 4]
  refine (compGo_m nD (fun j => nD (bt (app g one m).val j)) fun j hj => ?_).trans rfl
  have hj4 : j < 4 := List.mem_range.mp hj
  have e1 : ev T (.idx (.var 7) (.var 8)) (σ ++ [.val (nD j)]) = .ok (nD (bt one.val j)) := by
    rw [ev_idx (ev_var (up h7)) (ev_var (last _))]; exact idx_gd one hj4
  have e2 : ev T (.idx (.var 2) (.var 3)) (σ ++ [.val (nD j)]) = .ok (gd m) := by
    rw [ev_idx (ev_var (up h2)) (ev_var (up h3))]; exact idx_list gd made hm hk
  have e3 : ev T (.idx (.idx (.var 2) (.var 3)) (.var 8)) (σ ++ [.val (nD j)]) = .ok (nD (bt m.val j)) := by
    rw [ev_idx e2 (ev_var (last _))]; exact idx_gd m hj4
  have b1 := bt_lt one.val j
  have b2 := bt_lt m.val j
  have e4 : ev T (.bin .Mult (.int 2) (.idx (.idx (.var 2) (.var 3)) (.var 8))) (σ ++ [.val (nD j)]) = .ok (nD (2 * bt m.val j)) := by
    have e0 : ev T (.int 2) (σ ++ [.val (nD j)]) = .ok (nD 2) := ev_int
    rw [ev_bin e0 e3]; exact mul_nD 2 _ (by omega)
  rw [ev_idx (ev_var (up h5)) (by rw [ev_bin e1 e4]; exact add_nD _ _), idx_gd g (by omega), bt_app g one m hj4]
theorem eqv_pair (a b c d : Nat) : opCmp .NotEq (.list [nD a, nD b]) (.list [nD c, nD d]) = .ok (.bool (!(a == c && b == d))) := by
  simp only [opCmp]
  rw [if_pos (by rfl)]
  have : PyData.eqv (.list [nD a, nD b]) (.list [nD c, nD d]) = (a == c && b == d) := by
    have e : ∀ x y : Nat, ((x : Int) == (y : Int)) = (x == y) := fun x y => by
      rw [Bool.eq_iff_iff, beq_iff_eq, beq_iff_eq]; exact Int.ofNat_inj
    simp only [PyData.eqv, nD, PyData.eqvAll, e, Bool.and_true]
  rw [this]
theorem both_eval {σ : List SV} {g : Fin 16} (h5 : σ[5]? = some (.val (gd g))) : ev T bothX σ = .ok (.bool (both g)) := by
  have ix : ∀ (j : Nat), j < 4 → ev T (.idx (.var 5) (.int (j : Int))) σ = .ok (nD (bt g.val j)) := fun j hj => by
    rw [ev_idx (ev_var h5) ev_int]; exact idx_gd g hj
  have pr : ∀ i j : Nat, i < 4 → j < 4 → ev T (.list [(.idx (.var 5) (.int (i : Int))), (.idx (.var 5) (.int (j : Int)))]) σ = .ok (.list [nD (bt g.val i), nD (bt g.val j)]) := fun i j hi hj =>
    ev_list (evs_cons (ix i hi) (evs_cons (ix j hj) evs_nil)) (by simp)
  have p02 : ev T (.list [(.idx (.var 5) (.int 0)), (.idx (.var 5) (.int 2))]) σ = _ := pr 0 2 (by omega) (by omega)
  have p13 : ev T (.list [(.idx (.var 5) (.int 1)), (.idx (.var 5) (.int 3))]) σ = _ := pr 1 3 (by omega) (by omega)
  have p01 : ev T (.list [(.idx (.var 5) (.int 0)), (.idx (.var 5) (.int 1))]) σ = _ := pr 0 1 (by omega) (by omega)
  have p23 : ev T (.list [(.idx (.var 5) (.int 2)), (.idx (.var 5) (.int 3))]) σ = _ := pr 2 3 (by omega) (by omega)
  refine ev_and (p := !(bt g.val 0 == bt g.val 1 && bt g.val 2 == bt g.val 3)) ?_ fun _ => ?_
  · rw [ev_cmp p02 p13]; exact eqv_pair _ _ _ _
  · rw [ev_cmp p01 p23]; exact eqv_pair _ _ _ _
end
end Mine.L2
end
section
open PySem PySem.W PySem.Calls PyProof.Rows
namespace Mine.L2
noncomputable def srcL (made : List (Fin 16)) (k : Nat) (g : Fin 16) : List (Fin 16) := if both g then made.take (k + 1) else [made.getD k 10]
theorem srcL_len {made : List (Fin 16)} {k : Nat} {g : Fin 16} (h : made.length ≤ 16) : (srcL made k g).length ≤ 16 := by
  unfold srcL; split
  · rw [List.length_take]; omega
  · simp
section
variable {T : Tab} {v0 v1 : SV}
theorem inner_eval (g m : Fin 16) (made : List (Fin 16)) (k : Nat) (hm : made[k]? = some m) (hk : k < 2 ^ 62) (l : List (Fin 16)) (acc : List (Fin 16)) (v6 sv : SV) (hl : acc.length + l.length ≤ 50000) :
    loopGo (fun σ d => some (putV σ 7 d)) (fun σ => evSs T innerB σ) (fun σ => evSs T [] σ) (l.map gd) [v0, v1, .val (.list (made.map gd)), .val (nD k), .own (acc.map gd), .val (gd g), v6, sv] =
      .next [v0, v1, .val (.list (made.map gd)), .val (nD k), .own ((acc ++ l.map fun one => app g one m).map gd), .val (gd g), v6, lastV gd l sv] := by
  have hloop := loopGo_inv (i := 7) gd (fun (acc : List (Fin 16)) sv => [v0, v1, .val (.list (made.map gd)), .val (nD k), .own (acc.map gd), .val (gd g), v6, sv]) (fun acc one => acc ++ [app g one m]) (fun r acc => acc.length + r.length ≤ 50000)
    (body := fun σ => evSs T innerB σ) (orelse := fun σ => evSs T [] σ) (fun _ _ _ => rfl) (fun a r acc hI => ?_) l acc sv hl
  · rw [hloop, evSs_nil]
    have e : ∀ (l acc : List (Fin 16)), l.foldl (fun acc one => acc ++ [app g one m]) acc = acc ++ l.map fun one => app g one m := by
      intro l
      induction l with
      | nil => intro acc; simp
      | cons a l ih => intro acc; rw [List.foldl_cons, ih]; simp
    rw [e]
  · refine ⟨?_, by simp only [List.length_append, List.length_cons, List.length_nil]; simp only [List.length_cons] at hI; omega⟩
    unfold innerB
    rw [evSs_next (evS_append (ds := acc.map gd) rfl (elt_eval (g := g) (one := a) (made := made) (k := k) rfl rfl rfl rfl rfl hm hk) (by simp only [List.length_map]; simp only [List.length_cons] at hI; omega)), evSs_nil]
    simp
theorem src_eval {σ : List SV} {made : List (Fin 16)} {k : Nat} {g m : Fin 16} (h2 : σ[2]? = some (.val (.list (made.map gd)))) (h3 : σ[3]? = some (.val (nD k))) (h6 : σ[6]? = some (.val (.bool (both g)))) (hm : made[k]? = some m) (hl : made.length ≤ 16) :
    ev T srcX σ = .ok (.list ((srcL made k g).map gd)) := by
  have hk : k < made.length := (List.getElem?_eq_some_iff.mp hm).1
  unfold srcX srcL
  rw [ev_ite (ev_var h6)]
  cases both g with
  | true =>
    simp only [if_true]
    have e0 : ev T (.bin .Add (.var 3) (.int 1)) σ = .ok (nD (k + 1)) := by
      have e1 : ev T (.int 1) σ = .ok (nD 1) := ev_int
      rw [ev_bin (ev_var h3) e1]; exact add_nD k 1
    rw [ev_slice (ev_var h2) ev_nothing e0, List.map_take]
    exact slice_hi _ _ (by simp; omega)
  | false =>
    simp only [Bool.false_eq_true, if_false]
    have e1 : ev T (.idx (.var 2) (.var 3)) σ = .ok (gd (made.getD k 10)) := by
      rw [ev_idx (ev_var h2) (ev_var h3), List.getD_eq_getElem?_getD, hm]; exact idx_list gd made hm (by omega)
    exact ev_list (evs_cons e1 evs_nil) (by simp)
noncomputable def stepB (made : List (Fin 16)) (k : Nat) (b : List (Fin 16) × SV × SV) (g : Fin 16) : List (Fin 16) × SV × SV :=
  (b.1 ++ (srcL made k g).map (fun one => app g one (made.getD k 10)), .val (.bool (both g)), lastV gd (srcL made k g) b.2.2)
theorem for_eval (made : List (Fin 16)) (k : Nat) (hk : k < made.length) (hl : made.length ≤ 16) (asked : List (Fin 16)) (ha : asked.length ≤ 16) (v5 v6 v7 : SV) :
    ∃ w5 w6 w7, loopGo (fun σ d => some (putV σ 5 d)) (fun σ => evSs T forB σ) (fun σ => evSs T [] σ) (asked.map gd) [v0, v1, .val (.list (made.map gd)), .val (nD k), .own [], v5, v6, v7] =
      .next [v0, v1, .val (.list (made.map gd)), .val (nD k), .own ((newL asked made k).map gd), w5, w6, w7] := by
  have hm : made[k]? = some (made.getD k 10) := by rw [List.getD_eq_getElem?_getD, List.getElem?_eq_getElem hk]; rfl
  have hloop := loopGo_inv (i := 5) gd (fun (b : List (Fin 16) × SV × SV) sv => [v0, v1, .val (.list (made.map gd)), .val (nD k), .own (b.1.map gd), sv, b.2.1, b.2.2]) (stepB made k) (fun r b => b.1.length + 16 * r.length ≤ 50000)
    (body := fun σ => evSs T forB σ) (orelse := fun σ => evSs T [] σ) (fun _ _ _ => rfl) (fun g r b hI => ?_) asked ([], v6, v7) v5 (by simp; omega)
  · refine ⟨lastV gd asked v5, (asked.foldl (stepB made k) ([], v6, v7)).2.1, (asked.foldl (stepB made k) ([], v6, v7)).2.2, ?_⟩
    have e : ∀ (l : List (Fin 16)) (b : List (Fin 16) × SV × SV), (l.foldl (stepB made k) b).1 = b.1 ++ newL l made k := by
      intro l
      induction l with
      | nil => intro b; simp [newL]
      | cons a l ih =>
        intro b
        rw [List.foldl_cons, ih]
        simp only [stepB, newL, List.flatMap_cons, srcL, List.append_assoc]
    have := hloop
    rw [evSs_nil, e] at this
    exact this
  · obtain ⟨acc, u6, u7⟩ := b
    have hsl := srcL_len (made := made) (k := k) (g := g) hl
    have hI' : acc.length + 16 * (r.length + 1) ≤ 50000 := hI
    refine ⟨?_, by simp only [stepB, List.length_append, List.length_map]; omega⟩
    show evSs T forB [v0, v1, .val (.list (made.map gd)), .val (nD k), .own (acc.map gd), .val (gd g), u6, u7] = _
    unfold forB
    rw [evSs_next (evS_assign (both_eval (g := g) rfl))]
    show evSs T _ [v0, v1, .val (.list (made.map gd)), .val (nD k), .own (acc.map gd), .val (gd g), .val (.bool (both g)), u7] = _
    have hf := (evS_forX (T := T) (i := 7) (src := srcX) (body := innerB) (orelse := []) (σ := [v0, v1, .val (.list (made.map gd)), .val (nD k), .own (acc.map gd), .val (gd g), .val (.bool (both g)), u7]) (ds := (srcL made k g).map gd) (src_eval (made := made) (k := k) (g := g) rfl rfl rfl hm hl) (by simp; omega)).trans
      (inner_eval g (made.getD k 10) made k hm (by omega) (srcL made k g) acc _ _ (by omega))
    rw [evSs_next hf, evSs_nil]
    rfl
theorem test_eval {σ : List SV} {made : List (Fin 16)} {k : Nat} (h2 : σ[2]? = some (.val (.list (made.map gd)))) (h3 : σ[3]? = some (.val (nD k))) (hl : made.length ≤ 16) : ev T testX σ = .ok (.bool (decide (k < made.length) && decide (made.length < 16))) := by
  have e1 : ev T (.bi .len (.var 2)) σ = .ok (nD made.length) := by
    rw [ev_bi (ev_var h2), len_list _ (by simp; omega), List.length_map]
  have e2 : ev T (.int 16) σ = .ok (nD 16) := ev_int
  refine ev_and ?_ fun _ => ?_
  · rw [ev_cmp (ev_var h3) e1]; exact lt_nD _ _
  · rw [ev_cmp e1 e2]; exact lt_nD _ _
theorem while_body (K : TG T) (asked : List (Fin 16)) (ha : asked.length ≤ 16) (made : List (Fin 16)) (k : Nat) (hk : k < made.length) (hl : made.length ≤ 16) (v4 v5 v6 v7 : SV) :
    ∃ w4 w5 w6 w7, evSs T whileB [v0, .val (.list (asked.map gd)), .val (.list (made.map gd)), .val (nD k), v4, v5, v6, v7] =
      .next [v0, .val (.list (asked.map gd)), .val (.list ((dedupL (made ++ newL asked made k)).map gd)), .val (nD (k + 1)), w4, w5, w6, w7] := by
  obtain ⟨w5, w6, w7, hfor⟩ := for_eval (T := T) (v0 := v0) (v1 := .val (.list (asked.map gd))) made k hk hl asked ha v5 v6 v7
  refine ⟨.val (.list ((newL asked made k).map gd)), w5, w6, w7, ?_⟩
  have hn : (newL asked made k).length ≤ 256 := by
    have go : ∀ l : List (Fin 16), (newL l made k).length ≤ 16 * l.length := by
      intro l
      induction l with
      | nil => simp [newL]
      | cons a l ih =>
        have h1 := srcL_len (made := made) (k := k) (g := a) hl
        have e : (newL (a :: l) made k).length = (srcL made k a).length + (newL l made k).length := by
          simp only [newL, List.flatMap_cons, List.length_append, List.length_map, srcL]
        rw [e, List.length_cons]; omega
    have := go asked; omega
  unfold whileB
  rw [evSs_next (evS_own (i := 4) (ds := []) ev_nil)]
  show evSs T _ [v0, .val (.list (asked.map gd)), .val (.list (made.map gd)), .val (nD k), .own [], v5, v6, v7] = _
  have hf := (evS_forX (T := T) (i := 5) (src := .var 1) (body := forB) (orelse := []) (σ := [v0, .val (.list (asked.map gd)), .val (.list (made.map gd)), .val (nD k), .own [], v5, v6, v7]) (ds := asked.map gd) (ev_var rfl) (by simp; omega)).trans hfor
  rw [evSs_next hf, evSs_next (evS_freeze (i := 4) (ds := (newL asked made k).map gd) rfl)]
  show evSs T _ [v0, .val (.list (asked.map gd)), .val (.list (made.map gd)), .val (nD k), .val (.list ((newL asked made k).map gd)), w5, w6, w7] = _
  have hc : ev T (.bin .Add (.var 2) (.var 4)) [v0, .val (.list (asked.map gd)), .val (.list (made.map gd)), .val (nD k), .val (.list ((newL asked made k).map gd)), w5, w6, w7] = .ok (.list ((made ++ newL asked made k).map gd)) := by
    rw [ev_bin (ev_var rfl) (ev_var rfl), cat_list _ _ (by simp; omega), List.map_append]
  rw [evSs_next (evS_assign (ev_call (evs_cons hc evs_nil) (K.dd _ (by simp; omega))))]
  show evSs T _ [v0, .val (.list (asked.map gd)), .val (.list ((dedupL (made ++ newL asked made k)).map gd)), .val (nD k), .val (.list ((newL asked made k).map gd)), w5, w6, w7] = _
  have e1 : ev T (.bin .Add (.var 3) (.int 1)) [v0, .val (.list (asked.map gd)), .val (.list ((dedupL (made ++ newL asked made k)).map gd)), .val (nD k), .val (.list ((newL asked made k).map gd)), w5, w6, w7] = .ok (nD (k + 1)) := by
    have e1 : ev T (.int 1) [v0, .val (.list (asked.map gd)), .val (.list ((dedupL (made ++ newL asked made k)).map gd)), .val (nD k), .val (.list ((newL asked made k).map gd)), w5, w6, w7] = .ok (nD 1) := ev_int
    rw [ev_bin (ev_var rfl) e1]; exact add_nD k 1
  rw [evSs_next (evS_assign e1), evSs_nil]
  rfl
theorem while_eval (K : TG T) (asked : List (Fin 16)) (ha : asked.length ≤ 16) : ∀ (f n : Nat) (made : List (Fin 16)) (k : Nat) (v4 v5 v6 v7 : SV), 17 ≤ f + k → f + 1 ≤ n → made.Nodup → k ≤ made.length →
    ∃ w3 w4 w5 w6 w7, whileGo (fun σ => ev T testX σ) (fun σ => evSs T whileB σ) n [v0, .val (.list (asked.map gd)), .val (.list (made.map gd)), .val (nD k), v4, v5, v6, v7] =
      .next [v0, .val (.list (asked.map gd)), .val (.list ((loopN asked f made k).map gd)), w3, w4, w5, w6, w7]
  | f, 0, made, k, v4, v5, v6, v7, _, hn, _, _ => by omega
  | f, n + 1, made, k, v4, v5, v6, v7, hf, hn, hnd, hk => by
    have hl := length16 hnd
    have ht := test_eval (T := T) (σ := [v0, .val (.list (asked.map gd)), .val (.list (made.map gd)), .val (nD k), v4, v5, v6, v7]) (made := made) (k := k) rfl rfl hl
    unfold whileGo
    simp only [ht]
    by_cases h : k < made.length ∧ made.length < 16
    · have e : (decide (k < made.length) && decide (made.length < 16)) = true := by rw [decide_eq_true h.1, decide_eq_true h.2]; rfl
      rw [e]
      simp only [truth]
      obtain ⟨u4, u5, u6, u7, hb⟩ := while_body (v0 := v0) K asked ha made k h.1 hl v4 v5 v6 v7
      rw [hb]
      dsimp only
      cases f with
      | zero => omega
      | succ f =>
        have hl' : k + 1 ≤ (dedupL (made ++ newL asked made k)).length := by
          obtain ⟨r, hr⟩ := dedup_pre made (newL asked made k) hnd
          rw [hr, List.length_append]; omega
        obtain ⟨w3, w4, w5, w6, w7, hw⟩ := while_eval K asked ha f n (dedupL (made ++ newL asked made k)) (k + 1) u4 u5 u6 u7 (by omega) (by omega) (nodup_dedupL _) hl'
        refine ⟨w3, w4, w5, w6, w7, ?_⟩
        rw [hw, loopN, if_pos h]
    · have e : (decide (k < made.length) && decide (made.length < 16)) = false := by
        rw [Bool.eq_false_iff]; intro z
        exact h ⟨of_decide_eq_true (andL z), of_decide_eq_true (andR z)⟩
      rw [e]
      simp only [truth]
      refine ⟨.val (nD k), v4, v5, v6, v7, ?_⟩
      have : loopN asked f made k = made := by
        cases f with
        | zero => rfl
        | succ f => rw [loopN, if_neg h]
      rw [this]
theorem made_eval (K : TG T) (l : List (Fin 16)) (hl : l.length ≤ 16) : evSs T b_law_made (initσ [.list (l.map gd)] d_law_made.nm) = .ret (.list ((madeL l).map gd)) := by
  have hb : b_law_made = [.assign 1 (.call 2 [(.bin .Add (.var 0) (.comp (.var 0) (.bool true) (.list [(.idx (.var 8) (.int 0)), (.idx (.var 8) (.int 2)), (.idx (.var 8) (.int 1)), (.idx (.var 8) (.int 3))])))]),
    .assign 2 (.list [(.list [(.int 0), (.int 1), (.int 0), (.int 1)]), (.list [(.int 0), (.int 0), (.int 1), (.int 1)])]), .assign 3 (.int 0), .while testX whileB, .ret (.var 2)] := rfl
  rw [hb]
  show evSs T _ [.val (.list (l.map gd)), .un, .un, .un, .un, .un, .un, .un] = _
  have hc : ev T (.comp (.var 0) (.bool true) (.list [(.idx (.var 8) (.int 0)), (.idx (.var 8) (.int 2)), (.idx (.var 8) (.int 1)), (.idx (.var 8) (.int 3))])) [.val (.list (l.map gd)), .un, .un, .un, .un, .un, .un, .un] = .ok (.list ((l.map flip).map gd)) := by
    refine ev_comp (ds := l.map gd) (ev_var rfl) (by simp; omega) ?_
    rw [List.map_map]
    refine compGo_m gd (gd ∘ flip) fun g _ => ?_
    have ix : ∀ (j : Nat), j < 4 → ev T (.idx (.var 8) (.int (j : Int))) ([.val (.list (l.map gd)), .un, .un, .un, .un, .un, .un, .un] ++ [.val (gd g)]) = .ok (nD (bt g.val j)) := fun j hj => by
      rw [ev_idx (ev_var (d := gd g) rfl) ev_int]; exact idx_gd g hj
    rw [Function.comp, flip_gd]
    exact ev_list (evs_cons (ix 0 (by omega)) (evs_cons (ix 2 (by omega)) (evs_cons (ix 1 (by omega)) (evs_cons (ix 3 (by omega)) evs_nil)))) (by simp)
  have hc2 : ev T (.bin .Add (.var 0) (.comp (.var 0) (.bool true) (.list [(.idx (.var 8) (.int 0)), (.idx (.var 8) (.int 2)), (.idx (.var 8) (.int 1)), (.idx (.var 8) (.int 3))]))) [.val (.list (l.map gd)), .un, .un, .un, .un, .un, .un, .un] = .ok (.list ((l ++ l.map flip).map gd)) := by
    rw [ev_bin (ev_var rfl) hc, cat_list _ _ (by simp; omega), List.map_append]
  rw [evSs_next (evS_assign (ev_call (evs_cons hc2 evs_nil) (K.dd _ (by simp; omega))))]
  show evSs T _ [.val (.list (l.map gd)), .val (.list ((askedL l).map gd)), .un, .un, .un, .un, .un, .un] = _
  rw [evSs_next (σ' := [.val (.list (l.map gd)), .val (.list ((askedL l).map gd)), .val (.list (([10, 12] : List (Fin 16)).map gd)), .un, .un, .un, .un, .un])]
  rotate_left
  · rw [evS_assign (d := .list (([10, 12] : List (Fin 16)).map gd))]
    · rfl
    · kernel_rfl
  have e0 : ev T (.int 0) [.val (.list (l.map gd)), .val (.list ((askedL l).map gd)), .val (.list (([10, 12] : List (Fin 16)).map gd)), .un, .un, .un, .un, .un] = .ok (nD 0) := ev_int
  rw [evSs_next (evS_assign e0)]
  show evSs T _ [.val (.list (l.map gd)), .val (.list ((askedL l).map gd)), .val (.list (([10, 12] : List (Fin 16)).map gd)), .val (nD 0), .un, .un, .un, .un] = _
  obtain ⟨w3, w4, w5, w6, w7, hw⟩ := while_eval (v0 := .val (.list (l.map gd))) K (askedL l) (length16 (nodup_dedupL _)) 17 1000 [10, 12] 0 .un .un .un .un (by omega) (by omega) (by decide) (by decide)
  rw [evSs_next (by rw [evqS_while]; exact hw)]
  exact evSs_ret (ev_var rfl)
end
end Mine.L2
end
section
open PySem PySem.W PySem.Calls PyProof.Rows
namespace Mine.L2
theorem div_nat {a b : Nat} (h1 : b ≠ 0) (h2 : b < 2 ^ 29) : opBin .FloorDiv (nD a) (nD b) = .ok (nD (a / b)) := by
  simp only [opBin, int2, nD]
  rw [if_pos ⟨by omega, by omega⟩]
  rw [Int.natCast_ediv, Int.fdiv_eq_ediv_of_nonneg _ (Int.natCast_nonneg b)]
theorem mod_nat {a b : Nat} (h1 : b ≠ 0) : opBin .Mod (nD a) (nD b) = .ok (nD (a % b)) := by
  simp only [opBin, int2, nD]
  rw [if_pos (by omega)]
  rw [Int.natCast_emod, Int.fmod_eq_emod_of_nonneg _ (Int.natCast_nonneg b)]
theorem pow_nat {a k : Nat} (h : k ≤ 64) (ha : a < 2 ^ 60) : opBin .Pow (nD a) (nD k) = .ok (nD (a ^ k)) := by
  simp only [opBin, int2, nD]
  rw [if_pos ⟨by omega, by omega, by omega⟩, Int.toNat_natCast, Int.natCast_pow]
theorem loopGo_next {bind : List SV → PyData → Option (List SV)} {body orelse : List SV → Out} {d : PyData} {r : List PyData} {σ σ₁ σ₂ : List SV} (h1 : bind σ d = some σ₁) (h2 : body σ₁ = .next σ₂) : loopGo bind body orelse (d :: r) σ = loopGo bind body orelse r σ₂ := by
  rw [loopGo, h1]; dsimp only; rw [h2]
noncomputable def qOf (a b c d : Bool) : Fin 16 := Fin.ofNat 16 (a.toNat + 2 * b.toNat + 4 * c.toNat + 8 * d.toNat)
noncomputable def kindQ (n : Nat) : Fin 16 := Fin.ofNat 16 (n / 4096)
noncomputable def ownQ (n k : Nat) : Fin 16 := qOf (n.testBit (8 - 3 * k)) (n.testBit (7 - 3 * k)) (n.testBit (6 - 3 * k)) (n.testBit (11 - k))
noncomputable def numL (n : Nat) : List (Fin 16) := [kindQ n, ownQ n 0, ownQ n 1, ownQ n 2]
theorem bt_bit (n i : Nat) : bt n i = (n.testBit i).toNat := by rw [Nat.toNat_testBit]; rfl
/-! the numbers -/
noncomputable def numX : X := .bi .sum (.compR 0 4 1 (.bool true) (.bin .Mult (.bin .Mod (.bin .FloorDiv (.var 0) (.bin .Pow (.int 2) (.idx (.var 3) (.var 4)))) (.int 2)) (.bin .Pow (.int 2) (.var 4))))
noncomputable def bitsX : X := .list [(.bin .Sub (.int 8) (.bin .Mult (.int 3) (.var 2))), (.bin .Sub (.int 7) (.bin .Mult (.int 3) (.var 2))), (.bin .Sub (.int 6) (.bin .Mult (.int 3) (.var 2))), (.bin .Sub (.int 11) (.var 2))]
noncomputable def numB : List S := [.assign 3 bitsX, .append 1 numX]
section
variable {T : Tab}
theorem sum4 (a b c d : Nat) : opBi .sum (.list [nD a, nD b, nD c, nD d]) = .ok (nD (a + b + c + d)) := by
  have : intsOf [nD a, nD b, nD c, nD d] = some [(a : Int), b, c, d] := rfl
  simp only [opBi, this]
  show Res.ok (.int ((a : Int) + (b + (c + (d + 0))))) = Res.ok (.int ((a + b + c + d : Nat) : Int))
  congr 2
  omega
theorem num_eval {σ : List SV} {n b0 b1 b2 b3 : Nat} (h0 : σ[0]? = some (.val (nD n))) (h3 : σ[3]? = some (.val (.list [nD b0, nD b1, nD b2, nD b3]))) (hl : σ.length = 4) (hb : b0 < 20 ∧ b1 < 20 ∧ b2 < 20 ∧ b3 < 20) :
    ev T numX σ = .ok (nD (bt n b0 + 2 * bt n b1 + 4 * bt n b2 + 8 * bt n b3)) := by
  have up : ∀ {i : Nat} {sv : SV} {d : PyData}, σ[i]? = some sv → (σ ++ [.val d])[i]? = some sv := fun {i sv d} h => by
    rw [List.getElem?_append_left (List.getElem?_eq_some_iff.mp h).1]; exact h
  have last : ∀ d : PyData, (σ ++ [.val d])[4]? = some (.val d) := fun d => by rw [List.getElem?_append_right (by omega), hl]; rfl
  have hc : ev T (.compR 0 4 1 (.bool true) (.bin .Mult (.bin .Mod (.bin .FloorDiv (.var 0) (.bin .Pow (.int 2) (.idx (.var 3) (.var 4)))) (.int 2)) (.bin .Pow (.int 2) (.var 4)))) σ = .ok (.list ((List.range 4).map fun j => nD (bt n ([b0, b1, b2, b3].getD j 0) * 2 ^ j))) := by
    refine ev_compR (by decide +kernel) ?_
    rw [show rangeD 0 4 1 = (List.range 4).map nD from range_nD 4]
    refine compGo_m nD (fun j => nD (bt n ([b0, b1, b2, b3].getD j 0) * 2 ^ j)) fun j hj => ?_
    have hj4 : j < 4 := List.mem_range.mp hj
    have hbj : [b0, b1, b2, b3].getD j 0 < 20 := by
      match j, hj4 with
      | 0, _ => exact hb.1
      | 1, _ => exact hb.2.1
      | 2, _ => exact hb.2.2.1
      | 3, _ => exact hb.2.2.2
    have e2 : ∀ τ : List SV, ev T (.int 2) τ = .ok (nD 2) := fun _ => ev_int
    have e1 : ev T (.idx (.var 3) (.var 4)) (σ ++ [.val (nD j)]) = .ok (nD ([b0, b1, b2, b3].getD j 0)) := by
      rw [ev_idx (ev_var (up h3)) (ev_var (last _))]
      exact idx_list nD [b0, b1, b2, b3] (by rw [List.getD_eq_getElem?_getD, List.getElem?_eq_getElem (by exact hj4)]; rfl) (by omega)
    have p20 : 2 ^ [b0, b1, b2, b3].getD j 0 ≤ 2 ^ 20 := Nat.pow_le_pow_right (by decide) (by omega)
    have pj : 2 ^ j ≤ 2 ^ 4 := Nat.pow_le_pow_right (by decide) (by omega)
    have pp := Nat.two_pow_pos ([b0, b1, b2, b3].getD j 0)
    have e3 : ev T (.bin .FloorDiv (.var 0) (.bin .Pow (.int 2) (.idx (.var 3) (.var 4)))) (σ ++ [.val (nD j)]) = .ok (nD (n / 2 ^ [b0, b1, b2, b3].getD j 0)) := by
      rw [ev_bin (ev_var (up h0)) (by rw [ev_bin (e2 _) e1]; exact pow_nat (by omega) (by decide))]
      exact div_nat (by omega) (by omega)
    rw [ev_bin (by rw [ev_bin e3 (e2 _)]; exact mod_nat (by decide)) (by rw [ev_bin (e2 _) (ev_var (last _))]; exact pow_nat (by omega) (by decide))]
    exact mul_nD _ _ (by omega)
  unfold numX
  rw [ev_bi hc]
  show opBi .sum (.list [nD (bt n b0 * 2 ^ 0), nD (bt n b1 * 2 ^ 1), nD (bt n b2 * 2 ^ 2), nD (bt n b3 * 2 ^ 3)]) = _
  rw [sum4]
  congr 2
  omega
theorem num_step {n k b0 b1 b2 b3 : Nat} {acc : List PyData} {sv : SV} (ha : acc.length < 1000) (hx : ev T bitsX [.val (nD n), .own acc, .val (nD k), sv] = .ok (.list [nD b0, nD b1, nD b2, nD b3])) (hb : b0 < 20 ∧ b1 < 20 ∧ b2 < 20 ∧ b3 < 20) :
    evSs T numB [.val (nD n), .own acc, .val (nD k), sv] = .next [.val (nD n), .own (acc ++ [qD (qOf (n.testBit b0) (n.testBit b1) (n.testBit b2) (n.testBit b3))]), .val (nD k), .val (.list [nD b0, nD b1, nD b2, nD b3])] := by
  unfold numB
  rw [evSs_next (evS_assign hx)]
  show evSs T _ [.val (nD n), .own acc, .val (nD k), .val (.list [nD b0, nD b1, nD b2, nD b3])] = _
  have e := num_eval (T := T) (σ := [.val (nD n), .own acc, .val (nD k), .val (.list [nD b0, nD b1, nD b2, nD b3])]) (n := n) rfl rfl rfl hb
  rw [evSs_next (evS_append (ds := acc) rfl e (by omega)), evSs_nil]
  have : qD (qOf (n.testBit b0) (n.testBit b1) (n.testBit b2) (n.testBit b3)) = nD (bt n b0 + 2 * bt n b1 + 4 * bt n b2 + 8 * bt n b3) := by
    show nD ((_ + _ + _ + _) % 16) = _
    rw [bt_bit, bt_bit, bt_bit, bt_bit, Nat.mod_eq_of_lt]
    cases n.testBit b0 <;> cases n.testBit b1 <;> cases n.testBit b2 <;> cases n.testBit b3 <;> decide
  rw [this]
  rfl
theorem numbers_eval (n : Nat) : evSs T b_law_numbers (initσ [nD n] d_law_numbers.nm) = .ret (.list ((numL n).map qD)) := by
  have hb : b_law_numbers = [.own 1 (.list [(.bin .Mod (.bin .FloorDiv (.var 0) (.int 4096)) (.int 16))]), .forR 2 0 3 1 numB [], .freeze 1, .ret (.var 1)] := rfl
  rw [hb]
  show evSs T _ [.val (nD n), .un, .un, .un] = _
  have e1 : ev T (.bin .Mod (.bin .FloorDiv (.var 0) (.int 4096)) (.int 16)) [.val (nD n), .un, .un, .un] = .ok (qD (kindQ n)) := by
    have c1 : ∀ τ : List SV, ev T (.int 4096) τ = .ok (nD 4096) := fun _ => ev_int
    have c2 : ∀ τ : List SV, ev T (.int 16) τ = .ok (nD 16) := fun _ => ev_int
    rw [ev_bin (by rw [ev_bin (ev_var rfl) (c1 _)]; exact div_nat (by decide) (by decide)) (c2 _)]
    exact mod_nat (by decide)
  rw [evSs_next (evS_own (i := 1) (ds := [qD (kindQ n)]) (ev_list (evs_cons e1 evs_nil) (by simp)))]
  show evSs T _ [.val (nD n), .own [qD (kindQ n)], .un, .un] = _
  have x0 : ∀ (acc : List PyData) (sv : SV), ev T bitsX [.val (nD n), .own acc, .val (nD 0), sv] = .ok (.list [nD 8, nD 7, nD 6, nD 11]) := fun acc sv => by kernel_rfl
  have x1 : ∀ (acc : List PyData) (sv : SV), ev T bitsX [.val (nD n), .own acc, .val (nD 1), sv] = .ok (.list [nD 5, nD 4, nD 3, nD 10]) := fun acc sv => by kernel_rfl
  have x2 : ∀ (acc : List PyData) (sv : SV), ev T bitsX [.val (nD n), .own acc, .val (nD 2), sv] = .ok (.list [nD 2, nD 1, nD 0, nD 9]) := fun acc sv => by kernel_rfl
  have hf : evS T (.forR 2 0 3 1 numB []) [.val (nD n), .own [qD (kindQ n)], .un, .un] = .next [.val (nD n), .own ((numL n).map qD), .val (nD 2), .val (.list [nD 2, nD 1, nD 0, nD 9])] := by
    rw [evS_forR (by decide +kernel), show rangeD 0 3 1 = [nD 0, nD 1, nD 2] from rfl]
    rw [loopGo_next (σ₁ := [.val (nD n), .own [qD (kindQ n)], .val (nD 0), .un]) rfl (num_step (by simp) (x0 _ _) (by omega))]
    rw [loopGo_next (σ₁ := [.val (nD n), .own ([qD (kindQ n)] ++ [qD (ownQ n 0)]), .val (nD 1), .val (.list [nD 8, nD 7, nD 6, nD 11])]) rfl (num_step (by simp) (x1 _ _) (by omega))]
    rw [loopGo_next (σ₁ := [.val (nD n), .own ([qD (kindQ n)] ++ [qD (ownQ n 0)] ++ [qD (ownQ n 1)]), .val (nD 2), .val (.list [nD 5, nD 4, nD 3, nD 10])]) rfl (num_step (by simp) (x2 _ _) (by omega))]
    rw [loopGo, evSs_nil]; rfl
  rw [evSs_next hf, evSs_next (evS_freeze (i := 1) (ds := (numL n).map qD) rfl)]
  exact evSs_ret (ev_var rfl)
end
end Mine.L2
end
section
open PySem PySem.W PySem.Calls PyProof.Rows
namespace Mine.L2
noncomputable def sixteenD : PyData := .list ((List.finRange 16).map gd)
noncomputable def shownX : X := .list [(.cmp .Eq (.idx (.var 2) (.var 4)) (.str "r")), (.cmp .Eq (.idx (.var 2) (.bin .Add (.var 4) (.int 1))) (.str "w")), (.cmp .In (.idx (.var 2) (.bin .Add (.var 4) (.int 2))) (.str "xst")), (.cmp .In (.idx (.var 2) (.bin .Add (.var 4) (.int 2))) (.str "sStT"))]
noncomputable def gateB : List S := [.assign 5 shownX, .append 3 (.comp (.var 5) (.bool true) (.ite (.var 6) (.int 1) (.int 0)))]
noncomputable def chS (c : Nat) : PyData := .str ⟨#[c]⟩
noncomputable def sgn (s u : Nat) (c d : Bool) : Nat := if c && d then s else if d then u else if c then 120 else 45
theorem is_r : ([true, false].all fun a => match opCmp .Eq (chS (if a then 114 else 45)) (.str "r") with | .ok (.bool b) => a == b | _ => false) = true := by kernel_rfl
theorem is_w : ([true, false].all fun a => match opCmp .Eq (chS (if a then 119 else 45)) (.str "w") with | .ok (.bool b) => a == b | _ => false) = true := by kernel_rfl
theorem is_x : ([true, false].all fun c => [true, false].all fun d => [(115, 83), (116, 84)].all fun (p : Nat × Nat) => (match opCmp .In (chS (sgn p.1 p.2 c d)) (.str "xst") with | .ok (.bool b) => c == b | _ => false) && (match opCmp .In (chS (sgn p.1 p.2 c d)) (.str "sStT") with | .ok (.bool b) => d == b | _ => false)) = true := by kernel_rfl
theorem tell {r : Res} {a : Bool} (h : (match r with | .ok (.bool b) => a == b | _ => false) = true) : r = .ok (.bool a) := by
  split at h
  · rw [eq_of_beq h]
  · cases h
theorem mem2 (a : Bool) : a ∈ [true, false] := by cases a <;> decide
section
variable {T : Tab}
theorem row_gate (a b c d : Bool) : gd (qOf a b c d) = .list ([a, b, c, d].map fun (x : Bool) => PyData.int (if x then 1 else 0)) := by
  cases a <;> cases b <;> cases c <;> cases d <;> kernel_rfl
theorem gate_step {n k s u : Nat} {a b c d : Bool} {acc : List PyData} {w1 sv : SV} (hk : k ≤ 7) (ha : acc.length < 1000) (hsu : (s, u) ∈ [(115, 83), (116, 84)])
    (h1 : charAt n k = if a then 114 else 45) (h2 : charAt n (k + 1) = if b then 119 else 45) (h3 : charAt n (k + 2) = sgn s u c d) :
    evSs T gateB [.val (nD n), w1, .val (.str (fmText (n : Int))), .own acc, .val (nD k), sv] = .next [.val (nD n), w1, .val (.str (fmText (n : Int))), .own (acc ++ [gd (qOf a b c d)]), .val (nD k), .val (.list ([a, b, c, d].map PyData.bool))] := by
  have ix : ∀ (j : Nat) (x : X), j < 10 → ev T x [.val (nD n), w1, .val (.str (fmText (n : Int))), .own acc, .val (nD k), sv] = .ok (nD j) → ev T (.idx (.var 2) x) [.val (nD n), w1, .val (.str (fmText (n : Int))), .own acc, .val (nD k), sv] = .ok (chS (charAt n j)) := fun j x hj hx => by
    rw [ev_idx (ev_var (d := .str (fmText (n : Int))) rfl) hx, idx_nD _ (by omega)]
    show getR ((fmText (n : Int)).cps[j]?.map _) _ = _
    rw [fm_get n j hj]; rfl
  have c1 : ∀ τ : List SV, ev T (.int 1) τ = .ok (nD 1) := fun _ => ev_int
  have c2 : ∀ τ : List SV, ev T (.int 2) τ = .ok (nD 2) := fun _ => ev_int
  have k0 := ix k (.var 4) (by omega) (ev_var rfl)
  have k1 := ix (k + 1) (.bin .Add (.var 4) (.int 1)) (by omega) (by rw [ev_bin (ev_var rfl) (c1 _)]; exact add_nD _ _)
  have k2 := ix (k + 2) (.bin .Add (.var 4) (.int 2)) (by omega) (by rw [ev_bin (ev_var rfl) (c2 _)]; exact add_nD _ _)
  have t3 := List.all_eq_true.mp (List.all_eq_true.mp (List.all_eq_true.mp is_x c (mem2 c)) d (mem2 d)) (s, u) hsu
  have hx : ev T shownX [.val (nD n), w1, .val (.str (fmText (n : Int))), .own acc, .val (nD k), sv] = .ok (.list ([a, b, c, d].map PyData.bool)) := by
    refine ev_list (evs_cons (d := .bool a) ?_ (evs_cons (d := .bool b) ?_ (evs_cons (d := .bool c) ?_ (evs_cons (d := .bool d) ?_ evs_nil)))) (by simp)
    · rw [ev_cmp k0 ev_str, h1]; exact tell (List.all_eq_true.mp is_r a (mem2 a))
    · rw [ev_cmp k1 ev_str, h2]; exact tell (List.all_eq_true.mp is_w b (mem2 b))
    · rw [ev_cmp k2 ev_str, h3]; exact tell (andL t3)
    · rw [ev_cmp k2 ev_str, h3]; exact tell (andR t3)
  unfold gateB
  rw [evSs_next (evS_assign hx)]
  show evSs T _ [.val (nD n), w1, .val (.str (fmText (n : Int))), .own acc, .val (nD k), .val (.list ([a, b, c, d].map PyData.bool))] = _
  have hc : ev T (.comp (.var 5) (.bool true) (.ite (.var 6) (.int 1) (.int 0))) [.val (nD n), w1, .val (.str (fmText (n : Int))), .own acc, .val (nD k), .val (.list ([a, b, c, d].map PyData.bool))] = .ok (gd (qOf a b c d)) := by
    rw [row_gate]
    refine ev_comp (ds := [a, b, c, d].map PyData.bool) (ev_var rfl) (by simp) ?_
    refine compGo_m PyData.bool (fun (x : Bool) => PyData.int (if x then 1 else 0)) fun x _ => ?_
    rw [ev_ite (ev_var (d := .bool x) rfl)]
    cases x with
    | true => simp only [if_true]; exact ev_int
    | false => simp only [Bool.false_eq_true, if_false]; exact ev_int
  rw [evSs_next (evS_append (ds := acc) rfl hc (by omega)), evSs_nil]
  rfl
theorem kind_val (n : Nat) : (n &&& 61440) / 4096 = n / 4096 % 16 := by
  apply Nat.eq_of_testBit_eq
  intro i
  rw [show 4096 = 2 ^ 12 from rfl, show 16 = 2 ^ 4 from rfl, Nat.testBit_div_two_pow, Nat.testBit_and, Nat.testBit_mod_two_pow, Nat.testBit_div_two_pow]
  have e : Nat.testBit 61440 (12 + i) = decide (i < 4) := by
    rw [show (61440 : Nat) = 2 ^ 12 * 15 from rfl, Nat.testBit_two_pow_mul]
    have : Nat.testBit 15 i = decide (i < 4) := by rw [show 15 = 2 ^ 4 - 1 from rfl, Nat.testBit_two_pow_sub_one]
    simp [this]
  rw [Nat.add_comm i 12, e, Bool.and_comm]
theorem fin16_get (q : Fin 16) : (List.finRange 16)[q.val]? = some q := by
  rw [List.getElem?_eq_getElem (by rw [List.length_finRange]; exact q.isLt), List.getElem_finRange]; rfl
theorem gates_eval (n : Nat) (K : TG T) (h0 : T.F 0 [nD n] = some (nD (n &&& 61440))) (h1 : T.F 1 [nD n] = some (.str (fmText (n : Int)))) : evSs T b_law_gates (initσ [nD n, sixteenD] d_law_gates.nm) = .ret (.list ((dedupL (numL n)).map gd)) := by
  have hb : b_law_gates = [.assign 2 (.call 1 [(.var 0)]), .own 3 (.list [(.idx (.var 1) (.bin .FloorDiv (.call 0 [(.var 0)]) (.int 4096)))]), .forR 4 1 10 3 gateB [], .freeze 3, .ret (.call 2 [(.var 3)])] := rfl
  rw [hb]
  show evSs T _ [.val (nD n), .val sixteenD, .un, .un, .un, .un] = _
  rw [evSs_next (evS_assign (ev_call (evs_cons (ev_var rfl) evs_nil) h1))]
  show evSs T _ [.val (nD n), .val sixteenD, .val (.str (fmText (n : Int))), .un, .un, .un] = _
  have e1 : ev T (.idx (.var 1) (.bin .FloorDiv (.call 0 [(.var 0)]) (.int 4096))) [.val (nD n), .val sixteenD, .val (.str (fmText (n : Int))), .un, .un, .un] = .ok (gd (kindQ n)) := by
    have c1 : ∀ τ : List SV, ev T (.int 4096) τ = .ok (nD 4096) := fun _ => ev_int
    rw [ev_idx (ev_var (d := sixteenD) rfl) (by rw [ev_bin (ev_call (evs_cons (ev_var rfl) evs_nil) h0) (c1 _)]; exact div_nat (by decide) (by decide)), kind_val]
    exact idx_list gd (List.finRange 16) (k := n / 4096 % 16) (fin16_get (kindQ n)) (by omega)
  rw [evSs_next (evS_own (i := 3) (ds := [gd (kindQ n)]) (ev_list (evs_cons e1 evs_nil) (by simp)))]
  show evSs T _ [.val (nD n), .val sixteenD, .val (.str (fmText (n : Int))), .own [gd (kindQ n)], .un, .un] = _
  have hA := fm_at n
  have key : ∀ j, charAt n (j + 1) = (tabs.map (charN (n : Int))).getD j 0 := fun j => rfl
  have at' : ∀ j, charAt n (j + 1) = _ := fun j => (key j).trans (by rw [hA])
  have hf : ∃ sv, evS T (.forR 4 1 10 3 gateB []) [.val (nD n), .val sixteenD, .val (.str (fmText (n : Int))), .own [gd (kindQ n)], .un, .un] = .next [.val (nD n), .val sixteenD, .val (.str (fmText (n : Int))), .own ((numL n).map gd), .val (nD 7), sv] := by
    refine ⟨.val (.list ([n.testBit 2, n.testBit 1, n.testBit 0, n.testBit 9].map PyData.bool)), ?_⟩
    rw [evS_forR (by decide +kernel), show rangeD 1 10 3 = [nD 1, nD 4, nD 7] from rfl]
    rw [loopGo_next (σ₁ := [.val (nD n), .val sixteenD, .val (.str (fmText (n : Int))), .own [gd (kindQ n)], .val (nD 1), .un]) rfl (gate_step (s := 115) (u := 83) (a := n.testBit 8) (b := n.testBit 7) (c := n.testBit 6) (d := n.testBit 11) (by omega) (by simp) (by simp) (at' 0) (at' 1) (at' 2))]
    rw [loopGo_next (σ₁ := [.val (nD n), .val sixteenD, .val (.str (fmText (n : Int))), .own ([gd (kindQ n)] ++ [gd (ownQ n 0)]), .val (nD 4), .val (.list ([n.testBit 8, n.testBit 7, n.testBit 6, n.testBit 11].map PyData.bool))]) rfl (gate_step (s := 115) (u := 83) (a := n.testBit 5) (b := n.testBit 4) (c := n.testBit 3) (d := n.testBit 10) (by omega) (by simp) (by simp) (at' 3) (at' 4) (at' 5))]
    rw [loopGo_next (σ₁ := [.val (nD n), .val sixteenD, .val (.str (fmText (n : Int))), .own ([gd (kindQ n)] ++ [gd (ownQ n 0)] ++ [gd (ownQ n 1)]), .val (nD 7), .val (.list ([n.testBit 5, n.testBit 4, n.testBit 3, n.testBit 10].map PyData.bool))]) rfl (gate_step (s := 116) (u := 84) (a := n.testBit 2) (b := n.testBit 1) (c := n.testBit 0) (d := n.testBit 9) (by omega) (by simp) (by simp) (at' 6) (at' 7) (at' 8))]
    rw [loopGo, evSs_nil]; rfl
  obtain ⟨sv, hf⟩ := hf
  rw [evSs_next hf, evSs_next (evS_freeze (i := 3) (ds := (numL n).map gd) rfl)]
  exact evSs_ret (ev_call (evs_cons (ev_var rfl) evs_nil) (K.dd _ (by simp [numL])))
end
end Mine.L2
end
section
open PySem PySem.W PySem.Calls PyProof.Rows
namespace Mine.L2
/-! what the defs yield -/
theorem f_ifmt (k n : Nat) : Fn defs gn gv (k + 1) 0 [nD n] = some (nD (n &&& 61440)) := by
  refine fn_of (d := d_S_IFMT) rfl rfl ?_
  refine evSs_ret ?_
  have c : ∀ τ : List SV, ev (Tn defs gn gv k) (.int 61440) τ = .ok (nD 61440) := fun _ => ev_int
  rw [ev_bin (ev_var (d := nD n) rfl) (c _)]
  show Res.ok (.int (Builtin.bitAnd (n : Int) (61440 : Int))) = _
  rw [bitAnd_pp (Int.natCast_nonneg _) (by decide)]
  rfl
theorem f_mode (k n : Nat) : Fn defs gn gv (k + 2) 1 [nD n] = some (.str (fmText (n : Int))) := by
  refine fn_of (d := d_filemode) rfl rfl (filemode_eval rfl (n : Int) ?_)
  have := f_ifmt k n
  refine this.trans ?_
  show some (PyData.int ((n &&& 61440 : Nat) : Int)) = some (.int (Builtin.bitAnd (n : Int) 61440))
  rw [bitAnd_pp (Int.natCast_nonneg _) (by decide)]
  rfl
theorem f_dedup {α : Type} [DecidableEq α] {f : α → PyData} (e : Enc f) (k : Nat) (l : List α) (hl : l.length ≤ 50000) : Fn defs gn gv (k + 1) 2 [.list (l.map f)] = some (.list ((dedupL l).map f)) :=
  fn_of (d := d_deduplicate_unhashable) rfl rfl (dedup_eval e l hl)
theorem tg (k : Nat) : TG (Tn defs gn gv (k + 1)) := ⟨fun l hl => f_dedup encG k l hl⟩
theorem f_compare (k : Nat) (a b : List (Fin 16)) (ha : a.length ≤ 50000) (hb : b.length ≤ 50000) : Fn defs gn gv (k + 2) 3 [.list (a.map gd), .list (b.map gd)] = some (.bool (sameL a b)) :=
  fn_of (d := d_compare_args_orderless) rfl rfl (compare_eval encG (fun l hl => f_dedup encG k l hl) a b ha hb)
theorem f_gates (k n : Nat) : Fn defs gn gv (k + 3) 5 [nD n, sixteenD] = some (.list ((dedupL (numL n)).map gd)) :=
  fn_of (d := d_law_gates) rfl rfl (gates_eval n (tg (k + 1)) (f_ifmt (k + 1) n) (f_mode k n))
theorem f_made (k : Nat) (l : List (Fin 16)) (hl : l.length ≤ 16) : Fn defs gn gv (k + 2) 6 [.list (l.map gd)] = some (.list ((madeL l).map gd)) :=
  fn_of (d := d_law_made) rfl rfl (made_eval (tg k) l hl)
theorem f_numbers (k n : Nat) : Fn defs gn gv (k + 1) 7 [nD n] = some (.list ((numL n).map qD)) :=
  fn_of (d := d_law_numbers) rfl rfl (numbers_eval n)
/-! sorted gates -/
noncomputable def rank (q : Fin 16) : Int := ((8 * bt q.val 0 + 4 * bt q.val 1 + 2 * bt q.val 2 + bt q.val 3 : Nat) : Int)
noncomputable def order16 : List (Fin 16) := [0, 8, 4, 12, 2, 10, 6, 14, 1, 9, 5, 13, 3, 11, 7, 15]
theorem order_all : (order16.length == 16 && allF fun q => order16.contains q) = true := by decide +kernel
theorem mem_order (q : Fin 16) : q ∈ order16 := List.contains_iff_mem.mp (allF_at (andR order_all) q)
theorem order_nodup : order16.Nodup := by decide +kernel
theorem order_sorted : (order16.map rank).Pairwise (· ≤ ·) := by decide +kernel
theorem rank_inj_all : (allF fun p => allF fun q => p == q || !(rank p == rank q)) = true := by decide +kernel
theorem rank_inj {p q : Fin 16} (h : rank p = rank q) : p = q := by
  have := allF_at (allF_at rank_inj_all p) q
  rw [h] at this
  simpa using this
theorem unbits_all : (List.finRange 16).map (fun q => unbits (rank q)) = (List.finRange 16).map gd := by kernel_rfl
theorem unbits_rank (q : Fin 16) : unbits (rank q) = gd q := List.map_inj_left.mp unbits_all q (List.mem_finRange q)
noncomputable def gdL (q : Fin 16) : List PyData := [.int (bt q.val 0), .int (bt q.val 1), .int (bt q.val 2), .int (bt q.val 3)]
theorem bits4_all : (List.finRange 16).map (fun q => bits4 (gdL q)) = (List.finRange 16).map fun q => some (rank q) := by kernel_rfl
theorem bitsOf_gd : ∀ l : List (Fin 16), bitsOf (l.map gd) = some (l.map rank)
  | [] => rfl
  | q :: l => by
    have h1 : bits4 (gdL q) = some (rank q) := List.map_inj_left.mp bits4_all q (List.mem_finRange q)
    have h2 := bitsOf_gd l
    show (bits4 (gdL q)).bind (fun m => (bitsOf (l.map gd)).map (m :: ·)) = _
    rw [h1, h2]; rfl
noncomputable def sorted16 (l : List (Fin 16)) : List (Fin 16) := order16.filter fun q => l.contains q
theorem nodup_map_rank {l : List (Fin 16)} (h : l.Nodup) : (l.map rank).Nodup := by
  induction l with
  | nil => exact List.nodup_nil
  | cons a l ih =>
    obtain ⟨h1, h2⟩ := List.nodup_cons.mp h
    rw [List.map_cons]
    refine List.nodup_cons.mpr ⟨fun q => ?_, ih h2⟩
    obtain ⟨b, hb, e⟩ := List.mem_map.mp q
    exact h1 (rank_inj e ▸ hb)
theorem sorted_eval {l : List (Fin 16)} (hn : l.Nodup) (h2 : 2 ≤ l.length) : opBi .sorted (.list (l.map gd)) = .ok (.list ((sorted16 l).map gd)) := by
  have hl := length16 hn
  have hi : intsOf (l.map gd) = none := by
    cases l with
    | nil => simp at h2
    | cons a l => rfl
  have hb := bitsOf_gd l
  have e : opBi .sorted (.list (l.map gd)) = sortB (l.map gd) := by simp only [opBi]; rw [hi]
  rw [e]
  unfold sortB
  rw [hb]
  dsimp only
  rw [if_pos ⟨by simpa using h2, by simp; omega, nodup_map_rank hn⟩]
  have hs : sortI (l.map rank) = (sorted16 l).map rank := by
    refine sorted_unique ((sortI_perm _).trans (List.Perm.map _ ?_)) (sortI_sorted _) ?_
    · refine (List.perm_ext_iff_of_nodup hn (order_nodup.filter _)).mpr fun q => ?_
      rw [List.mem_filter]
      exact ⟨fun h => ⟨mem_order q, List.contains_iff_mem.mpr h⟩, fun h => List.contains_iff_mem.mp h.2⟩
    · exact List.Pairwise.sublist (List.Sublist.map _ List.filter_sublist) order_sorted
  rw [hs, List.map_map]
  congr 2
  exact List.map_congr_left fun q _ => unbits_rank q
/-! the table of what the states have -/
noncomputable def lackL (C : Nat) : List (Fin 16) := order16.filter fun q => !(dueC C).contains q
theorem sld_all (T : Tab) : states.map (fun C => evSs T b_sorted_list_difference (initσ [.list (order16.map gd), .list ((sorted16 (dueC C)).map gd)] d_sorted_list_difference.nm)) = states.map fun C => .ret (.tuple [.list ((lackL C).map gd), .list []]) := by kernel_rfl
theorem f_sld (k : Nat) {C : Nat} (hC : C ∈ states) : Fn defs gn gv (k + 1) 4 [.list (order16.map gd), .list ((sorted16 (dueC C)).map gd)] = some (.tuple [.list ((lackL C).map gd), .list []]) :=
  fn_of (d := d_sorted_list_difference) rfl rfl (List.map_inj_left.mp (sld_all _) C hC)
theorem lack_all : (states.all fun C => (lackL C).isEmpty == !((List.range 5).any fun p => C.testBit p)) = true := by decide +kernel
noncomputable def commonD (C : Nat) : PyData := .list ((List.range 10).map fun p => .bool (C.testBit p))
theorem common_all : (states.all fun C => states.all fun B => (PyData.eqv (commonD C) (commonD B) == (C == B)) && okD (commonD C)) = true := by decide +kernel
/-- the lambdas tell the properties -/
theorem lams_all : ((List.range 10).all fun i => allF fun q => match lams[i]? with
  | some x => (match ev (Tn defs gn gv 5) x (initσ [gd q] ["g"]) with
    | .ok (.bool b) => (propsOf q).testBit i == b
    | _ => false)
  | none => false) = true := by kernel_rfl
theorem lams_at {i : Nat} (hi : i < 10) (q : Fin 16) : ∃ x, lams[i]? = some x ∧ ev (Tn defs gn gv 5) x (initσ [gd q] ["g"]) = .ok (.bool ((propsOf q).testBit i)) := by
  have h := allF_at (List.all_eq_true.mp lams_all i (List.mem_range.mpr hi)) q
  cases hx : lams[i]? with
  | none => rw [hx] at h; cases h
  | some x =>
    rw [hx] at h
    dsimp only at h
    exact ⟨x, rfl, tell h⟩
end Mine.L2
end
section
open PySem PySem.W PySem.Calls PyProof.Rows
namespace Mine.L2
noncomputable def rowD (q : Fin 16) : PyData := .list ((List.range 10).map fun i => .bool ((propsOf q).testBit i))
noncomputable def hasD : PyData := .list ((List.finRange 16).map rowD)
noncomputable def hasX : X := .comp (.var 1) (.bool true) (.comp (.var 2) (.bool true) (.callV 15 (.var 14)))
noncomputable def commonX : X := .compR 0 10 1 (.bool true) (.cmp .Eq (.comp (.var 8) (.not (.idx (.idx (.var 3) (.var 15)) (.var 14))) (.var 15)) (.list []))
noncomputable def dueX : X := .cmp .Eq (.compR 0 10 1 (.and (.idx (.var 9) (.var 14)) (.not (.idx (.idx (.var 3) (.var 11)) (.var 14)))) (.var 14)) (.list [])
noncomputable def dueB : List S := [.ite dueX [.append 10 (.idx (.var 1) (.var 11))] []]
theorem row_get {p : Nat} (hp : p < 10) (q : Fin 16) : opIdx (rowD q) (nD p) = .ok (.bool ((propsOf q).testBit p)) :=
  idx_list (fun i => PyData.bool ((propsOf q).testBit i)) (List.range 10) (a := p) (by rw [List.getElem?_eq_getElem (by rw [List.length_range]; exact hp), List.getElem_range]) (by omega)
theorem has_get (q : Fin 16) : opIdx hasD (qD q) = .ok (rowD q) := idx_list rowD (List.finRange 16) (k := q.val) (fin16_get q) (by omega)
theorem six_get (q : Fin 16) : opIdx sixteenD (qD q) = .ok (gd q) := idx_list gd (List.finRange 16) (k := q.val) (fin16_get q) (by omega)
theorem common_get {p : Nat} (hp : p < 10) (C : Nat) : opIdx (commonD C) (nD p) = .ok (.bool (C.testBit p)) :=
  idx_list (fun i => PyData.bool (C.testBit i)) (List.range 10) (a := p) (by rw [List.getElem?_eq_getElem (by rw [List.length_range]; exact hp), List.getElem_range]) (by omega)
section
variable {as : List Nat} {σ : List SV}
noncomputable abbrev TT (as : List Nat) : Tab := TL defs gn gv lams 5 as
theorem lam_eval (hl : as.length = 10) (hn : as.Nodup) {i : Nat} (hi : i < 10) (q : Fin 16) : (TT as).L (as.getD i 0) [gd q] = some (.bool ((propsOf q).testBit i)) := by
  obtain ⟨x, hx, he⟩ := lams_at hi q
  show Ln lams (Tn defs gn gv 5) as (as.getD i 0) [gd q] = _
  unfold Ln
  have hil : i < as.length := by omega
  have e : as.getD i 0 = as[i] := by rw [List.getD_eq_getElem?_getD, List.getElem?_eq_getElem hil]; rfl
  have hf : as.findIdx? (· == as.getD i 0) = some i := by
    rw [List.findIdx?_eq_some_iff_getElem]
    refine ⟨hil, by rw [e]; exact beq_self_eq_true _, fun j hj => ?_⟩
    rw [e]
    intro z
    exact List.pairwise_iff_getElem.mp hn j i (by omega) hil hj (eq_of_beq z)
  rw [hf]
  dsimp only
  rw [hx]
  dsimp only
  rw [if_pos (show [gd q].length = 1 from rfl), he]
theorem has_eval (hl : as.length = 10) (hn : as.Nodup) (h1 : σ[1]? = some (.val sixteenD)) (h2 : σ[2]? = some (.val (.list (as.map fnD)))) (hs : σ.length = 14) : ev (TT as) hasX σ = .ok hasD := by
  have up : ∀ {i : Nat} {sv : SV} {d : PyData}, σ[i]? = some sv → (σ ++ [.val d])[i]? = some sv := fun {i sv d} h => by
    rw [List.getElem?_append_left (List.getElem?_eq_some_iff.mp h).1]; exact h
  unfold hasX
  refine ev_comp (ds := (List.finRange 16).map gd) (ev_var h1) (by simp) ?_
  refine compGo_m gd rowD fun q _ => ?_
  have hfn : as.map fnD = (List.range 10).map fun i => fnD (as.getD i 0) := by
    apply List.ext_getElem
    · simp [hl]
    · intro i h1 h2
      have : i < as.length := by simpa using h1
      rw [List.getElem_map, List.getElem_map, List.getElem_range, List.getD_eq_getElem?_getD, List.getElem?_eq_getElem this]; rfl
  refine ev_comp (ds := as.map fnD) (ev_var (up h2)) (by simp; omega) ?_
  rw [hfn]
  refine compGo_m (fun i => fnD (as.getD i 0)) (fun i => PyData.bool ((propsOf q).testBit i)) fun i hi => ?_
  have hi10 : i < 10 := List.mem_range.mp hi
  have g15 : (σ ++ [.val (gd q)] ++ [.val (fnD (as.getD i 0))])[15]? = some (.val (fnD (as.getD i 0))) := by
    rw [List.getElem?_append_right (by simp; omega)]; simp [hs]
  have g14 : (σ ++ [.val (gd q)] ++ [.val (fnD (as.getD i 0))])[14]? = some (.val (gd q)) := by
    rw [List.getElem?_append_left (by simp; omega), List.getElem?_append_right (by omega), hs]; rfl
  rw [evq_callV, g15]
  dsimp only
  have hf : fnOfD (fnD (as.getD i 0)) = some (as.getD i 0) := by
    show some ((as.getD i 0 : Nat) : Int).toNat = _
    rw [Int.toNat_natCast]
  rw [hf]
  dsimp only
  rw [ev_var g14, Res.then_ok, lam_eval hl hn hi10 q]
variable {T : Tab}
theorem common_eval {l : List (Fin 16)} (h3 : σ[3]? = some (.val hasD)) (h8 : σ[8]? = some (.val (.list (l.map qD)))) (hs : σ.length = 14) (hl : l.length ≤ 16) : ev T commonX σ = .ok (commonD (cm l)) := by
  have up : ∀ {τ : List SV} {i : Nat} {sv : SV} {d : PyData}, τ[i]? = some sv → (τ ++ [.val d])[i]? = some sv := fun {τ i sv d} h => by
    rw [List.getElem?_append_left (List.getElem?_eq_some_iff.mp h).1]; exact h
  refine ev_compR (by decide +kernel) ?_
  rw [show rangeD 0 10 1 = (List.range 10).map nD from range_nD 10]
  refine compGo_m nD (fun p => PyData.bool ((cm l).testBit p)) fun p hp => ?_
  have hp10 : p < 10 := List.mem_range.mp hp
  have hc : ev T (.comp (.var 8) (.not (.idx (.idx (.var 3) (.var 15)) (.var 14))) (.var 15)) (σ ++ [.val (nD p)]) = .ok (.list ((l.filter fun q => !(propsOf q).testBit p).map qD)) := by
    refine ev_comp (ds := l.map qD) (ev_var (up h8)) (by simp; omega) ?_
    have g14 : ∀ d, (σ ++ [.val (nD p)] ++ [.val d])[14]? = some (.val (nD p)) := fun d => by
      rw [List.getElem?_append_left (by simp; omega), List.getElem?_append_right (by omega), hs]; rfl
    have g15 : ∀ d, (σ ++ [.val (nD p)] ++ [.val d])[15]? = some (.val d) := fun d => by
      rw [List.getElem?_append_right (by simp; omega)]; simp [hs]
    refine compGo_fm qD (fun q => !(propsOf q).testBit p) qD (fun q _ => ?_) fun q _ _ => ev_var (g15 _)
    have e1 : ev T (.idx (.var 3) (.var 15)) (σ ++ [.val (nD p)] ++ [.val (qD q)]) = .ok (rowD q) := by
      rw [ev_idx (ev_var (up (up h3))) (ev_var (g15 _))]; exact has_get q
    refine ev_not (x := .bool ((propsOf q).testBit p)) ?_ rfl
    rw [ev_idx e1 (ev_var (g14 _))]; exact row_get hp10 q
  rw [ev_cmp hc ev_nil, cmp_nil (encN.okL _), cm_bit l hp10]
  congr 2
  rw [Bool.eq_iff_iff, List.isEmpty_iff, List.map_eq_nil_iff, List.filter_eq_nil_iff, List.all_eq_true]
  simp
theorem due_cond {C : Nat} {q : Fin 16} (hC : sub2 C 1023 = true) (h3 : σ[3]? = some (.val hasD)) (h9 : σ[9]? = some (.val (commonD C))) (h11 : σ[11]? = some (.val (qD q))) (hs : σ.length = 14) : ev T dueX σ = .ok (.bool (sub2 C (propsOf q))) := by
  have up : ∀ {τ : List SV} {i : Nat} {sv : SV} {d : PyData}, τ[i]? = some sv → (τ ++ [.val d])[i]? = some sv := fun {τ i sv d} h => by
    rw [List.getElem?_append_left (List.getElem?_eq_some_iff.mp h).1]; exact h
  have hc : ev T (.compR 0 10 1 (.and (.idx (.var 9) (.var 14)) (.not (.idx (.idx (.var 3) (.var 11)) (.var 14)))) (.var 14)) σ = .ok (.list (((List.range 10).filter fun p => C.testBit p && !(propsOf q).testBit p).map nD)) := by
    refine ev_compR (by decide +kernel) ?_
    rw [show rangeD 0 10 1 = (List.range 10).map nD from range_nD 10]
    have g14 : ∀ d, (σ ++ [.val d])[14]? = some (.val d) := fun d => by rw [List.getElem?_append_right (by omega), hs]; rfl
    refine compGo_fm nD (fun p => C.testBit p && !(propsOf q).testBit p) nD (fun p hp => ?_) fun p _ _ => ev_var (g14 _)
    have hp10 : p < 10 := List.mem_range.mp hp
    refine ev_and ?_ fun _ => ?_
    · rw [ev_idx (ev_var (up h9)) (ev_var (g14 _))]; exact common_get hp10 C
    · have e1 : ev T (.idx (.var 3) (.var 11)) (σ ++ [.val (nD p)]) = .ok (rowD q) := by
        rw [ev_idx (ev_var (up h3)) (ev_var (up h11))]; exact has_get q
      refine ev_not (x := .bool ((propsOf q).testBit p)) ?_ rfl
      rw [ev_idx e1 (ev_var (g14 _))]; exact row_get hp10 q
  have ok : okD (.list (((List.range 10).filter fun p => C.testBit p && !(propsOf q).testBit p).map nD)) = true := by
    unfold okD okN
    rw [List.all_eq_true]
    intro x hx
    obtain ⟨p, _, rfl⟩ := List.mem_map.mp hx
    rfl
  unfold dueX
  rw [ev_cmp hc ev_nil, cmp_nil ok]
  congr 2
  rw [Bool.eq_iff_iff, List.isEmpty_iff, List.map_eq_nil_iff, List.filter_eq_nil_iff, sub2_iff]
  rw [sub2_iff] at hC
  constructor
  · intro h i hi
    have hi10 : i < 10 := by
      have h1 := hC i hi
      rcases Nat.lt_or_ge i 10 with z | z
      · exact z
      · have h2 : Nat.testBit 1023 i = false := Nat.testBit_lt_two_pow (Nat.lt_of_lt_of_le (by decide : 1023 < 2 ^ 10) (Nat.pow_le_pow_right (by decide) z))
        rw [h2] at h1; cases h1
    have := h i (List.mem_range.mpr hi10)
    simpa [hi] using this
  · intro h p _
    cases q1 : C.testBit p with
    | false => simp
    | true => simp [h p q1]
end
end Mine.L2
end
section
open PySem PySem.W PySem.Calls PyProof.Rows
namespace Mine.L2
theorem cm_top (l : List (Fin 16)) : sub2 (cm l) 1023 = true := by
  have h := (up_proj (l := l)).1
  rwa [eq_of_beq (andL (andL proj_props))] at h
theorem cm_dedup (l : List (Fin 16)) : cm (dedupL l) = cm l := by
  apply Nat.eq_of_testBit_eq
  intro i
  unfold cm
  rw [cmF_bit, cmF_bit]
  congr 1
  rw [Bool.eq_iff_iff, List.all_eq_true, List.all_eq_true]
  exact ⟨fun h x hx => h x (mem_dedupL.mpr hx), fun h x hx => h x (mem_dedupL.mp hx)⟩
noncomputable def modeN (x : Int) : Nat := (x.fmod 4294967296).toNat
noncomputable def lN (x : Int) : List (Fin 16) := dedupL (numL (modeN x))
noncomputable def cN (x : Int) : Nat := cm (lN x)
noncomputable def tupD (x : Int) : PyData := .tuple [.list ((madeL (lN x)).map gd), commonD (cN x)]
noncomputable def callsX : X := .call 6 [(.call 5 [(.var 6), (.var 1)])]
noncomputable def lackX : X := .or (.cmp .NotEq (.var 13) (.list [])) (.cmp .NotEq (.var 12) (.comp (.bi .sorted (.var 1)) (.cmp .NotIn (.var 14) (.var 10)) (.var 14)))
noncomputable def fiveX : X := .cmp .Is (.cmp .Eq (.var 12) (.list [])) (.cmp .In (.bool true) (.slice (.var 9) .nothing (.int 5)))
noncomputable def loopB : List S := [.assign 6 (.bin .Mod (.var 5) (.bin .Pow (.int 2) (.int 32))), .assign 7 callsX, .assign 8 (.call 7 [(.var 6)]), .assign 9 commonX, .own 10 (.list []), .forR 11 0 16 1 dueB [], .freeze 10,
  .ite (.cmp .IsNot (.call 3 [(.var 7), (.var 10)]) (.bool true)) [.ret (.bool false)] [], .unpack2 12 13 (.call 4 [(.bi .sorted (.var 1)), (.bi .sorted (.var 7))]), .ite lackX [.ret (.bool false)] [], .ite fiveX [.ret (.bool false)] [], .append 4 (.tup [(.var 7), (.var 9)])]
theorem eqv_self (l : List (Fin 16)) : PyData.eqv (.list (l.map gd)) (.list (l.map gd)) = true := by
  have go : ∀ l : List (Fin 16), PyData.eqvAll (l.map gd) (l.map gd) = true := by
    intro l
    induction l with
    | nil => rfl
    | cons a l ih =>
      rw [List.map_cons, PyData.eqvAll, ih, encG.eqv]
      simp
  rw [PyData.eqv]; exact go l
section
variable {as : List Nat} {script : PyData}
theorem mode_eval (x : Int) {σ : List SV} {T : Tab} (h : σ[5]? = some (.val (.int x))) : ev T (.bin .Mod (.var 5) (.bin .Pow (.int 2) (.int 32))) σ = .ok (nD (modeN x)) := by
  have c1 : ev T (.int 2) σ = .ok (nD 2) := ev_int
  have c2 : ev T (.int 32) σ = .ok (nD 32) := ev_int
  rw [ev_bin (ev_var h) (by rw [ev_bin c1 c2]; exact pow_nat (by decide) (by decide))]
  show (if ((2 ^ 32 : Nat) : Int) ≠ 0 then Res.ok (.int (x.fmod ((2 ^ 32 : Nat) : Int))) else .bad) = _
  rw [if_pos (by decide)]
  show Res.ok (.int (x.fmod 4294967296)) = Res.ok (.int ((modeN x : Nat) : Int))
  have : 0 ≤ x.fmod 4294967296 := Int.fmod_nonneg_of_pos _ (by decide)
  unfold modeN
  rw [Int.toNat_of_nonneg this]
theorem due_loop {T : Tab} {C : Nat} (hC : sub2 C 1023 = true) {s0 s2 s4 s5 s6 s7 s8 v11 v12 v13 : SV} :
    ∃ w11, evS T (.forR 11 0 16 1 dueB []) [s0, .val sixteenD, s2, .val hasD, s4, s5, s6, s7, s8, .val (commonD C), .own [], v11, v12, v13] = .next [s0, .val sixteenD, s2, .val hasD, s4, s5, s6, s7, s8, .val (commonD C), .own ((dueC C).map gd), w11, v12, v13] := by
  have hloop := loopGo_inv (i := 11) qD (fun (acc : List (Fin 16)) sv => [s0, .val sixteenD, s2, .val hasD, s4, s5, s6, s7, s8, .val (commonD C), .own (acc.map gd), sv, v12, v13]) (fun acc q => if sub2 C (propsOf q) then acc ++ [q] else acc) (fun r acc => acc.length + r.length ≤ 16)
    (body := fun σ => evSs T dueB σ) (orelse := fun σ => evSs T [] σ) (fun _ _ _ => rfl) (fun q r acc hI => ?_) (List.finRange 16) [] v11 (by simp)
  · refine ⟨lastV qD (List.finRange 16) v11, ?_⟩
    rw [evS_forR (by decide +kernel), show rangeD 0 16 1 = (List.finRange 16).map qD from rfl]
    rw [foldl_filter, evSs_nil] at hloop
    exact hloop
  · have hc := due_cond (T := T) (σ := [s0, .val sixteenD, s2, .val hasD, s4, s5, s6, s7, s8, .val (commonD C), .own (acc.map gd), .val (qD q), v12, v13]) (C := C) (q := q) hC rfl rfl rfl rfl
    simp only [List.length_cons] at hI
    by_cases z : sub2 C (propsOf q) = true
    · refine ⟨?_, by simp only [if_pos z, List.length_append, List.length_cons, List.length_nil]; omega⟩
      simp only [if_pos z]
      unfold dueB
      rw [evSs_next (σ' := [s0, .val sixteenD, s2, .val hasD, s4, s5, s6, s7, s8, .val (commonD C), .own ((acc ++ [q]).map gd), .val (qD q), v12, v13]), evSs_nil]
      rw [evS_ite hc (t := true) (by rw [z]; rfl)]
      simp only [if_true]
      rw [evSs_next (evS_append (ds := acc.map gd) rfl (d := gd q) (by rw [ev_idx (ev_var rfl) (ev_var rfl)]; exact six_get q) (by simp; omega)), evSs_nil]
      simp
    · refine ⟨?_, by simp only [if_neg z]; omega⟩
      simp only [if_neg z]
      unfold dueB
      rw [evSs_next (σ' := [s0, .val sixteenD, s2, .val hasD, s4, s5, s6, s7, s8, .val (commonD C), .own (acc.map gd), .val (qD q), v12, v13]), evSs_nil]
      rw [evS_ite hc (t := false) (by rw [Bool.eq_false_iff.mpr z]; rfl)]
      simp only [Bool.false_eq_true, if_false]
      exact evSs_nil
theorem six_sorted : opBi .sorted sixteenD = .ok (.list (order16.map gd)) := by
  have h := sorted_eval (l := List.finRange 16) (List.nodup_finRange 16) (by decide)
  rw [show sorted16 (List.finRange 16) = order16 by decide +kernel] at h
  exact h
theorem made_two (l : List (Fin 16)) : 2 ≤ (madeL l).length := by
  have M := made_end l
  have := nodup_length [10, 12] (madeL l) (by decide) fun x hx => by
    rcases List.mem_cons.mp hx with rfl | hx
    · exact M.p1
    · rw [List.mem_singleton.mp hx]; exact M.p2
  exact this
theorem made_sorted (l : List (Fin 16)) : opBi .sorted (.list ((madeL l).map gd)) = .ok (.list ((sorted16 (dueC (cm l))).map gd)) := by
  rw [sorted_eval (made_end l).nd (made_two l)]
  congr 3
  unfold sorted16
  refine List.filter_congr fun q _ => ?_
  rw [Bool.eq_iff_iff, List.contains_iff_mem, List.contains_iff_mem]
  exact made_due l q
theorem made_same (l : List (Fin 16)) : sameL (madeL l) (dueC (cm l)) = true := sameL_iff.mpr (made_due l)
theorem lack_eval {T : Tab} {C : Nat} {σ : List SV} (h1 : σ[1]? = some (.val sixteenD)) (h10 : σ[10]? = some (.val (.list ((dueC C).map gd)))) (h12 : σ[12]? = some (.val (.list ((lackL C).map gd)))) (h13 : σ[13]? = some (.val (.list []))) (hs : σ.length = 14) : ev T lackX σ = .ok (.bool false) := by
  have up : ∀ {τ : List SV} {i : Nat} {sv : SV} {d : PyData}, τ[i]? = some sv → (τ ++ [.val d])[i]? = some sv := fun {τ i sv d} h => by
    rw [List.getElem?_append_left (List.getElem?_eq_some_iff.mp h).1]; exact h
  refine ev_or (p := false) (q := false) ?_ fun _ => ?_
  · rw [ev_cmp (ev_var h13) ev_nil]; exact cmp_nil' (ds := []) rfl
  · have e1 : ev T (.bi .sorted (.var 1)) σ = .ok (.list (order16.map gd)) := by rw [ev_bi (ev_var h1)]; exact six_sorted
    have hc : ev T (.comp (.bi .sorted (.var 1)) (.cmp .NotIn (.var 14) (.var 10)) (.var 14)) σ = .ok (.list ((lackL C).map gd)) := by
      refine ev_comp (ds := order16.map gd) e1 (by simp [order16]) ?_
      have g14 : ∀ d, (σ ++ [.val d])[14]? = some (.val d) := fun d => by rw [List.getElem?_append_right (by omega), hs]; rfl
      refine compGo_fm gd (fun q => !(dueC C).contains q) gd (fun q _ => ?_) fun q _ _ => ev_var (g14 _)
      rw [ev_cmp (ev_var (g14 _)) (ev_var (up h10)), opCmp_notIn, if_pos (by rw [show okD (gd q) = true from encG.ok6 q, encG.okL]; rfl), encG.any]
      congr 2
      rw [Bool.eq_iff_iff]; simp
    rw [ev_cmp (ev_var h12) hc]
    simp only [opCmp]
    rw [if_pos (by rw [encG.okL]; rfl), eqv_self]; rfl
theorem five_eval {T : Tab} {C : Nat} (hC : C ∈ states) {σ : List SV} (h9 : σ[9]? = some (.val (commonD C))) (h12 : σ[12]? = some (.val (.list ((lackL C).map gd)))) : ev T fiveX σ = .ok (.bool false) := by
  have e1 : ev T (.cmp .Eq (.var 12) (.list [])) σ = .ok (.bool (lackL C).isEmpty) := by
    rw [ev_cmp (ev_var h12) ev_nil, cmp_nil (encG.okL _)]
    congr 2
    cases lackL C <;> rfl
  have c5 : ev T (.int 5) σ = .ok (nD 5) := ev_int
  have e2 : ev T (.slice (.var 9) .nothing (.int 5)) σ = .ok (.list ((List.range 5).map fun p => .bool (C.testBit p))) := by
    rw [ev_slice (ev_var h9) ev_nothing c5]; rfl
  have e3 : ev T (.cmp .In (.bool true) (.slice (.var 9) .nothing (.int 5))) σ = .ok (.bool ((List.range 5).any fun p => C.testBit p)) := by
    rw [ev_cmp ev_true e2, opCmp_in, if_pos (by rfl)]
    congr 2
    rw [List.any_map]
    congr 1
    funext p
    show PyData.eqv (.bool (C.testBit p)) (.bool true) = C.testBit p
    cases C.testBit p <;> rfl
  unfold fiveX
  rw [ev_cmp e1 e3]
  have h := eq_of_beq (List.all_eq_true.mp lack_all C hC)
  rw [h]
  show Res.ok (.bool ((!((List.range 5).any fun p => C.testBit p)) == ((List.range 5).any fun p => C.testBit p))) = _
  cases (List.range 5).any fun p => C.testBit p <;> rfl
theorem TTF : (TT as).F = Fn defs gn gv 6 := rfl
theorem F5 (n : Nat) : (TT as).F 5 [nD n, sixteenD] = some (.list ((dedupL (numL n)).map gd)) := by rw [TTF]; exact f_gates 3 n
theorem F6 (l : List (Fin 16)) (hl : l.length ≤ 16) : (TT as).F 6 [.list (l.map gd)] = some (.list ((madeL l).map gd)) := by rw [TTF]; exact f_made 4 l hl
theorem F7 (n : Nat) : (TT as).F 7 [nD n] = some (.list ((numL n).map qD)) := by rw [TTF]; exact f_numbers 5 n
theorem F3 (a b : List (Fin 16)) (ha : a.length ≤ 50000) (hb : b.length ≤ 50000) : (TT as).F 3 [.list (a.map gd), .list (b.map gd)] = some (.bool (sameL a b)) := by rw [TTF]; exact f_compare 4 a b ha hb
theorem F4 {C : Nat} (hC : C ∈ states) : (TT as).F 4 [.list (order16.map gd), .list ((sorted16 (dueC C)).map gd)] = some (.tuple [.list ((lackL C).map gd), .list []]) := by rw [TTF]; exact f_sld 5 hC
end
end Mine.L2
end
section
open PySem PySem.W PySem.Calls PyProof.Rows
namespace Mine.L2
/-- what the law's loop asks of the defs -/
structure TB (T : Tab) : Prop where
  f5 : ∀ n : Nat, T.F 5 [nD n, sixteenD] = some (.list ((dedupL (numL n)).map gd))
  f6 : ∀ l : List (Fin 16), l.length ≤ 16 → T.F 6 [.list (l.map gd)] = some (.list ((madeL l).map gd))
  f7 : ∀ n : Nat, T.F 7 [nD n] = some (.list ((numL n).map qD))
  f3 : ∀ a b : List (Fin 16), a.length ≤ 50000 → b.length ≤ 50000 → T.F 3 [.list (a.map gd), .list (b.map gd)] = some (.bool (sameL a b))
  f4 : ∀ C ∈ states, T.F 4 [.list (order16.map gd), .list ((sorted16 (dueC C)).map gd)] = some (.tuple [.list ((lackL C).map gd), .list []])
theorem tb (as : List Nat) : TB (TT as) := ⟨F5, F6, F7, F3, fun C h => F4 h⟩
section
variable {T : Tab} {script : PyData}
set_option maxHeartbeats 2000000 in
theorem body_eval (K : TB T) (x : Int) (told : List PyData) (ht : told.length < 1000) (s2 v6 v7 v8 v9 v10 v11 v12 v13 : SV) :
    ∃ w6 w7 w8 w9 w10 w11 w12 w13, evSs T loopB [.val script, .val sixteenD, s2, .val hasD, .own told, .val (.int x), v6, v7, v8, v9, v10, v11, v12, v13] =
      .next [.val script, .val sixteenD, s2, .val hasD, .own (told ++ [tupD x]), .val (.int x), w6, w7, w8, w9, w10, w11, w12, w13] := by
  have hlen : (lN x).length ≤ 16 := length16 (nodup_dedupL _)
  have hCs : cN x ∈ states := cm_state _
  have hcm : cm (numL (modeN x)) = cN x := (cm_dedup _).symm
  have hml := length16 (made_end (lN x)).nd
  have hdl : (dueC (cN x)).length ≤ 16 := length16 ((List.nodup_finRange 16).filter _)
  unfold loopB
  rw [evSs_next (evS_assign (mode_eval x rfl))]
  show ∃ w6 w7 w8 w9 w10 w11 w12 w13, evSs T _ [.val script, .val sixteenD, s2, .val hasD, .own told, .val (.int x), .val (nD (modeN x)), v7, v8, v9, v10, v11, v12, v13] = _
  have e7 : ev T callsX [.val script, .val sixteenD, s2, .val hasD, .own told, .val (.int x), .val (nD (modeN x)), v7, v8, v9, v10, v11, v12, v13] = .ok (.list ((madeL (lN x)).map gd)) :=
    ev_call (evs_cons (ev_call (evs_cons (ev_var rfl) (evs_cons (ev_var rfl) evs_nil)) (K.f5 (modeN x))) evs_nil) (K.f6 (lN x) hlen)
  rw [evSs_next (evS_assign e7)]
  show ∃ w6 w7 w8 w9 w10 w11 w12 w13, evSs T _ [.val script, .val sixteenD, s2, .val hasD, .own told, .val (.int x), .val (nD (modeN x)), .val (.list ((madeL (lN x)).map gd)), v8, v9, v10, v11, v12, v13] = _
  rw [evSs_next (evS_assign (ev_call (evs_cons (ev_var rfl) evs_nil) (K.f7 (modeN x))))]
  show ∃ w6 w7 w8 w9 w10 w11 w12 w13, evSs T _ [.val script, .val sixteenD, s2, .val hasD, .own told, .val (.int x), .val (nD (modeN x)), .val (.list ((madeL (lN x)).map gd)), .val (.list ((numL (modeN x)).map qD)), v9, v10, v11, v12, v13] = _
  rw [evSs_next (evS_assign (common_eval (l := numL (modeN x)) rfl rfl rfl (by simp [numL]))), hcm]
  show ∃ w6 w7 w8 w9 w10 w11 w12 w13, evSs T _ [.val script, .val sixteenD, s2, .val hasD, .own told, .val (.int x), .val (nD (modeN x)), .val (.list ((madeL (lN x)).map gd)), .val (.list ((numL (modeN x)).map qD)), .val (commonD (cN x)), v10, v11, v12, v13] = _
  rw [evSs_next (evS_own (i := 10) (ds := []) ev_nil)]
  show ∃ w6 w7 w8 w9 w10 w11 w12 w13, evSs T _ [.val script, .val sixteenD, s2, .val hasD, .own told, .val (.int x), .val (nD (modeN x)), .val (.list ((madeL (lN x)).map gd)), .val (.list ((numL (modeN x)).map qD)), .val (commonD (cN x)), .own [], v11, v12, v13] = _
  obtain ⟨u11, hd⟩ := due_loop (T := T) (C := cN x) (cm_top _) (s0 := .val script) (s2 := s2) (s4 := .own told) (s5 := .val (.int x)) (s6 := .val (nD (modeN x))) (s7 := .val (.list ((madeL (lN x)).map gd))) (s8 := .val (.list ((numL (modeN x)).map qD))) (v11 := v11) (v12 := v12) (v13 := v13)
  rw [evSs_next hd, evSs_next (evS_freeze (i := 10) (ds := (dueC (cN x)).map gd) rfl)]
  show ∃ w6 w7 w8 w9 w10 w11 w12 w13, evSs T _ [.val script, .val sixteenD, s2, .val hasD, .own told, .val (.int x), .val (nD (modeN x)), .val (.list ((madeL (lN x)).map gd)), .val (.list ((numL (modeN x)).map qD)), .val (commonD (cN x)), .val (.list ((dueC (cN x)).map gd)), u11, v12, v13] = _
  have e8 : ev T (.cmp .IsNot (.call 3 [(.var 7), (.var 10)]) (.bool true)) [.val script, .val sixteenD, s2, .val hasD, .own told, .val (.int x), .val (nD (modeN x)), .val (.list ((madeL (lN x)).map gd)), .val (.list ((numL (modeN x)).map qD)), .val (commonD (cN x)), .val (.list ((dueC (cN x)).map gd)), u11, v12, v13] = .ok (.bool false) := by
    rw [ev_cmp (ev_call (evs_cons (ev_var rfl) (evs_cons (ev_var rfl) evs_nil)) (K.f3 (madeL (lN x)) (dueC (cN x)) (by omega) (by omega))) ev_true]
    rw [show sameL (madeL (lN x)) (dueC (cN x)) = true from made_same _]; rfl
  rw [evSs_next (by rw [evS_ite e8 (t := false) rfl]; simp only [Bool.false_eq_true, if_false]; exact evSs_nil)]
  have e9 : ev T (.call 4 [(.bi .sorted (.var 1)), (.bi .sorted (.var 7))]) [.val script, .val sixteenD, s2, .val hasD, .own told, .val (.int x), .val (nD (modeN x)), .val (.list ((madeL (lN x)).map gd)), .val (.list ((numL (modeN x)).map qD)), .val (commonD (cN x)), .val (.list ((dueC (cN x)).map gd)), u11, v12, v13] = .ok (.tuple [.list ((lackL (cN x)).map gd), .list []]) :=
    ev_call (evs_cons (by rw [ev_bi (ev_var rfl)]; exact six_sorted) (evs_cons (by rw [ev_bi (ev_var rfl)]; exact made_sorted (lN x)) evs_nil)) (K.f4 _ hCs)
  rw [evSs_next (σ' := [.val script, .val sixteenD, s2, .val hasD, .own told, .val (.int x), .val (nD (modeN x)), .val (.list ((madeL (lN x)).map gd)), .val (.list ((numL (modeN x)).map qD)), .val (commonD (cN x)), .val (.list ((dueC (cN x)).map gd)), u11, .val (.list ((lackL (cN x)).map gd)), .val (.list [])]) (by rw [evqS_unpack2, e9]; rfl)]
  rw [evSs_next (by rw [evS_ite (lack_eval (C := cN x) rfl rfl rfl rfl rfl) (t := false) rfl]; simp only [Bool.false_eq_true, if_false]; exact evSs_nil)]
  rw [evSs_next (by rw [evS_ite (five_eval (C := cN x) hCs rfl rfl) (t := false) rfl]; simp only [Bool.false_eq_true, if_false]; exact evSs_nil)]
  have e10 : ev T (.tup [(.var 7), (.var 9)]) [.val script, .val sixteenD, s2, .val hasD, .own told, .val (.int x), .val (nD (modeN x)), .val (.list ((madeL (lN x)).map gd)), .val (.list ((numL (modeN x)).map qD)), .val (commonD (cN x)), .val (.list ((dueC (cN x)).map gd)), u11, .val (.list ((lackL (cN x)).map gd)), .val (.list [])] = .ok (tupD x) := by
    rw [evq_tup, evs_cons (ev_var (d := .list ((madeL (lN x)).map gd)) rfl) (evs_cons (ev_var (d := commonD (cN x)) rfl) evs_nil), Res.bind_ok]
    rfl
  rw [evSs_next (evS_append (ds := told) rfl e10 (by omega)), evSs_nil]
  exact ⟨_, _, _, _, _, _, _, _, rfl⟩
end
end Mine.L2
end
section
open PySem PySem.W PySem.Calls PyProof.Rows
namespace Mine.L2
noncomputable def drawX : X := .bin .Add (.slice (.var 0) .nothing (.int 2)) (.slice (.list [(.int 25808), (.int 36383)]) (.bi .len (.slice (.var 0) .nothing (.int 2))) .nothing)
noncomputable def finX : X := .cmp .Is (.call 3 [(.idx (.idx (.var 4) (.int 0)) (.int 0)), (.idx (.idx (.var 4) (.int 1)) (.int 0))]) (.cmp .Eq (.idx (.idx (.var 4) (.int 0)) (.int 1)) (.idx (.idx (.var 4) (.int 1)) (.int 1)))
noncomputable def drawL (ns : List Int) : List Int := ns.take 2 ++ [25808, 36383].drop (ns.take 2).length
theorem draw_two : ∀ ns : List Int, ∃ x y, drawL ns = [x, y]
  | [] => ⟨_, _, rfl⟩
  | [a] => ⟨_, _, rfl⟩
  | a :: b :: r => ⟨_, _, rfl⟩
section
variable {T : Tab} {σ : List SV}
theorem draw_eval {ns : List Int} (h0 : σ[0]? = some (.val (.list (ns.map .int)))) (hl : ns.length ≤ 63) : ev T drawX σ = .ok (.list ((drawL ns).map .int)) := by
  have c2 : ev T (.int 2) σ = .ok (nD 2) := ev_int
  have e1 : ev T (.slice (.var 0) .nothing (.int 2)) σ = .ok (.list ((ns.take 2).map .int)) := by
    rw [ev_slice (ev_var h0) ev_nothing c2, List.map_take]
    exact slice_hi _ _ (by simp; omega)
  have hz : (ns.take 2).length ≤ 2 := by rw [List.length_take]; omega
  have e2 : ev T (.bi .len (.slice (.var 0) .nothing (.int 2))) σ = .ok (nD (ns.take 2).length) := by
    rw [ev_bi e1, len_list _ (by simp only [List.length_map]; omega), List.length_map]
  have e3 : ev T (.list [(.int 25808), (.int 36383)]) σ = .ok (.list (([25808, 36383] : List Int).map .int)) := ev_list (evs_cons ev_int (evs_cons ev_int evs_nil)) (by simp)
  have e4 : ev T (.slice (.list [(.int 25808), (.int 36383)]) (.bi .len (.slice (.var 0) .nothing (.int 2))) .nothing) σ = .ok (.list (([25808, 36383].drop (ns.take 2).length).map .int)) := by
    rw [ev_slice e3 e2 ev_nothing, List.map_drop]
    exact slice_lo _ _ (by simp)
  unfold drawX
  rw [ev_bin e1 e4, cat_list _ _ (by simp only [List.length_map, List.length_drop, List.length_cons, List.length_nil]; omega), ← List.map_append]
  rfl
theorem same_made (x y : Int) : sameL (madeL (lN x)) (madeL (lN y)) = (cN x == cN y) := by
  have h := eq_of_beq (List.all_eq_true.mp (List.all_eq_true.mp states_apart (cN x) (cm_state _)) (cN y) (cm_state _))
  rw [← h, Bool.eq_iff_iff, sameL_iff, sameL_iff]
  have a := made_due (lN x)
  have b := made_due (lN y)
  exact ⟨fun h q => (a q).symm.trans ((h q).trans (b q)), fun h q => (a q).trans ((h q).trans (b q).symm)⟩
theorem same_common (x y : Int) : opCmp .Eq (commonD (cN x)) (commonD (cN y)) = .ok (.bool (cN x == cN y)) := by
  have h := List.all_eq_true.mp (List.all_eq_true.mp common_all (cN x) (cm_state _)) (cN y) (cm_state _)
  have h' := List.all_eq_true.mp (List.all_eq_true.mp common_all (cN y) (cm_state _)) (cN y) (cm_state _)
  simp only [opCmp]
  rw [if_pos (by rw [andR h, andR h']; rfl), eq_of_beq (andL h)]
theorem fin_eval (K : TB T) (x y : Int) (h4 : σ[4]? = some (.val (.list [tupD x, tupD y]))) : ev T finX σ = .ok (.bool true) := by
  have c0 : ∀ τ : List SV, ev T (.int 0) τ = .ok (nD 0) := fun _ => ev_int
  have c1 : ∀ τ : List SV, ev T (.int 1) τ = .ok (nD 1) := fun _ => ev_int
  have t0 : ev T (.idx (.var 4) (.int 0)) σ = .ok (tupD x) := by rw [ev_idx (ev_var h4) (c0 _)]; rfl
  have t1 : ev T (.idx (.var 4) (.int 1)) σ = .ok (tupD y) := by rw [ev_idx (ev_var h4) (c1 _)]; rfl
  have m0 : ev T (.idx (.idx (.var 4) (.int 0)) (.int 0)) σ = .ok (.list ((madeL (lN x)).map gd)) := by rw [ev_idx t0 (c0 _)]; rfl
  have m1 : ev T (.idx (.idx (.var 4) (.int 1)) (.int 0)) σ = .ok (.list ((madeL (lN y)).map gd)) := by rw [ev_idx t1 (c0 _)]; rfl
  have k0 : ev T (.idx (.idx (.var 4) (.int 0)) (.int 1)) σ = .ok (commonD (cN x)) := by rw [ev_idx t0 (c1 _)]; rfl
  have k1 : ev T (.idx (.idx (.var 4) (.int 1)) (.int 1)) σ = .ok (commonD (cN y)) := by rw [ev_idx t1 (c1 _)]; rfl
  have hx := length16 (made_end (lN x)).nd
  have hy := length16 (made_end (lN y)).nd
  unfold finX
  rw [ev_cmp (ev_call (evs_cons m0 (evs_cons m1 evs_nil)) (K.f3 _ _ (by omega) (by omega))) (by rw [ev_cmp k0 k1]; exact same_common x y), same_made]
  show Res.ok (.bool ((cN x == cN y) == (cN x == cN y))) = _
  rw [beq_self_eq_true]
end
noncomputable def restOf (ns : List Int) : List SV := [.val (.list (ns.map .int)), .val sixteenD, .un, .un, .un, .un, .un, .un, .un, .un, .un, .un, .un, .un]
theorem law1_eval (ns : List Int) : ∀ x₁ ∈ law1, evS (Tn defs gn gv 6) x₁ (initσ [.list (ns.map .int)] lawNm) = .next (restOf ns) := by
  intro x₁ h
  have e : law1 = [.assignL 1 (.compR 0 16 1 (.bool true) (.compR 0 4 1 (.bool true) (.bin .Mod (.bin .FloorDiv (.var 14) (.bin .Pow (.int 2) (.var 15))) (.int 2))))] := rfl
  rw [e] at h
  cases List.mem_singleton.mp h
  kernel_rfl
theorem plain : Plain := by
  intro ns hl
  refine ⟨restOf ns, law1_eval ns, fun as ha hn => ?_⟩
  have ha : as.length = 10 := ha
  have hb : law3 = [.assign 3 hasX, .own 4 (.list []), .forX 5 drawX loopB [], .freeze 4, .ret finX] := rfl
  have K := tb as
  have hh := has_eval (as := as) (σ := [.val (.list (ns.map .int)), .val sixteenD, .val (.list (as.map fnD)), .un, .un, .un, .un, .un, .un, .un, .un, .un, .un, .un]) ha hn rfl rfl rfl
  have ht : TL defs gn gv lams 5 as = TT as := rfl
  rw [hb, ht]
  generalize TT as = T at K hh
  show evSs T _ [.val (.list (ns.map .int)), .val sixteenD, .val (.list (as.map fnD)), .un, .un, .un, .un, .un, .un, .un, .un, .un, .un, .un] = _
  rw [evSs_next (evS_assign hh)]
  show evSs T _ [.val (.list (ns.map .int)), .val sixteenD, .val (.list (as.map fnD)), .val hasD, .un, .un, .un, .un, .un, .un, .un, .un, .un, .un] = _
  rw [evSs_next (evS_own (i := 4) (ds := []) ev_nil)]
  show evSs T _ [.val (.list (ns.map .int)), .val sixteenD, .val (.list (as.map fnD)), .val hasD, .own [], .un, .un, .un, .un, .un, .un, .un, .un, .un] = _
  obtain ⟨x, y, hd⟩ := draw_two ns
  have he := draw_eval (T := T) (σ := [.val (.list (ns.map .int)), .val sixteenD, .val (.list (as.map fnD)), .val hasD, .own [], .un, .un, .un, .un, .un, .un, .un, .un, .un]) rfl hl
  rw [hd] at he
  obtain ⟨a6, a7, a8, a9, a10, a11, a12, a13, h1⟩ := body_eval (script := .list (ns.map .int)) K x [] (by decide) (.val (.list (as.map fnD))) .un .un .un .un .un .un .un .un
  obtain ⟨b6, b7, b8, b9, b10, b11, b12, b13, h2⟩ := body_eval (script := .list (ns.map .int)) K y ([] ++ [tupD x]) (by simp) (.val (.list (as.map fnD))) a6 a7 a8 a9 a10 a11 a12 a13
  have hf : evS T (.forX 5 drawX loopB []) [.val (.list (ns.map .int)), .val sixteenD, .val (.list (as.map fnD)), .val hasD, .own [], .un, .un, .un, .un, .un, .un, .un, .un, .un] = .next [.val (.list (ns.map .int)), .val sixteenD, .val (.list (as.map fnD)), .val hasD, .own ([] ++ [tupD x] ++ [tupD y]), .val (.int y), b6, b7, b8, b9, b10, b11, b12, b13] := by
    rw [evS_forX he (by simp)]
    show loopGo _ _ _ [.int x, .int y] _ = _
    rw [loopGo_next (σ₁ := [.val (.list (ns.map .int)), .val sixteenD, .val (.list (as.map fnD)), .val hasD, .own [], .val (.int x), .un, .un, .un, .un, .un, .un, .un, .un]) rfl h1]
    rw [loopGo_next (σ₁ := [.val (.list (ns.map .int)), .val sixteenD, .val (.list (as.map fnD)), .val hasD, .own ([] ++ [tupD x]), .val (.int y), a6, a7, a8, a9, a10, a11, a12, a13]) rfl h2]
    rw [loopGo, evSs_nil]
  rw [evSs_next hf, evSs_next (evS_freeze (i := 4) (ds := [tupD x, tupD y]) rfl)]
  exact evSs_ret (fin_eval K x y rfl)
end Mine.L2
end
section
open PySem PySem.W PySem.Calls PyProof.Rows
set_option maxRecDepth 100000
set_option maxHeartbeats 8000000
namespace Mine.L2
theorem lawSame : lawDef.1.name = lawR.name := by kernel_rfl
theorem holds_of (hP : Plain) : PySem.Challenge.rw_oc0073_02.Holds := by
  refine holds_law said fun said => ?_
  refine holds_open (q := view) (loose := ["_filemode_table"]) (Xt := fun s => xlAt view lv s && recOk (RowW.records PySem.Challenge.rw_oc0073_02.row.toRowW) s) (XP := XL view lv) (Yf := Hook.obs Hook.none) (Ya := Hook.val Hook.none) (YP := Hook.says Hook.none) (d := lawDef.1) (kwd := lawDef.2) (N := 1590) left (Hook.of Hook.none) (Hook.keeps Hook.none) (fun s e => xl_of s (Bool.and_eq_true_iff.mp e).1) XL.keeps (by kernel_rfl) (by kernel_rfl) (by kernel_rfl) (fun s e => recFacts_of (Bool.and_eq_true_iff.mp e).2) (by kernel_rfl) said (by kernel_rfl) ⟨rfl, rfl, rfl, rfl, rfl, by kernel_rfl⟩ ?hw ?hc
  case hw => w_witness2
  case hc =>
  intro w s₀ s₁ mg mb G Y fa o pm cd doc dV kV ho hd hcd hD hmg hg args vals as hpre hlay hrd hwl hlo
  have V := (Ground.X G).2
  have T := G.T
  clear Y ho hd hcd hD
  rw [lawSame] at hmg
  wrow_args hpre hlay hrd hwl hlo
  rename_i ns _ _ _ _ _ _ _ la vs _ hL _ _ _ hI _ hl _
  obtain ⟨σ, hv1, hv3⟩ := hP ns (by omega)
  have hR : Mine.Rep (fzOf s₁.heap) (.ref la) (.list (ns.map .int)) := by
    obtain ⟨o, ho, hc, n, hd⟩ := hL
    exact .list (Mine.fzOf_list ho hc hd) (Mine.intsRep hI)
  refine wpAny_mono (Mine.law_walk (E := fun _ _ => False) (K := 5) T (by kernel_rfl) ?_ text hmg hR ⟨rfl, fun _ => rfl, by decide +kernel, by decide +kernel⟩ (hv1 x1 (.head _)) hv3 (Q := fun v s' => v = .bool true ∧ OldK s₁.heap s'.heap ∧ ∃ h' tk, s' = { s₁ with heap := h', toks := tk }) fun h' tk k => ⟨rfl, k, h', tk, rfl⟩) (fun v s' g => ?_) fun _ _ f => f.elim
  · intro g x d h1 h2
    match g, h1, h2 with
    | 0, h1, h2 =>
      cases h1; cases h2
      obtain ⟨v, a, b⟩ := V.val _ (.head _)
      exact ⟨v, a, Mine.rep_of_reads 6 (by kernel_rfl) (reads_of_readsW table b)⟩
    | n + 1, h1, h2 => simp [gn] at h1
  · obtain ⟨rfl, hK, h', tk, rfl⟩ := g
    refine ⟨.inl ⟨.bool true, .bool true, [], rfl, fun cls => ?_, .bool true, ?_, fun _ => ⟨List.nodup_nil, fun _ h => by cases h⟩⟩, hK, rfl, .of_eq hg⟩
    · first | rfl | exact raisesW_false (by wrow_none_raised) cls
    · first | rfl | wrow_post
end Mine.L2
end
theorem PySem.Challenge.cw_oc0073_02_holds : PySem.Challenge.rw_oc0073_02.Holds :=
  Mine.L2.holds_of Mine.L2.plain
