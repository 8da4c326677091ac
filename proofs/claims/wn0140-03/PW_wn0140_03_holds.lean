import PyProof.Rows.All
import Wide.All
import OpenK.AllK
import Wide.FinOn
import PySem.Challenge.RW_wn0140_03
open PySem PySem.W PySem.Calls PyProof.Rows
set_option Elab.async false
set_option maxRecDepth 100000
set_option autoImplicit false
set_option linter.unusedVariables false
set_option linter.unusedSimpArgs false
-- MB0
namespace Mine
/-- how much the heap holds -/
abbrev hz (s : Shared) : Nat := s.heap.objs.size

theorem hz_update (s : Shared) (a : Addr) (f : Obj → Obj) : hz { s with heap := s.heap.update a f } = hz s := Heap.size_after_update _ _ _
theorem hz_gen (s : Shared) (g : Array GenState) : hz { s with gens := g } = hz s := rfl
theorem hz_push (s : Shared) (o : Obj) : hz { s with heap := s.heap.push o } = hz s + 1 := Heap.size_push _ _

theorem runs_hz {M : Model} {Γ : Ctx} {p : Pos} {t : Sem Fin} {fs : List Frame} {s s' : Shared} {e : End} (h : Runs M Γ p t fs s e s') : hz s ≤ hz s' := by
  induction h <;> (try simp only [Shared.setGen, hz_update, hz_push, hz_gen] at *) <;> omega

theorem returns_hz {M : Model} {Γ : Ctx} {p : Pos} {s s' : Shared} {r : Result} (h : Returns M Γ p s r s') : hz s ≤ hz s' := runs_hz h
theorem wakes_hz {M : Model} {Γ : Ctx} {p : Pos} {g : Nat} {r : Resume} {s s' : Shared} {res : GenResult} (h : Wakes M Γ p g r s res s') : hz s ≤ hz s' := by
  unfold Wakes at h
  split at h
  · exact h.elim
  · split at h
    · obtain ⟨e₁, s₁, hr, _, _, rfl⟩ := h; exact (runs_hz hr : hz (s.setGen g .running) ≤ hz s₁)
    · rw [h.2]; exact Nat.le_refl _
    · rw [h.2]; exact Nat.le_refl _
  · obtain ⟨e₁, s₁, hr, _, _, rfl⟩ := h; exact (runs_hz hr : hz (s.setGen g .running) ≤ hz s₁)
  · rw [h.2]; exact Nat.le_refl _
  · rw [h.2]; exact Nat.le_refl _

theorem wp_hz {α : Type} (M : Model) (Γ : Ctx) (n : Nat) (t : Sem α) : ∀ (Q : α → Pos → Shared → Prop) (E : Value → Pos → Shared → Prop) (p : Pos) (s : Shared), n ≤ hz s → Sem.wp M Γ t Q E p s →
    Sem.wp M Γ t (fun a p' s' => n ≤ hz s' ∧ Q a p' s') (fun e p' s' => n ≤ hz s' ∧ E e p' s') p s := by
  induction t with
  | pure a => exact fun Q E p s hn h => ⟨hn, h⟩
  | raise e => exact fun Q E p s hn h => ⟨hn, h⟩
  | unsupported _ => exact fun Q E p s _ h => h
  | finish _ => exact fun Q E p s _ h => h
  | rule _ k ih => exact fun Q E p s hn h => ih () Q E p s hn h
  | «at» p' k ih => exact fun Q E p s hn h => ih () Q E p' s hn h
  | load a _ k ih => exact fun Q E p s hn ⟨o, ho, h⟩ => ⟨o, ho, ih o Q E p s hn h⟩
  | update a _ f k ih => exact fun Q E p s hn h => ⟨h.1, ih () Q E p _ (by rw [hz_update]; exact hn) h.2⟩
  | loadIfAlive a k ih => exact fun Q E p s hn h => ih _ Q E p s hn h
  | point _ k ih => exact fun Q E p s hn h => ih () Q E p s hn h
  | register _ _ => exact fun Q E p s _ h => h
  | alloc o k ih => exact fun Q E p s hn h => ih _ Q E p _ (by rw [hz_push]; omega) h
  | fresh k ih => exact fun Q E p s hn h => ih _ Q E p _ hn h
  | ask k ih => exact fun Q E p s hn h => ih _ Q E p s hn h
  | choose src m k ih => exact fun Q E p s hn h => ⟨h.1, ih _ Q E p _ hn h.2⟩
  | os q _ k ih => exact fun Q E p s hn h => ih _ Q E p _ hn h
  | call c hd _ _ k ih => exact fun Q E p s hn ⟨r, s', hr, h⟩ => ⟨r, s', hr, ih r Q E p s' (Nat.le_trans hn (returns_hz hr)) h⟩
  | handled own k ih => exact fun Q E p s hn h => ih _ Q E p s hn h
  | genState g k ih => exact fun Q E p s hn ⟨st, hs, h⟩ => ⟨st, hs, ih _ Q E p s hn h⟩
  | newGen c k ih => exact fun Q E p s hn h => ih _ Q E p _ hn h
  | resume g r _ k ih => exact fun Q E p s hn ⟨res, s', hw, h⟩ => ⟨res, s', hw, ih res Q E p s' (Nat.le_trans hn (wakes_hz hw)) h⟩
  | yield _ _ _ _ => exact fun Q E p s _ h => h
  | stack k ih => exact fun Q E p s hn h => ih _ Q E p s hn h
  | fork _ _ => exact fun Q E p s _ h => h
  | thread k ih => exact fun Q E p s hn h => ih _ Q E p s hn h
  | await _ _ _ _ _ => exact fun Q E p s _ h => h

/-- the heap never loses an address -/
theorem wpz {α : Type} {M : Model} {A : Around} {s : Shared} {t : Sem α} {Q : α → Shared → Prop} {E : Value → Shared → Prop}
    (h : wpAny M A t (fun a s' => hz s ≤ hz s' → Q a s') (fun e s' => hz s ≤ hz s' → E e s') s) : wpAny M A t Q E s :=
  fun Γ p hΓ => Sem.wp_mono M Γ t (fun _ _ _ x => x.2 x.1) (fun _ _ _ x => x.2 x.1) p s (wp_hz M Γ (hz s) t _ _ p s (Nat.le_refl _) (h Γ p hΓ))
end Mine
-- MB1
namespace Mine

/-- the data that the laws' values stand for -/
inductive D where
  | int (i : Int)
  | bool (b : Bool)
  | none
  | str (s : Str)
  | list (xs : List D)
  | obj (t : Str)
  | rng (a b c : Int)
  | raw (v : Value)

structure Wc where
  prog : Program
  w : World
  K : Frag
  p : Program
  loose : List Str
  mg : Str → Option Value
  mb : Str → Option Value
  C : Addr

/-- the module of built-ins, as the namespace of the text names it -/
def BMod (mg : Str → Option Value) (h : Heap) : Prop := ∃ bm o, mg "__builtins__" = some (.ref bm) ∧ bm ≠ builtinsNs ∧ h.get? bm = some o ∧ o.cls = .type "module" ∧ o.dict = some builtinsNs ∧ o.data = .plain
structure Gd (W : Wc) (h : Heap) : Prop where
  k : W.K.In h
  t : TopRead W.p W.loose W.mg W.mb h
  b : BMod W.mg h

abbrev Keep (h h' : Heap) : Prop := ∀ b o, h.get? b = some o → h'.get? b = some o

theorem Gd.keeps {W : Wc} {h h' : Heap} (g : Gd W h) (k : Keep h h') : Gd W h' := ⟨g.k.keeps k, g.t.keeps k, let ⟨bm, o, h1, h2, h3, h4⟩ := g.b; ⟨bm, o, h1, h2, k _ _ h3, h4⟩⟩

/-- a QName's own dict -/
def qdict (t : Str) (o : Obj) : Prop := ∃ hs tk tk' n, o = dictOf [⟨hs, .str (Str.ofString "text") tk, .str t tk'⟩] n

mutual
def Rep (C : Addr) (δ : Addr → Prop) (h : Heap) : Value → D → Prop
  | v, .int i => ∃ t, v = .int i t
  | v, .bool b => v = .bool b
  | v, .none => v = .none
  | v, .str s => ∃ t, v = .str s t
  | v, .list xs => ∃ a vs n, v = .ref a ∧ ¬ δ a ∧ h.get? a = some (listOf vs n) ∧ RepL C δ h vs.toList xs
  | v, .obj t => ∃ a d o, v = .ref a ∧ ¬ δ a ∧ ¬ δ d ∧ h.get? a = some (instObj C d) ∧ h.get? d = some o ∧ qdict t o
  | v, .rng a b c => ∃ r t u w, v = .ref r ∧ ¬ δ r ∧ IsRange h r a b c t u w
  | v, .raw u => v = u
def RepL (C : Addr) (δ : Addr → Prop) (h : Heap) : List Value → List D → Prop
  | [], [] => True
  | v :: vs, d :: ds => Rep C δ h v d ∧ RepL C δ h vs ds
  | _, _ => False
end

/-- an iterator's object -/
def ItO (o : Obj) : Prop := (o.cls = .type "list_iterator" ∨ o.cls = .type "range_iterator" ∨ o.cls = .type "str_iterator" ∨ o.cls = .type "str_ascii_iterator") ∧ ∃ vs, o.data = .fields vs
theorem notItO_list (vs : Array Value) (n : Nat) : ¬ ItO (listOf vs n) := fun ⟨_, _, h⟩ => by cases h
theorem notItO_inst (C d : Addr) : ¬ ItO (instObj C d) := fun ⟨_, _, h⟩ => by cases h
theorem notItO_dict (es : List DictEntry) (n : Nat) : ¬ ItO (dictOf es n) := fun ⟨_, _, h⟩ => by cases h
theorem notItO_q {t : Str} {o : Obj} (h : qdict t o) : ¬ ItO o := by
  obtain ⟨_, _, _, _, rfl⟩ := h
  exact notItO_dict _ _
theorem notItO_rng (vs : Array Value) : ¬ ItO { cls := .type "range", dict := none, data := .fields vs, slots := #[] } := fun ⟨h, _⟩ => by
  rcases h with h | h | h | h <;> (injection h with h; revert h; decide)

mutual
theorem Rep.mono' {C : Addr} {δ δ' : Addr → Prop} {h h' : Heap} (hd : ∀ a, (h.get? a).isSome = true → δ' a → δ a) (hk : ∀ b o, ¬ δ b → ¬ ItO o → h.get? b = some o → h'.get? b = some o) :
    ∀ {v : Value} {d : D}, Rep C δ h v d → Rep C δ' h' v d
  | v, .int i, x => by unfold Rep at x ⊢; exact x
  | v, .bool b, x => by unfold Rep at x ⊢; exact x
  | v, .none, x => by unfold Rep at x ⊢; exact x
  | v, .str s, x => by unfold Rep at x ⊢; exact x
  | v, .list xs, x => by
    unfold Rep at x ⊢
    obtain ⟨a, vs, n, e, ha, hg, hl⟩ := x
    exact ⟨a, vs, n, e, fun q => ha (hd a (by rw [hg]; rfl) q), hk a _ ha (notItO_list _ _) hg, RepL.mono' hd hk hl⟩
  | v, .obj t, x => by
    unfold Rep at x ⊢
    obtain ⟨a, d, o, e, ha, hdd, hg, hgd, ho⟩ := x
    exact ⟨a, d, o, e, fun q => ha (hd a (by rw [hg]; rfl) q), fun q => hdd (hd d (by rw [hgd]; rfl) q), hk a _ ha (notItO_inst _ _) hg, hk d _ hdd (notItO_q ho) hgd, ho⟩
  | v, .rng a b c, x => by
    unfold Rep at x ⊢
    obtain ⟨r, t, u, w, e, ha, hg⟩ := x
    exact ⟨r, t, u, w, e, fun q => ha (hd r (by rw [hg]; rfl) q), hk r _ ha (notItO_rng _) hg⟩
  | v, .raw u, x => by unfold Rep at x ⊢; exact x
theorem RepL.mono' {C : Addr} {δ δ' : Addr → Prop} {h h' : Heap} (hd : ∀ a, (h.get? a).isSome = true → δ' a → δ a) (hk : ∀ b o, ¬ δ b → ¬ ItO o → h.get? b = some o → h'.get? b = some o) :
    ∀ {vs : List Value} {ds : List D}, RepL C δ h vs ds → RepL C δ' h' vs ds
  | [], [], x => by unfold RepL at x ⊢; exact x
  | v :: vs, d :: ds, x => by
    unfold RepL at x ⊢
    exact ⟨Rep.mono' hd hk x.1, RepL.mono' hd hk x.2⟩
  | [], _ :: _, x => by unfold RepL at x; exact x.elim
  | _ :: _, [], x => by unfold RepL at x; exact x.elim
end


theorem Rep.mono {C : Addr} {δ δ' : Addr → Prop} {h h' : Heap} (hd : ∀ a, (h.get? a).isSome = true → δ' a → δ a) (hk : ∀ b o, ¬ δ b → h.get? b = some o → h'.get? b = some o)
    {v : Value} {d : D} (r : Rep C δ h v d) : Rep C δ' h' v d := r.mono' hd fun b o hb _ e => hk b o hb e
theorem RepL.mono {C : Addr} {δ δ' : Addr → Prop} {h h' : Heap} (hd : ∀ a, (h.get? a).isSome = true → δ' a → δ a) (hk : ∀ b o, ¬ δ b → h.get? b = some o → h'.get? b = some o)
    {v : List Value} {d : List D} (r : RepL C δ h v d) : RepL C δ' h' v d := r.mono' hd fun b o hb _ e => hk b o hb e

section
variable {C : Addr} {δ δ' : Addr → Prop} {h h' : Heap}
theorem Rep.keep {v : Value} {d : D} (x : Rep C δ h v d) (hk : Keep h h') : Rep C δ h' v d := x.mono (fun _ _ q => q) fun b o _ e => hk b o e
theorem RepL.keep {vs : List Value} {ds : List D} (x : RepL C δ h vs ds) (hk : Keep h h') : RepL C δ h' vs ds := x.mono (fun _ _ q => q) fun b o _ e => hk b o e
theorem Rep.weak {v : Value} {d : D} (x : Rep C δ h v d) (hd : ∀ a, δ' a → δ a) : Rep C δ' h v d := x.mono (fun a _ q => hd a q) fun b o _ e => e
theorem RepL.weak {vs : List Value} {ds : List D} (x : RepL C δ h vs ds) (hd : ∀ a, δ' a → δ a) : RepL C δ' h vs ds := x.mono (fun a _ q => hd a q) fun b o _ e => e

theorem RepL.nil : RepL C δ h [] [] := by unfold RepL; trivial
theorem RepL.cons {v : Value} {d : D} {vs : List Value} {ds : List D} (x : Rep C δ h v d) (y : RepL C δ h vs ds) : RepL C δ h (v :: vs) (d :: ds) := by unfold RepL; exact ⟨x, y⟩
theorem RepL.cons_iff {v : Value} {d : D} {vs : List Value} {ds : List D} : RepL C δ h (v :: vs) (d :: ds) ↔ Rep C δ h v d ∧ RepL C δ h vs ds := by
  constructor
  · intro x; unfold RepL at x; exact x
  · intro x; exact .cons x.1 x.2
theorem RepL.nil_inv {ds : List D} (x : RepL C δ h [] ds) : ds = [] := by
  cases ds with
  | nil => rfl
  | cons d ds => unfold RepL at x; exact x.elim
theorem RepL.nil_inv' {vs : List Value} (x : RepL C δ h vs []) : vs = [] := by
  cases vs with
  | nil => rfl
  | cons d ds => unfold RepL at x; exact x.elim
theorem RepL.cons_inv {v : Value} {vs : List Value} {ds : List D} (x : RepL C δ h (v :: vs) ds) : ∃ d ds', ds = d :: ds' ∧ Rep C δ h v d ∧ RepL C δ h vs ds' := by
  cases ds with
  | nil => unfold RepL at x; exact x.elim
  | cons d ds => exact ⟨d, ds, rfl, RepL.cons_iff.mp x⟩
theorem RepL.cons_inv' {vs : List Value} {d : D} {ds : List D} (x : RepL C δ h vs (d :: ds)) : ∃ v vs', vs = v :: vs' ∧ Rep C δ h v d ∧ RepL C δ h vs' ds := by
  cases vs with
  | nil => unfold RepL at x; exact x.elim
  | cons v vs => exact ⟨v, vs, rfl, RepL.cons_iff.mp x⟩
theorem RepL.length : ∀ {vs : List Value} {ds : List D}, RepL C δ h vs ds → vs.length = ds.length
  | [], _, x => by rw [x.nil_inv]; rfl
  | v :: vs, _, x => by
    obtain ⟨d, ds', rfl, _, y⟩ := x.cons_inv
    rw [List.length_cons, List.length_cons, y.length]
theorem RepL.append : ∀ {vs ws : List Value} {ds es : List D}, RepL C δ h vs ds → RepL C δ h ws es → RepL C δ h (vs ++ ws) (ds ++ es)
  | [], ws, _, es, x, y => by rw [x.nil_inv]; exact y
  | v :: vs, ws, _, es, x, y => by
    obtain ⟨d, ds', rfl, a, b⟩ := x.cons_inv
    exact .cons a (b.append y)
theorem RepL.get : ∀ {vs : List Value} {ds : List D} {i : Nat} {d : D}, RepL C δ h vs ds → ds[i]? = some d → ∃ v, vs[i]? = some v ∧ Rep C δ h v d
  | [], _, i, d, x, e => by rw [x.nil_inv] at e; simp at e
  | v :: vs, _, i, d, x, e => by
    obtain ⟨d', ds', rfl, a, b⟩ := x.cons_inv
    cases i with
    | zero => simp only [List.getElem?_cons_zero] at e; cases e; exact ⟨v, rfl, a⟩
    | succ i => simp only [List.getElem?_cons_succ] at e; obtain ⟨v', e', r⟩ := b.get e; exact ⟨v', by simpa using e', r⟩
theorem RepL.get' {vs : List Value} {ds : List D} {i : Nat} {v : Value} (x : RepL C δ h vs ds) (e : vs[i]? = some v) : ∃ d, ds[i]? = some d ∧ Rep C δ h v d := by
  have hi : i < vs.length := (List.getElem?_eq_some_iff.mp e).1
  have hi' : i < ds.length := by rw [← x.length]; exact hi
  obtain ⟨v', e', r⟩ := x.get (List.getElem?_eq_getElem hi')
  rw [e] at e'; cases e'
  exact ⟨_, List.getElem?_eq_getElem hi', r⟩
theorem RepL.set : ∀ {vs : List Value} {ds : List D} (n : Nat) {v : Value} {d : D}, RepL C δ h vs ds → Rep C δ h v d → RepL C δ h (vs.set n v) (ds.set n d)
  | [], _, n, v, d, x, _ => by rw [x.nil_inv]; simpa using RepL.nil
  | w :: vs, _, 0, v, d, x, y => by
    obtain ⟨d', ds', rfl, a, b⟩ := x.cons_inv
    exact .cons y b
  | w :: vs, _, n + 1, v, d, x, y => by
    obtain ⟨d', ds', rfl, a, b⟩ := x.cons_inv
    exact .cons a (b.set n y)
theorem rep_int {v : Value} {i : Int} : Rep C δ h v (.int i) ↔ ∃ t, v = .int i t := by unfold Rep; exact Iff.rfl
theorem rep_bool {v : Value} {b : Bool} : Rep C δ h v (.bool b) ↔ v = .bool b := by unfold Rep; exact Iff.rfl
theorem rep_none {v : Value} : Rep C δ h v .none ↔ v = .none := by unfold Rep; exact Iff.rfl
theorem rep_str {v : Value} {s : Str} : Rep C δ h v (.str s) ↔ ∃ t, v = .str s t := by unfold Rep; exact Iff.rfl
theorem rep_list {v : Value} {xs : List D} : Rep C δ h v (.list xs) ↔ ∃ a vs n, v = .ref a ∧ ¬ δ a ∧ h.get? a = some (listOf vs n) ∧ RepL C δ h vs.toList xs := by
  conv => lhs; unfold Rep
theorem rep_obj {v : Value} {t : Str} : Rep C δ h v (.obj t) ↔ ∃ a d o, v = .ref a ∧ ¬ δ a ∧ ¬ δ d ∧ h.get? a = some (instObj C d) ∧ h.get? d = some o ∧ qdict t o := by
  conv => lhs; unfold Rep
theorem rep_raw {v u : Value} : Rep C δ h v (.raw u) ↔ v = u := by unfold Rep; exact Iff.rfl
theorem rep_rng {v : Value} {a b c : Int} : Rep C δ h v (.rng a b c) ↔ ∃ r t u w, v = .ref r ∧ ¬ δ r ∧ IsRange h r a b c t u w := by
  conv => lhs; unfold Rep
end

/-- all that stood stands, but for what μ names -/
structure Ext (μ : Addr → Prop) (s s' : Shared) : Prop where
  keep : ∀ b o, ¬ μ b → s.heap.get? b = some o → s'.heap.get? b = some o
  gens : s'.gens = s.gens
  os : s'.os = s.os
  size : s.heap.objs.size ≤ s'.heap.objs.size
abbrev no : Addr → Prop := fun _ => False
abbrev Ext0 := Ext no
theorem Ext.refl (μ : Addr → Prop) (s : Shared) : Ext μ s s := ⟨fun _ _ _ e => e, rfl, rfl, Nat.le_refl _⟩
theorem Ext.trans {μ : Addr → Prop} {s s' s'' : Shared} (x : Ext μ s s') (y : Ext μ s' s'') : Ext μ s s'' :=
  ⟨fun b o hb e => y.keep b o hb (x.keep b o hb e), y.gens.trans x.gens, y.os.trans x.os, Nat.le_trans x.size y.size⟩
theorem Ext.weak {μ μ' : Addr → Prop} {s s' : Shared} (x : Ext μ s s') (h : ∀ a, μ a → μ' a) : Ext μ' s s' := ⟨fun b o hb e => x.keep b o (fun q => hb (h b q)) e, x.gens, x.os, x.size⟩
theorem Ext.keeps {s s' : Shared} (x : Ext0 s s') : Keep s.heap s'.heap := fun b o e => x.keep b o (fun q => q) e
theorem Ext0.of {μ : Addr → Prop} {s s' : Shared} (x : Ext0 s s') : Ext μ s s' := x.weak fun _ q => q.elim
theorem ext0_of {s : Shared} {h' : Heap} {tk : Nat} (hk : Keep s.heap h') (hz : s.heap.objs.size ≤ h'.objs.size) : Ext0 s { s with heap := h', toks := tk } := ⟨fun b o _ e => hk b o e, rfl, rfl, hz⟩
theorem ext0_push {s : Shared} {o : Obj} {tk : Nat} : Ext0 s { s with heap := s.heap.push o, toks := tk } := ext0_of (fun _ _ e => Heap.get?_push_of_some _ e) (by rw [Heap.size_push]; omega)
theorem ext0_tok {s : Shared} {tk : Nat} : Ext0 s { s with toks := tk } := ext0_of (fun _ _ e => e) (Nat.le_refl _)
theorem Ext.rep {C : Addr} {δ : Addr → Prop} {s s' : Shared} (x : Ext0 s s') {v : Value} {d : D} (r : Rep C δ s.heap v d) : Rep C δ s'.heap v d := r.keep x.keeps
theorem Ext.repL {C : Addr} {δ : Addr → Prop} {s s' : Shared} (x : Ext0 s s') {v : List Value} {d : List D} (r : RepL C δ s.heap v d) : RepL C δ s'.heap v d := r.keep x.keeps
theorem Ext.repLμ {C : Addr} {μ δ : Addr → Prop} {s s' : Shared} (x : Ext μ s s') (hμ : ∀ a, μ a → δ a) {v : List Value} {d : List D} (r : RepL C δ s.heap v d) : RepL C δ s'.heap v d :=
  r.mono (fun _ _ q => q) fun b o hb e => x.keep b o (fun q => hb (hμ b q)) e

end Mine
-- MB2
namespace Mine

/-- room for n more levels of calls -/
structure Rm (n : Nat) (A : Around) : Prop where
  hd : A.handled = none
  dp : A.depth + n ≤ 990
  un : A.units + 20 * n ≤ 9800
theorem Rm.le {n m : Nat} {A : Around} (r : Rm n A) (h : m ≤ n) : Rm m A := ⟨r.hd, by have := r.dp; omega, by have := r.un; omega⟩
theorem Rm.deeper {n : Nat} {A : Around} (r : Rm (n + 1) A) (e : Env) : Rm n (A.deeper e) := ⟨r.hd, by have := r.dp; show A.depth + 1 + n ≤ _; omega, by have := r.un; show A.units + 3 + 20 * n ≤ _; omega⟩
theorem Rm.mark {n : Nat} {A : Around} (r : Rm n A) : Rm n (A.mark none) := ⟨by show (Option.none.or A.handled) = _; rw [r.hd]; rfl, r.dp, r.un⟩
theorem Rm.room {n : Nat} {A : Around} (r : Rm n A) : A.depth < recursionLimit := by have := r.dp; show A.depth < 1000; omega
theorem Rm.units {n : Nat} {A : Around} (r : Rm n A) : A.units < cLine := by have := r.un; show A.units < 9900; omega
structure Cx where
  env : Env
  /-- what the caller may change -/
  β : Addr → Prop
  /-- what data in names avoid -/
  δ : Addr → Prop
  /-- what this block may change -/
  μ : Addr → Prop
  /-- what is new since the block began, and is changed from outside it -/
  ν : Addr → Prop
  /-- names whose cells are this block's own -/
  own : Str → Bool

inductive Ent where
  | val (d : D)
  | own (xs : List D)
  /-- lists by their addresses, which the block changes in their place -/
  | pool (R : List (Addr × List D))
abbrev Rho := List (Str × Ent)

def Binds (env : Env) (h : Heap) (x : Str) (v : Value) : Prop :=
  (env.kindOf x = some .local ∧ ∃ m, h.Ns env.locals m ∧ m x = some v) ∨
  ((env.kindOf x = some .cell ∨ env.kindOf x = some .free) ∧ ∃ c, env.cells.lookup x = some c ∧ h.IsCell c (some v))

theorem Heap.Ns.uniq {h : Heap} {a : Addr} {m m' : Str → Option Value} (x : h.Ns a m) (y : h.Ns a m') : m = m' := by
  obtain ⟨o, es, ep, ho, hd, hk, hf⟩ := x
  obtain ⟨o', es', ep', ho', hd', hk', hf'⟩ := y
  rw [ho] at ho'; cases ho'
  rw [hd] at hd'; cases hd'
  exact funext fun n => (hf n).symm.trans (hf' n)

theorem Binds.uniq {env : Env} {h : Heap} {x : Str} {v v' : Value} (a : Binds env h x v) (b : Binds env h x v') : v = v' := by
  rcases a with ⟨k, m, hn, e⟩ | ⟨k, c, hc, e⟩
  · rcases b with ⟨k', m', hn', e'⟩ | ⟨k', c', hc', e'⟩
    · rw [Heap.Ns.uniq hn hn', e'] at e; cases e; rfl
    · rw [k] at k'; rcases k' with q | q <;> cases q
  · rcases b with ⟨k', m', hn', e'⟩ | ⟨k', c', hc', e'⟩
    · rw [k'] at k; rcases k with q | q <;> cases q
    · rw [hc] at hc'; cases hc'
      obtain ⟨o, h1, h2⟩ := e
      obtain ⟨o', h1', h2'⟩ := e'
      rw [h1] at h1'; cases h1'
      rw [h2] at h2'; cases h2'; rfl

theorem Binds.keep {env : Env} {h h' : Heap} {x : Str} {v : Value} (b : Binds env h x v) (k : Keep h h') : Binds env h' x v := by
  rcases b with ⟨kd, m, hn, e⟩ | ⟨kd, c, hc, e⟩
  · exact .inl ⟨kd, m, hn.keeps k, e⟩
  · exact .inr ⟨kd, c, hc, e.keeps k⟩

def EntOK (C : Addr) (cx : Cx) (h : Heap) (x : Str) : Ent → Prop
  | .val d => ∃ v, Binds cx.env h x v ∧ Rep C cx.δ h v d
  | .own xs => ∃ a vs n, Binds cx.env h x (.ref a) ∧ cx.μ a ∧ ¬ cx.β a ∧ h.get? a = some (listOf vs n) ∧ RepL C cx.δ h vs.toList xs
  | .pool R => (R.map (·.1)).Nodup ∧ ∀ p ∈ R, cx.μ p.1 ∧ ¬ cx.β p.1 ∧ ∃ vs n, h.get? p.1 = some (listOf vs n) ∧ RepL C cx.δ h vs.toList p.2

/-- what holds of a block's frame whatever it does -/
structure Stat (cx : Cx) : Prop where
  kind : cx.env.scope.kind = .function
  glob : cx.env.globals = mainGlobals
  blt : cx.env.builtins = builtinsNs
  hasCell : ∀ x, cx.env.kindOf x = some .cell ∨ cx.env.kindOf x = some .free → (cx.env.cells.lookup x).isSome = true
  apart : ∀ x y c, cx.env.cells.lookup x = some c → cx.env.cells.lookup y = some c → x = y
  mloc : cx.μ cx.env.locals
  mcell : ∀ x c, cx.own x = true → cx.env.cells.lookup x = some c → cx.μ c ∧ cx.env.locals < c
  mδ : ∀ a, cx.μ a → cx.δ a
  βδ : ∀ a, cx.β a → cx.δ a

structure Inv (W : Wc) (cx : Cx) (ρ : Rho) (s : Shared) : Prop where
  st : Stat cx
  fr : ∃ h₀ m, Fr h₀ cx.env.locals s.heap m ∧ Gd W h₀ ∧ ∀ a, cx.μ a ∨ cx.ν a → h₀.get? a = none
  cells : ∀ x c, cx.env.cells.lookup x = some c → ∃ v, s.heap.IsCell c v
  lt : ∀ a, cx.δ a → a < s.heap.objs.size
  val : ∀ x e, (x, e) ∈ ρ → EntOK W.C cx s.heap x e
  oap : ∀ x y xs ys a, (x, Ent.own xs) ∈ ρ → (y, Ent.own ys) ∈ ρ → Binds cx.env s.heap x (.ref a) → Binds cx.env s.heap y (.ref a) → x = y

theorem EntOK.keep {C : Addr} {cx : Cx} {h h' : Heap} {x : Str} : ∀ {e : Ent}, EntOK C cx h x e → Keep h h' → EntOK C cx h' x e
  | .val d, ⟨v, b, r⟩, k => ⟨v, b.keep k, r.keep k⟩
  | .own xs, ⟨a, vs, n, b, hm, hb, hg, r⟩, k => ⟨a, vs, n, b.keep k, hm, hb, k _ _ hg, r.keep k⟩
  | .pool R, ⟨hn, hp⟩, k => ⟨hn, fun p hm => let ⟨a, b, vs, n, hg, r⟩ := hp p hm; ⟨a, b, vs, n, k _ _ hg, r.keep k⟩⟩

section
variable {W : Wc} {cx : Cx} {ρ ρ' : Rho} {s s' : Shared}
theorem Inv.gd (i : Inv W cx ρ s) : Gd W s.heap := let ⟨_, _, F, g, _⟩ := i.fr; g.keeps F.keep
theorem EntOK.ref {C : Addr} {h : Heap} {x : Str} {xs : List D} (e : EntOK C cx h x (.own xs)) : ∃ a, Binds cx.env h x (.ref a) := let ⟨a, _, _, b, _⟩ := e; ⟨a, b⟩
theorem Inv.ext0 (i : Inv W cx ρ s) (x : Ext0 s s') : Inv W cx ρ s' where
  st := i.st
  fr := let ⟨h₀, m, F, g⟩ := i.fr; ⟨h₀, m, ⟨F.ns.keeps x.keeps, fun b o e => x.keeps _ _ (F.keep b o e), F.above⟩, g⟩
  cells := fun y c e => let ⟨v, h⟩ := i.cells y c e; ⟨v, h.keeps x.keeps⟩
  lt := fun a h => Nat.lt_of_lt_of_le (i.lt a h) x.size
  val := fun y e h => (i.val y e h).keep x.keeps
  oap := fun y z ys zs a h1 h2 b1 b2 => by
    obtain ⟨a1, e1⟩ := (i.val y _ h1).ref
    obtain ⟨a2, e2⟩ := (i.val z _ h2).ref
    have q1 := (e1.keep x.keeps).uniq b1
    have q2 := (e2.keep x.keeps).uniq b2
    cases q1; cases q2
    exact i.oap y z ys zs _ h1 h2 e1 e2
theorem Inv.sub (i : Inv W cx ρ s) (h : ∀ p, p ∈ ρ' → p ∈ ρ) : Inv W cx ρ' s :=
  ⟨i.st, i.fr, i.cells, i.lt, fun x e m => i.val x e (h _ m), fun x y xs ys a h1 h2 => i.oap x y xs ys a (h _ h1) (h _ h2)⟩
end

abbrev F0 : Value → Shared → Prop := fun _ _ => False

/-- in a frame where the names are as ρ says, the expression gives d -/
def EvOK (W : Wc) (cx : Cx) (n : Nat) (ρ : Rho) (β : Addr → Prop) (e : Expr) (d : D) : Prop :=
  (∀ a, β a → cx.δ a) → ∀ A s, Rm n A → Inv W cx ρ s → wpAny (model W.prog W.w) A (eval e cx.env) (fun v s' => Ext0 s s' ∧ Rep W.C β s'.heap v d) F0 s

section
variable {W : Wc} {cx : Cx} {n : Nat} {ρ : Rho} {β : Addr → Prop} {A : Around} {s s' : Shared}

theorem wpF {α : Type} {M : Model} {A : Around} {t : Sem α} {Q Q' : α → Shared → Prop} {E : Value → Shared → Prop} {s : Shared} (h : wpAny M A t Q F0 s) (hq : ∀ a s', Q a s' → Q' a s') : wpAny M A t Q' E s :=
  wpAny_mono h hq fun _ _ f => f.elim

theorem EvOK.use {e : Expr} {d : D} {Q : Value → Shared → Prop} {E : Value → Shared → Prop} (h : EvOK W cx n ρ β e d) (hβ : ∀ a, β a → cx.δ a) (r : Rm n A) (i : Inv W cx ρ s)
    (k : ∀ v s', Ext0 s s' → Inv W cx ρ s' → Rep W.C β s'.heap v d → Q v s') : wpAny (model W.prog W.w) A (eval e cx.env) Q E s :=
  wpF (h hβ A s r i) fun v s' ⟨x, y⟩ => k v s' x (i.ext0 x) y

theorem fresh_of (i : Inv W cx ρ s) (hβ : ∀ a, β a → cx.δ a) : ¬ β s.heap.objs.size := fun q => Nat.lt_irrefl _ (i.lt _ (hβ _ q))

theorem Ev.int {i : Int} {k : Nat} {pos : Pos} : EvOK W cx n ρ β (.Constant (.int i) k pos) (.int i) := fun _ A s _ _ =>
  wpAny_Constant_int ⟨ext0_tok, rep_int.mpr ⟨_, rfl⟩⟩
theorem Ev.str {x : Str} {k : Nat} {pos : Pos} : EvOK W cx n ρ β (.Constant (.str x) k pos) (.str x) := fun _ A s _ _ => by
  show wpAny _ A (mkText x) _ _ s
  exact wpAny_mkText ⟨ext0_tok, rep_str.mpr ⟨_, rfl⟩⟩
theorem load_name {x : Str} {pos : Pos} {v : Value} {Q : Value → Shared → Prop} {E : Value → Shared → Prop} {M : Model} (i : Inv W cx ρ s) (b : Binds cx.env s.heap x v) (h : Q v s)
    (hd : (x == ("__debug__" : Str)) = false) (hc : (x == ("__classdict__" : Str)) = false) : wpAny M A (eval (.Name x pos) cx.env) Q E s := by
  refine wpAny_Name ?_ hd
  rcases b with ⟨k, m, hn, e⟩ | ⟨k, c, hcl, e⟩
  · exact wpAny_loadName_local i.st.kind k hn e h
  · rcases k with k | k
    · exact wpAny_loadName_cell i.st.kind k hcl e h
    · exact wpAny_loadName_free i.st.kind k hcl e h hc

theorem Ev.name {x : Str} {pos : Pos} {d : D} (hm : (x, Ent.val d) ∈ ρ) (hd : (x == ("__debug__" : Str)) = false := by rfl) (hc : (x == ("__classdict__" : Str)) = false := by rfl) :
    EvOK W cx n ρ β (.Name x pos) d := fun hβ A s r i => by
  obtain ⟨v, b, rp⟩ := i.val x _ hm
  exact load_name i b ⟨Ext.refl _ _, rp.weak hβ⟩ hd hc
/-- a list of the block's own, read: what is read avoids nothing but what the caller changes -/
theorem Ev.ownName {x : Str} {pos : Pos} {xs : List D} (hm : (x, Ent.own xs) ∈ ρ) (hb : ∀ a, β a → cx.β a) (hd : (x == ("__debug__" : Str)) = false := by rfl) (hc : (x == ("__classdict__" : Str)) = false := by rfl) :
    EvOK W cx n ρ β (.Name x pos) (.list xs) := fun hβ A s r i => by
  obtain ⟨a, vs, k, b, hμ, hnb, hg, rp⟩ := i.val x _ hm
  exact load_name i b ⟨Ext.refl _ _, rep_list.mpr ⟨a, vs, k, rfl, fun q => hnb (hb a q), hg, rp.weak hβ⟩⟩ hd hc

/-- a step on values -/
def BinV (W : Wc) (op : Operator) (da db d : D) : Prop :=
  ∀ (A : Around) (s : Shared) (a b : Value) (β : Addr → Prop), Rm 1 A → Gd W s.heap → ¬ β s.heap.objs.size → Rep W.C β s.heap a da → Rep W.C β s.heap b db →
    wpAny (model W.prog W.w) A (binaryOp op a b) (fun v s' => Ext0 s s' ∧ Rep W.C β s'.heap v d) F0 s
def CmpV (W : Wc) (k : Nat) (op : CmpOp) (da db : D) (r : Bool) : Prop :=
  ∀ (A : Around) (s : Shared) (a b : Value), Rm k A → Gd W s.heap → Rep W.C no s.heap a da → Rep W.C no s.heap b db →
    wpAny (model W.prog W.w) A (compareOp op a b) (fun v s' => Ext0 s s' ∧ v = .bool r) F0 s

theorem Ev.bin {l r : Expr} {op : Operator} {pos : Pos} {d1 d2 d : D} (h1 : EvOK W cx n ρ β l d1) (h2 : EvOK W cx n ρ β r d2) (hv : BinV W op d1 d2 d) (hn : 1 ≤ n := by decide) :
    EvOK W cx n ρ β (.BinOp l op r pos) d := fun hβ A s rm i => by
  refine wpAny_BinOp (h1.use hβ rm i fun a s1 x1 i1 r1 => h2.use hβ rm i1 fun b s2 x2 i2 r2 => ?_)
  exact wpF (hv A s2 a b β (rm.le hn) i2.gd (fresh_of i2 hβ) (x2.rep r1) r2) fun v s3 ⟨x3, r3⟩ => ⟨x1.trans (x2.trans x3), r3⟩

theorem no_le (δ : Addr → Prop) : ∀ a, Mine.no a → δ a := fun _ q => q.elim

theorem Ev.cmp {k : Nat} {l r : Expr} {op : CmpOp} {pos : Pos} {d1 d2 : D} {b : Bool} (h1 : EvOK W cx n ρ Mine.no l d1) (h2 : EvOK W cx n ρ Mine.no r d2) (hv : CmpV W k op d1 d2 b) (hn : k ≤ n := by decide)
    (hm : behindInMarks op r = false := by with_unfolding_all rfl) :
    EvOK W cx n ρ β (.Compare l [op] [r] pos) (.bool b) := fun hβ A s rm i => by
  refine wpAny_Compare1 (h1.use (no_le _) rm i fun a s1 x1 i1 r1 => h2.use (no_le _) rm i1 fun c s2 x2 i2 r2 => ?_) hm
  exact wpF (hv A s2 a c (rm.le hn) i2.gd (x2.rep r1) r2) fun v s3 ⟨x3, r3⟩ => ⟨x1.trans (x2.trans x3), rep_bool.mpr r3⟩

/-- the truth of a test -/
def TsOK (W : Wc) (cx : Cx) (n : Nat) (ρ : Rho) (e : Expr) (b : Bool) : Prop :=
  ∀ A s, Rm n A → Inv W cx ρ s → wpAny (model W.prog W.w) A (isTrue e cx.env (eval e cx.env)) (fun v s' => Ext0 s s' ∧ v = b) F0 s
theorem TsOK.use {e : Expr} {b : Bool} {Q : Bool → Shared → Prop} {E : Value → Shared → Prop} (h : TsOK W cx n ρ e b) (r : Rm n A) (i : Inv W cx ρ s)
    (k : ∀ s', Ext0 s s' → Inv W cx ρ s' → Q b s') : wpAny (model W.prog W.w) A (isTrue e cx.env (eval e cx.env)) Q E s :=
  wpF (h A s r i) fun v s' ⟨x, y⟩ => y ▸ k s' x (i.ext0 x)
theorem Ts.cmp {k : Nat} {l r : Expr} {op : CmpOp} {pos : Pos} {d1 d2 : D} {b : Bool} (h1 : EvOK W cx n ρ Mine.no l d1) (h2 : EvOK W cx n ρ Mine.no r d2) (hv : CmpV W k op d1 d2 b) (hn : k ≤ n := by decide)
    (hm : behindInMarks op r = false := by with_unfolding_all rfl) :
    TsOK W cx n ρ (.Compare l [op] [r] pos) b := fun A s rm i => by
  refine wpAny_isTrue_Compare1 (h1.use (no_le _) rm i fun a s1 x1 i1 r1 => h2.use (no_le _) rm i1 fun c s2 x2 i2 r2 => ?_) hm
  exact wpF (hv A s2 a c (rm.le hn) i2.gd (x2.rep r1) r2) fun v s3 ⟨x3, r3⟩ => by
    subst r3
    exact wpAny_truthy_bool ⟨x1.trans (x2.trans x3), rfl⟩

end
end Mine
-- MB3
namespace Mine

section
variable {W : Wc}
theorem BinV.addInt {a b : Int} : BinV W .Add (.int a) (.int b) (.int (a + b)) := fun A s va vb β _ _ _ ra rb => by
  obtain ⟨t, rfl⟩ := rep_int.mp ra
  obtain ⟨u, rfl⟩ := rep_int.mp rb
  exact add_int ⟨ext0_tok, rep_int.mpr ⟨_, rfl⟩⟩
theorem BinV.subInt {a b : Int} : BinV W .Sub (.int a) (.int b) (.int (a - b)) := fun A s va vb β _ _ _ ra rb => by
  obtain ⟨t, rfl⟩ := rep_int.mp ra
  obtain ⟨u, rfl⟩ := rep_int.mp rb
  exact sub_int ⟨ext0_tok, rep_int.mpr ⟨_, rfl⟩⟩
theorem BinV.modInt {a b : Int} (hb : 0 < b) : BinV W .Mod (.int a) (.int b) (.int (a % b)) := fun A s va vb β _ _ _ ra rb => by
  obtain ⟨t, rfl⟩ := rep_int.mp ra
  obtain ⟨u, rfl⟩ := rep_int.mp rb
  exact mod_int' (by omega) ⟨ext0_tok, rep_int.mpr ⟨s.toks, by rw [Int.fmod_eq_emod_of_nonneg _ (by omega)]⟩⟩
theorem BinV.divInt {a b : Int} (hb : 0 < b) (hs : b < 1000000) : BinV W .FloorDiv (.int a) (.int b) (.int (a / b)) := fun A s va vb β _ _ _ ra rb => by
  obtain ⟨t, rfl⟩ := rep_int.mp ra
  obtain ⟨u, rfl⟩ := rep_int.mp rb
  exact floordiv_int (by omega) ⟨ext0_tok, rep_int.mpr ⟨s.toks, by rw [Int.fdiv_eq_ediv_of_nonneg _ (by omega)]⟩⟩ (.inl (PyProof.noPylong_small (by omega)))
theorem BinV.addStr {x y : Str} (hz : x.length + y.length ≤ sizeLine) : BinV W .Add (.str x) (.str y) (.str (x ++ y)) := fun A s va vb β _ _ _ ra rb => by
  obtain ⟨t, rfl⟩ := rep_str.mp ra
  obtain ⟨u, rfl⟩ := rep_str.mp rb
  exact add_str (fun t' tk => ⟨ext0_tok, rep_str.mpr ⟨_, rfl⟩⟩) hz
theorem BinV.addList {xs ys : List D} (hz : xs.length + ys.length ≤ sizeLine) : BinV W .Add (.list xs) (.list ys) (.list (xs ++ ys)) := fun A s va vb β _ _ hf ra rb => by
  obtain ⟨a, vs, n, rfl, ha, hg, hl⟩ := rep_list.mp ra
  obtain ⟨b, ws, m, rfl, hb, hgb, hlb⟩ := rep_list.mp rb
  have e1 := hl.length
  have e2 := hlb.length
  simp only [Array.length_toList] at e1 e2
  refine P.add_list (n := n) (n2 := m) hg hgb ⟨ext0_push, rep_list.mpr ⟨_, vs ++ ws, 0, rfl, hf, Heap.get?_push_size _ rfl, ?_⟩⟩ (by omega)
  rw [Array.toList_append]
  exact ((ext0_push (tk := s.toks)).repL hl).append ((ext0_push (tk := s.toks)).repL hlb)

theorem CmpV.eqInt {a b : Int} : CmpV W 3 .Eq (.int a) (.int b) (a == b) := fun A s va vb _ _ ra rb => by
  obtain ⟨t, rfl⟩ := rep_int.mp ra
  obtain ⟨u, rfl⟩ := rep_int.mp rb
  exact eq_int ⟨Ext.refl _ _, rfl⟩
theorem CmpV.gtStr {a b : Str} : CmpV W 3 .Gt (.str a) (.str b) (decide (b.cps.toList < a.cps.toList)) := fun A s va vb _ _ ra rb => by
  obtain ⟨t, rfl⟩ := rep_str.mp ra
  obtain ⟨u, rfl⟩ := rep_str.mp rb
  exact P.gt_str ⟨Ext.refl _ _, rfl⟩

theorem rep_list_at {C : Addr} {δ : Addr → Prop} {h : Heap} {v : Value} {xs : List D} (r : Rep C δ h v (.list xs)) : ∃ a vs n, v = .ref a ∧ h.get? a = some (listOf vs n) ∧ h.IsList a vs ∧ RepL C δ h vs.toList xs ∧ vs.size = xs.length := by
  obtain ⟨a, vs, n, rfl, _, hg, hl⟩ := rep_list.mp r
  have := hl.length
  exact ⟨a, vs, n, rfl, hg, ⟨_, hg, rfl, n, rfl⟩, hl, by simpa using this⟩

variable {cx : Cx} {n : Nat} {ρ : Rho} {β : Addr → Prop}

theorem Ev.sub {value slice : Expr} {pos : Pos} {xs : List D} {i : Int} {d : D} (h1 : EvOK W cx n ρ β value (.list xs)) (h2 : EvOK W cx n ρ Mine.no slice (.int i))
    (h0 : 0 ≤ i) (hd : xs[i.toNat]? = some d) (hz : i < 2 ^ 63)
    (hs : ∀ o i, subscripted slice false o i = operate [o, i] (getItem o i) := by intro _ _; with_unfolding_all rfl) :
    EvOK W cx n ρ β (.Subscript value slice pos) d := fun hβ A s rm inv => by
  refine Subscript_ (h1.use hβ rm inv fun o s1 x1 i1 r1 => h2.use (no_le _) rm i1 fun iv s2 x2 i2 r2 => ?_)
  obtain ⟨t, rfl⟩ := rep_int.mp r2
  obtain ⟨a, vs, k, rfl, hg, hl, rl, hsz⟩ := rep_list_at (x2.rep r1)
  obtain ⟨v, hv, rv⟩ := rl.get hd
  exact tail_any hl.typeIs slot_list_getitem.lookup (wpAny_getItem_list hl h0 hz (by simpa using hv) ⟨x1.trans x2, rv⟩) (hs _ _)

/-- an item of a list of the block's own: the list itself is not handed on -/
theorem Ev.subOwn {x : Str} {p : Pos} {slice : Expr} {pos : Pos} {xs : List D} {i : Int} {d : D} (hm : (x, Ent.own xs) ∈ ρ) (h2 : EvOK W cx n ρ Mine.no slice (.int i))
    (h0 : 0 ≤ i) (hd : xs[i.toNat]? = some d) (hz : i < 2 ^ 63)
    (hs : ∀ o i, subscripted slice false o i = operate [o, i] (getItem o i) := by intro _ _; with_unfolding_all rfl)
    (hdb : (x == ("__debug__" : Str)) = false := by rfl) (hc : (x == ("__classdict__" : Str)) = false := by rfl) :
    EvOK W cx n ρ β (.Subscript (.Name x p) slice pos) d := fun hβ A s rm inv => by
  obtain ⟨a, vs, k, b, hμ, hnb, hg, rp⟩ := inv.val x _ hm
  refine Subscript_ (load_name inv b (h2.use (no_le _) rm inv fun iv s2 x2 i2 r2 => ?_) hdb hc)
  obtain ⟨t, rfl⟩ := rep_int.mp r2
  have hg2 := x2.keeps _ _ hg
  have hl : s2.heap.IsList a vs := ⟨_, hg2, rfl, k, rfl⟩
  obtain ⟨v, hv, rv⟩ := (x2.repL (rp.weak hβ)).get hd
  exact tail_any hl.typeIs slot_list_getitem.lookup (wpAny_getItem_list hl h0 hz (by simpa using hv) ⟨x2, rv⟩) (hs _ _)

theorem letGo_str (value : Expr) (x : Str) (t : Tok) (r : Value) : letTemporaryGo value (.str x t) r = pure () := by
  unfold letTemporaryGo
  split
  · rfl
  · rename_i h; cases h
  · rfl

theorem Ev.subStr {value slice : Expr} {pos : Pos} {x : Str} {i : Int} (h1 : EvOK W cx n ρ Mine.no value (.str x)) (h2 : EvOK W cx n ρ Mine.no slice (.int i))
    (h0 : 0 ≤ i) (hi : i < x.length) (hz : fitsSsize i = true)
    (hs : ∀ o i, subscripted slice false o i = operate [o, i] (getItem o i) := by intro _ _; with_unfolding_all rfl) :
    EvOK W cx n ρ β (.Subscript value slice pos) (.str (Txt.item x i)) := fun hβ A s rm inv => by
  refine Subscript_ (h1.use (no_le _) rm inv fun o s1 x1 i1 r1 => h2.use (no_le _) rm i1 fun iv s2 x2 i2 r2 => ?_)
  obtain ⟨t, rfl⟩ := rep_int.mp r2
  obtain ⟨u, rfl⟩ := rep_str.mp r1
  exact item_str hz (by omega) hi (fun _ => ⟨x1.trans (x2.trans ext0_tok), rep_str.mpr ⟨_, rfl⟩⟩) (hs _ _) (letGo_str _ _ _)

/-- a part of a slice: none, or an int -/
def PartOK (W : Wc) (cx : Cx) (n : Nat) (ρ : Rho) (e : Option Expr) (k : Option Int) : Prop :=
  ∀ A s, Rm n A → Inv W cx ρ s → wpAny (model W.prog W.w) A (evalPart e cx.env) (fun v s' => Ext0 s s' ∧ IsPart v k) F0 s
theorem PartOK.none : PartOK W cx n ρ Option.none Option.none := fun A s _ _ => by
  rw [evalPart_none]; exact wpAny_pure ⟨Ext.refl _ _, .none⟩
theorem PartOK.some {e : Expr} {i : Int} (h : EvOK W cx n ρ Mine.no e (.int i)) : PartOK W cx n ρ (Option.some e) (Option.some i) := fun A s rm inv => by
  rw [evalPart_some]
  refine h.use (no_le _) rm inv fun v s1 x1 i1 r1 => ⟨x1, ?_⟩
  obtain ⟨t, rfl⟩ := rep_int.mp r1
  exact .int _ _

def pickD {α : Type} (xs : List α) (lo hi st : Option Int) : List α :=
  (sliceRange (sliceBounds lo hi st xs.length).1 (sliceBounds lo hi st xs.length).2.1 (sliceBounds lo hi st xs.length).2.2).filterMap (xs[·]?)

theorem RepL.pick {C : Addr} {δ : Addr → Prop} {h : Heap} {vs : List Value} {ds : List D} (x : RepL C δ h vs ds) : ∀ js : List Nat, RepL C δ h (js.filterMap (vs[·]?)) (js.filterMap (ds[·]?))
  | [] => .nil
  | j :: js => by
    rw [List.filterMap_cons, List.filterMap_cons]
    have e := x.length
    by_cases hj : j < ds.length
    · obtain ⟨v', e', r⟩ := x.get (List.getElem?_eq_getElem hj)
      rw [e', List.getElem?_eq_getElem hj]
      exact .cons r (x.pick js)
    · rw [List.getElem?_eq_none (by omega), List.getElem?_eq_none (by omega)]
      exact x.pick js
theorem slicePick_eq (items : Array Value) (lo hi st : Option Int) : (slicePick items lo hi st).toList = pickD items.toList lo hi st := by
  unfold slicePick pickD
  rw [List.toList_toArray, Array.length_toList]
  congr 1
  funext j
  simp

theorem Ev.slice {value : Expr} {lo hi st : Option Expr} {p pos : Pos} {xs : List D} {a b c : Option Int} (h1 : EvOK W cx n ρ β value (.list xs))
    (hl : PartOK W cx n ρ lo a) (hh : PartOK W cx n ρ hi b) (ht : PartOK W cx n ρ st c) (h0 : c ≠ some 0) (hz : xs.length ≤ sizeLine) :
    EvOK W cx n ρ β (.Subscript value (.Slice lo hi st p) pos) (.list (pickD xs a b c)) := fun hβ A s rm inv => by
  refine Subscript_ (h1.use hβ rm inv fun o s1 x1 i1 r1 => ?_)
  refine wpAny_Slice (wpF (hl A s1 rm i1) fun v1 s2 ⟨x2, p1⟩ => wpF (hh A s2 rm (i1.ext0 x2)) fun v2 s3 ⟨x3, p2⟩ => wpF (ht A s3 rm ((i1.ext0 x2).ext0 x3)) fun v3 s4 ⟨x4, p3⟩ => ?_)
  have x14 := x2.trans (x3.trans x4)
  have i4 := i1.ext0 x14
  obtain ⟨l, vs, k, rfl, hg, hlst, rl, hsz⟩ := rep_list_at (x14.rep r1)
  have x5 : Ext0 s4 { s4 with heap := s4.heap.push { cls := .type "slice", data := .fields #[v1, v2, v3] } } := ext0_push
  have hl5 : ({ s4 with heap := s4.heap.push { cls := .type "slice", data := .fields #[v1, v2, v3] } } : Shared).heap.IsList l vs := ⟨_, x5.keeps _ _ hg, rfl, k, rfl⟩
  have i5 := i4.ext0 x5
  have hget : wpAny (model W.prog W.w) A (getItem (.ref l) (.ref s4.heap.objs.size)) (fun v s' => Ext0 s s' ∧ Rep W.C β s'.heap v (.list (pickD xs a b c))) F0 { s4 with heap := s4.heap.push { cls := .type "slice", data := .fields #[v1, v2, v3] } } := by
    refine wpAny_getItem_list_slice hl5 (Heap.IsSliceOf.new _ _ _ _) p1 p2 p3 h0 ⟨x1.trans (x14.trans (x5.trans ext0_push)), ?_⟩ (by omega)
    refine rep_list.mpr ⟨_, slicePick vs a b c, 0, rfl, fresh_of i5 hβ, Heap.get?_push_size _ rfl, ?_⟩
    rw [slicePick_eq]
    have e : pickD vs.toList a b c = (sliceRange (sliceBounds a b c xs.length).1 (sliceBounds a b c xs.length).2.1 (sliceBounds a b c xs.length).2.2).filterMap (vs.toList[·]?) := by
      unfold pickD; rw [Array.length_toList, hsz]
    rw [e]
    exact ((x5.trans (ext0_push (tk := s4.toks))).repL rl).pick _
  cases st with
  | none => exact tail_any hl5.typeIs slot_list_getitem.lookup hget (ops := [.ref s4.heap.objs.size, .ref l]) rfl
  | some st => exact tail_any hl5.typeIs slot_list_getitem.lookup hget (ops := [.ref l, .ref s4.heap.objs.size]) rfl

/-- arguments, displays: one after the other -/
def ArgsOK (W : Wc) (cx : Cx) (n : Nat) (ρ : Rho) (β : Addr → Prop) (es : List Expr) (ds : List D) : Prop :=
  (∀ a, β a → cx.δ a) → ∀ A s pos, Rm n A → Inv W cx ρ s → wpAny (model W.prog W.w) A (spliced (backTo pos (starEach es cx.env))) (fun vs s' => Ext0 s s' ∧ RepL W.C β s'.heap vs ds) F0 s
theorem Args.nil : ArgsOK W cx n ρ β [] [] := fun _ A s pos _ _ => args_nil ⟨Ext.refl _ _, .nil⟩
theorem Args.cons {e : Expr} {es : List Expr} {d : D} {ds : List D} (h1 : EvOK W cx n ρ β e d) (h2 : ArgsOK W cx n ρ β es ds)
    (he : ∀ env, starEach (e :: es) env = (false, eval e env) :: starEach es env := by intro _; rfl) : ArgsOK W cx n ρ β (e :: es) (d :: ds) := fun hβ A s pos rm inv => by
  refine args_cons (h1.use hβ rm inv fun v s1 x1 i1 r1 => ?_) (he _)
  exact wpF (h2 hβ A s1 pos rm i1) fun vs s2 ⟨x2, r2⟩ => ⟨x1.trans x2, .cons (x2.rep r1) r2⟩

theorem Ev.list {es : List Expr} {pos : Pos} {ds : List D} (h : ArgsOK W cx n ρ β es ds) (hz : ds.length ≤ sizeLine) : EvOK W cx n ρ β (.List es pos) (.list ds) := fun hβ A s rm inv => by
  refine List_ (wpF (h hβ A s pos rm inv) fun vs s1 ⟨x1, r1⟩ => ?_)
  have e := r1.length
  refine wpAny_newObj_type ⟨x1.trans ext0_push, rep_list.mpr ⟨_, vs.toArray, 0, rfl, fresh_of (inv.ext0 x1) hβ, Heap.get?_push_size _ rfl, ?_⟩⟩ (by show vs.toArray.size ≤ _; rw [List.size_toArray]; omega)
  rw [List.toList_toArray]
  exact (ext0_push (tk := s1.toks)).repL r1
end
end Mine
-- MB4
namespace Mine

/-- the names other than x -/
inductive Drop (x : Str) : Rho → Rho → Prop
  | nil : Drop x [] []
  | skip {y e r r'} : (y == x) = true → Drop x r r' → Drop x ((y, e) :: r) r'
  | keep {y e r r'} : (y == x) = false → Drop x r r' → Drop x ((y, e) :: r) ((y, e) :: r')
theorem Drop.sub {x : Str} {r r' : Rho} (h : Drop x r r') : ∀ p, p ∈ r' → p ∈ r ∧ p.1 ≠ x := by
  induction h with
  | nil => intro p hp; cases hp
  | skip _ _ ih => intro p hp; exact ⟨.tail _ (ih p hp).1, (ih p hp).2⟩
  | keep hy _ ih =>
    intro p hp
    rcases List.mem_cons.mp hp with rfl | hp
    · exact ⟨.head _, fun q => by simp only at q; rw [q] at hy; simp at hy⟩
    · exact ⟨.tail _ (ih p hp).1, (ih p hp).2⟩

section
variable {W : Wc} {cx : Cx} {n : Nat} {ρ ρ' : Rho} {β : Addr → Prop} {A : Around} {s s' : Shared} {x : Str}

theorem Binds.local_ne {env : Env} {h h' : Heap} {y : Str} {v : Value} {m : Str → Option Value} (b : Binds env h y v) (hx : env.kindOf x = some .local) (hy : y ≠ x)
    (hn : h.Ns env.locals m) (w : Value) (hn' : h'.Ns env.locals (fun z => if z = x then some w else m z)) (hs : Heap.SameBut env.locals h h') : Binds env h' y v := by
  rcases b with ⟨k, m', hm, e⟩ | ⟨k, c, hc, e⟩
  · cases Heap.Ns.uniq hm hn
    exact .inl ⟨k, _, hn', by rw [if_neg hy]; exact e⟩
  · refine .inr ⟨k, c, hc, e.sameBut hs fun q => ?_⟩
    obtain ⟨o, es, ep, ho, hd, _⟩ := hn
    obtain ⟨o', ho', hd'⟩ := e
    rw [q, ho] at ho'; cases ho'
    rw [hd] at hd'; cases hd'

theorem Rep.sameBut {C : Addr} {δ : Addr → Prop} {h h' : Heap} {a : Addr} {v : Value} {d : D} (r : Rep C δ h v d) (ha : δ a) (hs : Heap.SameBut a h h') : Rep C δ h' v d :=
  r.mono (fun _ _ q => q) fun b o hb e => (hs.2 b (fun q => hb (q ▸ ha))).trans e
theorem RepL.sameBut {C : Addr} {δ : Addr → Prop} {h h' : Heap} {a : Addr} {v : List Value} {d : List D} (r : RepL C δ h v d) (ha : δ a) (hs : Heap.SameBut a h h') : RepL C δ h' v d :=
  r.mono (fun _ _ q => q) fun b o hb e => (hs.2 b (fun q => hb (q ▸ ha))).trans e

theorem ext_sameBut {μ : Addr → Prop} {a : Addr} {h' : Heap} {tk : Nat} (ha : μ a) (hs : Heap.SameBut a s.heap h') : Ext μ s { s with heap := h', toks := tk } :=
  ⟨fun b o hb e => (hs.2 b (fun q => hb (q ▸ ha))).trans e, rfl, rfl, Nat.le_of_eq hs.1.symm⟩

theorem Ns_isDict {h : Heap} {a : Addr} {m : Str → Option Value} (x : h.Ns a m) : ∃ o es ep, h.get? a = some o ∧ o.data = .dict es ep := let ⟨o, es, ep, ho, hd, _⟩ := x; ⟨o, es, ep, ho, hd⟩
theorem cell_ne_ns {h : Heap} {a c : Addr} {m : Str → Option Value} {v : Option Value} (x : h.Ns a m) (y : h.IsCell c v) : c ≠ a := fun q => by
  obtain ⟨o, es, ep, ho, hd⟩ := Ns_isDict x
  obtain ⟨o', ho', hd'⟩ := y
  rw [q, ho] at ho'; cases ho'
  rw [hd] at hd'; cases hd'
theorem list_ne_ns {h : Heap} {a l : Addr} {m : Str → Option Value} {vs : Array Value} {k : Nat} (x : h.Ns a m) (y : h.get? l = some (listOf vs k)) : l ≠ a := fun q => by
  obtain ⟨o, es, ep, ho, hd⟩ := Ns_isDict x
  rw [q, ho] at y; cases y
  cases hd
theorem list_ne_cell {h : Heap} {c l : Addr} {v : Option Value} {vs : Array Value} {k : Nat} (x : h.IsCell c v) (y : h.get? l = some (listOf vs k)) : l ≠ c := fun q => by
  obtain ⟨o, ho, hd⟩ := x
  rw [q, ho] at y; cases y
  cases hd

/-- a name of the frame's own is bound anew -/
theorem store_local {v : Value} {e : Ent} {Q : Unit → Shared → Prop} {E : Value → Shared → Prop} {M : Model} (i : Inv W cx ρ s) (hx : cx.env.kindOf x = some .local) (hd : Drop x ρ ρ')
    (he : ∀ h', Binds cx.env h' x v → Heap.SameBut cx.env.locals s.heap h' → EntOK W.C cx h' x e)
    (ho : ∀ xs, e = .own xs → ∀ y ys a, (y, Ent.own ys) ∈ ρ' → Binds cx.env s.heap y (.ref a) → v ≠ .ref a)
    (k : ∀ s', Ext cx.μ s s' → Inv W cx ((x, e) :: ρ') s' → Q () s') : wpAny M A (storeName cx.env x v) Q E s := by
  obtain ⟨h₀, m, F, g, hμ0⟩ := i.fr
  refine wpAny_storeName_local hx F.ns (fun h' hn hs => k _ (ext_sameBut i.st.mloc hs) ?_) (by rw [i.st.kind]; rfl)
  have hδ := i.st.mδ _ i.st.mloc
  have bx : Binds cx.env h' x v := .inl ⟨hx, _, hn, if_pos rfl⟩
  have old : ∀ y w, y ≠ x → Binds cx.env s.heap y w → Binds cx.env h' y w := fun y w hy b => b.local_ne hx hy F.ns v hn hs
  refine ⟨i.st, ⟨h₀, _, F.set hn hs, g, hμ0⟩, fun y c e => ?_, fun a ha => ?_, fun y e' hm => ?_, fun y z ys zs a h1 h2 b1 b2 => ?_⟩
  · obtain ⟨w, hw⟩ := i.cells y c e
    exact ⟨w, hw.sameBut hs (cell_ne_ns F.ns hw)⟩
  · show a < h'.objs.size; rw [hs.1]; exact i.lt a ha
  · rcases List.mem_cons.mp hm with q | hm
    · cases q; exact he h' bx hs
    · obtain ⟨hm, hy⟩ := hd.sub _ hm
      have := i.val y e' hm
      cases e' with
      | val d =>
        obtain ⟨w, b, r⟩ := this
        exact ⟨w, old y w hy b, r.sameBut hδ hs⟩
      | own xs =>
        obtain ⟨a, vs, k, b, hμ, hnb, hg, r⟩ := this
        exact ⟨a, vs, k, old y _ hy b, hμ, hnb, (hs.2 a (list_ne_ns F.ns hg)).trans hg, r.sameBut hδ hs⟩
      | pool R =>
        obtain ⟨hn, hp⟩ := this
        refine ⟨hn, fun p hm => ?_⟩
        obtain ⟨hμ, hnb, vs, k, hg, r⟩ := hp p hm
        exact ⟨hμ, hnb, vs, k, (hs.2 p.1 (list_ne_ns F.ns hg)).trans hg, r.sameBut hδ hs⟩
  · rcases List.mem_cons.mp h1 with q1 | h1'
    · cases q1
      rcases List.mem_cons.mp h2 with q2 | h2
      · cases q2; rfl
      · exfalso
        obtain ⟨hm, hz⟩ := hd.sub _ h2
        obtain ⟨a2, e2⟩ := (i.val z _ hm).ref
        have q := (old z _ hz e2).uniq b2
        have q' := bx.uniq b1
        cases q
        exact ho _ rfl z _ _ h2 e2 q'
    · clear h1
      obtain ⟨hm1, hy⟩ := hd.sub _ h1'
      obtain ⟨a1, e1⟩ := (i.val y _ hm1).ref
      have q1 := (old y _ hy e1).uniq b1
      cases q1
      rcases List.mem_cons.mp h2 with q2 | h2
      · exfalso
        cases q2
        have q' := bx.uniq b2
        exact ho _ rfl y _ _ h1' e1 q'
      · obtain ⟨hm2, hz⟩ := hd.sub _ h2
        obtain ⟨a2, e2⟩ := (i.val z _ hm2).ref
        have q2 := (old z _ hz e2).uniq b2
        cases q2
        exact i.oap y z ys zs _ hm1 hm2 e1 e2

/-- a name in a cell of the block's own is bound anew -/
theorem store_cell {v : Value} {e : Ent} {Q : Unit → Shared → Prop} {E : Value → Shared → Prop} {M : Model} (i : Inv W cx ρ s) (hx : cx.env.kindOf x = some .cell) (hown : cx.own x = true) (hd : Drop x ρ ρ')
    (he : ∀ c h', cx.μ c → Binds cx.env h' x v → Heap.SameBut c s.heap h' → (∀ l vs k, s.heap.get? l = some (listOf vs k) → l ≠ c) → EntOK W.C cx h' x e)
    (ho : ∀ xs, e = .own xs → ∀ y ys a, (y, Ent.own ys) ∈ ρ' → Binds cx.env s.heap y (.ref a) → v ≠ .ref a)
    (k : ∀ s', Ext cx.μ s s' → Inv W cx ((x, e) :: ρ') s' → Q () s') : wpAny M A (storeName cx.env x v) Q E s := by
  obtain ⟨h₀, m, F, g, hμ0⟩ := i.fr
  obtain ⟨c, hc⟩ := Option.isSome_iff_exists.mp (i.st.hasCell x (.inl hx))
  obtain ⟨hμc, hLc⟩ := i.st.mcell x c hown hc
  obtain ⟨v₀, hv₀⟩ := i.cells x c hc
  refine wpAny_storeName_cell i.st.kind hx hc hv₀ fun h' hv hs => k _ (ext_sameBut hμc hs) ?_
  have hδ := i.st.mδ _ hμc
  have hLne : cx.env.locals ≠ c := Nat.ne_of_lt hLc
  have bx : Binds cx.env h' x v := .inr ⟨.inl hx, c, hc, hv⟩
  have old : ∀ y w, y ≠ x → Binds cx.env s.heap y w → Binds cx.env h' y w := fun y w hy b => by
    rcases b with ⟨kd, m', hm, e⟩ | ⟨kd, c', hc', e⟩
    · exact .inl ⟨kd, m', hm.sameBut hs hLne, e⟩
    · exact .inr ⟨kd, c', hc', e.sameBut hs fun q => hy (i.st.apart y x c (q ▸ hc') hc)⟩
  refine ⟨i.st, ⟨h₀, m, ⟨F.ns.sameBut hs hLne, fun b o e => (hs.2 b (fun q => ?_)).trans (F.keep b o e), F.above⟩, g, hμ0⟩, fun y c' e => ?_, fun a ha => ?_, fun y e' hm => ?_, fun y z ys zs a h1 h2 b1 b2 => ?_⟩
  · exact Nat.lt_irrefl _ (Nat.lt_of_lt_of_le (Nat.lt_trans (Nat.lt_of_lt_of_le (Heap.lt_size e) F.above) hLc) (Nat.le_of_eq q.symm))
  · obtain ⟨w, hw⟩ := i.cells y c' e
    by_cases q : c' = c
    · exact ⟨some v, q ▸ hv⟩
    · exact ⟨w, hw.sameBut hs q⟩
  · show a < h'.objs.size; rw [hs.1]; exact i.lt a ha
  · rcases List.mem_cons.mp hm with q | hm
    · cases q; exact he c h' hμc bx hs fun l vs k hg => list_ne_cell hv₀ hg
    · obtain ⟨hm, hy⟩ := hd.sub _ hm
      have := i.val y e' hm
      cases e' with
      | val d =>
        obtain ⟨w, b, r⟩ := this
        exact ⟨w, old y w hy b, r.sameBut hδ hs⟩
      | own xs =>
        obtain ⟨a, vs, k, b, hμ, hnb, hg, r⟩ := this
        exact ⟨a, vs, k, old y _ hy b, hμ, hnb, (hs.2 a (list_ne_cell hv₀ hg)).trans hg, r.sameBut hδ hs⟩
      | pool R =>
        obtain ⟨hn, hp⟩ := this
        refine ⟨hn, fun p hm => ?_⟩
        obtain ⟨hμ, hnb, vs, k, hg, r⟩ := hp p hm
        exact ⟨hμ, hnb, vs, k, (hs.2 p.1 (list_ne_cell hv₀ hg)).trans hg, r.sameBut hδ hs⟩
  · rcases List.mem_cons.mp h1 with q1 | h1'
    · cases q1
      rcases List.mem_cons.mp h2 with q2 | h2
      · cases q2; rfl
      · exfalso
        obtain ⟨hm, hz⟩ := hd.sub _ h2
        obtain ⟨a2, e2⟩ := (i.val z _ hm).ref
        have q := (old z _ hz e2).uniq b2
        have q' := bx.uniq b1
        cases q
        exact ho _ rfl z _ _ h2 e2 q'
    · clear h1
      obtain ⟨hm1, hy⟩ := hd.sub _ h1'
      obtain ⟨a1, e1⟩ := (i.val y _ hm1).ref
      have q1 := (old y _ hy e1).uniq b1
      cases q1
      rcases List.mem_cons.mp h2 with q2 | h2
      · exfalso
        cases q2
        have q' := bx.uniq b2
        exact ho _ rfl y _ _ h1' e1 q'
      · obtain ⟨hm2, hz⟩ := hd.sub _ h2
        obtain ⟨a2, e2⟩ := (i.val z _ hm2).ref
        have q2 := (old z _ hz e2).uniq b2
        cases q2
        exact i.oap y z ys zs _ hm1 hm2 e1 e2

/-- x may be stored in this frame -/
def Stor (cx : Cx) (x : Str) : Prop := cx.env.kindOf x = some .local ∨ (cx.env.kindOf x = some .cell ∧ cx.own x = true)

theorem store_val {v : Value} {d : D} {Q : Unit → Shared → Prop} {E : Value → Shared → Prop} {M : Model} (i : Inv W cx ρ s) (hx : Stor cx x) (hd : Drop x ρ ρ') (r : Rep W.C cx.δ s.heap v d)
    (k : ∀ s', Ext cx.μ s s' → Inv W cx ((x, .val d) :: ρ') s' → Q () s') : wpAny M A (storeName cx.env x v) Q E s := by
  rcases hx with hx | ⟨hx, ho⟩
  · exact store_local (e := .val d) i hx hd (fun h' b hs => ⟨v, b, r.sameBut (i.st.mδ _ i.st.mloc) hs⟩) (fun xs q => by cases q) k
  · exact store_cell (e := .val d) i hx ho hd (fun c h' hc b hs _ => ⟨v, b, r.sameBut (i.st.mδ _ hc) hs⟩) (fun xs q => by cases q) k

theorem store_own {a : Addr} {vs : Array Value} {kk : Nat} {xs : List D} {Q : Unit → Shared → Prop} {E : Value → Shared → Prop} {M : Model} (i : Inv W cx ρ s) (hx : Stor cx x) (hd : Drop x ρ ρ')
    (hμ : cx.μ a) (hnb : ¬ cx.β a) (hg : s.heap.get? a = some (listOf vs kk)) (r : RepL W.C cx.δ s.heap vs.toList xs)
    (ho : ∀ y ys, (y, Ent.own ys) ∈ ρ' → ¬ Binds cx.env s.heap y (.ref a))
    (k : ∀ s', Ext cx.μ s s' → Inv W cx ((x, .own xs) :: ρ') s' → Q () s') : wpAny M A (storeName cx.env x (.ref a)) Q E s := by
  have ho' : ∀ zs, Ent.own xs = .own zs → ∀ y ys b, (y, Ent.own ys) ∈ ρ' → Binds cx.env s.heap y (.ref b) → Value.ref a ≠ .ref b := fun _ _ y ys b hm hb q => by cases q; exact ho y ys hm hb
  rcases hx with hx | ⟨hx, hown⟩
  · obtain ⟨h₀, m, F, g, hμ0⟩ := i.fr
    exact store_local (e := .own xs) i hx hd (fun h' b hs => ⟨a, vs, kk, b, hμ, hnb, (hs.2 a (list_ne_ns F.ns hg)).trans hg, r.sameBut (i.st.mδ _ i.st.mloc) hs⟩) ho' k
  · exact store_cell (e := .own xs) i hx hown hd (fun c h' hc b hs hl => ⟨a, vs, kk, b, hμ, hnb, (hs.2 a (hl a _ _ hg)).trans hg, r.sameBut (i.st.mδ _ hc) hs⟩) ho' k

/-- how a block ends -/
inductive O where
  | nxt (ρ : Rho)
  | brk (ρ : Rho)
  | cnt (ρ : Rho)
  | ret (d : D)
def OutOK (W : Wc) (cx : Cx) : O → Flow → Shared → Prop
  | .nxt ρ, f, s => f = .next ∧ Inv W cx ρ s
  | .brk ρ, f, s => f = .brk ∧ Inv W cx ρ s
  | .cnt ρ, f, s => f = .cont ∧ Inv W cx ρ s
  | .ret d, f, s => ∃ v, f = .ret v ∧ Rep W.C cx.β s.heap v d

def ExOK (W : Wc) (cx : Cx) (n : Nat) (ρ : Rho) (ss : List Stmt) (o : O) : Prop :=
  ∀ A s, Rm n A → Inv W cx ρ s → wpAny (model W.prog W.w) A (execs ss cx.env) (fun f s' => Ext cx.μ s s' ∧ OutOK W cx o f s') F0 s
def StOK (W : Wc) (cx : Cx) (n : Nat) (ρ : Rho) (st : Stmt) (o : O) : Prop :=
  ∀ A s, Rm n A → Inv W cx ρ s → wpAny (model W.prog W.w) A (exec st cx.env) (fun f s' => Ext cx.μ s s' ∧ OutOK W cx o f s') F0 s

theorem Ex.nil : ExOK W cx n ρ [] (.nxt ρ) := fun A s _ i => wpAny_execs_nil ⟨Ext.refl _ _, rfl, i⟩
theorem Ex.cons {st : Stmt} {rest : List Stmt} {ρ1 : Rho} {o : O} (h1 : StOK W cx n ρ st (.nxt ρ1)) (h2 : ExOK W cx n ρ1 rest o) : ExOK W cx n ρ (st :: rest) o := fun A s rm i => by
  refine wpAny_execs_cons (wpF (h1 A s rm i) fun f s1 ⟨x1, e, i1⟩ => ?_)
  subst e
  exact wpF (h2 A s1 rm i1) fun f s2 ⟨x2, y⟩ => ⟨x1.trans x2, y⟩
theorem Ex.stop {st : Stmt} {rest : List Stmt} {o : O} (h1 : StOK W cx n ρ st o) (ho : ∀ ρ', o ≠ .nxt ρ') : ExOK W cx n ρ (st :: rest) o := fun A s rm i => by
  refine wpAny_execs_cons (wpF (h1 A s rm i) fun f s1 ⟨x1, y⟩ => ?_)
  cases o with
  | nxt ρ' => exact absurd rfl (ho ρ')
  | brk ρ' => obtain ⟨e, i1⟩ := y; subst e; exact ⟨x1, rfl, i1⟩
  | cnt ρ' => obtain ⟨e, i1⟩ := y; subst e; exact ⟨x1, rfl, i1⟩
  | ret d => obtain ⟨v, e, i1⟩ := y; subst e; exact ⟨x1, v, rfl, i1⟩
theorem Ex.ret {st : Stmt} {rest : List Stmt} {d : D} (h1 : StOK W cx n ρ st (.ret d)) : ExOK W cx n ρ (st :: rest) (.ret d) := Ex.stop h1 fun _ q => by cases q
theorem Ex.one {st : Stmt} {o : O} (h1 : StOK W cx n ρ st o) : ExOK W cx n ρ [st] o := by
  cases o with
  | nxt ρ' => exact Ex.cons h1 Ex.nil
  | brk ρ' => exact Ex.stop h1 fun _ q => by cases q
  | cnt ρ' => exact Ex.stop h1 fun _ q => by cases q
  | ret d => exact Ex.stop h1 fun _ q => by cases q
theorem Ex.weak {ss : List Stmt} {ρ1 ρ2 : Rho} (h : ExOK W cx n ρ ss (.nxt ρ1)) (hs : ∀ p, p ∈ ρ2 → p ∈ ρ1) : ExOK W cx n ρ ss (.nxt ρ2) := fun A s rm i =>
  wpF (h A s rm i) fun f s1 ⟨x1, e, i1⟩ => ⟨x1, e, i1.sub hs⟩
theorem execs_append (env : Env) (rest : List Stmt) : ∀ ss : List Stmt, execs (ss ++ rest) env = (do match ← execs ss env with | .next => execs rest env | f => pure f)
  | [] => rfl
  | st :: ss => by
    show execs (st :: (ss ++ rest)) env = _
    rw [execs_cons, execs_cons, execs_append env rest ss]
    simp only [bind_assoc]
    congr 1
    funext f
    cases f <;> rfl

theorem execs_If (test : Expr) (body orelse rest : List Stmt) (pos : Pos) (env : Env) :
    execs (.If test body orelse pos :: rest) env = (do standAt pos; if ← isTrue test env (eval test env) then execs (body ++ rest) env else execs (orelse ++ rest) env) := by
  rw [execs_cons, exec_If, execs_append, execs_append]
  simp only [bind_assoc]
  congr 1
  funext _
  congr 1
  funext b
  cases b <;> rfl
/-- both ways go on with the rest -/
theorem Ex.ite {test : Expr} {body orelse rest : List Stmt} {pos : Pos} {b : Bool} {o : O} (ht : TsOK W cx n ρ test b) (h1 : b = true → ExOK W cx n ρ (body ++ rest) o) (h2 : b = false → ExOK W cx n ρ (orelse ++ rest) o) :
    ExOK W cx n ρ (.If test body orelse pos :: rest) o := fun A s rm i => by
  rw [execs_If]
  refine wpAny_bind (wpAny_standAt (wpAny_bind (ht.use rm i fun s1 x1 i1 => ?_)))
  cases b with
  | true => exact wpF (h1 rfl A s1 rm i1) fun f s2 ⟨x2, y⟩ => ⟨x1.of.trans x2, y⟩
  | false => exact wpF (h2 rfl A s1 rm i1) fun f s2 ⟨x2, y⟩ => ⟨x1.of.trans x2, y⟩
/-- both ways meet -/
theorem St.ite {test : Expr} {body orelse : List Stmt} {pos : Pos} {b : Bool} {o : O} (ht : TsOK W cx n ρ test b) (h1 : b = true → ExOK W cx n ρ body o) (h2 : b = false → ExOK W cx n ρ orelse o) :
    StOK W cx n ρ (.If test body orelse pos) o := fun A s rm i => by
  refine wpAny_If (ht.use rm i fun s1 x1 i1 => ?_)
  cases b with
  | true => exact wpF (h1 rfl A s1 rm i1) fun f s2 ⟨x2, y⟩ => ⟨x1.of.trans x2, y⟩
  | false => exact wpF (h2 rfl A s1 rm i1) fun f s2 ⟨x2, y⟩ => ⟨x1.of.trans x2, y⟩

theorem St.assign {px pos : Pos} {e : Expr} {d : D} (h : EvOK W cx n ρ cx.δ e d) (hx : Stor cx x) (hd : Drop x ρ ρ')
    (hs : swapsWith e (some (.Name x px)) pos.line cx.env = pure false := by rfl) : StOK W cx n ρ (.Assign [.Name x px] e pos) (.nxt ((x, .val d) :: ρ')) := fun A s rm i =>
  wpAny_Assign_Name (h.use (fun _ q => q) rm i fun v s1 x1 i1 r1 => store_val i1 hx hd r1 fun s2 x2 i2 => ⟨x1.of.trans x2, rfl, i2⟩) hs

theorem St.ret {e : Expr} {pos : Pos} {d : D} (h : EvOK W cx n ρ cx.β e d) : StOK W cx n ρ (.Return (some e) pos) (.ret d) := fun A s rm i =>
  wpAny_Return_some (h.use i.st.βδ rm i fun v s1 x1 i1 r1 => ⟨x1.of, v, rfl, r1⟩)
theorem St.try_ {body : List Stmt} {hs : List ExceptHandler} {pos : Pos} {o : O} (h : ExOK W cx n ρ body o) (ho : ∀ ρ', o ≠ .nxt ρ') : StOK W cx n ρ (.Try body hs [] [] pos) o := fun A s rm i => by
  show wpAny _ A (do standAt pos; tryStmt false (execs body cx.env) hs (execs [] cx.env) [] cx.env) _ _ s
  refine wpAny_bind (wpAny_standAt ?_)
  unfold tryStmt
  simp only [List.isEmpty_nil, if_true]
  refine wpAny_bind (wpAny_attempt (wpAny_mono (h A s rm i) (fun f s1 ⟨x1, y⟩ => ?_) fun _ _ z => z.elim))
  cases o with
  | nxt ρ' => exact absurd rfl (ho ρ')
  | brk ρ' => obtain ⟨e, i1⟩ := y; subst e; exact wpAny_pure ⟨x1, rfl, i1⟩
  | cnt ρ' => obtain ⟨e, i1⟩ := y; subst e; exact wpAny_pure ⟨x1, rfl, i1⟩
  | ret d => obtain ⟨v, e, i1⟩ := y; subst e; exact wpAny_pure ⟨x1, v, rfl, i1⟩
end
end Mine
-- MB5
namespace Mine

/-- an iterator at it that has the items ds to come -/
inductive ItAt (C : Addr) (δ : Addr → Prop) (h : Heap) (it : Addr) : List D → Prop
  | list {l : Addr} {i : Nat} {vs : Array Value} {n : Nat} {ds : List D} : h.IsListIter it l i → ¬ δ l → h.get? l = some (listOf vs n) → RepL C δ h (vs.toList.drop i) ds → ItAt C δ h it ds
  | rng {x left step : Int} : IsRangeIter h it x left step → ItAt C δ h it ((List.range left.toNat).map fun (k : Nat) => D.int (x + k * step))
  | ascii {x : Str} {t : Tok} {i : Nat} : h.IsStrIter it "str_ascii_iterator" x t i → ItAt C δ h it ((x.cps.toList.drop i).map fun c => D.str ⟨#[c]⟩)
  | wide {x : Str} {t : Tok} {i : Nat} : h.IsStrIter it "str_iterator" x t i → ItAt C δ h it ((x.cps.toList.drop i).map fun c => D.str ⟨#[c]⟩)

abbrev only (a : Addr) : Addr → Prop := fun b => b = a

section
variable {W : Wc} {C : Addr} {δ : Addr → Prop} {h h' : Heap} {it : Addr} {ds : List D} {s s' : Shared} {A : Around}

theorem ItAt.ob (x : ItAt C δ h it ds) : ∃ o, h.get? it = some o ∧ ItO o := by
  cases x with
  | list hi _ _ _ => obtain ⟨o, ho, hc, hd⟩ := hi; exact ⟨o, ho, .inl hc, _, hd⟩
  | rng hi => exact ⟨_, hi, .inr (.inl rfl), _, rfl⟩
  | ascii hi => obtain ⟨o, ho, hc, hd⟩ := hi; exact ⟨o, ho, .inr (.inr (.inr hc)), _, hd⟩
  | wide hi => obtain ⟨o, ho, hc, hd⟩ := hi; exact ⟨o, ho, .inr (.inr (.inl hc)), _, hd⟩
theorem ItAt.lt (x : ItAt C δ h it ds) : it < h.objs.size := let ⟨_, ho, _⟩ := x.ob; Heap.lt_size ho

theorem ItAt.keep (x : ItAt C δ h it ds) (hk : ∀ b o, ¬ δ b → h.get? b = some o → h'.get? b = some o) (hi : h'.get? it = h.get? it) : ItAt C δ h' it ds := by
  cases x with
  | list a b c d => obtain ⟨o, ho, hc, hd⟩ := a; exact .list ⟨o, hi.trans ho, hc, hd⟩ b (hk _ _ b c) (d.mono (fun _ _ q => q) hk)
  | rng a => exact .rng (show h'.get? it = _ from hi.trans a)
  | ascii a => obtain ⟨o, ho, hc, hd⟩ := a; exact .ascii ⟨o, hi.trans ho, hc, hd⟩
  | wide a => obtain ⟨o, ho, hc, hd⟩ := a; exact .wide ⟨o, hi.trans ho, hc, hd⟩
theorem ItAt.ext {μ : Addr → Prop} (x : ItAt C δ s.heap it ds) (e : Ext μ s s') (hμ : ∀ a, μ a → δ a) (hi : ¬ μ it) : ItAt C δ s'.heap it ds :=
  x.keep (fun b o hb q => e.keep b o (fun z => hb (hμ b z)) q) (by
    obtain ⟨o, ho, _⟩ := x.ob
    rw [ho]; exact e.keep _ _ hi ho)

theorem Rep.ofIt {v : Value} {d : D} {o : Obj} (r : Rep C δ h v d) (ho : h.get? it = some o) (hi : ItO o) (hk : ∀ b o, b ≠ it → h.get? b = some o → h'.get? b = some o) : Rep C δ h' v d :=
  r.mono' (fun _ _ q => q) fun b o' hb hn e => hk b o' (fun q => by subst q; rw [ho] at e; cases e; exact hn hi) e
theorem RepL.ofIt {v : List Value} {d : List D} {o : Obj} (r : RepL C δ h v d) (ho : h.get? it = some o) (hi : ItO o) (hk : ∀ b o, b ≠ it → h.get? b = some o → h'.get? b = some o) : RepL C δ h' v d :=
  r.mono' (fun _ _ q => q) fun b o' hb hn e => hk b o' (fun q => by subst q; rw [ho] at e; cases e; exact hn hi) e

theorem ext_only {a : Addr} {h' : Heap} {tk : Nat} (hs : Heap.SameBut a s.heap h') : Ext (only a) s { s with heap := h', toks := tk } :=
  ⟨fun b o hb e => (hs.2 b hb).trans e, rfl, rfl, Nat.le_of_eq hs.1.symm⟩

theorem range_succ_map {α : Type} (n : Nat) (f : Nat → α) : (List.range (n + 1)).map f = f 0 :: (List.range n).map fun k => f (k + 1) := by
  rw [List.range_succ_eq_map, List.map_cons, List.map_map]; rfl

theorem ItAt.item {d : D} {Q : Option Value → Shared → Prop} {E : Value → Shared → Prop} {M : Wc} (x : ItAt C δ s.heap it (d :: ds))
    (k : ∀ v s', Ext (only it) s s' → ItAt C δ s'.heap it ds → Rep C δ s'.heap v d → Q (some v) s') : wpAny (model M.prog M.w) A (pyNext (.ref it)) Q E s := by
  obtain ⟨oi, hoi, hit⟩ := x.ob
  generalize e : d :: ds = dd at x
  cases x with
  | list a b c r =>
    rename_i l i vs n
    rw [← e] at r
    obtain ⟨v, vs', ev, rv, rvs⟩ := r.cons_inv'
    have hget : vs[i]? = some v := by
      have := congrArg (·[0]?) ev
      simpa using this
    have hne : l ≠ it := fun q => by rw [q, hoi] at c; cases c; exact notItO_list _ _ hit
    refine wpAny_pyNext_list_item a ⟨_, c, rfl, n, rfl⟩ hget fun h' hi' hs => k v _ (ext_only (tk := s.toks) hs) (.list hi' b ((hs.2 l hne).trans c) ?_) (rv.ofIt hoi hit fun b' o' hb e' => (hs.2 b' hb).trans e')
    have ed : vs.toList.drop (i + 1) = vs' := by
      rw [← List.drop_drop, ev]; rfl
    rw [ed]
    exact rvs.ofIt hoi hit fun b' o' hb e' => (hs.2 b' hb).trans e'
  | rng a =>
    rename_i y left step
    have hl : 0 < left := by
      by_cases q : 0 < left
      · exact q
      · have : left.toNat = 0 := by omega
        rw [this] at e; cases e
    obtain ⟨m, hm⟩ : ∃ m, left.toNat = m + 1 := ⟨left.toNat - 1, by omega⟩
    rw [hm, range_succ_map] at e
    injection e with e1 e2
    subst e1 e2
    refine wpAny_pyNext_range_item a hl fun h' hi' hs => k _ _ (ext_only hs) ?_ (rep_int.mpr ⟨s.toks, by simp⟩)
    have hm' : (left - 1).toNat = m := by omega
    have := ItAt.rng (C := C) (δ := δ) hi'
    rw [hm'] at this
    have e3 : ((List.range m).map fun (k : Nat) => D.int (y + step + k * step)) = (List.range m).map fun (k : Nat) => D.int (y + ((k + 1 : Nat) : Int) * step) := by
      refine List.map_congr_left fun k _ => ?_
      congr 1
      rw [Int.natCast_add, Int.add_mul]
      have : ((1 : Nat) : Int) * step = step := by simp
      rw [this]; omega
    rw [e3] at this
    exact this
  | ascii a =>
    rename_i x t i
    cases q : x.cps.toList.drop i with
    | nil => rw [q] at e; cases e
    | cons c cs =>
      rw [q] at e
      injection e with e1 e2
      subst e1 e2
      have hget : x.cps[i]? = some c := by
        have := congrArg (·[0]?) q
        simpa using this
      refine wpAny_pyNext_ascii_item a hget fun h' hi' hs => k _ _ (ext_only hs) ?_ (rep_str.mpr ⟨_, rfl⟩)
      have ed : x.cps.toList.drop (i + 1) = cs := by rw [← List.drop_drop, q]; rfl
      have := ItAt.ascii (C := C) (δ := δ) hi'
      rw [ed] at this
      exact this
  | wide a =>
    rename_i x t i
    cases q : x.cps.toList.drop i with
    | nil => rw [q] at e; cases e
    | cons c cs =>
      rw [q] at e
      injection e with e1 e2
      subst e1 e2
      have hget : x.cps[i]? = some c := by
        have := congrArg (·[0]?) q
        simpa using this
      refine wpAny_pyNext_wide_item a hget fun h' hi' hs => k _ _ (ext_only hs) ?_ (rep_str.mpr ⟨_, rfl⟩)
      have ed : x.cps.toList.drop (i + 1) = cs := by rw [← List.drop_drop, q]; rfl
      have := ItAt.wide (C := C) (δ := δ) hi'
      rw [ed] at this
      exact this

theorem ext_extBut {a : Addr} {h' : Heap} {tk : Nat} (hs : Heap.ExtBut a s.heap h') (hz : s.heap.objs.size ≤ h'.objs.size) : Ext (only a) s { s with heap := h', toks := tk } :=
  ⟨fun b o hb e => hs b o hb e, rfl, rfl, hz⟩

theorem ItAt.fin {Q : Option Value → Shared → Prop} {E : Value → Shared → Prop} {M : Wc} (hh : A.handled = none) (x : ItAt C δ s.heap it [])
    (k : ∀ s', Ext (only it) s s' → Q none s') : wpAny (model M.prog M.w) A (pyNext (.ref it)) Q E s := by
  refine wpz ?_
  generalize e : ([] : List D) = dd at x
  cases x with
  | list a b c r =>
    rename_i l i vs n
    rw [← e] at r
    have q := r.nil_inv'
    have hx : vs[i]? = none := by
      have := congrArg (·[0]?) q
      simpa using this
    exact wpAny_pyNext_list_end hh a ⟨_, c, rfl, n, rfl⟩ hx fun h' hs hz => k _ (ext_extBut (tk := s.toks) hs hz)
  | rng a =>
    rename_i y left step
    have hl : left ≤ 0 := by
      have := congrArg List.length e
      simp at this
      omega
    exact wpAny_pyNext_range_end hh a hl fun h' hs hz => k _ (ext_extBut (tk := s.toks) hs hz)
  | ascii a =>
    rename_i x t i
    have hx : x.cps[i]? = none := by
      have := congrArg List.length e
      simp at this
      simp; omega
    exact wpAny_pyNext_ascii_end hh a hx fun h' hs hz => k _ (ext_extBut (tk := s.toks) hs hz)
  | wide a =>
    rename_i x t i
    have hx : x.cps[i]? = none := by
      have := congrArg List.length e
      simp at this
      simp; omega
    exact wpAny_pyNext_wide_end hh a hx fun h' hs hz => k _ (ext_extBut (tk := s.toks) hs hz)

theorem ItAt.self {Q : Value → Shared → Prop} {E : Value → Shared → Prop} {M : Wc} (x : ItAt C δ s.heap it ds) (h : Q (.ref it) s) : wpAny (model M.prog M.w) A (pyIter (.ref it)) Q E s := by
  cases x with
  | list a b c r => exact wpAny_pyIter_listiter a h
  | rng a => exact wpAny_pyIter_rangeiter a h
  | ascii a => exact wpAny_pyIter_striter_ascii a h
  | wide a => exact wpAny_pyIter_striter_wide a h

/-- what a datum gives item by item -/
inductive Items : D → List D → Prop
  | list {xs : List D} : Items (.list xs) xs
  | rng {a b c : Int} (h : Builtin.Range.small a b c = true) : Items (.rng a b c) ((List.range (Builtin.Range.rangeSize a b c).toNat).map fun (k : Nat) => D.int (a + k * c))
  | str {x : Str} : Items (.str x) (x.cps.toList.map fun c => D.str ⟨#[c]⟩)

theorem Items.iter {v : Value} {d : D} {Q : Value → Shared → Prop} {E : Value → Shared → Prop} {M : Wc} (i : Items d ds) (r : Rep C δ s.heap v d)
    (k : ∀ it s', Ext0 s s' → hz s ≤ it → ItAt C δ s'.heap it ds → Q (.ref it) s') : wpAny (model M.prog M.w) A (pyIter v) Q E s := by
  cases i with
  | list =>
    obtain ⟨a, vs, n, rfl, ha, hg, hl⟩ := rep_list.mp r
    refine wpAny_pyIter_list (l := a) ⟨_, hg, rfl, n, rfl⟩ (k _ _ (ext0_push (tk := s.toks)) (Nat.le_refl _) (.list (i := 0) ⟨_, Heap.get?_push_size _ rfl, rfl, rfl⟩ ha (Heap.get?_push_of_some _ hg) ?_))
    exact (ext0_push (tk := s.toks)).repL hl
  | rng h =>
    obtain ⟨r, t, u, w, rfl, hr, hg⟩ := rep_rng.mp r
    exact wpAny_pyIter_range hg h (k _ _ (ext0_push (tk := s.toks)) (Nat.le_refl _) (.rng (Heap.get?_push_size _ rfl)))
  | str =>
    rename_i x
    obtain ⟨t, rfl⟩ := rep_str.mp r
    cases ha : x.cps.all (· < 128)
    · exact wpAny_pyIter_wide ha (k _ _ (ext0_push (tk := s.toks)) (Nat.le_refl _) (.wide (i := 0) ⟨_, Heap.get?_push_size _ rfl, rfl, rfl⟩))
    · exact wpAny_pyIter_ascii ha (k _ _ (ext0_push (tk := s.toks)) (Nat.le_refl _) (.ascii (i := 0) ⟨_, Heap.get?_push_size _ rfl, rfl, rfl⟩))
end

section
variable {W : Wc} {cx : Cx} {n : Nat} {ρ ρ' : Rho} {A : Around} {s s' : Shared} {it : Addr} {ds : List D}
/-- an iterator's own step leaves the frame as it is -/
theorem Inv.iter {o : Obj} (i : Inv W cx ρ s) (hL : cx.ν it ∨ cx.env.locals < it) (ho : s.heap.get? it = some o) (hi : ItO o) (e : Ext (only it) s s') : Inv W cx ρ s' := by
  obtain ⟨h₀, m, F, g, hμ0⟩ := i.fr
  have hk : ∀ b o', b ≠ it → s.heap.get? b = some o' → s'.heap.get? b = some o' := fun b o' hb q => e.keep b o' hb q
  have notDict : ∀ {a : Addr} {m : Str → Option Value}, s.heap.Ns a m → a ≠ it := fun hn q => by
    obtain ⟨o', es, ep, h1, h2⟩ := Ns_isDict hn
    rw [q, ho] at h1; cases h1
    obtain ⟨_, vs, hv⟩ := hi
    rw [h2] at hv; cases hv
  have notCell : ∀ {c : Addr} {v : Option Value}, s.heap.IsCell c v → c ≠ it := fun hc q => by
    obtain ⟨o', h1, h2⟩ := hc
    rw [q, ho] at h1; cases h1
    obtain ⟨_, vs, hv⟩ := hi
    rw [h2] at hv; cases hv
  have nsK : ∀ {a : Addr} {m : Str → Option Value}, s.heap.Ns a m → s'.heap.Ns a m := fun hn => by
    have ne := notDict hn
    obtain ⟨o', es, ep, h1, r⟩ := hn
    exact ⟨o', es, ep, hk _ _ ne h1, r⟩
  have ceK : ∀ {c : Addr} {v : Option Value}, s.heap.IsCell c v → s'.heap.IsCell c v := fun hc => by
    have ne := notCell hc
    obtain ⟨o', h1, r⟩ := hc
    exact ⟨o', hk _ _ ne h1, r⟩
  have bK : ∀ {x : Str} {v : Value}, Binds cx.env s.heap x v → Binds cx.env s'.heap x v := fun b => by
    rcases b with ⟨kd, m', hn, q⟩ | ⟨kd, c, hc, q⟩
    · exact .inl ⟨kd, m', nsK hn, q⟩
    · exact .inr ⟨kd, c, hc, ceK q⟩
  refine ⟨i.st, ⟨h₀, m, ⟨nsK F.ns, fun b o' q => hk b o' (fun z => ?_) (F.keep b o' q), F.above⟩, g, hμ0⟩, fun x c q => ?_, fun a ha => Nat.lt_of_lt_of_le (i.lt a ha) e.size, fun x en hm => ?_, fun y z ys zs a h1 h2 b1 b2 => ?_⟩
  · rcases hL with hL | hL
    · rw [z, hμ0 _ (.inr hL)] at q; cases q
    · exact Nat.lt_irrefl _ (Nat.lt_of_lt_of_le (Nat.lt_of_lt_of_le (Heap.lt_size q) F.above) (Nat.le_of_lt (z ▸ hL)))
  · obtain ⟨v, hv⟩ := i.cells x c q
    exact ⟨v, ceK hv⟩
  · have := i.val x en hm
    cases en with
    | val d => obtain ⟨v, b, r⟩ := this; exact ⟨v, bK b, r.ofIt ho hi hk⟩
    | own xs =>
      obtain ⟨a, vs, kk, b, hμ, hnb, hg, r⟩ := this
      exact ⟨a, vs, kk, bK b, hμ, hnb, hk _ _ (fun z => by rw [z, ho] at hg; cases hg; exact notItO_list _ _ hi) hg, r.ofIt ho hi hk⟩
    | pool R =>
      obtain ⟨hn, hp⟩ := this
      refine ⟨hn, fun p hm => ?_⟩
      obtain ⟨hμ, hnb, vs, kk, hg, r⟩ := hp p hm
      exact ⟨hμ, hnb, vs, kk, hk _ _ (fun z => by rw [z, ho] at hg; cases hg; exact notItO_list _ _ hi) hg, r.ofIt ho hi hk⟩
  · obtain ⟨a1, e1⟩ := (i.val y _ h1).ref
    obtain ⟨a2, e2⟩ := (i.val z _ h2).ref
    have q1 := (bK e1).uniq b1
    have q2 := (bK e2).uniq b2
    cases q1; cases q2
    exact i.oap y z ys zs _ h1 h2 e1 e2
theorem Inv.locals_lt (i : Inv W cx ρ s) : cx.env.locals < hz s := i.lt _ (i.st.mδ _ i.st.mloc)
end
end Mine
-- MB6
namespace Mine

def or1 (μ : Addr → Prop) (a : Addr) : Addr → Prop := fun b => μ b ∨ b = a
theorem Ext.both {μ : Addr → Prop} {a : Addr} {s s1 s2 : Shared} (x : Ext0 s s1) (ha : hz s ≤ a) (y : Ext (or1 μ a) s1 s2) : Ext μ s s2 :=
  ⟨fun b o hb e => y.keep b o (fun q => q.elim hb fun z => Nat.lt_irrefl _ (Nat.lt_of_lt_of_le (Heap.lt_size e) (z ▸ ha))) (x.keeps _ _ e), y.gens.trans x.gens, y.os.trans x.os, Nat.le_trans x.size y.size⟩

section
variable {W : Wc} {cx : Cx} {n : Nat} {ρ ρ' : Rho} {A : Around} {s s' : Shared} {x : Str}

theorem noted {α : Type} {M : Model} {A : Around} {env : Env} {t : Sem α} {Q : α → Shared → Prop} {E : Value → Shared → Prop} {s : Shared} (h : wpAny M A t Q F0 s) : wpAny M A t Q E s :=
  wpAny_mono h (fun _ _ q => q) fun _ _ f => f.elim

/-- a loop over items: σ is what a turn hands on; res says how the loop ends -/
theorem St.for_ {σ : Type} {px pos : Pos} {iter : Expr} {body : List Stmt} {d : D} {ds : List D} (I : List D → σ → Prop) (ρs : σ → Rho) (res : List D → σ → O) (st0 : σ)
    (hiter : EvOK W cx n ρ cx.δ iter d) (hitems : Items d ds) (hx : Stor cx x) (hD : ∀ st, Drop x (ρs st) (ρs st)) (h0 : ∀ p, p ∈ ρs st0 → p ∈ ρ) (hI : I ds st0)
    (hnil : ∀ st, I [] st → res [] st = .nxt (ρs st))
    (hturn : ∀ d ds st, I (d :: ds) st → ∃ o, ExOK W cx n ((x, .val d) :: ρs st) body o ∧ (match o with
      | .nxt ρ' | .cnt ρ' => ∃ st', (∀ p, p ∈ ρs st' → p ∈ ρ') ∧ I ds st' ∧ res ds st' = res (d :: ds) st
      | .brk ρ' => res (d :: ds) st = .nxt ρ'
      | .ret e => res (d :: ds) st = .ret e))
    (hs : ∀ v, foldedSetIterable iter cx.env v = pure v := by intro _; rfl) :
    StOK W cx n ρ (.For (.Name x px) iter body [] pos) (res ds st0) := fun A s rm i => by
  refine wpAny_For (hiter.use (fun _ q => q) rm i fun v s1 x1 i1 r1 => hitems.iter r1 fun it s2 x2 hit a2 => ?_) hs
  have i2 := i1.ext0 x2
  have hL : cx.env.locals < it := Nat.lt_of_lt_of_le i1.locals_lt hit
  have hnμ : ¬ cx.μ it := fun q => Nat.lt_irrefl _ (Nat.lt_of_lt_of_le (i1.lt _ (i1.st.mδ _ q)) hit)
  have hs0 : hz s ≤ it := Nat.le_trans x1.size hit
  refine codeAny_forLoop (fun k s' => ∃ dd st, k = dd.length ∧ I dd st ∧ Inv W cx (ρs st) s' ∧ ItAt W.C cx.δ s'.heap it dd ∧ Ext (or1 cx.μ it) s2 s' ∧ res dd st = res ds st0) ?_ ds.length
    ⟨ds, st0, rfl, hI, i2.sub h0, a2, Ext.refl _ _, rfl⟩
  rintro k s3 ⟨dd, st, rfl, hId, i3, a3, x3, hr⟩
  refine noted (env := cx.env) ?_
  obtain ⟨oi, hoi, hito⟩ := a3.ob
  cases dd with
  | nil =>
    refine a3.fin rm.hd fun s4 x4 => ?_
    have i4 := i3.iter (.inr hL) hoi hito x4
    refine wpAny_execs_nil ?_
    rw [← hr, hnil st hId]
    exact ⟨(x1.trans x2).both hs0 (x3.trans (x4.weak fun _ q => .inr q)), rfl, i4⟩
  | cons d dd =>
    refine a3.item fun v s4 x4 a4 r4 => ?_
    have i4 := i3.iter (.inr hL) hoi hito x4
    refine wpAny_assign_Name (store_val i4 hx (hD st) r4 fun s5 x5 i5 => ?_)
    obtain ⟨o, hb, ho⟩ := hturn d dd st hId
    refine noted (env := cx.env) (wpF (hb A s5 rm i5) fun f s6 ⟨x6, y⟩ => ?_)
    have xx : Ext (or1 cx.μ it) s2 s6 := x3.trans ((x4.weak fun _ q => .inr q).trans ((x5.weak fun _ q => .inl q).trans (x6.weak fun _ q => .inl q)))
    have a6 : ItAt W.C cx.δ s6.heap it dd := (a4.ext x5 i4.st.mδ hnμ).ext x6 i4.st.mδ hnμ
    cases o with
    | nxt ρ1 =>
      obtain ⟨e, i6⟩ := y; subst e
      obtain ⟨st', h1, h2, h3⟩ := ho
      exact ⟨dd.length, by simp, dd, st', rfl, h2, i6.sub h1, a6, xx, h3.trans hr⟩
    | cnt ρ1 =>
      obtain ⟨e, i6⟩ := y; subst e
      obtain ⟨st', h1, h2, h3⟩ := ho
      exact ⟨dd.length, by simp, dd, st', rfl, h2, i6.sub h1, a6, xx, h3.trans hr⟩
    | brk ρ1 =>
      obtain ⟨e, i6⟩ := y; subst e
      have e2 : res ds st0 = .nxt ρ1 := hr.symm.trans ho
      show _ ∧ _
      rw [e2]
      exact ⟨(x1.trans x2).both hs0 xx, rfl, i6⟩
    | ret e =>
      obtain ⟨v', ev, r6⟩ := y; subst ev
      have e2 : res ds st0 = .ret e := hr.symm.trans ho
      show _ ∧ _
      rw [e2]
      exact ⟨(x1.trans x2).both hs0 xx, v', rfl, r6⟩

end
end Mine
-- MB7
namespace Mine

/-! the closure of a block made inside another -/
def closOf (cells : List (Str × Addr)) : List (Str × NameKind) → List (Str × Addr) → List (Str × Addr)
  | [], acc => acc
  | (n, k) :: r, acc => if k == .free then closOf cells r ((n, (cells.lookup n).getD 0) :: acc) else closOf cells r acc

theorem closureFor_eq {scope : Scope} {env : Env} (h : ∀ x ∈ scope.names, x.2 = .free → (env.cells.lookup x.1).isSome = true) : closureFor scope env = pure (closOf env.cells scope.names []) := by
  unfold closureFor
  have go : ∀ (names : List (Str × NameKind)) (acc : List (Str × Addr)), (∀ x ∈ names, x.2 = .free → (env.cells.lookup x.1).isSome = true) →
      (forIn names acc fun (x : Str × NameKind) cs => match x with
        | (name, kind) => if (kind == NameKind.free) = true then do
            let a ← cellOf env name
            pure (ForInStep.yield ((name, a) :: cs))
          else pure (ForInStep.yield cs) : Sem (List (Str × Addr))) = pure (closOf env.cells names acc) := by
    intro names
    induction names with
    | nil => intro acc _; rw [List.forIn_nil]; rfl
    | cons x r ih =>
      intro acc hx
      obtain ⟨n, k⟩ := x
      rw [List.forIn_cons]
      have hr : ∀ x ∈ r, x.2 = .free → (env.cells.lookup x.1).isSome = true := fun y hy => hx y (.tail _ hy)
      by_cases hk : (k == NameKind.free) = true
      · have e := hx (n, k) (.head _) (by simpa using hk)
        obtain ⟨c, hc⟩ := Option.isSome_iff_exists.mp e
        simp only at hc
        have e1 : cellOf env n = pure c := by unfold cellOf; rw [hc]
        simp only [hk, if_true, e1, pure_bind]
        rw [ih _ hr]
        show _ = pure (if (k == NameKind.free) = true then closOf env.cells r ((n, (env.cells.lookup n).getD 0) :: acc) else _)
        rw [if_pos hk, hc]; rfl
      · have hk' : (k == NameKind.free) = false := by simpa using hk
        simp only [hk', Bool.false_eq_true, if_false, pure_bind]
        have e2 := ih acc hr
        simp only at e2
        refine Eq.trans e2 ?_
        show _ = pure (if (k == NameKind.free) = true then _ else closOf env.cells r acc)
        rw [if_neg hk]
  have := go scope.names [] h
  rw [show (pure (closOf env.cells scope.names []) : Sem (List (Str × Addr))) = (pure (closOf env.cells scope.names []) : Sem _) >>= pure from (pure_bind _ _).symm, ← this]

theorem closOf_mem {cells : List (Str × Addr)} : ∀ {names : List (Str × NameKind)} {acc : List (Str × Addr)}, (∀ x ∈ names, x.2 = .free → (cells.lookup x.1).isSome = true) → (∀ p ∈ acc, cells.lookup p.1 = some p.2) →
    ∀ p ∈ closOf cells names acc, cells.lookup p.1 = some p.2
  | [], _, _, ha, p, hp => ha p hp
  | (n, k) :: r, acc, h, ha, p, hp => by
    unfold closOf at hp
    have hr : ∀ x ∈ r, x.2 = .free → (cells.lookup x.1).isSome = true := fun y hy => h y (.tail _ hy)
    split at hp
    · rename_i hk
      refine closOf_mem hr (fun q hq => ?_) p hp
      rcases List.mem_cons.mp hq with rfl | hq
      · obtain ⟨c, hc⟩ := Option.isSome_iff_exists.mp (h (n, k) (.head _) (by simpa using hk))
        simp only at hc ⊢
        rw [hc]; rfl
      · exact ha q hq
    · exact closOf_mem hr ha p hp
theorem closOf_src {cells : List (Str × Addr)} : ∀ {names : List (Str × NameKind)} {acc : List (Str × Addr)}, ∀ p ∈ closOf cells names acc, p ∈ acc ∨ (p.1, NameKind.free) ∈ names
  | [], _, p, hp => .inl hp
  | (n, k) :: r, acc, p, hp => by
    unfold closOf at hp
    split at hp
    · rename_i hk
      rcases closOf_src p hp with h | h
      · rcases List.mem_cons.mp h with rfl | h
        · right; rw [show k = .free by simpa using hk]; exact .head _
        · exact .inl h
      · exact .inr (.tail _ h)
    · exact (closOf_src p hp).imp id (.tail _)
theorem closOf_has {cells : List (Str × Addr)} : ∀ {names : List (Str × NameKind)} {acc : List (Str × Addr)} {x : Str}, ((x, NameKind.free) ∈ names ∨ ∃ c, (x, c) ∈ acc) → ∃ c, (x, c) ∈ closOf cells names acc
  | [], acc, x, h => by
    rcases h with h | h
    · cases h
    · exact h
  | (n, k) :: r, acc, x, h => by
    unfold closOf
    split
    · rename_i hk
      refine closOf_has ?_
      rcases h with h | ⟨c, h⟩
      · rcases List.mem_cons.mp h with h | h
        · cases h; exact .inr ⟨_, .head _⟩
        · exact .inl h
      · exact .inr ⟨c, .tail _ h⟩
    · rename_i hk
      refine closOf_has ?_
      rcases h with h | h
      · rcases List.mem_cons.mp h with h | h
        · cases h; exact absurd rfl hk
        · exact .inl h
      · exact .inr h

theorem cellsFrom_mem : ∀ {names : List (Str × NameKind)} {n : Nat} {acc : List (Str × Addr)}, ∀ p ∈ cellsFrom n names acc, p ∈ acc ∨ ((p.1, NameKind.cell) ∈ names ∧ n ≤ p.2)
  | [], _, _, p, hp => .inl hp
  | (y, k) :: r, n, acc, p, hp => by
    unfold cellsFrom at hp
    split at hp
    · rename_i hk
      rcases cellsFrom_mem p hp with h | ⟨h, h'⟩
      · rcases List.mem_cons.mp h with rfl | h
        · right; rw [show k = .cell by simpa using hk]; exact ⟨.head _, Nat.le_refl _⟩
        · exact .inl h
      · exact .inr ⟨.tail _ h, Nat.le_of_succ_le h'⟩
    · exact (cellsFrom_mem p hp).imp id fun h => ⟨.tail _ h.1, h.2⟩
theorem cellsFrom_has : ∀ {names : List (Str × NameKind)} {n : Nat} {acc : List (Str × Addr)} {x : Str}, ((x, NameKind.cell) ∈ names ∨ ∃ c, (x, c) ∈ acc) → ∃ c, (x, c) ∈ cellsFrom n names acc
  | [], _, acc, x, h => by
    rcases h with h | h
    · cases h
    · exact h
  | (y, k) :: r, n, acc, x, h => by
    unfold cellsFrom
    split
    · rename_i hk
      refine cellsFrom_has ?_
      rcases h with h | ⟨c, h⟩
      · rcases List.mem_cons.mp h with h | h
        · cases h; exact .inr ⟨_, .head _⟩
        · exact .inl h
      · exact .inr ⟨c, .tail _ h⟩
    · rename_i hk
      refine cellsFrom_has ?_
      rcases h with h | h
      · rcases List.mem_cons.mp h with h | h
        · cases h; exact absurd rfl hk
        · exact .inl h
      · exact .inr h
/-- no cell bears two names -/
def Uniq (l : List (Str × Addr)) : Prop := ∀ x y c, (x, c) ∈ l → (y, c) ∈ l → x = y
theorem cellsFrom_uniq : ∀ {names : List (Str × NameKind)} {n : Nat} {acc : List (Str × Addr)}, Uniq acc → (∀ p ∈ acc, p.2 < n) → Uniq (cellsFrom n names acc)
  | [], _, _, h, _ => h
  | (y, k) :: r, n, acc, h, hl => by
    unfold cellsFrom
    split
    · refine cellsFrom_uniq (fun a b c h1 h2 => ?_) fun p hp => ?_
      · rcases List.mem_cons.mp h1 with q1 | h1
        · cases q1
          rcases List.mem_cons.mp h2 with q2 | h2
          · cases q2; rfl
          · exact absurd (hl _ h2) (Nat.lt_irrefl _)
        · rcases List.mem_cons.mp h2 with q2 | h2
          · cases q2; exact absurd (hl _ h1) (Nat.lt_irrefl _)
          · exact h a b c h1 h2
      · rcases List.mem_cons.mp hp with rfl | hp
        · exact Nat.lt_succ_self _
        · exact Nat.lt_succ_of_lt (hl p hp)
    · exact cellsFrom_uniq h hl

theorem lookup_some_of_mem {β : Type} : ∀ {l : List (Str × β)} {x : Str} {c : β}, (x, c) ∈ l → (l.lookup x).isSome = true
  | (y, d) :: r, x, c, h => by
    rw [List.lookup_cons]
    cases hb : x == y with
    | true => rfl
    | false =>
      rcases List.mem_cons.mp h with h | h
      · cases h; simp at hb
      · exact lookup_some_of_mem h

theorem pushCells_size : ∀ (names : List (Str × NameKind)) (h : Heap), h.objs.size ≤ (pushCells h names).objs.size
  | [], _ => Nat.le_refl _
  | (_, k) :: r, h => by
    unfold pushCells
    split
    · exact Nat.le_trans (by rw [Heap.size_push]; exact Nat.le_succ _) (pushCells_size r _)
    · exact pushCells_size r h
theorem pushCells_cells : ∀ (names : List (Str × NameKind)) (h : Heap) (acc : List (Str × Addr)), (∀ p ∈ cellsFrom h.objs.size names acc, p ∈ acc ∨ (pushCells h names).IsCell p.2 none ∧ p.2 < (pushCells h names).objs.size)
  | [], _, _, p, hp => .inl hp
  | (y, k) :: r, h, acc, p, hp => by
    unfold cellsFrom at hp
    unfold pushCells
    split at hp
    · rename_i hk
      rw [if_pos hk]
      have e : h.objs.size + 1 = (h.push { cls := .type "cell", data := .cell none }).objs.size := (Heap.size_push _ _).symm
      rw [e] at hp
      rcases pushCells_cells r _ _ p hp with q | q
      · rcases List.mem_cons.mp q with rfl | q
        · right
          have hc : (h.push { cls := .type "cell", data := .cell none }).get? h.objs.size = some { cls := .type "cell", data := .cell none } := Heap.get?_push_size _ rfl
          refine ⟨⟨_, pushCells_keeps _ _ _ _ hc, rfl⟩, Heap.lt_size (pushCells_keeps r _ _ _ hc)⟩
        · exact .inl q
      · exact .inr q
    · rename_i hk
      rw [if_neg hk]
      exact pushCells_cells r h acc p hp
end Mine
-- MB8
namespace Mine

section
variable {W : Wc} {cx : Cx} {n : Nat} {ρ ρ' : Rho} {β : Addr → Prop} {A : Around} {s s' : Shared} {x : Str} {a : Addr}

/-- an object that no name of the frame needs is changed -/
theorem Inv.chg {o : Obj} {h' : Heap} {tk : Nat} (i : Inv W cx ρ s) (hμ : (cx.μ a ∨ cx.ν a) ∨ cx.env.locals < a) (hδ : cx.δ a) (hs : Heap.SameBut a s.heap h') (hns : a ≠ cx.env.locals) (hce : ∀ c v, s.heap.IsCell c v → a ≠ c)
    (hno : ∀ y ys, (y, Ent.own ys) ∈ ρ → ¬ Binds cx.env s.heap y (.ref a)) (hnp : ∀ y R, (y, Ent.pool R) ∈ ρ → ∀ p ∈ R, p.1 ≠ a) : Inv W cx ρ { s with heap := h', toks := tk } := by
  obtain ⟨h₀, m, F, g, hμ0⟩ := i.fr
  have bK : ∀ {x : Str} {v : Value}, Binds cx.env s.heap x v → Binds cx.env h' x v := fun b => by
    rcases b with ⟨kd, m', hn, q⟩ | ⟨kd, c, hc, q⟩
    · exact .inl ⟨kd, m', hn.sameBut hs (Ne.symm hns), q⟩
    · exact .inr ⟨kd, c, hc, q.sameBut hs (Ne.symm (hce _ _ q))⟩
  refine ⟨i.st, ⟨h₀, m, ⟨F.ns.sameBut hs (Ne.symm hns), fun b o' q => (hs.2 b fun z => by
    rcases hμ with hμ | hμ
    · rw [z, hμ0 a hμ] at q; cases q
    · exact Nat.lt_irrefl _ (Nat.lt_of_lt_of_le (Nat.lt_of_lt_of_le (Heap.lt_size q) F.above) (Nat.le_of_lt (z ▸ hμ)))).trans (F.keep b o' q), F.above⟩, g, hμ0⟩, fun x c q => ?_, fun b hb => ?_, fun x en hm => ?_, fun y z ys zs b h1 h2 b1 b2 => ?_⟩
  · obtain ⟨v, hv⟩ := i.cells x c q
    exact ⟨v, hv.sameBut hs (Ne.symm (hce _ _ hv))⟩
  · show b < h'.objs.size; rw [hs.1]; exact i.lt b hb
  · have := i.val x en hm
    cases en with
    | val d => obtain ⟨v, b, r⟩ := this; exact ⟨v, bK b, r.sameBut hδ hs⟩
    | own xs =>
      obtain ⟨b, vs, kk, hb, h1, h2, h3, r⟩ := this
      exact ⟨b, vs, kk, bK hb, h1, h2, (hs.2 b fun z => hno x xs hm (z ▸ hb)).trans h3, r.sameBut hδ hs⟩
    | pool R =>
      obtain ⟨hn, hp⟩ := this
      refine ⟨hn, fun p hm' => ?_⟩
      obtain ⟨h1, h2, vs, kk, h3, r⟩ := hp p hm'
      exact ⟨h1, h2, vs, kk, (hs.2 p.1 (hnp x R hm p hm')).trans h3, r.sameBut hδ hs⟩
  · obtain ⟨a1, e1⟩ := (i.val y _ h1).ref
    obtain ⟨a2, e2⟩ := (i.val z _ h2).ref
    have q1 := (bK e1).uniq b1
    have q2 := (bK e2).uniq b2
    cases q1; cases q2
    exact i.oap y z ys zs _ h1 h2 e1 e2
theorem Inv.chgList {vs : Array Value} {k : Nat} {h' : Heap} {tk : Nat} (i : Inv W cx ρ s) (hμ : cx.μ a ∨ cx.ν a) (hδ : cx.δ a) (hg : s.heap.get? a = some (listOf vs k)) (hs : Heap.SameBut a s.heap h')
    (hno : ∀ y ys, (y, Ent.own ys) ∈ ρ → ¬ Binds cx.env s.heap y (.ref a)) (hnp : ∀ y R, (y, Ent.pool R) ∈ ρ → ∀ p ∈ R, p.1 ≠ a) : Inv W cx ρ { s with heap := h', toks := tk } := by
  obtain ⟨h₀, m, F, g, hμ0⟩ := i.fr
  exact i.chg (o := listOf vs k) (.inl hμ) hδ hs (list_ne_ns F.ns hg) (fun c v hc => list_ne_cell hc hg) hno hnp

/-- the names of a frame, as its scope has them -/
def Kinds (cx : Cx) (names : List (Str × NameKind)) : Prop :=
  ∀ y k, names.lookup y = some k → (k = .free → cx.env.kindOf y = some .cell ∨ cx.env.kindOf y = some .free) ∧ (k ≠ .free → cx.env.kindOf y = some k)
theorem Kinds.local {names : List (Str × NameKind)} (h : Kinds cx names) (e : names.lookup x = some .local) : Stor cx x := .inl ((h x _ e).2 (by decide))
theorem Kinds.glob {names : List (Str × NameKind)} (h : Kinds cx names) (e : names.lookup x = some .globalImplicit) : cx.env.kindOf x = some .globalImplicit := (h x _ e).2 (by decide)
theorem Kinds.cell {names : List (Str × NameKind)} (h : Kinds cx names) (e : names.lookup x = some .cell) : cx.env.kindOf x = some .cell := (h x _ e).2 (by decide)
theorem Kinds.held {names : List (Str × NameKind)} (h : Kinds cx names) (e : names.lookup x = some .cell ∨ names.lookup x = some .free) : cx.env.kindOf x = some .cell ∨ cx.env.kindOf x = some .free := by
  rcases e with e | e
  · exact .inl (h.cell e)
  · exact (h x _ e).1 rfl

theorem relabel_lookup (env : Env) (y : Str) : ∀ names : List (Str × NameKind), (names.map fun (n, k) => if (k == NameKind.free && env.scope.kind == .function && env.kindOf n == some .cell) then (n, NameKind.cell) else (n, k)).lookup y =
    (names.lookup y).map fun k => if (k == NameKind.free && env.scope.kind == .function && env.kindOf y == some .cell) then NameKind.cell else k
  | [] => rfl
  | (n, k) :: r => by
    rw [List.map_cons, List.lookup_cons]
    cases hb : y == n with
    | true =>
      have e : y = n := by simpa using hb
      subst e
      by_cases hc : (k == NameKind.free && env.scope.kind == .function && env.kindOf y == some .cell) = true
      · simp only [hc, if_true, List.lookup_cons, beq_self_eq_true, Option.map_some]
      · simp only [hc, if_false, List.lookup_cons, beq_self_eq_true, Option.map_some]
        simp
    | false =>
      by_cases hc : (k == NameKind.free && env.scope.kind == .function && env.kindOf n == some .cell) = true
      · simp only [hc, if_true, List.lookup_cons, hb]
        exact relabel_lookup env y r
      · have hc' : (k == NameKind.free && env.scope.kind == .function && env.kindOf n == some .cell) = false := by simpa using hc
        simp only [hc', Bool.false_eq_true, if_false, List.lookup_cons, hb]
        exact relabel_lookup env y r

/-- the addresses from lo up to hi -/
def rngP (lo hi : Nat) : Addr → Prop := fun b => lo ≤ b ∧ b < hi

/-- the frame of a comprehension -/
def cxC (cx : Cx) (β : Addr → Prop) (scope : Scope) (cells : List (Str × Addr)) (L lo hi : Nat) : Cx where
  env := compEnvC scope cells L cx.env
  β := β
  δ := fun b => β b ∨ rngP lo hi b
  μ := rngP L hi
  ν := rngP lo hi
  own := fun x => scope.names.lookup x == some .cell

theorem kinds_comp {scope : Scope} {cells : List (Str × Addr)} {L lo hi : Nat} : Kinds (cxC cx β scope cells L lo hi) scope.names := fun y k e => by
  have key : (cxC cx β scope cells L lo hi).env.kindOf y = (scope.names.lookup y).map fun k => if (k == NameKind.free && cx.env.scope.kind == .function && cx.env.kindOf y == some .cell) then NameKind.cell else k :=
    relabel_lookup cx.env y scope.names
  rw [e, Option.map_some] at key
  refine ⟨fun hk => ?_, fun hk => ?_⟩
  · subst hk
    by_cases hc : (NameKind.free == NameKind.free && cx.env.scope.kind == .function && cx.env.kindOf y == some .cell) = true
    · rw [if_pos hc] at key; exact .inl key
    · rw [if_neg hc] at key; exact .inr key
  · have : (k == NameKind.free) = false := by simpa using hk
    rw [this] at key
    simpa using key

theorem lookup_of_nodup {β : Type} : ∀ {l : List (Str × β)} {x : Str} {c : β}, (l.map (·.1)).Nodup → (x, c) ∈ l → l.lookup x = some c
  | (y, d) :: r, x, c, hn, h => by
    rw [List.map_cons, List.nodup_cons] at hn
    rw [List.lookup_cons]
    rcases List.mem_cons.mp h with h | h
    · cases h; simp
    · have hb : (x == y) = false := by
        cases q : x == y with
        | false => rfl
        | true =>
          have : x = y := by simpa using q
          exact absurd (List.mem_map_of_mem (f := (·.1)) h) (this ▸ hn.1)
      rw [hb]
      exact lookup_of_nodup hn.2 h
theorem mem_of_lookup' {β : Type} {l : List (Str × β)} {x : Str} {c : β} (h : l.lookup x = some c) : (x, c) ∈ l := mem_of_lookup h

/-- what is said of a frame's names at a start stays, and avoids what is new since -/
theorem EntOK.grow {P : Addr → Prop} {d : D} {s0 : Shared} (e : EntOK W.C cx s0.heap x (.val d)) (x0 : Ext0 s0 s) (hP : ∀ a, P a → hz s0 ≤ a) (hβ : ∀ a, β a → cx.δ a) :
    ∃ v, Binds cx.env s.heap x v ∧ Rep W.C (fun b => β b ∨ P b) s.heap v d := by
  obtain ⟨v, b, r⟩ := e
  refine ⟨v, b.keep x0.keeps, r.mono (fun a ha q => ?_) fun b' o _ e => x0.keeps _ _ e⟩
  rcases q with q | q
  · exact hβ a q
  · obtain ⟨o, ho⟩ := Option.isSome_iff_exists.mp ha
    exact absurd (Heap.lt_size ho) (Nat.not_lt.mpr (hP a q))

theorem comp_start {scope : Scope} {ρ2 : Rho} {s0 sd : Shared} {Q : Env → Shared → Prop} {E : Value → Shared → Prop} {M : Model} (i : Inv W cx ρ s0) (x00 : Ext0 s0 s) (hβ : ∀ a, β a → cx.δ a)
    (hkind : scope.kind = .function) (hnd : (scope.names.map (·.1)).Nodup) (hfree : ∀ y, scope.names.lookup y = some .free → cx.env.kindOf y = some .cell ∨ cx.env.kindOf y = some .free)
    (hρ2 : ∀ p, p ∈ ρ2 → p ∈ ρ ∧ scope.names.lookup p.1 = some .free ∧ ∃ d, p.2 = .val d)
    (hsd : sd = { s with heap := s.heap.push (listOf #[] 0) })
    (k : ∀ cells hi s', hz s + 2 ≤ hi → hi = hz s' → Ext0 s s' → s'.heap.get? (hz s) = some (listOf #[] 0) → s'.heap.Ns (hz s + 1) (fun _ => none) → Inv W (cxC cx β scope cells (hz s + 1) (hz s0) hi) ρ2 s' → Q { compEnvC scope cells (hz s + 1) cx.env with scope := scope } s') :
    wpAny M A (newFunctionEnv scope cx.env.globals (closOf cx.env.cells scope.names []) [] cx.env.qual none .none (some cx.env)) Q E sd := by
  subst hsd
  have hmemfree : ∀ p ∈ scope.names, p.2 = .free → (cx.env.cells.lookup p.1).isSome = true := fun p hp e => i.st.hasCell _ (hfree p.1 (lookup_of_nodup hnd (by rw [← e]; exact hp)))
  simp only [newFunctionEnv, Option.isSome_some, if_true]
  refine wpAny_bind (wpAny_alloc ?_)
  refine wpAny_bind (wpAny_layCells _ (fun name kind cells => by cases hkc : kind == NameKind.cell <;> simp [hkc]) _ _ _ _ ?_)
  rw [List.forIn_nil]
  refine wpAny_bind (wpAny_pure (wpAny_pure ?_))
  dsimp only
  have e1 : (s.heap.push (listOf #[] 0)).objs.size = hz s + 1 := Heap.size_push _ _
  have e2 : ((s.heap.push (listOf #[] 0)).push { cls := .type "dict", data := .dict #[] }).objs.size = hz s + 2 := by rw [Heap.size_push, e1]
  rw [e1, e2]
  have hkeep : Keep s.heap (pushCells ((s.heap.push (listOf #[] 0)).push { cls := .type "dict", data := .dict #[] }) scope.names) := fun b o e => pushCells_keeps _ _ _ _ (Heap.get?_push_of_some _ (Heap.get?_push_of_some _ e))
  have hkeep0 : Keep s0.heap (pushCells ((s.heap.push (listOf #[] 0)).push { cls := .type "dict", data := .dict #[] }) scope.names) := fun b o e => hkeep _ _ (x00.keeps _ _ e)
  have hsz : hz s + 2 ≤ (pushCells ((s.heap.push (listOf #[] 0)).push { cls := .type "dict", data := .dict #[] }) scope.names).objs.size := by
    have := pushCells_size scope.names ((s.heap.push (listOf #[] 0)).push { cls := .type "dict", data := .dict #[] })
    rw [e2] at this; exact this
  have hs0 : hz s0 ≤ hz s := x00.size
  have x0 : Ext0 s { s with heap := pushCells ((s.heap.push (listOf #[] 0)).push { cls := .type "dict", data := .dict #[] }) scope.names } := ext0_of (tk := s.toks) hkeep (by simp only [hz] at *; omega)
  have hclm := closOf_mem (acc := []) hmemfree (fun p hp => by cases hp)
  have hclt : ∀ p ∈ closOf cx.env.cells scope.names [], p.2 < hz s := fun p hp => by
    obtain ⟨v, hv⟩ := i.cells _ _ (hclm p hp)
    exact Nat.lt_of_lt_of_le hv.lt hs0
  have huq : Uniq (cellsFrom (hz s + 2) scope.names (closOf cx.env.cells scope.names [])) := by
    refine cellsFrom_uniq (fun a b c h1 h2 => i.st.apart a b c (hclm _ h1) (hclm _ h2)) fun p hp => ?_
    exact Nat.lt_of_lt_of_le (hclt p hp) (Nat.le_add_right _ _)
  have hcells := pushCells_cells scope.names ((s.heap.push (listOf #[] 0)).push { cls := .type "dict", data := .dict #[] }) (closOf cx.env.cells scope.names [])
  rw [e2] at hcells
  have hdict : (pushCells ((s.heap.push (listOf #[] 0)).push { cls := .type "dict", data := .dict #[] }) scope.names).Ns (hz s + 1) (fun _ => none) := by
    have := Heap.Ns.new (s.heap.push (listOf #[] 0)) (.type "dict")
    rw [e1] at this
    exact this.keeps (pushCells_keeps _ _)
  refine k (cellsFrom (hz s + 2) scope.names (closOf cx.env.cells scope.names [])) _ { s with heap := pushCells ((s.heap.push (listOf #[] 0)).push { cls := .type "dict", data := .dict #[] }) scope.names } hsz rfl x0 ?_ hdict ?_
  · exact pushCells_keeps _ _ _ _ (Heap.get?_push_of_some _ (Heap.get?_push_size _ rfl))
  · have hK := kinds_comp (cx := cx) (β := β) (scope := scope) (cells := cellsFrom (hz s + 2) scope.names (closOf cx.env.cells scope.names [])) (L := hz s + 1) (lo := hz s0) (hi := (pushCells ((s.heap.push (listOf #[] 0)).push { cls := .type "dict", data := .dict #[] }) scope.names).objs.size)
    have hβlt : ∀ a, β a → a < hz s0 := fun a ha => i.lt a (hβ a ha)
    refine ⟨⟨?_, ?_, ?_, ?_, ?_, ?_, ?_, ?_, ?_⟩, ⟨s0.heap, fun _ => none, ⟨hdict, hkeep0, Nat.le_trans hs0 (Nat.le_succ _)⟩, i.gd, ?_⟩, ?_, ?_, ?_, ?_⟩
    · exact hkind
    · exact i.st.glob
    · exact i.st.blt
    · intro y hy
      have key : (cxC cx β scope (cellsFrom (hz s + 2) scope.names (closOf cx.env.cells scope.names [])) (hz s + 1) (hz s0) ((pushCells ((s.heap.push (listOf #[] 0)).push { cls := .type "dict", data := .dict #[] }) scope.names).objs.size)).env.kindOf y = (scope.names.lookup y).map fun k => if (k == NameKind.free && cx.env.scope.kind == .function && cx.env.kindOf y == some .cell) then NameKind.cell else k :=
        relabel_lookup cx.env y scope.names
      cases q : scope.names.lookup y with
      | none => rw [q] at key; rw [key] at hy; rcases hy with hy | hy <;> cases hy
      | some kd =>
        have hm := mem_of_lookup' q
        have hkd : kd = .cell ∨ kd = .free := by
          rcases Decidable.em (kd = .free) with e | e
          · exact .inr e
          · have := (hK y kd q).2 e
            rw [this] at hy
            rcases hy with hy | hy <;> cases hy
            · exact .inl rfl
            · exact .inr rfl
        rcases hkd with e | e
        · subst e
          obtain ⟨c, hc⟩ := cellsFrom_has (n := hz s + 2) (acc := closOf cx.env.cells scope.names []) (.inl hm)
          exact lookup_some_of_mem hc
        · subst e
          obtain ⟨c, hc⟩ := cellsFrom_has (n := hz s + 2) (names := scope.names) (acc := closOf cx.env.cells scope.names []) (.inr (closOf_has (.inl hm)))
          exact lookup_some_of_mem hc
    · exact fun a b c h1 h2 => huq a b c (mem_of_lookup' h1) (mem_of_lookup' h2)
    · exact ⟨Nat.le_refl _, hsz⟩
    · intro y c ho hc
      have hl : scope.names.lookup y = some .cell := by simpa [cxC] using ho
      have hm := mem_of_lookup' hc
      rcases cellsFrom_mem _ hm with q | ⟨_, q⟩
      · rcases closOf_src _ q with q' | q'
        · cases q'
        · have := lookup_of_nodup hnd q'
          simp only at this
          rw [hl] at this; cases this
      · simp only at q
        rcases hcells _ hm with z | ⟨_, z⟩
        · exact absurd (hclt _ z) (Nat.not_lt.mpr (Nat.le_trans (Nat.le_add_right _ _) q))
        · exact ⟨⟨by show hz s + 1 ≤ c; simp only [hz] at *; omega, z⟩, by show hz s + 1 < c; simp only [hz] at *; omega⟩
    · exact fun a h => .inr ⟨Nat.le_trans hs0 (Nat.le_of_succ_le h.1), h.2⟩
    · exact fun a h => .inl h
    · intro a ha
      cases q : s0.heap.get? a with
      | none => rfl
      | some o => exact absurd (Heap.lt_size q) (Nat.not_lt.mpr (ha.elim (fun h => Nat.le_trans hs0 (Nat.le_of_succ_le h.1)) fun h => h.1))
    · intro y c hc
      have hm := mem_of_lookup' hc
      rcases hcells _ hm with z | ⟨z, _⟩
      · obtain ⟨v, hv⟩ := i.cells _ _ (hclm _ z)
        exact ⟨v, hv.keeps hkeep0⟩
      · exact ⟨none, z⟩
    · intro a ha
      rcases ha with ha | ha
      · exact Nat.lt_of_lt_of_le (hβlt a ha) (Nat.le_trans hs0 (Nat.le_trans (Nat.le_add_right _ _) hsz))
      · exact ha.2
    · intro y e hm
      obtain ⟨h1, h2, d, h3⟩ := hρ2 _ hm
      simp only at h3 h2
      subst h3
      obtain ⟨v, hb, r⟩ := (i.val y _ h1).grow (β := β) (P := rngP (hz s0) ((pushCells ((s.heap.push (listOf #[] 0)).push { cls := .type "dict", data := .dict #[] }) scope.names).objs.size)) (x00.trans x0) (fun a h => h.1) hβ
      refine ⟨v, ?_, r⟩
      obtain ⟨c0, hc0⟩ := closOf_has (cells := cx.env.cells) (acc := []) (.inl (mem_of_lookup' h2))
      obtain ⟨c1, hc1⟩ := cellsFrom_has (n := hz s + 2) (names := scope.names) (acc := closOf cx.env.cells scope.names []) (.inr ⟨c0, hc0⟩)
      obtain ⟨c2, hc2⟩ := Option.isSome_iff_exists.mp (lookup_some_of_mem hc1)
      have hm2 := mem_of_lookup' hc2
      have hc2' : cx.env.cells.lookup y = some c2 := by
        rcases cellsFrom_mem _ hm2 with q | ⟨q, _⟩
        · exact hclm _ q
        · have := lookup_of_nodup hnd q
          simp only at this
          rw [h2] at this; cases this
      rcases hb with ⟨kd, m', hn, q⟩ | ⟨kd, c, hc, q⟩
      · rcases hfree y h2 with e | e <;> rw [kd] at e <;> cases e
      · rw [hc2'] at hc; cases hc
        exact .inr ⟨(hK y _ h2).1 rfl, c2, hc2, q⟩
    · intro y z ys zs a h1 h2
      obtain ⟨_, _, d, h3⟩ := hρ2 _ h1
      simp only at h3; cases h3
end
end Mine
-- MB9
namespace Mine

def compTree (target iter : Expr) (ifs : List Expr) (emit : Sem Unit) (c : Code) (it : Value) (env : Env) : Sem PySem.Fin := do
  standAt iter.pos
  match ← pyNext it with
  | none => pure (.done .next)
  | some v =>
    letOwnedTupleGo target it v
    assign target env v
    let mut ok := true
    for c in ifs do
      if ok then ok ← isTrue c env (eval c env)
    if ok then emit
    again c

theorem turn_one (elt target iter : Expr) (ifs : List Expr) (scope : Scope) (pos : Pos) (it acc : Value) (env : Env) :
    compTurn (.ListComp elt [⟨target, iter, ifs, 0⟩] scope pos) 0 it acc env =
      compTree target iter ifs (do let _ ← call (.builtin "list.append") [acc, ← eval elt env]) (.compLoop (.ListComp elt [⟨target, iter, ifs, 0⟩] scope pos) 0 it acc env) it env := rfl
theorem turn_in (elt t1 i1 target iter : Expr) (f1 ifs : List Expr) (scope : Scope) (pos : Pos) (it acc : Value) (env : Env) :
    compTurn (.ListComp elt [⟨t1, i1, f1, 0⟩, ⟨target, iter, ifs, 0⟩] scope pos) 1 it acc env =
      compTree target iter ifs (do let _ ← call (.builtin "list.append") [acc, ← eval elt env]) (.compLoop (.ListComp elt [⟨t1, i1, f1, 0⟩, ⟨target, iter, ifs, 0⟩] scope pos) 1 it acc env) it env := rfl
def emit2 (e : Expr) (i2 : Expr) (acc : Value) (env : Env) : Sem Unit := do
  let x ← eval i2 env
  standAt i2.pos
  let x ← foldedSetIterable i2 env x
  let _ ← runOwn (.compStart e 1 (← holding [x] (pyIter x)) acc env) env
def compTree2 (target iter i2 : Expr) (ifs : List Expr) (e : Expr) (acc : Value) (c : Code) (it : Value) (env : Env) : Sem PySem.Fin := do
  standAt iter.pos
  match ← pyNext it with
  | none => pure (.done .next)
  | some v =>
    letOwnedTupleGo target it v
    assign target env v
    let mut ok := true
    for c in ifs do
      if ok then ok ← isTrue c env (eval c env)
    if ok then
      let x ← eval i2 env
      standAt i2.pos
      let x ← foldedSetIterable i2 env x
      let _ ← runOwn (.compStart e 1 (← holding [x] (pyIter x)) acc env) env
    again c
theorem turn_out (elt t1 i1 t2 i2 : Expr) (f1 f2 : List Expr) (scope : Scope) (pos : Pos) (it acc : Value) (env : Env) :
    compTurn (.ListComp elt [⟨t1, i1, f1, 0⟩, ⟨t2, i2, f2, 0⟩] scope pos) 0 it acc env =
      compTree t1 i1 f1 (emit2 (.ListComp elt [⟨t1, i1, f1, 0⟩, ⟨t2, i2, f2, 0⟩] scope pos) i2 acc env) (.compLoop (.ListComp elt [⟨t1, i1, f1, 0⟩, ⟨t2, i2, f2, 0⟩] scope pos) 0 it acc env) it env := by
  have e1 : compTurn (.ListComp elt [⟨t1, i1, f1, 0⟩, ⟨t2, i2, f2, 0⟩] scope pos) 0 it acc env =
      compTree2 t1 i1 i2 f1 (.ListComp elt [⟨t1, i1, f1, 0⟩, ⟨t2, i2, f2, 0⟩] scope pos) acc (.compLoop (.ListComp elt [⟨t1, i1, f1, 0⟩, ⟨t2, i2, f2, 0⟩] scope pos) 0 it acc env) it env := rfl
  rw [e1]
  unfold compTree compTree2 emit2
  simp only [bind_assoc, pure_bind]

section
variable {W : Wc} {cx : Cx} {n : Nat} {ρ ρ' : Rho} {β : Addr → Prop} {A : Around} {s s' : Shared} {x : Str} {a D : Addr}

/-- the list that a comprehension fills -/
def AccAt (W : Wc) (cx : Cx) (D : Addr) (s : Shared) (ys : List Mine.D) : Prop := ∃ vs k, s.heap.get? D = some (listOf vs k) ∧ RepL W.C cx.δ s.heap vs.toList ys
/-- a step that puts out more into the list -/
def EmitOK (W : Wc) (cx : Cx) (n : Nat) (D : Addr) (ρ : Rho) (emit : Sem Unit) (out : List Mine.D) : Prop :=
  ∀ A s ys, Rm n A → Inv W cx ρ s → AccAt W cx D s ys → ys.length + out.length ≤ sizeLine →
    wpAny (model W.prog W.w) A emit (fun _ s' => Ext (or1 cx.μ D) s s' ∧ Inv W cx ρ s' ∧ AccAt W cx D s' (ys ++ out)) F0 s

def NoOwn (ρ : Rho) : Prop := ∀ p ∈ ρ, ∃ d, p.2 = Ent.val d
theorem NoOwn.none (h : NoOwn ρ) {y : Str} {ys : List Mine.D} (hm : (y, Ent.own ys) ∈ ρ) : False := by
  obtain ⟨d, hd⟩ := h _ hm; cases hd
theorem NoOwn.nonep (h : NoOwn ρ) {y : Str} {R : List (Addr × List Mine.D)} (hm : (y, Ent.pool R) ∈ ρ) : False := by
  obtain ⟨d, hd⟩ := h _ hm; cases hd
theorem NoOwn.cons {d : Mine.D} (h : NoOwn ρ) : NoOwn ((x, .val d) :: ρ) := fun p hp => by
  rcases List.mem_cons.mp hp with rfl | hp
  · exact ⟨d, rfl⟩
  · exact h p hp

theorem AccAt.ext {μ : Addr → Prop} {ys : List Mine.D} (a : AccAt W cx D s ys) (x : Ext μ s s') (hμ : ∀ a, μ a → cx.δ a) (hD : ¬ μ D) : AccAt W cx D s' ys := let ⟨vs, k, h1, h2⟩ := a; ⟨vs, k, x.keep _ _ hD h1, x.repLμ hμ h2⟩

theorem emit_elt {elt : Expr} {d : Mine.D} (hD : cx.ν D) (hδ : cx.δ D) (hno : NoOwn ρ) (h : EvOK W cx n ρ cx.δ elt d) : EmitOK W cx n D ρ (do let _ ← call (.builtin "list.append") [.ref D, ← eval elt cx.env]) [d] := fun A s ys rm i ac hz => by
  refine wpAny_bind (h.use (fun _ q => q) rm i fun v s1 x1 i1 r1 => ?_)
  obtain ⟨vs, k, hg, hl⟩ := ac.ext x1 (no_le _) (fun q => q)
  have hlen := hl.length
  rw [Array.length_toList] at hlen
  refine wpAny_bind (append_at hg (fun h' hs hg' => ?_) (by simp only [List.length_cons, List.length_nil] at hz; omega))
  refine wpAny_pure ⟨x1.of.trans (ext_sameBut (tk := s1.toks) (.inr rfl) hs), i1.chgList (tk := s1.toks) (.inr hD) hδ hg hs (fun y zs hm => (hno.none hm).elim) (fun y R hm => (hno.nonep hm).elim), vs.push v, k + 1, hg', ?_⟩
  rw [Array.toList_push]
  exact (hl.sameBut hδ hs).append (.cons (r1.sameBut hδ hs) .nil)

/-- the tests of a clause -/
def IfsOK (W : Wc) (cx : Cx) (n : Nat) (ρ : Rho) (ifs : List Expr) (b : Bool) : Prop :=
  ∀ A s, Rm n A → Inv W cx ρ s → wpAny (model W.prog W.w) A (forIn ifs true fun c r => if r = true then do let ok ← isTrue c cx.env (eval c cx.env); pure (ForInStep.yield ok) else pure (ForInStep.yield r)) (fun v s' => Ext0 s s' ∧ v = b) F0 s
theorem Ifs.nil : IfsOK W cx n ρ [] true := fun A s _ _ => wpAny_tests_nil ⟨Ext.refl _ _, rfl⟩
theorem Ifs.one {c : Expr} {b : Bool} (h : TsOK W cx n ρ c b) : IfsOK W cx n ρ [c] b := fun A s rm i => wpAny_tests_one (h A s rm i)

theorem comp_loop {target iter : Expr} {px : Pos} {ifs : List Expr} {emit : Sem Unit} {e : Expr} {depth : Nat} {it : Addr} {acc : Value} {ds ys : List Mine.D} {R : Result → Shared → Prop} {g : Mine.D → List Mine.D} {p : Mine.D → Bool}
    (ht : target = .Name x px)
    (heq : compTurn e depth (.ref it) acc cx.env = compTree target iter ifs emit (.compLoop e depth (.ref it) acc cx.env) (.ref it) cx.env)
    (hq : Code.quiet (.compLoop e depth (.ref it) acc cx.env) = true) (hden : (model W.prog W.w).den (.compLoop e depth (.ref it) acc cx.env) = (compTurn e depth (.ref it) acc cx.env).onRaise (fun x => do noteFrame x cx.env; theTreesLotGoes x))
    (hu : A.under (.compLoop e depth (.ref it) acc cx.env) = A)
    (rm : Rm n A) (hx : Stor cx x) (hDr : Drop x ρ ρ) (hL : cx.ν it ∨ cx.env.locals < it) (hnμ : ¬ cx.μ it) (hDμ : ¬ cx.μ D) (hDδ : cx.δ D) (hDit : D ≠ it)
    (hifs : ∀ d ∈ ds, IfsOK W cx n ((x, .val d) :: ρ) ifs (p d)) (hemit : ∀ d ∈ ds, p d = true → EmitOK W cx n D ((x, .val d) :: ρ) emit (g d))
    (i : Inv W cx ρ s) (a : ItAt W.C cx.δ s.heap it ds) (ac : AccAt W cx D s ys)
    (hz : ys.length + ((ds.filter p).flatMap g).length ≤ sizeLine)
    (k : ∀ s', Ext (or1 (or1 cx.μ D) it) s s' → Inv W cx ρ s' → AccAt W cx D s' (ys ++ (ds.filter p).flatMap g) → R (.ok .next) s') :
    codeAny (model W.prog W.w) A (.compLoop e depth (.ref it) acc cx.env) R s := by
  subst ht
  have hμD : ∀ b, or1 cx.μ D b → cx.δ b := fun b q => q.elim (i.st.mδ b) fun z => z ▸ hDδ
  have hnμD : ¬ or1 cx.μ D it := fun q => q.elim hnμ fun z => hDit z.symm
  refine codeAny_loop hq (fun m s' => ∃ dd zs, m = dd.length ∧ (∀ d ∈ dd, d ∈ ds) ∧ Inv W cx ρ s' ∧ ItAt W.C cx.δ s'.heap it dd ∧ AccAt W cx D s' zs ∧ Ext (or1 (or1 cx.μ D) it) s s' ∧ zs ++ (dd.filter p).flatMap g = ys ++ (ds.filter p).flatMap g) (fun m s3 hI => ?_) ds.length
    ⟨ds, ys, rfl, fun _ h => h, i, a, ac, Ext.refl _ _, rfl⟩
  obtain ⟨dd, zs, rfl, hsub, i3, a3, ac3, x3, hr⟩ := hI
  rw [hu, hden]
  refine wpAny_noted (noted (env := cx.env) ?_)
  rw [heq]
  unfold compTree
  refine wpAny_bind (wpAny_standAt (wpAny_bind ?_))
  obtain ⟨oi, hoi, hito⟩ := a3.ob
  cases dd with
  | nil =>
    refine a3.fin rm.hd fun s4 x4 => wpAny_pure ?_
    have i4 := i3.iter hL hoi hito x4
    have ac4 : AccAt W cx D s4 zs := by
      obtain ⟨vs, kk, hg, hl⟩ := ac3
      exact ⟨vs, kk, x4.keep _ _ hDit hg, hl.ofIt hoi hito fun b o hb e => x4.keep b o hb e⟩
    simp only [List.filter_nil, List.flatMap_nil, List.append_nil] at hr
    rw [hr] at ac4
    exact k _ (x3.trans (x4.weak fun _ q => .inr q)) i4 ac4
  | cons d dd =>
    refine a3.item fun v s4 x4 a4 r4 => ?_
    have i4 := i3.iter hL hoi hito x4
    have ac4 : AccAt W cx D s4 zs := by
      obtain ⟨vs, kk, hg, hl⟩ := ac3
      exact ⟨vs, kk, x4.keep _ _ hDit hg, hl.ofIt hoi hito fun b o hb e => x4.keep b o hb e⟩
    refine wpAny_bind (wpAny_of_eq (show letOwnedTupleGo (.Name x px) (.ref it) v = pure () from rfl) ?_)
    refine wpAny_bind (wpAny_assign_Name (store_val i4 hx hDr r4 fun s5 x5 i5 => ?_))
    have a5 : ItAt W.C cx.δ s5.heap it dd := a4.ext x5 i4.st.mδ hnμ
    have ac5 : AccAt W cx D s5 zs := ac4.ext x5 i4.st.mδ hDμ
    have xx5 : Ext (or1 (or1 cx.μ D) it) s s5 := x3.trans ((x4.weak fun _ q => .inr q).trans (x5.weak fun _ q => .inl (.inl q)))
    have hd : d ∈ ds := hsub d (.head _)
    refine wpAny_bind (wpF (hifs d hd A s5 rm i5) fun ok s6 ⟨x6, e6⟩ => ?_)
    subst e6
    have i6 := i5.ext0 x6
    have a6 := a5.ext x6 (no_le _) (fun q => q)
    have ac6 := ac5.ext x6 (no_le _) (fun q => q)
    have xx6 : Ext (or1 (or1 cx.μ D) it) s s6 := xx5.trans x6.of
    cases hp : p d with
    | false =>
      have e1 : ((d :: dd).filter p) = dd.filter p := by rw [List.filter_cons_of_neg (by rw [hp]; simp)]
      rw [e1] at hr
      exact wpAny_pure ⟨rfl, dd.length, by simp, dd, zs, rfl, fun q hq => hsub q (.tail _ hq), i6.sub (fun q hq => .tail _ hq), a6, ac6, xx6, hr⟩
    | true =>
      have e1 : ((d :: dd).filter p).flatMap g = g d ++ (dd.filter p).flatMap g := by rw [List.filter_cons_of_pos hp, List.flatMap_cons]
      rw [e1] at hr
      have hl : zs.length + (g d).length ≤ sizeLine := by
        have := congrArg List.length hr
        simp only [List.length_append] at this
        omega
      refine wpAny_bind (wpF (hemit d hd hp A s6 zs rm i6 ac6 hl) fun _ s7 ⟨x7, i7, ac7⟩ => ?_)
      exact wpAny_pure ⟨rfl, dd.length, by simp, dd, zs ++ g d, rfl, fun q hq => hsub q (.tail _ hq), i7.sub (fun q hq => .tail _ hq), a6.ext x7 hμD hnμD, ac7, xx6.trans (x7.weak fun _ q => .inl q), by rw [List.append_assoc]; exact hr⟩

/-- the first step of a clause: the iterator is asked for itself -/
theorem comp_enter {e : Expr} {depth : Nat} {it : Addr} {acc : Value} {ds : List Mine.D} {g : Comprehension} {R : Result → Shared → Prop} (a : ItAt W.C cx.δ s.heap it ds)
    (hg : (clausesOf e)[depth]? = some g) (hgs : g.is_async = 0)
    (hden : (model W.prog W.w).den (.compStart e depth (.ref it) acc cx.env) = (compStart e depth (.ref it) acc cx.env).onRaise (fun x => do noteFrame x cx.env; standAt theWindowsPlace))
    (hu : A.under (.compStart e depth (.ref it) acc cx.env) = A)
    (hq : Code.quiet (.compLoop e depth (.ref it) acc cx.env) = true)
    (h : codeAny (model W.prog W.w) A (.compLoop e depth (.ref it) acc cx.env) R s) :
    codeAny (model W.prog W.w) A (.compStart e depth (.ref it) acc cx.env) R s := by
  refine codeAny_of_tree ?_
  rw [hu, hden]
  refine wpAny_notedAt (noted (env := cx.env) ?_)
  unfold compStart
  have e0 : ((clausesOf e)[depth]?).elim false (·.is_async != 0) = false := by rw [hg]; simp [hgs]
  rw [e0]
  simp only [Bool.false_eq_true, if_false]
  have fin : wpAny (model W.prog W.w) A (pure (PySem.Fin.again (.compLoop e depth (.ref it) acc cx.env)) : Sem PySem.Fin) (fun fin s' => match fin with | .done f => R (.ok f) s' | .again c' => c'.quiet = true ∧ codeAny (model W.prog W.w) A c' R s') F0 s := wpAny_pure ⟨hq, h⟩
  refine wpAny_bind (wpAny_askSetting ?_)
  refine wpAny_ite ?_
  split
  · exact fin
  · refine wpAny_bind (wpAny_rule ?_)
    rw [hg]
    refine wpAny_bind (wpAny_standAt ?_)
    exact wpAny_bind (a.self fin)
end
end Mine
-- MB10
namespace Mine
section
variable {W : Wc} {cx : Cx} {n : Nat} {ρ ρ2 ρ' : Rho} {β : Addr → Prop} {A : Around} {s s' : Shared} {x : Str} {a D : Addr}

/-- the clauses of a comprehension, from the iterator of the first on -/
def ClOK (W : Wc) (cx : Cx) (n : Nat) (D : Addr) (ρ : Rho) (e : Expr) (ds out : List Mine.D) : Prop :=
  ∀ A s it (R : Result → Shared → Prop), Rm n A → Inv W cx ρ s → ItAt W.C cx.δ s.heap it ds → cx.ν it → ¬ cx.μ it → D ≠ it → AccAt W cx D s [] →
    (∀ s', Ext (or1 (or1 cx.μ D) it) s s' → Inv W cx ρ s' → AccAt W cx D s' out → R (.ok .next) s') → codeAny (model W.prog W.w) A (.compStart e 0 (.ref it) (.ref D) cx.env) R s

theorem ItAt.weak {C : Addr} {δ δ' : Addr → Prop} {h : Heap} {it : Addr} {ds : List Mine.D} (x : ItAt C δ h it ds) (hd : ∀ a, δ' a → δ a) : ItAt C δ' h it ds := by
  cases x with
  | list a b c d => exact .list a (fun q => b (hd _ q)) c (d.weak hd)
  | rng a => exact .rng a
  | ascii a => exact .ascii a
  | wide a => exact .wide a

theorem Cl.one {elt iter : Expr} {px : Pos} {ifs : List Expr} {scope : Scope} {pos : Pos} {ds : List Mine.D} {p : Mine.D → Bool} {f : Mine.D → Mine.D}
    (hx : Stor cx x) (hDr : Drop x ρ ρ) (hno : NoOwn ρ) (hDμ : ¬ cx.μ D) (hDδ : cx.δ D) (hDν : cx.ν D)
    (hifs : ∀ d ∈ ds, IfsOK W cx n ((x, .val d) :: ρ) ifs (p d)) (helt : ∀ d ∈ ds, p d = true → EvOK W cx n ((x, .val d) :: ρ) cx.δ elt (f d)) (hz : ds.length ≤ sizeLine) :
    ClOK W cx n D ρ (.ListComp elt [⟨.Name x px, iter, ifs, 0⟩] scope pos) ds ((ds.filter p).map f) := fun A s it R rm i a hν hnμ hDit ac k => by
  have e1 : (ds.filter p).map f = (ds.filter p).flatMap fun d => [f d] := by
    rw [List.flatMap_def]
    generalize ds.filter p = l
    induction l with
    | nil => rfl
    | cons d l ih => simp only [List.map_cons, List.flatten_cons, List.cons_append, List.nil_append, ih]
  refine comp_enter a rfl rfl rfl rfl rfl (comp_loop (g := fun d => [f d]) rfl (turn_one ..) rfl rfl rfl rm hx hDr (.inl hν) hnμ hDμ hDδ hDit hifs
    (fun d hd hp => emit_elt hDν hDδ hno.cons (helt d hd hp)) i a ac ?_ fun s' x1 i1 ac1 => k s' x1 i1 ?_)
  · rw [← e1, List.length_map]
    have := List.length_filter_le p ds
    simp only [List.length_nil]; omega
  · rw [List.nil_append, ← e1] at ac1; exact ac1

theorem free_of_all {scope : Scope} {names : List (Str × NameKind)} (hK : Kinds cx names) (h : (scope.names.all fun p => p.2 != .free || (names.lookup p.1 == some .cell || names.lookup p.1 == some .free)) = true) :
    ∀ y, scope.names.lookup y = some .free → cx.env.kindOf y = some .cell ∨ cx.env.kindOf y = some .free := fun y hy => by
  have := List.all_eq_true.mp h _ (mem_of_lookup' hy)
  simp only [bne_self_eq_false, Bool.false_or, Bool.or_eq_true, beq_iff_eq] at this
  exact hK.held this

theorem comp_core {elt : Expr} {g : Comprehension} {gs : List Comprehension} {scope : Scope} {pos : Pos} {names : List (Str × NameKind)} {d : Mine.D} {ds out : List Mine.D} {use : Option (Value → Sem Unit)} {Q : Value → Shared → Prop} {E : Value → Shared → Prop}
    (hβ : ∀ a, β a → cx.δ a) (rm : Rm n A) (i : Inv W cx ρ s)
    (hiter : EvOK W cx n ρ β g.iter d) (hitems : Items d ds) (hK : Kinds cx names)
    (hfr : (scope.names.all fun p => p.2 != .free || (names.lookup p.1 == some .cell || names.lookup p.1 == some .free)) = true)
    (hnd : (scope.names.map (·.1)).Nodup) (hkind : scope.kind = .function)
    (hρ2 : ∀ p, p ∈ ρ2 → p ∈ ρ ∧ scope.names.lookup p.1 = some .free ∧ ∃ d, p.2 = .val d)
    (hcl : ∀ cells L lo hi D, lo ≤ D → D < L → L < hi → ClOK W (cxC cx β scope cells L lo hi) n D ρ2 (.ListComp elt (g :: gs) scope pos) ds out)
    (hs : ∀ v, foldedSetIterable g.iter cx.env v = pure v)
    (k : ∀ D L s1 s5, Ext0 s s1 → Inv W cx ρ s1 → hz s1 ≤ D → D ≠ L → hz s1 ≤ L → L < hz s5 → Ext0 s1 s5 → (∃ m, s5.heap.Ns L m) → (∃ vs k, s5.heap.get? D = some (listOf vs k) ∧ RepL W.C (fun b => β b ∨ b = L) s5.heap vs.toList out) →
      compPost (model W.prog W.w) A E use Q (.ref D) L (.ok .next) s5) :
    wpAny (model W.prog W.w) A (comprehension (.ListComp elt (g :: gs) scope pos) scope cx.env (firstIterPos (g :: gs) pos) (newList []) false (eval g.iter cx.env) use) Q E s := by
  have hfree := free_of_all hK hfr
  have hclos : closureFor scope cx.env = pure (closOf cx.env.cells scope.names []) := closureFor_eq fun p hp e => i.st.hasCell _ (hfree p.1 (lookup_of_nodup hnd (by rw [← e]; exact hp)))
  refine wpAny_comprehension_free rfl hs hclos hkind (fun p hp e => lookup_of_nodup hnd (by rw [← e]; exact hp)) ?_
  refine hiter.use hβ rm i fun v s1 x1 i1 r1 => ?_
  have r1' : Rep W.C (fun b => β b ∨ hz s1 ≤ b) s1.heap v d := r1.mono (fun a ha q => q.elim id fun z => by
    obtain ⟨o, ho⟩ := Option.isSome_iff_exists.mp ha
    exact absurd (Heap.lt_size ho) (Nat.not_lt.mpr z)) fun _ _ _ e => e
  refine hitems.iter r1' fun it s2 x2 hit a2 => ?_
  refine wpAny_newObj_type ?_ (Nat.zero_le _)
  refine comp_start (ρ2 := ρ2) (s := s2) i1 x2 hβ hkind hnd hfree hρ2 rfl fun cells hi s4 hhi hhi2 x4 hg4 hdict i4 => ?_
  have hs12 : hz s1 ≤ hz s2 := x2.size
  have hitlt : it < hz s2 := a2.lt
  have hDlo : hz s1 ≤ hz s2 := hs12
  have hcl' := hcl cells (hz s2 + 1) (hz s1) hi (hz s2) hDlo (Nat.lt_succ_self _) hhi
  have a4 : ItAt W.C (cxC cx β scope cells (hz s2 + 1) (hz s1) hi).δ s4.heap it ds :=
    (a2.ext x4 (no_le _) (fun q => q)).weak fun a q => q.imp id fun z => z.1
  have hμit : ¬ (cxC cx β scope cells (hz s2 + 1) (hz s1) hi).μ it := fun q => Nat.lt_irrefl _ (Nat.lt_of_lt_of_le (Nat.lt_succ_of_lt hitlt) q.1)
  show codeAny _ _ (.compStart _ 0 (.ref it) (.ref (hz s2)) (cxC cx β scope cells (hz s2 + 1) (hz s1) hi).env) _ s4
  refine hcl' A s4 it _ rm i4 a4 ⟨hit, Nat.lt_of_lt_of_le hitlt (Nat.le_trans (Nat.le_add_right _ _) hhi)⟩ hμit (Ne.symm (Nat.ne_of_lt hitlt)) ⟨#[], 0, hg4, .nil⟩ fun s5 x5 i5 ac5 => ?_
  have x15 : Ext0 s1 s5 := ⟨fun b o _ e => x5.keep b o (fun q => by
    have hb : b < hz s1 := Heap.lt_size e
    rcases q with (q | q) | q
    · exact Nat.lt_irrefl _ (Nat.lt_of_lt_of_le hb (Nat.le_trans hs12 (Nat.le_of_succ_le q.1)))
    · exact Nat.lt_irrefl _ (Nat.lt_of_lt_of_le hb (q ▸ hs12))
    · exact Nat.lt_irrefl _ (Nat.lt_of_lt_of_le hb (q ▸ hit))) (x4.keeps _ _ (x2.keeps _ _ e)), (x5.gens.trans x4.gens).trans x2.gens, (x5.os.trans x4.os).trans x2.os, Nat.le_trans x2.size (Nat.le_trans x4.size x5.size)⟩
  obtain ⟨h₀, m, F5, _⟩ := i5.fr
  obtain ⟨vs, kk, hg5, hl5⟩ := ac5
  refine k (hz s2) (hz s2 + 1) s1 s5 x1 i1 hDlo (Nat.ne_of_lt (Nat.lt_succ_self _)) (Nat.le_succ_of_le hDlo) F5.ns.lt x15 ⟨m, F5.ns⟩ ⟨vs, kk, hg5, hl5.weak fun b q => q.imp id fun z => by subst z; exact ⟨Nat.le_succ_of_le hs12, hhi⟩⟩

theorem Ev.comp {elt t1 i1 : Expr} {f1 : List Expr} {gs : List Comprehension} {scope : Scope} {pos : Pos} {names : List (Str × NameKind)} {d : Mine.D} {ds out : List Mine.D} (ρ2 : Rho)
    (hiter : EvOK W cx n ρ β i1 d) (hitems : Items d ds) (hK : Kinds cx names)
    (hcl : ∀ cells L lo hi D, lo ≤ D → D < L → L < hi → ClOK W (cxC cx β scope cells L lo hi) n D ρ2 (.ListComp elt (⟨t1, i1, f1, 0⟩ :: gs) scope pos) ds out)
    (hfr : (scope.names.all fun p => p.2 != .free || (names.lookup p.1 == some .cell || names.lookup p.1 == some .free)) = true)
    (hnd : (scope.names.map (·.1)).Nodup) (hkind : scope.kind = .function)
    (hρ2 : ∀ p, p ∈ ρ2 → p ∈ ρ ∧ scope.names.lookup p.1 = some .free ∧ ∃ d, p.2 = .val d)
    (hs : ∀ v, foldedSetIterable i1 cx.env v = pure v := by intro _; rfl) :
    EvOK W cx n ρ β (.ListComp elt (⟨t1, i1, f1, 0⟩ :: gs) scope pos) (.list out) := fun hβ A s rm i => by
  rw [eval_ListComp]
  refine comp_core (use := Option.none) (g := ⟨t1, i1, f1, 0⟩) hβ rm i hiter hitems hK hfr hnd hkind hρ2 hcl hs fun D L s1 s5 x1 i1' hD hDL hL hL5 x15 hns hac => ?_
  obtain ⟨m, hm⟩ := hns
  obtain ⟨vs, k, hg, hl⟩ := hac
  refine ⟨m, hm, fun h' hsb => ⟨?_, rep_list.mpr ⟨D, vs, k, rfl, fun q => Nat.lt_irrefl _ (Nat.lt_of_lt_of_le (i1'.lt _ (hβ _ q)) hD), (hsb.2 D hDL).trans hg, ?_⟩⟩⟩
  · refine x1.trans ⟨fun b o _ e => (hsb.2 b fun q => ?_).trans (x15.keeps _ _ e), x15.gens, x15.os, Nat.le_trans x15.size (Nat.le_of_eq hsb.1.symm)⟩
    exact Nat.lt_irrefl _ (Nat.lt_of_lt_of_le (Heap.lt_size e) (q ▸ hL))
  · exact hl.mono (fun _ _ q => .inl q) fun b o hb e => (hsb.2 b fun q => hb (.inr q)).trans e

theorem blockKind_fn {env : Env} (h : env.scope.kind = .function) : env.blockKind = .function := by unfold Env.blockKind; rw [h]; rfl
theorem swaps_true {elt : Expr} {gens : List Comprehension} {scope : Scope} {pos py : Pos} {y : Str} {line : Nat} (st : Stat cx) (hy : cx.env.kindOf y = some .local) (hl : (py.line == pos.line) = true)
    (hn : (scope.names.any fun (n, k) => n == y && (k == .local || k == .cell)) = false) : swapsWith (.ListComp elt gens scope pos) (some (.Name y py)) line cx.env = pure true := by
  unfold swapsWith
  show (pure (cx.env.blockKind == .function && cx.env.kindOf y == some .local && py.line == pos.line && !(scope.names.any fun (n, k) => n == y && (k == .local || k == .cell))) : Sem Bool) = _
  rw [blockKind_fn st.kind, hy, hl, hn]; rfl
theorem swaps_cell {elt : Expr} {gens : List Comprehension} {scope : Scope} {pos py : Pos} {y : Str} {line : Nat} (hy : cx.env.kindOf y = some .cell) : swapsWith (.ListComp elt gens scope pos) (some (.Name y py)) line cx.env = pure false := by
  unfold swapsWith
  show (pure (cx.env.blockKind == .function && cx.env.kindOf y == some .local && py.line == pos.line && !(scope.names.any fun (n, k) => n == y && (k == .local || k == .cell))) : Sem Bool) = _
  rw [hy]
  have e : (some NameKind.cell == some NameKind.local) = false := by decide
  rw [e]
  simp

theorem Inv.addδ {P : Addr → Prop} (i : Inv W cx ρ s) (x : Ext0 s s') (hP : ∀ a, P a → hz s ≤ a ∧ a < hz s') : Inv W { cx with δ := fun b => cx.δ b ∨ P b } ρ s' := by
  have i' := i.ext0 x
  refine ⟨⟨i'.st.kind, i'.st.glob, i'.st.blt, i'.st.hasCell, i'.st.apart, i'.st.mloc, i'.st.mcell, fun a h => .inl (i'.st.mδ a h), fun a h => .inl (i'.st.βδ a h)⟩, i'.fr, i'.cells, fun a h => h.elim (i'.lt a) fun q => (hP a q).2, fun y e hm => ?_, i'.oap⟩
  have hmono : ∀ {v : Value} {d : Mine.D}, Rep W.C cx.δ s.heap v d → Rep W.C (fun b => cx.δ b ∨ P b) s'.heap v d := fun r => r.mono (fun a ha q => q.elim id fun z => by
    obtain ⟨o, ho⟩ := Option.isSome_iff_exists.mp ha
    exact absurd (Heap.lt_size ho) (Nat.not_lt.mpr (hP a z).1)) fun b o _ e => x.keeps _ _ e
  have hmonoL : ∀ {v : List Value} {d : List Mine.D}, RepL W.C cx.δ s.heap v d → RepL W.C (fun b => cx.δ b ∨ P b) s'.heap v d := fun r => r.mono (fun a ha q => q.elim id fun z => by
    obtain ⟨o, ho⟩ := Option.isSome_iff_exists.mp ha
    exact absurd (Heap.lt_size ho) (Nat.not_lt.mpr (hP a z).1)) fun b o _ e => x.keeps _ _ e
  have := i.val y e hm
  cases e with
  | val d => obtain ⟨v, b, r⟩ := this; exact ⟨v, b.keep x.keeps, hmono r⟩
  | own xs =>
    obtain ⟨a, vs, kk, hb, h1, h2, h3, r⟩ := this
    exact ⟨a, vs, kk, hb.keep x.keeps, h1, h2, x.keeps _ _ h3, hmonoL r⟩
  | pool R =>
    obtain ⟨hn, hp⟩ := this
    refine ⟨hn, fun p hm => ?_⟩
    obtain ⟨h1, h2, vs, kk, h3, r⟩ := hp p hm
    exact ⟨h1, h2, vs, kk, x.keeps _ _ h3, hmonoL r⟩
theorem Inv.weakδ {δ' : Addr → Prop} (i : Inv W { cx with δ := δ' } ρ s) (hst : Stat cx) (hd : ∀ a, cx.δ a → δ' a) : Inv W cx ρ s := by
  refine ⟨hst, i.fr, i.cells, fun a h => i.lt a (hd a h), fun y e hm => ?_, i.oap⟩
  have := i.val y e hm
  cases e with
  | val d => obtain ⟨v, b, r⟩ := this; exact ⟨v, b, r.weak hd⟩
  | own xs =>
    obtain ⟨a, vs, kk, hb, h1, h2, h3, r⟩ := this
    exact ⟨a, vs, kk, hb, h1, h2, h3, r.weak hd⟩
  | pool R =>
    obtain ⟨hn, hp⟩ := this
    refine ⟨hn, fun p hm => ?_⟩
    obtain ⟨h1, h2, vs, kk, h3, r⟩ := hp p hm
    exact ⟨h1, h2, vs, kk, h3, r.weak hd⟩

/-- a name of the frame's own is bound to what a comprehension gives: the names of the comprehension go behind the store -/
theorem St.assignComp {y : Str} {elt t1 i1 : Expr} {f1 : List Expr} {gs : List Comprehension} {scope : Scope} {py pos spos : Pos} {names : List (Str × NameKind)} {d : Mine.D} {ds out : List Mine.D} (ρ2 : Rho)
    (hiter : EvOK W cx n ρ cx.δ i1 d) (hitems : Items d ds) (hK : Kinds cx names)
    (hcl : ∀ cells L lo hi D, lo ≤ D → D < L → L < hi → ClOK W (cxC cx cx.δ scope cells L lo hi) n D ρ2 (.ListComp elt (⟨t1, i1, f1, 0⟩ :: gs) scope pos) ds out)
    (hy : names.lookup y = some .local) (hd : Drop y ρ ρ')
    (hl : (py.line == pos.line) = true) (hn : (scope.names.any fun (n, k) => n == y && (k == .local || k == .cell)) = false)
    (hfr : (scope.names.all fun p => p.2 != .free || (names.lookup p.1 == some .cell || names.lookup p.1 == some .free)) = true)
    (hnd : (scope.names.map (·.1)).Nodup) (hkind : scope.kind = .function)
    (hρ2 : ∀ p, p ∈ ρ2 → p ∈ ρ ∧ scope.names.lookup p.1 = some .free ∧ ∃ d, p.2 = .val d)
    (hs : ∀ v, foldedSetIterable i1 cx.env v = pure v := by intro _; rfl) :
    StOK W cx n ρ (.Assign [.Name y py] (.ListComp elt (⟨t1, i1, f1, 0⟩ :: gs) scope pos) spos) (.nxt ((y, .val (.list out)) :: ρ')) := fun A s rm i => by
  have hyl := (hK y _ hy).2 (by decide)
  rw [exec_Assign_Name_used _ _ _ _ (swaps_true i.st hyl hl hn)]
  refine wpAny_bind (wpAny_standAt (wpAny_bind ?_))
  show wpAny _ A (do let _ ← comprehension (.ListComp elt (⟨t1, i1, f1, 0⟩ :: gs) scope pos) scope cx.env (firstIterPos (⟨t1, i1, f1, 0⟩ :: gs) pos) (newList []) false (eval i1 cx.env) (some (PySem.assign (.Name y py) cx.env))) _ _ s
  refine wpAny_bind (comp_core (use := some (PySem.assign (.Name y py) cx.env)) (g := ⟨t1, i1, f1, 0⟩) (fun _ q => q) rm i hiter hitems hK hfr hnd hkind hρ2 hcl hs fun D L s1 s5 x1 i1' hD hDL hL hL5 x15 hns hac => ?_)
  obtain ⟨m, hm⟩ := hns
  obtain ⟨vs, k, hg, hl⟩ := hac
  show wpAny _ A (PySem.assign (.Name y py) cx.env (.ref D)) _ _ s5
  have hLlt : L < hz s5 := hL5
  have i5 := i1'.addδ (P := fun b => b = L) x15 fun a q => by subst q; exact ⟨hL, hLlt⟩
  have hLloc : cx.env.locals ≠ L := Nat.ne_of_lt (Nat.lt_of_lt_of_le i1'.locals_lt hL)
  have rD : Rep W.C (fun b => cx.δ b ∨ b = L) s5.heap (.ref D) (.list out) := rep_list.mpr ⟨D, vs, k, rfl, fun q => q.elim (fun q => Nat.lt_irrefl _ (Nat.lt_of_lt_of_le (i1'.lt _ q) hD)) hDL, hg, hl⟩
  refine wpAny_assign_Name (store_val (cx := { cx with δ := fun b => cx.δ b ∨ b = L }) i5 (.inl hyl) hd rD fun s6 x6 i6 => ?_)
  have hLμ : ¬ cx.μ L := fun q => Nat.lt_irrefl _ (Nat.lt_of_lt_of_le (i1'.lt _ (i1'.st.mδ _ q)) hL)
  have hm6 : s6.heap.Ns L m := by
    obtain ⟨o, es, ep, ho, r⟩ := hm
    exact ⟨o, es, ep, x6.keep _ _ hLμ ho, r⟩
  refine ⟨m, hm6, fun h' hsb => wpAny_pure (wpAny_pure ⟨?_, rfl, ?_⟩)⟩
  · have x16 : Ext cx.μ s1 s6 := x15.of.trans x6
    refine x1.of.trans ⟨fun b o hb e => (hsb.2 b fun q => ?_).trans (x16.keep _ _ hb e), x16.gens, x16.os, Nat.le_trans x16.size (Nat.le_of_eq hsb.1.symm)⟩
    exact Nat.lt_irrefl _ (Nat.lt_of_lt_of_le (Heap.lt_size e) (q ▸ hL))
  · refine Inv.weakδ (δ' := fun b => cx.δ b ∨ b = L) ?_ i1'.st fun a h => .inl h
    refine i6.chg (o := listOf #[] 0) (.inr (Nat.lt_of_lt_of_le i1'.locals_lt hL)) (.inr rfl) hsb (Ne.symm hLloc) (fun c v hc q => cell_ne_ns hm6 hc q.symm) (fun z zs hz hb => ?_) fun z R hz p hp => ?_
    · obtain ⟨a, vs', k', hb', _, _, hg', _⟩ := i6.val z _ hz
      have q := hb'.uniq hb
      cases q
      exact list_ne_ns hm6 hg' rfl
    · obtain ⟨_, hq⟩ := i6.val z _ hz
      obtain ⟨_, _, vs', k', hg', _⟩ := hq p hp
      exact list_ne_ns hm6 hg'
end
end Mine
-- MB11
namespace Mine
section
variable {W : Wc} {cx : Cx} {n : Nat} {ρ ρ2 ρ' : Rho} {β : Addr → Prop} {A : Around} {s s' : Shared} {x y : Str} {a D : Addr}

theorem emit_in {elt t1 i1 i2 : Expr} {f1 : List Expr} {py : Pos} {ifs : List Expr} {scope : Scope} {pos : Pos} {d2 : Mine.D} {ds : List Mine.D} {p : Mine.D → Bool} {f : Mine.D → Mine.D}
    (h2 : EvOK W cx n ρ cx.δ i2 d2) (hit2 : Items d2 ds) (hy : Stor cx y) (hDr : Drop y ρ ρ) (hno : NoOwn ρ) (hDμ : ¬ cx.μ D) (hDδ : cx.δ D) (hDν : cx.ν D)
    (hifs : ∀ d ∈ ds, IfsOK W cx n ((y, .val d) :: ρ) ifs (p d)) (helt : ∀ d ∈ ds, p d = true → EvOK W cx n ((y, .val d) :: ρ) cx.δ elt (f d))
    (hs : ∀ v, foldedSetIterable i2 cx.env v = pure v) :
    EmitOK W cx n D ρ (emit2 (.ListComp elt [⟨t1, i1, f1, 0⟩, ⟨.Name y py, i2, ifs, 0⟩] scope pos) i2 (.ref D) cx.env) ((ds.filter p).map f) := fun A s ys rm i ac hz' => by
  have e1 : (ds.filter p).map f = (ds.filter p).flatMap fun d => [f d] := by
    rw [List.flatMap_def]
    generalize ds.filter p = l
    induction l with
    | nil => rfl
    | cons d l ih => simp only [List.map_cons, List.flatten_cons, List.cons_append, List.nil_append, ih]
  unfold emit2
  refine wpAny_bind (h2.use (fun _ q => q) rm i fun v s1 x1 i1' r1 => wpAny_bind (wpAny_standAt (wpAny_bind (wpAny_of_eq (hs v) (wpAny_bind (wpAny_holding (hit2.iter r1 fun it s2 x2 hit a2 => ?_)))))))
  have i2' := i1'.ext0 x2
  have ac2 := (ac.ext x1 (no_le _) (fun q => q)).ext x2 (no_le _) (fun q => q)
  have hlt : ∀ b, cx.δ b → b < it := fun b hb => Nat.lt_of_lt_of_le (i1'.lt b hb) hit
  refine wpAny_bind (wpAny_runOwn ?_)
  refine comp_enter (g := ⟨.Name y py, i2, ifs, 0⟩) a2 rfl rfl rfl rfl rfl (comp_loop (g := fun d => [f d]) (ys := ys) rfl (turn_in ..) rfl rfl rfl rm.mark hy hDr
    (.inr (Nat.lt_of_lt_of_le i1'.locals_lt hit)) (fun q => Nat.lt_irrefl _ (hlt _ (i.st.mδ _ q))) hDμ hDδ (Nat.ne_of_lt (hlt _ hDδ)) hifs
    (fun d hd hp => emit_elt hDν hDδ hno.cons (helt d hd hp)) i2' a2 ac2 (by rw [← e1]; exact hz') fun s3 x3 i3 ac3 => ?_)
  rw [← e1] at ac3
  exact wpAny_pure ⟨(x1.trans x2).both (Nat.le_trans x1.size hit) x3, i3, ac3⟩

theorem Cl.two {elt i1 i2 : Expr} {px py : Pos} {f1 ifs : List Expr} {scope : Scope} {pos : Pos} {ds : List Mine.D} {d2 : Mine.D → Mine.D} {ds2 : Mine.D → List Mine.D} {p1 : Mine.D → Bool} {p : Mine.D → Mine.D → Bool} {f : Mine.D → Mine.D → Mine.D}
    (hx : Stor cx x) (hDr : Drop x ρ ρ) (hno : NoOwn ρ) (hDμ : ¬ cx.μ D) (hDδ : cx.δ D) (hDν : cx.ν D)
    (hy : Stor cx y) (hDy : ∀ d, Drop y ((x, .val d) :: ρ) ((x, .val d) :: ρ))
    (hifs1 : ∀ d ∈ ds, IfsOK W cx n ((x, .val d) :: ρ) f1 (p1 d))
    (h2 : ∀ d ∈ ds, p1 d = true → EvOK W cx n ((x, .val d) :: ρ) cx.δ i2 (d2 d)) (hit2 : ∀ d ∈ ds, p1 d = true → Items (d2 d) (ds2 d))
    (hifs : ∀ d ∈ ds, p1 d = true → ∀ e ∈ ds2 d, IfsOK W cx n ((y, .val e) :: (x, .val d) :: ρ) ifs (p d e))
    (helt : ∀ d ∈ ds, p1 d = true → ∀ e ∈ ds2 d, p d e = true → EvOK W cx n ((y, .val e) :: (x, .val d) :: ρ) cx.δ elt (f d e))
    (hz : ((ds.filter p1).flatMap fun d => ((ds2 d).filter (p d)).map (f d)).length ≤ sizeLine)
    (hs : ∀ v, foldedSetIterable i2 cx.env v = pure v := by intro _; rfl) :
    ClOK W cx n D ρ (.ListComp elt [⟨.Name x px, i1, f1, 0⟩, ⟨.Name y py, i2, ifs, 0⟩] scope pos) ds ((ds.filter p1).flatMap fun d => ((ds2 d).filter (p d)).map (f d)) := fun A s it R rm i a hν hnμ hDit ac k => by
  refine comp_enter a rfl rfl rfl rfl rfl (comp_loop (g := fun d => ((ds2 d).filter (p d)).map (f d)) rfl (turn_out ..) rfl rfl rfl rm hx hDr (.inl hν) hnμ hDμ hDδ hDit hifs1
    (fun d hd hp => emit_in (h2 d hd hp) (hit2 d hd hp) hy (hDy d) hno.cons hDμ hDδ hDν (hifs d hd hp) (helt d hd hp) hs) i a ac (by simpa using hz) fun s' x1 i1 ac1 => k s' x1 i1 ?_)
  rw [List.nil_append] at ac1; exact ac1
end
end Mine
-- MB12
namespace Mine

/-- what a call gives back -/
def CallOK (W : Wc) (n : Nat) (fv : Value) (ds : List D) (d : D) : Prop :=
  ∀ (A : Around) (s : Shared) (β : Addr → Prop) (vs : List Value), Rm n A → Gd W s.heap → (∀ a, β a → a < hz s) → RepL W.C β s.heap vs ds →
    wpAny (model W.prog W.w) A (call fv vs []) (fun v s' => Ext0 s s' ∧ Rep W.C β s'.heap v d) F0 s
theorem CallOK.le {W : Wc} {n m : Nat} {fv : Value} {ds : List D} {d : D} (h : CallOK W m fv ds d) (hm : m ≤ n) : CallOK W n fv ds d := fun A s β vs rm => h A s β vs (rm.le hm)

def cxF (β : Addr → Prop) (fd : FuncData) (L hi f : Nat) : Cx where
  env := callEnvC fd L f
  β := β
  δ := fun b => β b ∨ rngP L hi b
  μ := rngP L hi
  ν := no
  own := fun _ => true

theorem bindL_not {kindOf : Str → Option NameKind} : ∀ (bs : List (Str × Value)) (m : Str → Option Value) (x : Str), x ∉ bs.map (·.1) → bindL kindOf bs m x = m x
  | [], _, _, _ => rfl
  | (y, w) :: r, m, x, h => by
    unfold bindL
    have h1 : x ≠ y := fun q => h (by rw [q]; exact .head _)
    have h2 : x ∉ r.map (·.1) := fun q => h (.tail _ q)
    rw [bindL_not r _ x h2]
    split
    · exact if_neg h1
    · rfl
theorem bindL_get {kindOf : Str → Option NameKind} : ∀ (bs : List (Str × Value)) (m : Str → Option Value) (x : Str) (v : Value), (bs.map (·.1)).Nodup → (x, v) ∈ bs → kindOf x = some .local → bindL kindOf bs m x = some v
  | (y, w) :: r, m, x, v, hn, h, hk => by
    rw [List.map_cons, List.nodup_cons] at hn
    unfold bindL
    rcases List.mem_cons.mp h with h | h
    · cases h
      rw [if_pos hk, bindL_not _ _ _ hn.1, if_pos rfl]
    · exact bindL_get r _ x v hn.2 h hk
theorem bindC_not {kindOf : Str → Option NameKind} : ∀ (bs : List (Str × Value)) (m : Str → Option Value) (x : Str), x ∉ bs.map (·.1) → bindC kindOf bs m x = m x
  | [], _, _, _ => rfl
  | (y, w) :: r, m, x, h => by
    unfold bindC
    have h1 : x ≠ y := fun q => h (by rw [q]; exact .head _)
    have h2 : x ∉ r.map (·.1) := fun q => h (.tail _ q)
    rw [bindC_not r _ x h2]
    split
    · rfl
    · exact if_neg h1
theorem bindC_get {kindOf : Str → Option NameKind} : ∀ (bs : List (Str × Value)) (m : Str → Option Value) (x : Str) (v : Value), (bs.map (·.1)).Nodup → (x, v) ∈ bs → kindOf x ≠ some .local → bindC kindOf bs m x = some v
  | (y, w) :: r, m, x, v, hn, h, hk => by
    rw [List.map_cons, List.nodup_cons] at hn
    unfold bindC
    rcases List.mem_cons.mp h with h | h
    · cases h
      rw [if_neg hk, bindC_not _ _ _ hn.1, if_pos rfl]
    · exact bindC_get r _ x v hn.2 h hk

theorem map_fst_zip : ∀ (xs : List Str) (vs : List Value), vs.length = xs.length → (xs.zip vs).map (·.1) = xs
  | [], [], _ => rfl
  | x :: xs, v :: vs, h => by rw [List.zip_cons_cons, List.map_cons, map_fst_zip xs vs (by simpa using h)]
  | [], _ :: _, h => by simp at h
  | _ :: _, [], h => by simp at h

/-- the names at a call's start -/
def startRho : List Str → List D → Rho
  | x :: xs, d :: ds => (x, .val d) :: startRho xs ds
  | _, _ => []
theorem startRho_mem {C : Addr} {δ : Addr → Prop} {h : Heap} : ∀ {xs : List Str} {ds : List D} {vs : List Value}, RepL C δ h vs ds → ∀ {x e}, (x, e) ∈ startRho xs ds → ∃ d v, e = .val d ∧ (x, v) ∈ xs.zip vs ∧ Rep C δ h v d
  | [], ds, vs, _, x, e, hm => by simp [startRho] at hm
  | y :: xs, [], vs, _, x, e, hm => by simp [startRho] at hm
  | y :: xs, d :: ds, vs, r, x, e, hm => by
    obtain ⟨v, vs', rfl, rv, rvs⟩ := r.cons_inv'
    rcases List.mem_cons.mp hm with h | h
    · cases h; exact ⟨d, v, rfl, by simp, rv⟩
    · obtain ⟨d', v', h1, h2, h3⟩ := startRho_mem rvs h
      exact ⟨d', v', h1, by rw [List.zip_cons_cons]; exact .tail _ h2, h3⟩

theorem kinds_fn {β : Addr → Prop} {fd : FuncData} {L hi f : Nat} (hnf : ∀ y ∈ fd.scope.names, y.2 ≠ .free) : Kinds (cxF β fd L hi f) fd.scope.names := fun y k e =>
  ⟨fun hk => absurd hk (hnf _ (mem_of_lookup' e)), fun _ => e⟩

theorem fn_start {W : Wc} {β : Addr → Prop} {fd : FuncData} {f : Addr} {s s₁ : Shared} {xs : List Str} {vs : List Value} {ds : List D} (g : Gd W s.heap) (hβ : ∀ a, β a → a < hz s) (r : RepL W.C β s.heap vs ds)
    (hk : fd.scope.kind = .function) (hgl : fd.globals = mainGlobals) (hbl : fd.builtins = builtinsNs) (hnd : (fd.scope.names.map (·.1)).Nodup) (hnf : ∀ y ∈ fd.scope.names, y.2 ≠ .free)
    (hl : vs.length = xs.length) (hxs : xs.Nodup) (hkx : ∀ x ∈ xs, fd.scope.names.lookup x = some .local ∨ fd.scope.names.lookup x = some .cell) (hsz : hz s ≤ hz s₁)
    (x : InCallC s (callEnvC fd (hz s) f).locals (bindL (callEnvC fd (hz s) f).kindOf (xs.zip vs) fun _ => none) (callEnvC fd (hz s) f).cells (bindC (callEnvC fd (hz s) f).kindOf (xs.zip vs) fun _ => none) s₁) :
    Inv W (cxF β fd (hz s) (hz s₁) f) (startRho xs ds) s₁ ∧ Ext0 s s₁ := by
  obtain ⟨h', tk, hs, hk'⟩ := x.done
  have x01 : Ext0 s s₁ := ⟨fun b o _ e => x.toInCall.keep b o e, by rw [hs], by rw [hs], hsz⟩
  have hL : hz s < hz s₁ := x.toInCall.ns.lt
  have hcells : ∀ y c, (callEnvC fd (hz s) f).cells.lookup y = some c → s₁.heap.IsCell c _ := fun y c e => x.cell y c e
  have hcl : ∀ y c, (callEnvC fd (hz s) f).cells.lookup y = some c → c < hz s₁ := fun y c e => by
    obtain ⟨o, ho, _⟩ := x.cell y c e
    exact Heap.lt_size ho
  have hab : ∀ y c, (callEnvC fd (hz s) f).cells.lookup y = some c → hz s < c := fun y c e => x.above y c (mem_of_lookup e)
  have kx : ∀ y, (callEnvC fd (hz s) f).kindOf y = fd.scope.names.lookup y := fun y => rfl
  have hhas : ∀ y, fd.scope.names.lookup y = some .cell → ((callEnvC fd (hz s) f).cells.lookup y).isSome = true := fun y e => by
    obtain ⟨c, hc⟩ := cellsFrom_has (names := fd.scope.names) (n := hz s + 1) (acc := []) (x := y) (.inl (mem_of_lookup' e))
    exact lookup_some_of_mem hc
  refine ⟨⟨⟨hk, hgl, hbl, fun y e => ?_, fun y z c e1 e2 => ?_, ⟨Nat.le_refl _, hL⟩, fun y c _ e => ⟨⟨Nat.le_of_lt (hab y c e), hcl y c e⟩, hab y c e⟩, fun a h => .inr h, fun a h => .inl h⟩, ⟨s.heap, _, ⟨x.toInCall.ns, x.toInCall.keep, x.toInCall.fresh⟩, g, fun a h => ?_⟩, fun y c e => ⟨_, hcells y c e⟩, fun a h => ?_, fun y e hm => ?_, fun y z ys zs a h1 => ?_⟩, x01⟩
  · rcases e with e | e
    · exact hhas y e
    · exact absurd rfl (hnf _ (mem_of_lookup' (show fd.scope.names.lookup y = some .free from e)))
  · exact name_of_addr x.apart (mem_of_lookup e1) (mem_of_lookup e2)
  · rcases h with h | h
    · cases q : s.heap.get? a with
      | none => rfl
      | some o => exact absurd (Heap.lt_size q) (Nat.not_lt.mpr h.1)
    · exact h.elim
  · rcases h with h | h
    · exact Nat.lt_of_lt_of_le (hβ a h) hsz
    · exact h.2
  · obtain ⟨d, v, rfl, hz', rv⟩ := startRho_mem r hm
    have hy : y ∈ xs := (List.of_mem_zip hz').1
    have hn : ((xs.zip vs).map (·.1)).Nodup := by rw [map_fst_zip _ _ hl]; exact hxs
    refine ⟨v, ?_, rv.mono (fun a ha q => q.elim id fun z => ?_) fun b o _ e => x01.keeps _ _ e⟩
    · rcases hkx y hy with e | e
      · exact .inl ⟨e, _, x.toInCall.ns, bindL_get _ _ _ _ hn hz' e⟩
      · obtain ⟨c, hc⟩ := Option.isSome_iff_exists.mp (hhas y e)
        refine .inr ⟨.inl e, c, hc, ?_⟩
        have := x.cell y c hc
        rw [bindC_get _ _ y v hn hz' (by rw [kx, e]; decide)] at this
        exact this
    · obtain ⟨o, ho⟩ := Option.isSome_iff_exists.mp ha
      exact absurd (Heap.lt_size ho) (Nat.not_lt.mpr z.1)
  · exfalso
    obtain ⟨d, v, q, _⟩ := startRho_mem r h1
    cases q

/-- a def called: its body gives d -/
theorem Call.fn {W : Wc} {n : Nat} {name qual : Str} {params : Arguments} {body : List Stmt} {scope : Scope} {dV kV doc pm cdv ct oc : Value} {an od : Option Addr} {osl : Array (Option Value)} {f : Addr} {xs : List Str} {ds : List D} {d : D}
    (ho : W.K.lookup f = some ⟨oc, od, .func (fnOf name qual params body scope dV kV doc pm an cdv ct), osl⟩) (hcd : codeIn W.K cdv qual = true)
    (hbind : ∀ vs, vs.length = xs.length → bindArgs (fnOf name qual params body scope dV kV doc pm an cdv ct) ⟨vs, []⟩ = pure (xs.zip vs))
    (hlen : ds.length = xs.length)
    (hxs : xs.Nodup) (hkx : ∀ x ∈ xs, scope.names.lookup x = some .local ∨ scope.names.lookup x = some .cell) (hnd : (scope.names.map (·.1)).Nodup) (hnf : ∀ y ∈ scope.names, y.2 ≠ .free)
    (hbody : ∀ β L hi, ExOK W (cxF β (fnOf name qual params body scope dV kV doc pm an cdv ct) L hi f) n (startRho xs ds) body (.ret d))
    (hco : scope.isCoroutine = false := by rfl) (hgen : scope.isGenerator = false := by rfl) (hk : scope.kind = .function := by rfl) : CallOK W (n + 1) (.ref f) ds d := fun A s β vs rm g hβ r => by
  have hl : vs.length = xs.length := by rw [r.length, hlen]
  refine wpAny_call ?_
  have hin : ∀ x ∈ xs.zip vs, x.1 ∈ xs := fun x h => (List.of_mem_zip (show (x.1, x.2) ∈ xs.zip vs from h)).1
  refine codeAny_call_cells (fd := fnOf name qual params body scope dV kV doc pm an cdv ct) (body := body) rm.room (g.k _ _ ho) rfl g.t.nolimit (codeRec_of g.k hcd) rfl (hbind vs hl) rfl
    (fun x hx => (hkx x.1 (hin x hx)).imp id fun e => ⟨e, ?_⟩) (fun s₁ x => ?_) hco hgen hk
  · obtain ⟨c, hc⟩ := cellsFrom_has (names := scope.names) (n := hz s + 1) (acc := []) (x := x.1) (.inl (mem_of_lookup' e))
    exact lookup_some_of_mem hc
  · obtain ⟨i1, x1⟩ := fn_start (f := f) g hβ r hk rfl rfl hnd hnf hl hxs hkx (Nat.le_of_lt x.toInCall.ns.lt) x
    refine wpF (hbody β _ _ _ s₁ (rm.deeper _) i1) fun fl s2 ⟨x2, v, e, r2⟩ => ?_
    subst e
    refine ⟨⟨fun b o _ q => x2.keep b o (fun z => ?_) (x1.keeps _ _ q), x2.gens.trans x1.gens, x2.os.trans x1.os, Nat.le_trans x1.size x2.size⟩, r2⟩
    exact Nat.lt_irrefl _ (Nat.lt_of_lt_of_le (Heap.lt_size q) z.1)

/-- values that a call's tail leaves alone -/
def Keeps (W : Wc) (v : Value) : Prop := ∀ (M : Model) (h : Heap), Gd W h → ∃ k, (k = Keeper.frame ∨ k = Keeper.machine ∨ k = Keeper.boundFrame) ∧ Looks M h (keeperOf v) k
theorem Keeps.K {W : Wc} {v : Value} (h : keepIn W.K v = true) : Keeps W v := fun M hp g => keeps_K h hp g.k
theorem Keeps.pure {W : Wc} {v : Value} (h : keeperOf v = pure Keeper.machine) : Keeps W v := fun M hp g => ⟨_, .inr (.inl rfl), Looks.of_pure h⟩

/-- what a global name stands for -/
def GlobV (W : Wc) (g : Str) (v : Value) : Prop := nsIn W.K mainGlobals g = some (some v) ∨ (nsIn W.K mainGlobals g = some none ∧ bootBuiltins g = some v ∧ g ≠ "__name__")

section
variable {W : Wc} {cx : Cx} {n : Nat} {ρ ρ' : Rho} {β : Addr → Prop} {A : Around} {s s' : Shared} {x : Str}

theorem load_glob {g : Str} {p : Pos} {v : Value} {M : Model} {Q : Value → Shared → Prop} {E : Value → Shared → Prop} (i : Inv W cx ρ s) (hk : cx.env.kindOf g = some .globalImplicit) (hg : GlobV W g v) (h : Q v s)
    (hd : (g == ("__debug__" : Str)) = false) : wpAny M A (eval (.Name g p) cx.env) Q E s := by
  refine Name_function_global i.st.kind hk ?_ hd
  have t := i.gd.t
  rcases hg with hg | ⟨h1, h2, h3⟩
  · exact loadGlobal_global (by rw [i.st.glob]; exact t.g) (mg_of i.gd.k t.g hg) h
  · exact loadGlobal_builtin (by rw [i.st.glob]; exact t.g) (mg_none_of i.gd.k t.g h1) (by rw [i.st.blt]; exact t.b) ((t.builtins g h3).trans h2) h
theorem Ev.global {g : Str} {p : Pos} {v : Value} (hk : cx.env.kindOf g = some .globalImplicit) (hg : GlobV W g v) (hd : (g == ("__debug__" : Str)) = false := by rfl) : EvOK W cx n ρ β (.Name g p) (.raw v) := fun hβ A s rm i =>
  load_glob i hk hg ⟨Ext.refl _ _, rep_raw.mpr rfl⟩ hd

theorem Ev.call {g : Str} {p pos : Pos} {e : Expr} {es : List Expr} {fv : Value} {ds : List D} {d : D} (hk : cx.env.kindOf g = some .globalImplicit) (hg : GlobV W g fv) (hkp : Keeps W fv)
    (ha : ArgsOK W cx n ρ β (e :: es) ds) (hc : CallOK W n fv ds d)
    (he : starEach (e :: es) cx.env = (false, eval e cx.env) :: starEach es cx.env := by rfl) (hplain : (backTo pos (starEach es cx.env)).any (·.1) = false := by rfl)
    (hd : (g == ("__debug__" : Str)) = false := by rfl) : EvOK W cx n ρ β (.Call (.Name g p) (e :: es) [] pos) d := fun hβ A s rm i => by
  refine Call_ (load_glob i hk hg ?_ hd)
  refine callWith_of (P := Gd W) (M := model W.prog W.w) ?_ (fun h q => hkp _ h q) ?_
  · rw [he]; show (((false || (backTo pos (starEach es cx.env)).any (·.1)) || false)) = false; rw [hplain]; rfl
  · have h1 := wpF (Q' := fun vs s' => Gd W s'.heap ∧ wpAny (model W.prog W.w) A (PySem.call fv ([] ++ vs) []) (fun v s' => Ext0 s s' ∧ Rep W.C β s'.heap v d) F0 s') (E := F0) (ha hβ A s pos rm i) fun vs s1 ⟨x1, r1⟩ =>
      ⟨(i.ext0 x1).gd, wpF (hc A s1 β vs rm (i.ext0 x1).gd (fun a q => (i.ext0 x1).lt a (hβ a q)) r1) fun v s2 ⟨x2, r2⟩ => ⟨x1.trans x2, r2⟩⟩
    rw [he] at h1 ⊢
    exact evalArgs_plain h1

def scal : D → Bool
  | .int _ | .bool _ | .none | .str _ | .raw _ => true
  | _ => false
theorem Rep.sc {C : Addr} {δ δ' : Addr → Prop} {h h' : Heap} {v : Value} {d : D} (r : Rep C δ h v d) (hs : scal d = true) : Rep C δ' h' v d := by
  cases d with
  | int i => exact rep_int.mpr (rep_int.mp r)
  | bool i => exact rep_bool.mpr (rep_bool.mp r)
  | none => exact rep_none.mpr (rep_none.mp r)
  | str i => exact rep_str.mpr (rep_str.mp r)
  | raw i => exact rep_raw.mpr (rep_raw.mp r)
  | list _ => cases hs
  | obj _ => cases hs
  | rng _ _ _ => cases hs
end
end Mine
-- MB13
section
open PySem PySem.W PySem.Calls PyProof.Rows PySem.SeqAt PySem.MeetsSeq
namespace Mine

/-- data of one shape: ints, strs, lists of them to the depth k -/
inductive Sim : Nat → D → D → Prop
  | int {k : Nat} {i j : Int} : Sim k (.int i) (.int j)
  | str {k : Nat} {i j : Str} : Sim k (.str i) (.str j)
  | list {k : Nat} {xs ys : List D} (h : ∀ (i : Nat) (x y : D), xs[i]? = some x → ys[i]? = some y → Sim k x y) : Sim (k + 1) (.list xs) (.list ys)

theorem list_ext_get {α : Type} {xs ys : List α} (hl : xs.length = ys.length) (h : ∀ (i : Nat) (x y : α), xs[i]? = some x → ys[i]? = some y → x = y) : xs = ys := by
  apply List.ext_getElem hl
  intro i h1 h2
  exact h i _ _ (List.getElem?_eq_getElem h1) (List.getElem?_eq_getElem h2)

theorem Rep.inj {C : Addr} {δ δ' : Addr → Prop} {h : Heap} {k : Nat} {d d' : D} (s : Sim k d d') : ∀ {v : Value}, Rep C δ h v d → Rep C δ' h v d' → d = d' := by
  induction s with
  | int =>
    intro v r r'
    obtain ⟨t, rfl⟩ := rep_int.mp r
    obtain ⟨u, e⟩ := rep_int.mp r'
    cases e; rfl
  | str =>
    intro v r r'
    obtain ⟨t, rfl⟩ := rep_str.mp r
    obtain ⟨u, e⟩ := rep_str.mp r'
    cases e; rfl
  | list _ ih =>
    intro v r r'
    obtain ⟨a, vs, n, rfl, _, hg, rl⟩ := rep_list.mp r
    obtain ⟨a', vs', n', e, _, hg', rl'⟩ := rep_list.mp r'
    cases e
    rw [hg] at hg'
    have e2 : vs = vs' := by cases hg'; rfl
    subst e2
    refine congrArg D.list (list_ext_get (by rw [← rl.length, ← rl'.length]) fun i x y hx hy => ?_)
    obtain ⟨v, hv, rv⟩ := rl.get hx
    obtain ⟨v', hv', rv'⟩ := rl'.get hy
    rw [hv] at hv'; cases hv'
    exact ih i x y hx hy rv rv'

theorem all_range {n : Nat} {e : Nat → Bool} : (List.range n).all e = true ↔ ∀ j, j < n → e j = true := by
  rw [List.all_eq_true]
  exact ⟨fun h j hj => h j (List.mem_range.mpr hj), fun h j hj => h j (List.mem_range.mp hj)⟩

/-- the lists' items, one against the other -/
theorem lists_all {C : Addr} {δ δ' : Addr → Prop} {h : Heap} {k : Nat} {xs ys : List D} {vs ws : Array Value} (hl : xs.length = ys.length) (r1 : RepL C δ h vs.toList xs) (r2 : RepL C δ' h ws.toList ys) :
    ∃ e : Nat → Bool, ((List.range vs.size).all e = true ↔ xs = ys) ∧ ∀ j x y, xs[j]? = some x → ys[j]? = some y → (e j = true ↔ x = y) := by
  classical
  refine ⟨fun j => decide (xs[j]? = ys[j]?), ?_, fun j x y hx hy => by simp [hx, hy]⟩
  have hs := r1.length
  rw [Array.length_toList] at hs
  rw [all_range]
  constructor
  · intro h
    refine list_ext_get hl fun i x y hx hy => ?_
    have hi := (List.getElem?_eq_some_iff.mp hx).1
    have := of_decide_eq_true (h i (by omega))
    rw [hx, hy] at this; cases this; rfl
  · rintro rfl j _; simp

theorem eqAt_rep {C : Addr} {δ δ' : Addr → Prop} {k : Nat} {d d' : D} (sm : Sim k d d') : ∀ {A : Around} {s : Shared} {v v' : Value} {b : Bool}, A.units + k < cLine → Rep C δ s.heap v d → Rep C δ' s.heap v' d' → (b = true ↔ d = d') → EqAt A s v v' b := by
  induction sm with
  | int =>
    rename_i k i j
    intro A s v v' b hu r r' hb
    obtain ⟨t, rfl⟩ := rep_int.mp r
    obtain ⟨u, rfl⟩ := rep_int.mp r'
    have e : b = (i == j) := by rw [Bool.eq_iff_iff, hb]; simp
    rw [e]; exact fun prog w E Q hq => wpAny_eqBool_int hq
  | str =>
    rename_i k i j
    intro A s v v' b hu r r' hb
    obtain ⟨t, rfl⟩ := rep_str.mp r
    obtain ⟨u, rfl⟩ := rep_str.mp r'
    have e : b = decide (i = j) := by rw [Bool.eq_iff_iff, hb]; simp
    rw [e]; exact fun prog w E Q hq => wpAny_eqBool_str hq
  | list hs ih =>
    rename_i k xs ys
    intro A s v v' b hu r r' hb
    have rj := fun (v : Value) => Rep.inj (Sim.list hs) (C := C) (δ := δ) (δ' := δ') (h := s.heap) (v := v)
    obtain ⟨a, vs, n, rfl, hg, hl, rl, hsz⟩ := rep_list_at r
    obtain ⟨a', vs', n', rfl, hg', hl', rl', hsz'⟩ := rep_list_at r'
    by_cases q : a = a'
    · subst q
      have e : b = true := hb.mpr (rj _ r r')
      rw [e]; exact EqAt.same _
    · refine EqAt.of_refs q ?_
      by_cases hlen : xs.length = ys.length
      · obtain ⟨e, he, hee⟩ := lists_all (k := k) hlen rl rl'
        have eb : b = (List.range vs.size).all e := by rw [Bool.eq_iff_iff, hb, he]; exact ⟨fun z => by injection z, fun z => by rw [z]⟩
        rw [eb]
        refine RcAt.lists hl hl' (by omega) (by omega) fun j h1 h2 => ?_
        obtain ⟨x, hx, rx⟩ := rl.get' (i := j) (v := vs[j]) (by simp [h1])
        obtain ⟨y, hy, ry⟩ := rl'.get' (i := j) (v := vs'[j]) (by simp [h2])
        exact ih j x y hx hy (by show A.units + 1 + k < cLine; omega) rx ry (hee j x y hx hy)
      · have eb : b = false := by
          cases b with
          | false => rfl
          | true => exact absurd (by have := hb.mp rfl; injection this with z; rw [z]) hlen
        rw [eb]
        exact RcAt.lists_lengths hl hl' (by simp; omega) (by omega)

section
variable {W : Wc}
theorem CmpV.eqList {k : Nat} {xs ys : List D} {b : Bool} (sm : Sim (k + 1) (.list xs) (.list ys)) (hk : k ≤ 20) (hb : b = true ↔ xs = ys) : CmpV W 3 .Eq (.list xs) (.list ys) b := fun A s va vb rm _ ra rb => by
  obtain ⟨a, vs, n, rfl, hg, hl, rl, hsz⟩ := rep_list_at ra
  obtain ⟨a', vs', n', rfl, hg', hl', rl', hsz'⟩ := rep_list_at rb
  have hu : A.units + 20 * 3 ≤ 9800 := rm.un
  have hc : cLine = 9900 := rfl
  cases sm with
  | list hs =>
    by_cases hlen : xs.length = ys.length
    · obtain ⟨e, he, hee⟩ := lists_all (k := k) hlen rl rl'
      have eb : b = (List.range vs.size).all e := by rw [Bool.eq_iff_iff, hb, he]
      rw [eb]
      refine eq_listAt hl hl' (by omega) (by omega) (fun j h1 h2 => ?_) ⟨Ext.refl _ _, rfl⟩
      obtain ⟨x, hx, rx⟩ := rl.get' (i := j) (v := vs[j]) (by simp [h1])
      obtain ⟨y, hy, ry⟩ := rl'.get' (i := j) (v := vs'[j]) (by simp [h2])
      exact eqAt_rep (hs j x y hx hy) (by show A.units + 1 + k < cLine; omega) rx ry (hee j x y hx hy)
    · have eb : b = false := by
        cases b with
        | false => rfl
        | true => exact absurd (by rw [hb.mp rfl]) hlen
      rw [eb]
      exact eq_list_lengthsAt hl hl' (by simp; omega) (by omega) ⟨Ext.refl _ _, rfl⟩
theorem CmpV.neList {k : Nat} {xs ys : List D} {b : Bool} (sm : Sim (k + 1) (.list xs) (.list ys)) (hk : k ≤ 20) (hb : b = false ↔ xs = ys) : CmpV W 3 .NotEq (.list xs) (.list ys) b := fun A s va vb rm _ ra rb => by
  obtain ⟨a, vs, n, rfl, hg, hl, rl, hsz⟩ := rep_list_at ra
  obtain ⟨a', vs', n', rfl, hg', hl', rl', hsz'⟩ := rep_list_at rb
  have hu : A.units + 20 * 3 ≤ 9800 := rm.un
  have hc : cLine = 9900 := rfl
  show wpAny _ A (richCompare .NotEq (.ref a) (.ref a')) _ _ s
  cases sm with
  | list hs =>
    by_cases hlen : xs.length = ys.length
    · obtain ⟨e, he, hee⟩ := lists_all (k := k) hlen rl rl'
      have eb : b = !(List.range vs.size).all e := by
        cases hz : (List.range vs.size).all e with
        | true => exact hb.mpr (he.mp hz)
        | false =>
          cases b with
          | true => rfl
          | false => rw [he.mpr (hb.mp rfl)] at hz; cases hz
      rw [eb]
      refine RcNeAt.lists hl hl' (by omega) (by omega) (fun j h1 h2 => ?_) _ _ _ _ ⟨Ext.refl _ _, rfl⟩
      obtain ⟨x, hx, rx⟩ := rl.get' (i := j) (v := vs[j]) (by simp [h1])
      obtain ⟨y, hy, ry⟩ := rl'.get' (i := j) (v := vs'[j]) (by simp [h2])
      exact eqAt_rep (hs j x y hx hy) (by show A.units + 1 + k < cLine; omega) rx ry (hee j x y hx hy)
    · have eb : b = true := by
        cases b with
        | true => rfl
        | false => exact absurd (by rw [hb.mp rfl]) hlen
      rw [eb]
      exact RcNeAt.lists_lengths hl hl' (by simp; omega) (by omega) _ _ _ _ ⟨Ext.refl _ _, rfl⟩

/-- int lists have one shape -/
theorem sim_ints {k : Nat} {xs ys : List Int} : Sim (k + 1) (.list (xs.map .int)) (.list (ys.map .int)) := .list fun i x y hx hy => by
  rw [List.getElem?_map] at hx hy
  obtain ⟨a, _, rfl⟩ := Option.map_eq_some_iff.mp hx
  obtain ⟨b, _, rfl⟩ := Option.map_eq_some_iff.mp hy
  exact .int
theorem map_int_inj {xs ys : List Int} : xs.map D.int = ys.map D.int ↔ xs = ys := by
  refine ⟨fun h => ?_, fun h => by rw [h]⟩
  have := congrArg (List.map fun d => match d with | D.int i => i | _ => 0) h
  simpa [List.map_map, Function.comp_def] using this
theorem CmpV.eqInts {xs ys : List Int} : CmpV W 3 .Eq (.list (xs.map .int)) (.list (ys.map .int)) (decide (xs = ys)) := CmpV.eqList (k := 0) sim_ints (by decide) (by rw [decide_eq_true_iff, map_int_inj])
def isI (x : Int) (v : Value) : Bool := match v with | .int i _ => i == x | _ => false
theorem CmpV.inStr {x y : Str} : CmpV W 3 .In (.str y) (.str x) (!(Builtin.Str.occurrences x y 0 x.length 1).isEmpty) := fun A s va vb rm _ ra rb => by
  obtain ⟨t, rfl⟩ := rep_str.mp ra
  obtain ⟨u, rfl⟩ := rep_str.mp rb
  exact in_str ⟨Ext.refl _ _, rfl⟩
end
end Mine
end
-- MB14
section
open PySem PySem.W PySem.Calls PyProof.Rows PySem.SeqAt PySem.MeetsSeq PySem.MeetsSeq3
namespace Mine

def ltI : List Int → List Int → Bool
  | [], [] => false
  | [], _ :: _ => true
  | _ :: _, [] => false
  | a :: as, b :: bs => if a = b then ltI as bs else decide (a < b)

def IntAt (items : Array Value) (xs : List Int) : Prop := items.size = xs.length ∧ ∀ (j : Nat) (i : Int), xs[j]? = some i → ∃ t, items[j]? = some (.int i t)

theorem ltI_nil_drop {xs ys : List Int} {i : Nat} (h : xs.length ≤ i ∨ ys.length ≤ i) (hx : i ≤ xs.length) (hy : i ≤ ys.length) : ltI (xs.drop i) (ys.drop i) = decide (xs.length < ys.length) := by
  by_cases h1 : xs.length ≤ i
  · rw [List.drop_of_length_le h1]
    by_cases h2 : ys.length ≤ i
    · rw [List.drop_of_length_le h2]
      simp [ltI]; omega
    · rw [List.drop_eq_getElem_cons (by omega)]
      simp [ltI]; omega
  · have h2 : ys.length ≤ i := by omega
    rw [List.drop_of_length_le h2, List.drop_eq_getElem_cons (by omega)]
    simp [ltI]; omega

theorem lt_loop (l b : Addr) (items items2 : Array Value) (n n2 : Nat) (xs ys : List Int) (hX : IntAt items xs) (hY : IntAt items2 ys) (k : Nat) :
    ∀ i : Nat, items.size - i = k → i ≤ items.size → i ≤ items2.size → Meets (Builtin.«list.__eq__.loop» ⟨[.ref l, .ref b, rawInt i, rawInt 0], []⟩)
      (fun _ R s => s.heap.get? l = some { cls := .type "list", dict := none, data := .seq items n, slots := #[] } ∧ s.heap.get? b = some { cls := .type "list", dict := none, data := .seq items2 n2, slots := #[] } ∧
        R (.ok (.ret (.bool (ltI (xs.drop i) (ys.drop i))))) s) := by
  have s1 := hX.1
  have s2 := hY.1
  induction k with
  | zero =>
    intro i hk hi1 hi2 prog w A R s h
    obtain ⟨hp, g, d, tk, os⟩ := s; obtain ⟨hl, hb, h⟩ := h
    wp_walk using AutoSeq1.wpAny_loadPart' hl, AutoSeq1.wpAny_loadPart' hb
    have hi1 : items[((i : Nat) : Int).toNat]? = none := by simp; omega
    rw [hi1]
    wp_walk using AutoSeq1.wpAny_loadPart' hl, AutoSeq1.wpAny_loadPart' hb
    show R (.ok (.ret (.bool (decide (items.size < items2.size))))) _
    rw [ltI_nil_drop (by omega) (by omega) (by omega)] at h
    rw [s1, s2]
    exact h
  | succ k ih =>
    intro i hk hi1 hi2 prog w A R s h
    obtain ⟨hp, g, d, tk, os⟩ := s; obtain ⟨hl, hb, h⟩ := h
    wp_walk using AutoSeq1.wpAny_loadPart' hl, AutoSeq1.wpAny_loadPart' hb
    have hlt : i < xs.length := by omega
    obtain ⟨t, ht⟩ := hX.2 i _ (List.getElem?_eq_getElem hlt)
    have hn : ((i : Nat) : Int).toNat = i := by simp
    by_cases hlt2 : i < ys.length
    · obtain ⟨u, hu⟩ := hY.2 i _ (List.getElem?_eq_getElem hlt2)
      have hc : ((i : Int) + 1) = ((i + 1 : Nat) : Int) := by push_cast; rfl
      rw [hn, ht, hu]
      refine wpAny_bind (wpAny_eqBool_int ?_)
      rw [List.drop_eq_getElem_cons hlt, List.drop_eq_getElem_cons hlt2] at h
      by_cases he : xs[i] = ys[i]
      · rw [show (xs[i] == ys[i]) = true by simpa using he]
        simp only [ltI, he, if_true] at h
        wp_walk
        rw [hc]
        exact ⟨plainId_quiet plain_eq_loop _, codeAny_builtin entry_eq_loop (by
          rw [Around.under_plainId plain_eq_loop _]
          exact ih (i + 1) (by omega) (by omega) (by omega) prog w A R _ ⟨hl, hb, h⟩)⟩
      · rw [show (xs[i] == ys[i]) = false by simpa using he]
        simp only [ltI, he, if_false] at h
        wp_walk using AutoSeq1.wpAny_loadPart' hl, AutoSeq1.wpAny_loadPart' hb
        rw [ht, hu]
        exact wpAny_bind (lt_int (wpAny_pure h))
    · have hi2 : items2[((i : Nat) : Int).toNat]? = none := by rw [hn]; simp; omega
      rw [hn, ht, show items2[i]? = none by simp; omega]
      wp_walk using AutoSeq1.wpAny_loadPart' hl, AutoSeq1.wpAny_loadPart' hb
      show R (.ok (.ret (.bool (decide (items.size < items2.size))))) _
      rw [ltI_nil_drop (by omega) (by omega) (by omega)] at h
      rw [s1, s2]
      exact h
theorem gt_loop (l b : Addr) (items items2 : Array Value) (n n2 : Nat) (xs ys : List Int) (hX : IntAt items xs) (hY : IntAt items2 ys) (k : Nat) :
    ∀ i : Nat, items.size - i = k → i ≤ items.size → i ≤ items2.size → Meets (Builtin.«list.__eq__.loop» ⟨[.ref l, .ref b, rawInt i, rawInt 4], []⟩)
      (fun _ R s => s.heap.get? l = some { cls := .type "list", dict := none, data := .seq items n, slots := #[] } ∧ s.heap.get? b = some { cls := .type "list", dict := none, data := .seq items2 n2, slots := #[] } ∧
        R (.ok (.ret (.bool (ltI (ys.drop i) (xs.drop i))))) s) := by
  have s1 := hX.1
  have s2 := hY.1
  induction k with
  | zero =>
    intro i hk hi1 hi2 prog w A R s h
    obtain ⟨hp, g, d, tk, os⟩ := s; obtain ⟨hl, hb, h⟩ := h
    wp_walk using AutoSeq1.wpAny_loadPart' hl, AutoSeq1.wpAny_loadPart' hb
    have hi1 : items[((i : Nat) : Int).toNat]? = none := by simp; omega
    rw [hi1]
    wp_walk using AutoSeq1.wpAny_loadPart' hl, AutoSeq1.wpAny_loadPart' hb
    show R (.ok (.ret (.bool (decide (items.size > items2.size))))) _
    rw [ltI_nil_drop (by omega) (by omega) (by omega)] at h
    rw [s1, s2]
    exact h
  | succ k ih =>
    intro i hk hi1 hi2 prog w A R s h
    obtain ⟨hp, g, d, tk, os⟩ := s; obtain ⟨hl, hb, h⟩ := h
    wp_walk using AutoSeq1.wpAny_loadPart' hl, AutoSeq1.wpAny_loadPart' hb
    have hlt : i < xs.length := by omega
    obtain ⟨t, ht⟩ := hX.2 i _ (List.getElem?_eq_getElem hlt)
    have hn : ((i : Nat) : Int).toNat = i := by simp
    by_cases hlt2 : i < ys.length
    · obtain ⟨u, hu⟩ := hY.2 i _ (List.getElem?_eq_getElem hlt2)
      have hc : ((i : Int) + 1) = ((i + 1 : Nat) : Int) := by push_cast; rfl
      rw [hn, ht, hu]
      refine wpAny_bind (wpAny_eqBool_int ?_)
      rw [List.drop_eq_getElem_cons hlt, List.drop_eq_getElem_cons hlt2] at h
      by_cases he : xs[i] = ys[i]
      · rw [show (xs[i] == ys[i]) = true by simpa using he]
        simp only [ltI, he, if_true] at h
        wp_walk
        rw [hc]
        exact ⟨plainId_quiet plain_eq_loop _, codeAny_builtin entry_eq_loop (by
          rw [Around.under_plainId plain_eq_loop _]
          exact ih (i + 1) (by omega) (by omega) (by omega) prog w A R _ ⟨hl, hb, h⟩)⟩
      · rw [show (xs[i] == ys[i]) = false by simpa using he]
        simp only [ltI, Ne.symm he, if_false] at h
        wp_walk using AutoSeq1.wpAny_loadPart' hl, AutoSeq1.wpAny_loadPart' hb
        rw [ht, hu]
        exact wpAny_bind (gt_int (wpAny_pure h))
    · have hi2 : items2[((i : Nat) : Int).toNat]? = none := by rw [hn]; simp; omega
      rw [hn, ht, show items2[i]? = none by simp; omega]
      wp_walk using AutoSeq1.wpAny_loadPart' hl, AutoSeq1.wpAny_loadPart' hb
      show R (.ok (.ret (.bool (decide (items.size > items2.size))))) _
      rw [ltI_nil_drop (by omega) (by omega) (by omega)] at h
      rw [s1, s2]
      exact h

theorem list_lt (l b : Addr) (items items2 : Array Value) (n n2 : Nat) (xs ys : List Int) (hX : IntAt items xs) (hY : IntAt items2 ys) :
    Meets (Builtin.«list.__lt__» ⟨[.ref l, .ref b], []⟩)
      (fun _ R s => s.heap.get? l = some { cls := .type "list", dict := none, data := .seq items n, slots := #[] } ∧ s.heap.get? b = some { cls := .type "list", dict := none, data := .seq items2 n2, slots := #[] } ∧
        R (.ok (.ret (.bool (ltI xs ys)))) s) := by
  intro prog w A R s h
  obtain ⟨hp, g, d, tk, os⟩ := s; obtain ⟨hl, hb, h⟩ := h
  have f3 := AutoSeq1.sub_list_list
  wp_walk using AutoSeq1.wpAny_loadPart' hl, AutoSeq1.wpAny_loadPart' hb
  exact ⟨plainId_quiet plain_eq_loop _, codeAny_builtin entry_eq_loop (by
    rw [Around.under_plainId plain_eq_loop _]
    exact lt_loop l b items items2 n n2 xs ys hX hY _ 0 rfl (Nat.zero_le _) (Nat.zero_le _) prog w A R _ ⟨hl, hb, by simpa using h⟩)⟩
theorem list_gt (l b : Addr) (items items2 : Array Value) (n n2 : Nat) (xs ys : List Int) (hX : IntAt items xs) (hY : IntAt items2 ys) :
    Meets (Builtin.«list.__gt__» ⟨[.ref l, .ref b], []⟩)
      (fun _ R s => s.heap.get? l = some { cls := .type "list", dict := none, data := .seq items n, slots := #[] } ∧ s.heap.get? b = some { cls := .type "list", dict := none, data := .seq items2 n2, slots := #[] } ∧
        R (.ok (.ret (.bool (ltI ys xs)))) s) := by
  intro prog w A R s h
  obtain ⟨hp, g, d, tk, os⟩ := s; obtain ⟨hl, hb, h⟩ := h
  have f3 := AutoSeq1.sub_list_list
  wp_walk using AutoSeq1.wpAny_loadPart' hl, AutoSeq1.wpAny_loadPart' hb
  exact ⟨plainId_quiet plain_eq_loop _, codeAny_builtin entry_eq_loop (by
    rw [Around.under_plainId plain_eq_loop _]
    exact gt_loop l b items items2 n n2 xs ys hX hY _ 0 rfl (Nat.zero_le _) (Nat.zero_le _) prog w A R _ ⟨hl, hb, by simpa using h⟩)⟩

theorem intAt_rep {C : Addr} {δ : Addr → Prop} {h : Heap} {vs : Array Value} {xs : List Int} (r : RepL C δ h vs.toList (xs.map .int)) : IntAt vs xs := by
  refine ⟨by have := r.length; simpa using this, fun j i e => ?_⟩
  obtain ⟨v, hv, rv⟩ := r.get (i := j) (d := .int i) (by rw [List.getElem?_map, e]; rfl)
  obtain ⟨t, rfl⟩ := rep_int.mp rv
  exact ⟨t, by simpa using hv⟩

section
variable {W : Wc}
theorem CmpV.gtInts {xs ys : List Int} : CmpV W 3 .Gt (.list (xs.map .int)) (.list (ys.map .int)) (ltI ys xs) := fun A s va vb rm _ ra rb => by
  obtain ⟨a, vs, n, rfl, hg, hl, rl, hsz⟩ := rep_list_at ra
  obtain ⟨a', vs', n', rfl, hg', hl', rl', hsz'⟩ := rep_list_at rb
  exact richCompare_meets_room (op := .Gt) ⟨_, hg, rfl⟩ ⟨_, hg', rfl⟩ F.slot_list_gt F.entry_list_gt (F.args_list_gt_2 _ _) (list_gt a a' vs vs' n n' xs ys (intAt_rep rl) (intAt_rep rl'))
    ⟨hg, hg', show Value.bool (ltI ys xs) ≠ Value.notImplemented ∧ _ from ⟨(fun x => nomatch x), Ext.refl _ _, rfl⟩⟩ rm.units
end
end Mine
end
-- MB15
namespace Mine

theorem ext0_wpz {s : Shared} {h' : Heap} {tk : Nat} (hk : Keep s.heap h') (h : hz s ≤ hz { s with heap := h', toks := tk }) : Ext0 s { s with heap := h', toks := tk } := ext0_of hk h
theorem wpzF {α : Type} {M : Model} {A : Around} {s : Shared} {t : Sem α} {Q : α → Shared → Prop} (h : wpAny M A t (fun a s' => hz s ≤ hz s' → Q a s') F0 s) : wpAny M A t Q F0 s :=
  wpz (wpAny_mono h (fun _ _ q => q) fun _ _ f => f.elim)

section
variable {W : Wc} {n : Nat}
theorem Call.len {xs : List D} (hz' : xs.length < 2 ^ 62) : CallOK W n (.builtin "len") [.list xs] (.int xs.length) := fun A s β vs rm g hβ r => by
  obtain ⟨v, vs', rfl, rv, r'⟩ := r.cons_inv'
  obtain rfl := r'.nil_inv'
  obtain ⟨a, ws, k, rfl, hg, hl, rl, hsz⟩ := rep_list_at rv
  exact call_len_list hl (by omega) ⟨ext0_tok, rep_int.mpr ⟨_, by rw [hsz]⟩⟩
theorem Call.ord {x : Str} (h1 : x.length = 1) : CallOK W n (.builtin "ord") [.str x] (.int (x.cps.getD 0 0 : Nat)) := fun A s β vs rm g hβ r => by
  obtain ⟨v, vs', rfl, rv, r'⟩ := r.cons_inv'
  obtain rfl := r'.nil_inv'
  obtain ⟨t, rfl⟩ := rep_str.mp rv
  exact ord_of_one h1 ⟨ext0_tok, rep_int.mpr ⟨_, rfl⟩⟩
theorem Call.range1 {i : Int} : CallOK W n (.type "range") [.int i] (.rng 0 i 1) := fun A s β vs rm g hβ r => by
  obtain ⟨v, vs', rfl, rv, r'⟩ := r.cons_inv'
  obtain rfl := r'.nil_inv'
  obtain ⟨t, rfl⟩ := rep_int.mp rv
  exact call_range_1 ⟨ext0_push, rep_rng.mpr ⟨_, _, _, _, rfl, fun q => Nat.lt_irrefl _ (hβ _ q), IsRange.new ..⟩⟩
theorem Call.range2 {i j : Int} : CallOK W n (.type "range") [.int i, .int j] (.rng i j 1) := fun A s β vs rm g hβ r => by
  obtain ⟨v, vs', rfl, rv, r'⟩ := r.cons_inv'
  obtain ⟨v', vs'', rfl, rv', r''⟩ := r'.cons_inv'
  obtain rfl := r''.nil_inv'
  obtain ⟨t, rfl⟩ := rep_int.mp rv
  obtain ⟨t, rfl⟩ := rep_int.mp rv'
  exact call_range_2 ⟨ext0_push, rep_rng.mpr ⟨_, _, _, _, rfl, fun q => Nat.lt_irrefl _ (hβ _ q), IsRange.new ..⟩⟩
theorem Call.range3 {i j k : Int} (hk : k ≠ 0) (hp : Builtin.divisionGoesByPylong (j - i) k = false) : CallOK W n (.type "range") [.int i, .int j, .int k] (.rng i j k) := fun A s β vs rm g hβ r => by
  obtain ⟨v, vs', rfl, rv, r'⟩ := r.cons_inv'
  obtain ⟨v', vs'', rfl, rv', r''⟩ := r'.cons_inv'
  obtain ⟨v'', vs'', rfl, rv'', r''⟩ := r''.cons_inv'
  obtain rfl := r''.nil_inv'
  obtain ⟨t, rfl⟩ := rep_int.mp rv
  obtain ⟨t, rfl⟩ := rep_int.mp rv'
  obtain ⟨t, rfl⟩ := rep_int.mp rv''
  exact call_range_3 hk ⟨ext0_push, rep_rng.mpr ⟨_, _, _, _, rfl, fun q => Nat.lt_irrefl _ (hβ _ q), IsRange.new ..⟩⟩ (.inl hp)

theorem int_items {C : Addr} {δ : Addr → Prop} {h : Heap} : ∀ {l : List Value} {ns : List Int}, RepL C δ h l (ns.map .int) → ∃ ps : List (Int × Tok), l = ps.map (fun p => .int p.1 p.2) ∧ ps.map (·.1) = ns
  | l, [], r => ⟨[], by rw [r.nil_inv']; rfl, rfl⟩
  | l, y :: ys, r => by
    obtain ⟨v, l', rfl, rv, rl2⟩ := RepL.cons_inv' r
    obtain ⟨u, rfl⟩ := rep_int.mp rv
    obtain ⟨ps, h1, h2⟩ := int_items rl2
    exact ⟨(y, u) :: ps, by rw [h1]; rfl, by rw [List.map_cons, h2]⟩
theorem preSum_take (ps : Array (Int × Tok)) : ∀ j, preSum (numAt ps) j = ((ps.toList.map (·.1)).take j).sum
  | 0 => by simp [preSum]
  | j + 1 => by
    rw [preSum, preSum_take ps j, PySem.sum_take_succ]
    congr 1
    simp only [numAt, List.getD_eq_getElem?_getD, List.getElem?_map, Array.getElem?_toList]
theorem Call.sum {ns : List Int} : CallOK W n (.builtin "sum") [.list (ns.map .int)] (.int ns.sum) := fun A s β vs rm g hβ r => by
  obtain ⟨v, vs', rfl, rv, r'⟩ := r.cons_inv'
  obtain rfl := r'.nil_inv'
  obtain ⟨a, ws, k, rfl, hg, hl, rl, hsz⟩ := rep_list_at rv
  obtain ⟨ps, h1, h2⟩ := int_items rl
  have e : ws = intItems ps.toArray := by
    apply Array.ext'
    rw [h1]; simp [intItems]
  rw [e] at hl
  refine wpzF (sum_intListG rm.hd hl fun h' tk t' hk hh => ⟨ext0_wpz hk hh, rep_int.mpr ⟨t', ?_⟩⟩)
  rw [preSum_take, List.take_of_length_le (by simp)]
  simp [h2]
theorem Call.max {ns : List Int} {M : Int} (hM : M ∈ ns) (hle : ∀ a ∈ ns, a ≤ M) : CallOK W n (.builtin "max") [.list (ns.map .int)] (.int M) := fun A s β vs rm g hβ r => by
  obtain ⟨v, vs', rfl, rv, r'⟩ := r.cons_inv'
  obtain rfl := r'.nil_inv'
  obtain ⟨a, ws, k, rfl, hg, hl, rl, hsz⟩ := rep_list_at rv
  obtain ⟨ps, h1, h2⟩ := int_items rl
  have e : ws = intItems ps.toArray := by
    apply Array.ext'
    rw [h1]; simp [intItems]
  rw [e] at hl
  have hpos : 0 < ps.toArray.size := by
    cases ps with
    | nil => rw [← h2] at hM; cases hM
    | cons => simp
  refine wpzF (max_intList rm.hd hl hpos fun v h' tk hv hk hh => ⟨ext0_wpz hk hh, ?_⟩)
  obtain ⟨t, rfl⟩ := intItems_at hv
  obtain ⟨g1, g2⟩ := argBest_gt (numAt ps.toArray) (ps.toArray.size - 1)
  refine rep_int.mpr ⟨t, ?_⟩
  have num : ∀ j, numAt ps.toArray j = ns.getD j 0 := fun j => by rw [← h2]; simp [numAt, List.getD_eq_getElem?_getD]
  congr 1
  have hl2 : ps.length = ns.length := by rw [← h2]; simp
  generalize argBest (fun i j => decide (numAt ps.toArray i > numAt ps.toArray j)) (ps.toArray.size - 1) = b at g1 g2
  apply Int.le_antisymm
  · rw [num]
    by_cases hb : b < ns.length
    · refine hle _ ?_
      rw [List.getD_eq_getElem?_getD, List.getElem?_eq_getElem hb]
      exact List.getElem_mem hb
    · simp at g1 hpos; omega
  · obtain ⟨j, hj, rfl⟩ := List.mem_iff_getElem.mp hM
    have := g2 j (by simp; omega)
    rw [num j, List.getD_eq_getElem?_getD, List.getElem?_eq_getElem hj] at this
    exact this

theorem BinV.mulInt {a b : Int} (hm : IntMulOk a b) : BinV W .Mult (.int a) (.int b) (.int (a * b)) := fun A s va vb β _ _ _ ra rb => by
  obtain ⟨t, rfl⟩ := rep_int.mp ra
  obtain ⟨u, rfl⟩ := rep_int.mp rb
  exact mul_int ⟨ext0_tok, rep_int.mpr ⟨_, rfl⟩⟩ hm
theorem RepL.rep {C : Addr} {δ : Addr → Prop} {h : Heap} {vs : List Value} {ds : List D} (r : RepL C δ h vs ds) : ∀ k : Nat, RepL C δ h (List.replicate k vs).flatten (List.replicate k ds).flatten
  | 0 => .nil
  | k + 1 => by rw [List.replicate_succ, List.replicate_succ, List.flatten_cons, List.flatten_cons]; exact r.append (r.rep k)
theorem BinV.mulList {xs : List D} {x : Int} (hne : xs ≠ []) (hlo : -(2 ^ 63 : Int) ≤ x) (hhi : x < 2 ^ 63) (hsz : xs.length * x.toNat ≤ 2 ^ 24) : BinV W .Mult (.list xs) (.int x) (.list (List.replicate x.toNat xs).flatten) := fun A s va vb β rm g hf ra rb => by
  obtain ⟨t, rfl⟩ := rep_int.mp rb
  obtain ⟨a, ws, k, rfl, hg, hl, rl, hsz'⟩ := rep_list_at ra
  refine wpAny_binaryOp_repeat_ref (T := "list") (U := "int") (by decide) ⟨_, hg, rfl⟩ (fun s' => typeIs_int s' x t) noFill_list_mul F.fills_int_mul F.slot_int_rmul repeat_list F.slot_int_index.lookup
    (call_meets F.slot_int_rmul (typeIs_int s x t) F.entry_int_rmul (F.args_int_rmul_2 _ _) (int___rmul___int_list x t a ws k)
      ⟨hg, rfl, ⟨_, hg, rfl⟩, call_meets F.slot_list_mul ⟨_, hg, rfl⟩ F.entry_list_mul (F.args_list_mul_2 _ _)
        (AutoListH.list___mul___list_int_3 a ws k x t (by simp [Builtin.List.listFitsIndex]; omega) (by rw [hsz']; omega) (by rw [hsz']; simp [Builtin.List.listTooLong, sizeLine]; omega))
        ⟨hg, ext0_push, rep_list.mpr ⟨_, _, 0, rfl, hf, Heap.get?_push_size _ rfl, ?_⟩⟩⟩)
  have he : ws.isEmpty = false := by
    cases xs with
    | nil => exact absurd rfl hne
    | cons x xs => rw [Array.isEmpty_eq_false_iff]; intro q; rw [q] at hsz'; simp at hsz'
  rw [he, listMul_foldl]
  simp only [Bool.false_eq_true, if_false, List.nil_append, List.toList_toArray]
  exact ((ext0_push (tk := s.toks)).repL rl).rep _

variable {cx : Cx} {ρ ρ' : Rho} {β : Addr → Prop}
theorem Ev.find {o e : Expr} {apos pos : Pos} {x y : Str} {pl : Sem Bool} (h1 : EvOK W cx n ρ Mine.no o (.str x)) (h2 : EvOK W cx n ρ Mine.no e (.str y))
    (he : eval (.Call (.Attribute o "find" apos) [e] [] pos) cx.env = (do
      let ov ← eval o cx.env
      standAt apos.atName
      let (f, first) ← holding [ov] (getMethod ov "find" pl)
      callWith pos f first (backTo pos (starEach [e] cx.env)) []) := by rfl)
    (hs : starEach (e :: []) cx.env = (false, eval e cx.env) :: starEach [] cx.env := by rfl) :
    EvOK W cx n ρ β (.Call (.Attribute o "find" apos) [e] [] pos) (.int (Txt.find x y)) := fun hβ A s rm i => by
  refine MethodCall_ (h1.use (no_le _) rm i fun ov s1 x1 i1 r1 => ?_) he
  obtain ⟨t, rfl⟩ := rep_str.mp r1
  refine GM.find (callWith_method1 (args_cons (h2.use (no_le _) rm i1 fun v s2 x2 i2 r2 => args_nil ?_) hs) hs)
  obtain ⟨u, rfl⟩ := rep_str.mp r2
  exact SC.find ⟨x1.trans (x2.trans ext0_tok), rep_int.mpr ⟨_, rfl⟩⟩

end
end Mine
-- MB16
namespace Mine

section
variable {prog : Program} {w : World} {A : Around} {E : Value → Shared → Prop} {s : Shared}
theorem setItem_at {l : Addr} {vs : Array Value} {n : Nat} {i : Int} {t : Tok} {v : Value} {Q : Unit → Shared → Prop} (hg : s.heap.get? l = some (listOf vs n)) (h0 : 0 ≤ i) (hi : i.toNat < vs.size) (hfit : i < 2 ^ 62)
    (k : ∀ h' n', h'.get? l = some (listOf (vs.setIfInBounds i.toNat v) n') → Heap.SameBut l s.heap h' → Q () { s with heap := h' }) : wpAny (model prog w) A (setItem (.ref l) (.int i t) v) Q E s := by
  have hT : s.TypeIs (.ref l) "list" := ⟨_, hg, rfl⟩
  have hfits : Builtin.List.listFitsIndex i = true := fitsIndex_of h0 (by omega)
  unfold setItem
  try with_reducible refine wpAny_holding ?_
  first | refine wpAny_bind (wpAny_pure ?_) | skip
  refine wpAny_bind (wpAny_sequenceKey hT (by decide) ?_)
  refine wpAny_bind (wpAny_callSpecial?_slot (name := Str.ofString "__setitem__") hT slot_list_setitem
    (wpAny_call_entry slot_list_setitem hT entry_list_setitem ?_ (args_list_setitem _ _ _)))
  show wpAny _ _ (Builtin.List.listSubscript? (.int i t) >>= _) _ _ s
  refine wpAny_bind (wpAny_listSubscript_int hfits ?_)
  clear hfit
  obtain ⟨j, rfl⟩ := Int.eq_ofNat_of_zero_le h0
  have hi' : j < vs.size := hi
  show wpAny _ _ ((seqItemAt l j >>= fun r => pure (r.map (j, ·))) >>= _) _ _ s
  refine wpAny_bind (wpAny_bind (wpAny_seqItemAt hg rfl (wpAny_pure ?_)))
  rw [Array.getElem?_eq_getElem hi']
  show wpAny _ _ (setSeqItemAt l j v >>= _) _ _ s
  obtain ⟨n', hm⟩ : ∃ n', Obj.mapSeq (·.setIfInBounds j v) (PySem.W.listOf vs n) = PySem.W.listOf (vs.setIfInBounds j v) n' := ⟨_, by simp [Obj.mapSeq, PySem.W.listOf]; rfl⟩
  have hu := Heap.get?_update_self (Obj.mapSeq (·.setIfInBounds j v)) hg (by rw [hm]; rfl)
  rw [hm] at hu
  refine wpAny_bind (wpAny_setSeqItemAt hg rfl ?_)
  first
    | exact wpAny_bind (wpAny_pure (wpAny_pure ⟨.none, rfl, wpAny_pure (k _ _ hu (Heap.SameBut.update ..))⟩))
    | exact wpAny_pure ⟨.none, rfl, wpAny_pure (k _ _ hu (Heap.SameBut.update ..))⟩
end

section
variable {W : Wc} {cx : Cx} {n : Nat} {ρ ρ' : Rho} {β : Addr → Prop} {A : Around} {s s' : Shared} {x : Str} {a : Addr}

theorem Binds.list {h h' : Heap} {y : Str} {v : Value} {vs : Array Value} {k : Nat} {m : Str → Option Value} (b : Binds cx.env h y v) (hn : h.Ns cx.env.locals m) (hg : h.get? a = some (listOf vs k)) (hs : Heap.SameBut a h h') : Binds cx.env h' y v := by
  rcases b with ⟨kd, m', hm, q⟩ | ⟨kd, c, hc, q⟩
  · exact .inl ⟨kd, m', hm.sameBut hs (Ne.symm (list_ne_ns hn hg)), q⟩
  · exact .inr ⟨kd, c, hc, q.sameBut hs (Ne.symm (list_ne_cell q hg))⟩

/-- a list of the block's own is changed in its place -/
theorem Inv.chgOwn {vs vs' : Array Value} {k k' : Nat} {h' : Heap} {tk : Nat} {xs xs' : List D} (i : Inv W cx ρ s) (hm : (x, Ent.own xs) ∈ ρ) (hd : Drop x ρ ρ') (hb : Binds cx.env s.heap x (.ref a)) (hμ : cx.μ a) (hnb : ¬ cx.β a)
    (hg : s.heap.get? a = some (listOf vs k)) (hs : Heap.SameBut a s.heap h') (hg' : h'.get? a = some (listOf vs' k')) (r : RepL W.C cx.δ s.heap vs'.toList xs') (hnp : ∀ y R, (y, Ent.pool R) ∉ ρ) : Inv W cx ((x, .own xs') :: ρ') { s with heap := h', toks := tk } := by
  have hδ := i.st.mδ _ hμ
  have i0 : Inv W cx ρ' s := i.sub fun p hp => (hd.sub p hp).1
  have hno : ∀ y ys, (y, Ent.own ys) ∈ ρ' → ¬ Binds cx.env s.heap y (.ref a) := fun y ys hy b => (hd.sub _ hy).2 (i.oap y x ys xs a (hd.sub _ hy).1 hm b hb)
  have i1 : Inv W cx ρ' { s with heap := h', toks := tk } := i0.chgList (.inl hμ) hδ hg hs hno fun y R hy => absurd (hd.sub _ hy).1 (hnp y R)
  obtain ⟨h₀, m, F, _⟩ := i.fr
  have hb' : Binds cx.env h' x (.ref a) := hb.list F.ns hg hs
  have back : ∀ y ys, (y, Ent.own ys) ∈ ρ' → ¬ Binds cx.env h' y (.ref a) := fun y ys hy b => by
    obtain ⟨a2, e2⟩ := (i0.val y _ hy).ref
    have q := (e2.list F.ns hg hs).uniq b
    cases q
    exact hno y ys hy e2
  refine ⟨i1.st, i1.fr, i1.cells, i1.lt, fun y e hy => ?_, fun y z ys zs b h1 h2 b1 b2 => ?_⟩
  · rcases List.mem_cons.mp hy with q | hy
    · cases q
      exact ⟨a, vs', k', hb', hμ, hnb, hg', r.sameBut hδ hs⟩
    · exact i1.val y e hy
  · rcases List.mem_cons.mp h1 with q1 | h1'
    · cases q1
      rcases List.mem_cons.mp h2 with q2 | h2
      · cases q2; rfl
      · have q := hb'.uniq b1
        cases q
        exact absurd b2 (back z zs h2)
    · rcases List.mem_cons.mp h2 with q2 | h2'
      · cases q2
        have q := hb'.uniq b2
        cases q
        exact absurd b1 (back y ys h1')
      · exact i1.oap y z ys zs b h1' h2' b1 b2

theorem St.setItem {px pp pos : Pos} {slice e : Expr} {xs : List D} {i : Nat} {d : D} (h : EvOK W cx n ρ cx.δ e d) (hm : (x, Ent.own xs) ∈ ρ) (hs : EvOK W cx n ρ Mine.no slice (.int i)) (hi : i < xs.length) (hfit : xs.length < 2 ^ 62) (hd : Drop x ρ ρ')
    (hsw : swapsWith e (some (.Subscript (.Name x px) slice pp)) pos.line cx.env = pure false := by rfl)
    (hdb : (x == ("__debug__" : Str)) = false := by rfl) (hc : (x == ("__classdict__" : Str)) = false := by rfl) (hnp : ∀ y R, (y, Ent.pool R) ∉ ρ := by intro y R h; simp at h) :
    StOK W cx n ρ (.Assign [.Subscript (.Name x px) slice pp] e pos) (.nxt ((x, .own (xs.set i d)) :: ρ')) := fun A s rm inv => by
  refine wpAny_Assign_Subscript (h.use (fun _ q => q) rm inv fun v s1 x1 i1 r1 => ?_) hsw
  obtain ⟨a, vs, k, b, hμ, hnb, hg, rp⟩ := i1.val x _ hm
  refine load_name i1 b (hs.use (no_le _) rm i1 fun iv s2 x2 i2 r2 => ?_) hdb hc
  obtain ⟨t, rfl⟩ := rep_int.mp r2
  have hg2 := x2.keeps _ _ hg
  have rl := x2.repL rp
  have hsz := rl.length
  rw [Array.length_toList] at hsz
  refine setItem_at hg2 (by omega) (by simp; omega) (by omega) fun h' n' hg' hsb => ?_
  refine ⟨x1.of.trans (x2.of.trans (ext_sameBut hμ hsb)), rfl, i2.chgOwn hm hd (b.keep x2.keeps) hμ hnb hg2 hsb hg' ?_ hnp⟩
  rw [Array.toList_setIfInBounds]
  exact rl.set i (x2.rep r1)

/-- the frame with one more address of its own -/
def Cx.plus (cx : Cx) (a : Addr) : Cx := { cx with μ := fun b => cx.μ b ∨ b = a, δ := fun b => cx.δ b ∨ b = a }

/-- a name is bound to a fresh list display: from here on the list is the block's own -/
theorem Ex.own {px lp pos : Pos} {es : List Expr} {ds : List D} {rest : List Stmt} {d : D} (h : ArgsOK W cx n ρ cx.δ es ds) (hz' : ds.length ≤ sizeLine) (hx : Stor cx x) (hd : Drop x ρ ρ')
    (hrest : ∀ a, ExOK W (cx.plus a) n ((x, .own ds) :: ρ') rest (.ret d))
    (hsw : swapsWith (.List es lp) (some (.Name x px)) pos.line cx.env = pure false := by rfl) :
    ExOK W cx n ρ (.Assign [.Name x px] (.List es lp) pos :: rest) (.ret d) := fun A s rm i => by
  refine wpAny_execs_cons (wpAny_Assign_Name (List_ (wpF (h (fun _ q => q) A s lp rm i) fun vs s1 ⟨x1, r1⟩ => ?_)) hsw)
  have i1 := i.ext0 x1
  have e := r1.length
  refine wpAny_newObj_type ?_ (by show vs.toArray.size ≤ _; rw [List.size_toArray]; omega)
  have x2 : Ext0 s1 { s1 with heap := s1.heap.push (listOf vs.toArray 0) } := ext0_push
  have hlt : hz s1 < hz { s1 with heap := s1.heap.push (listOf vs.toArray 0) } := by rw [hz_push]; exact Nat.lt_succ_self _
  have i2 := i1.addδ (P := fun b => b = hz s1) x2 fun a q => by subst q; exact ⟨Nat.le_refl _, hlt⟩
  have i3 : Inv W (cx.plus (hz s1)) ρ { s1 with heap := s1.heap.push (listOf vs.toArray 0) } := by
    obtain ⟨h₀, m, F, g, h0⟩ := i1.fr
    refine ⟨⟨i2.st.kind, i2.st.glob, i2.st.blt, i2.st.hasCell, i2.st.apart, .inl i2.st.mloc, fun y c h1 h2 => ⟨.inl (i2.st.mcell y c h1 h2).1, (i2.st.mcell y c h1 h2).2⟩, fun a q => q.elim (fun q => .inl (i.st.mδ a q)) .inr, fun a q => .inl (i.st.βδ a q)⟩,
      ⟨h₀, m, ⟨F.ns.keeps x2.keeps, fun b o q => x2.keeps _ _ (F.keep b o q), F.above⟩, g, fun a q => ?_⟩, i2.cells, i2.lt, fun y en hy => ?_, i2.oap⟩
    · rcases q with (q | q) | q
      · exact h0 a (.inl q)
      · cases z : h₀.get? a with
        | none => rfl
        | some o => exact absurd (Heap.lt_size (F.keep _ _ z)) (Nat.not_lt.mpr (Nat.le_of_eq q.symm))
      · exact h0 a (.inr q)
    · have := i2.val y en hy
      cases en with
      | val d => exact this
      | own xs =>
        obtain ⟨a, vs, kk, hb, h1, h2, h3, r⟩ := this
        exact ⟨a, vs, kk, hb, .inl h1, h2, h3, r⟩
      | pool R =>
        obtain ⟨hn, hp⟩ := this
        refine ⟨hn, fun p hm => ?_⟩
        obtain ⟨h1, h2, vs, kk, h3, r⟩ := hp p hm
        exact ⟨.inl h1, h2, vs, kk, h3, r⟩
  have rl : RepL W.C (cx.plus (hz s1)).δ (s1.heap.push (listOf vs.toArray 0)) vs.toArray.toList ds := by
    rw [List.toList_toArray]
    refine r1.mono (fun a ha q => q.elim id fun z => ?_) fun b o _ q => x2.keeps _ _ q
    obtain ⟨o, ho⟩ := Option.isSome_iff_exists.mp ha
    exact absurd (Heap.lt_size ho) (Nat.not_lt.mpr (Nat.le_of_eq z.symm))
  have hnb : ¬ cx.β (hz s1) := fun q => Nat.lt_irrefl _ (i1.lt _ (i.st.βδ _ q))
  refine store_own (cx := cx.plus (hz s1)) i3 hx hd (.inr rfl) hnb (Heap.get?_push_size _ rfl) rl (fun y ys hy b => ?_) fun s4 x4 i4 => ?_
  · obtain ⟨a2, vs2, k2, e2, _, _, hg2, _⟩ := i1.val y _ (hd.sub _ hy).1
    have q := (e2.keep x2.keeps).uniq b
    cases q
    exact Nat.lt_irrefl _ (Heap.lt_size hg2)
  · refine wpF (hrest _ A s4 rm i4) fun f s5 ⟨x5, y⟩ => ⟨?_, y⟩
    have x45 : Ext (cx.plus (hz s1)).μ { s1 with heap := s1.heap.push (listOf vs.toArray 0) } s5 := x4.trans x5
    have x12 := x1.trans x2
    exact ⟨fun b o hb q => x45.keep b o (fun z => z.elim hb fun z => Nat.lt_irrefl _ (Nat.lt_of_lt_of_le (Heap.lt_size q) (z ▸ x1.size))) (x12.keeps _ _ q), x45.gens.trans x12.gens, x45.os.trans x12.os, Nat.le_trans x12.size x45.size⟩
end
end Mine
-- MB17
namespace Mine

def occ (y x : Str) : Bool := !(Builtin.Str.occurrences x y 0 x.length 1).isEmpty
/-- one line of an escape -/
def esc1 (y z x : Str) : Str := if occ y x then Txt.replace x y z else x

section
variable {W : Wc} {cx : Cx} {n : Nat} {ρ ρ' : Rho} {β : Addr → Prop} {A : Around} {s s' : Shared} {x : Str} {a : Addr}

theorem Ev.neg {e : Expr} {pos : Pos} {i : Int} (h : EvOK W cx n ρ Mine.no e (.int i)) : EvOK W cx n ρ β (.UnaryOp .USub e pos) (.int (-i)) := fun hβ A s rm inv => by
  refine wpAny_UnaryOp (h.use (no_le _) rm inv fun v s1 x1 i1 r1 => ?_)
  obtain ⟨t, rfl⟩ := rep_int.mp r1
  exact neg_int ⟨x1.trans ext0_tok, rep_int.mpr ⟨_, rfl⟩⟩
/-- the truth of a call that gives a bool, of a name that holds one -/
theorem Ts.value {e : Expr} {b : Bool} (h : EvOK W cx n ρ Mine.no e (.bool b)) (he : isTrue e cx.env (eval e cx.env) = (do let v ← eval e cx.env; standAt e.pos; holding [v] (truthy v)) := by rfl) : TsOK W cx n ρ e b := fun A s rm i => by
  refine wpAny_isTrue_value (h.use (no_le _) rm i fun v s1 x1 i1 r1 => ?_) he
  obtain rfl := rep_bool.mp r1
  exact wpAny_truthy_bool ⟨x1, rfl⟩
theorem St.esc {x y z : Str} {t : Str} {k1 k2 k3 : Nat} {p1 p2 p3 p4 p5 p6 p7 p8 p9 q1 q2 : Pos} {pl : Sem Bool} (hm : (x, Ent.val (.str t)) ∈ ρ) (hx : Stor cx x) (hd : Drop x ρ ρ') (hyz : (y == z) = false) (hz' : z.length ≤ 14) (ht : t.length ≤ 1048576)
    (he : eval (.Call (.Attribute (.Name x p5) "replace" p6) [.Constant (.str y) k2 q1, .Constant (.str z) k3 q2] [] p7) cx.env = (do
      let ov ← eval (.Name x p5) cx.env
      standAt p6.atName
      let (f, first) ← holding [ov] (getMethod ov "replace" pl)
      callWith p7 f first (backTo p7 (starEach [.Constant (.str y) k2 q1, .Constant (.str z) k3 q2] cx.env)) []) := by rfl)
    (hmk : behindInMarks .In (.Name x p2) = false := by with_unfolding_all rfl)
    (hs : swapsWith (.Call (.Attribute (.Name x p5) "replace" p6) [.Constant (.str y) k2 q1, .Constant (.str z) k3 q2] [] p7) (some (.Name x p4)) p8.line cx.env = pure false := by rfl)
    (hdb : (x == ("__debug__" : Str)) = false := by rfl) (hc : (x == ("__classdict__" : Str)) = false := by rfl) :
    StOK W cx n ρ (.If (.Compare (.Constant (.str y) k1 p1) [.In] [.Name x p2] p3) [.Assign [.Name x p4] (.Call (.Attribute (.Name x p5) "replace" p6) [.Constant (.str y) k2 q1, .Constant (.str z) k3 q2] [] p7) p8] [] p9)
      (.nxt ((x, .val (.str (esc1 y z t))) :: ρ')) := fun A s rm i => by
  refine wpAny_If (wpAny_isTrue_Compare1 (Constant_str ?_) hmk)
  have i1 : Inv W cx ρ { s with toks := s.toks + 1 } := i.ext0 ext0_tok
  obtain ⟨v, b, rp⟩ := i1.val x _ hm
  obtain ⟨tk, rfl⟩ := rep_str.mp rp
  refine load_name i1 b (in_str (wpAny_truthy_bool ?_)) hdb hc
  have hocc : esc1 y z t = if (!(Builtin.Str.occurrences t y 0 t.length 1).isEmpty) = true then Txt.replace t y z else t := rfl
  cases hb : !(Builtin.Str.occurrences t y 0 t.length 1).isEmpty with
  | false =>
    rw [hb] at hocc
    simp only [Bool.false_eq_true, if_false] at hocc ⊢
    rw [hocc]
    refine wpAny_execs_nil ⟨ext0_tok.of, rfl, ?_⟩
    refine i1.sub fun p hp => ?_
    rcases List.mem_cons.mp hp with rfl | hp
    · exact hm
    · exact (hd.sub p hp).1
  | true =>
    rw [hb] at hocc
    simp only [if_true] at hocc ⊢
    refine wpAny_execs_cons (wpAny_Assign_Name (MethodCall_ (load_name i1 b (GM.replace (callWith_method1 (args_cons (Constant_str (args_cons (Constant_str (args_nil ?_)))))))  hdb hc) he) hs)
    refine SC.replaceW (by show s.toks + 1 ≠ 0; omega) (by show s.toks + 1 + 1 ≠ 0; omega) (by show s.toks + 1 ≠ s.toks + 1 + 1; omega) hyz ht hz' fun t' k => ?_
    rw [hocc]
    have i2 : Inv W cx ρ { s with toks := k } := i.ext0 ext0_tok
    exact store_val i2 hx hd (rep_str.mpr ⟨_, rfl⟩) fun s3 x3 i3 => wpAny_execs_nil ⟨(ext0_tok (tk := k)).of.trans x3, rfl, i3⟩
end
end Mine
-- MB18
namespace Mine

abbrev textN : Str := Str.ofString "text"
/-- what is read of the class -/
structure QOK (W : Wc) : Prop where
  mks : makesIn W.K W.C = true
  sa : findIn W.K (.ref W.C) "__setattr__" = some (some (.builtin "object.__setattr__"))
  po : plainOver W.K W.C = true
  tk : takerIn W.K W.C textN = some none
  hd : hasDictIn W.K W.C = true
  pg : plainGet W.K W.C textN = true
  fi : findIn W.K (.ref W.C) textN = some none

theorem qdict_get {t : Str} {o : Obj} (h : qdict t o) : ∃ tk, lookIn textN o = some (some (.str t tk)) := by
  obtain ⟨hs, tk, tk', n, rfl⟩ := h
  exact ⟨tk', rfl⟩
theorem rep_inst {C : Addr} {δ : Addr → Prop} {h : Heap} {v : Value} {t : Str} (r : Rep C δ h v (.obj t)) : ∃ a d o, v = .ref a ∧ InstAt h a (instObj C d) C (some o) ∧ qdict t o := by
  obtain ⟨a, d, o, rfl, _, _, h1, h2, h3⟩ := rep_obj.mp r
  exact ⟨a, d, o, rfl, ⟨h1, rfl, rfl, h2⟩, h3⟩

section
variable {W : Wc} {cx : Cx} {n : Nat} {ρ ρ' : Rho} {β : Addr → Prop} {A : Around} {s s' : Shared} {x : Str}

theorem Ev.text {y : Str} {np pos : Pos} {t : Str} (q : QOK W) (h : EvOK W cx n ρ Mine.no (.Name y np) (.obj t)) : EvOK W cx n ρ β (.Attribute (.Name y np) "text" pos) (.str t) := fun hβ A s rm i => by
  refine Attribute_name (h.use (no_le _) rm i fun v s1 x1 i1 r1 => ?_)
  obtain ⟨a, d, o, rfl, I, hq⟩ := rep_inst r1
  obtain ⟨tk, hl⟩ := qdict_get hq
  exact get_value i1.gd.k I (plainGet_of q.pg).1 (findObj_own q.hd q.fi rfl hl) rfl ⟨x1.trans ext0_tok, rep_str.mpr ⟨_, rfl⟩⟩

theorem Call.isObj {t : Str} (hi : isIn W.K (.ref W.C) W.C = true) : CallOK W n (.builtin "isinstance") [.obj t, .raw (.ref W.C)] (.bool true) := fun A s β vs rm g hβ r => by
  obtain ⟨v, vs', rfl, rv, r'⟩ := r.cons_inv'
  obtain ⟨v', vs'', rfl, rv', r''⟩ := r'.cons_inv'
  obtain rfl := r''.nil_inv'
  obtain rfl := rep_raw.mp rv'
  obtain ⟨a, d, o, rfl, I, hq⟩ := rep_inst rv
  exact isi_call g.k (fun M => I.type) hi (by intro q; cases q) ⟨Ext.refl _ _, rep_bool.mpr rfl⟩

end

theorem strLen (x y : Str) : (x ++ y).length = x.length + y.length := by
  show (x.cps ++ y.cps).size = _
  simp [Str.length]
theorem empty_app (x : Str) : Str.empty ++ x = x := by show (⟨#[] ++ x.cps⟩ : Str) = x; simp

section
variable {prog : Program} {w : World} {A : Around} {E : Value → Shared → Prop} {s : Shared} {env : Env} {m : Str → Option Value}
/-- a parted text: two fields, names of the frame, between two texts -/
theorem braces_at {u g a b xu xg : Str} {k1 k2 : Nat} {q1 q2 q3 q4 q5 q6 q7 : Pos} {tu tg : Tok} {Q : Value → Shared → Prop} (hk : env.scope.kind = .function) (hn : s.heap.Ns env.locals m)
    (ku : env.kindOf u = some .local) (kg : env.kindOf g = some .local) (mu : m u = some (.str xu tu)) (mg : m g = some (.str xg tg)) (du : (u == ("__debug__" : Str)) = false) (dg : (g == ("__debug__" : Str)) = false)
    (hz' : a.length + xu.length + b.length + xg.length ≤ 1000000) (h : ∀ t k, Q (.str (a ++ xu ++ b ++ xg) t) { s with toks := k }) :
    wpAny (model prog w) A (eval (.JoinedStr [.Constant (.str a) k1 q1, .FormattedValue (.Name u q2) 115 none q3, .Constant (.str b) k2 q4, .FormattedValue (.Name g q5) 115 none q6] q7) env) Q E s := by
  have hl : sizeLine = 16777216 := by decide
  have l4 := strLen (a ++ xu ++ b) xg
  have l3 := strLen (a ++ xu) b
  have l2 := strLen a xu
  refine JoinedStr_many (joinParts_cons (Constant_str ?_))
  dsimp only
  rw [empty_app]
  refine ⟨by omega, joinParts_cons (wpAny_FormattedValue_s (wpAny_Name (wpAny_loadName_local hk ku hn mu ?_) du))⟩
  refine SB.convS_str (fun t' k => SB.field_str (fun t'' k' => ⟨by omega, joinParts_cons (Constant_str ⟨by omega, joinParts_cons (wpAny_FormattedValue_s (wpAny_Name (wpAny_loadName_local hk kg hn mg ?_) dg))⟩)⟩) (by omega)) (by omega)
  refine SB.convS_str (fun t' k => SB.field_str (fun t'' k' => ⟨by omega, joinParts_nil ?_ (by omega)⟩) (by omega)) (by omega)
  exact h _ _

/-- what __init__ does, from the names on: with no tag the text itself, with a tag that is no empty text both in one -/
inductive Inits (a b : Str) (t : Str) : Value → Str → Prop
  | none : Inits a b t .none t
  | tag {y : Str} {tk : Tok} : y.length ≠ 0 → Inits a b t (.str y tk) (a ++ t ++ b ++ y)

theorem init_walk {K : Frag} {C xa dx : Addr} {h : Heap} {sN u g : Str} {a b t t' : Str} {tu : Tok} {tv : Value} {k1 k2 : Nat} {q1 q2 q3 q4 q5 q6 q7 q8 q9 r1 r2 r3 r4 r5 r6 : Pos} {Q : Flow → Shared → Prop}
    (X : K.In h) (F : Fr h env.locals s.heap m) (N : News h env.locals s.heap [(dx, dictOf [] 0), (xa, instObj C dx)])
    (hsa : findIn K (.ref C) "__setattr__" = some (some (.builtin "object.__setattr__"))) (hpo : plainOver K C = true) (htk : takerIn K C textN = some Option.none) (hhd : hasDictIn K C = true) (hne : xa ≠ dx)
    (hk : env.scope.kind = .function) (ks : env.kindOf sN = some .local) (ku : env.kindOf u = some .local) (kg : env.kindOf g = some .local) (hsu : sN ≠ u)
    (ms : m sN = some (.ref xa)) (mu : m u = some (.str t tu)) (mg : m g = some tv) (ds : (sN == ("__debug__" : Str)) = false) (du : (u == ("__debug__" : Str)) = false) (dg : (g == ("__debug__" : Str)) = false)
    (hi : Inits a b t tv t') (hz' : t'.length ≤ 1000000)
    (hsw1 : swapsWith (.JoinedStr [.Constant (.str a) k1 q1, .FormattedValue (.Name u q2) 115 Option.none q3, .Constant (.str b) k2 q4, .FormattedValue (.Name g q5) 115 Option.none q6] q7) (some (.Name u q8)) q9.line env = pure false)
    (hsw2 : swapsWith (.Name u r3) (some (.Attribute (.Name sN r1) "text" r2)) r4.line env = pure false)
    (hq : ∀ s', s'.gens = s.gens → s'.os = s.os → (∀ b o, h.get? b = some o → s'.heap.get? b = some o) → s'.heap.get? xa = some (instObj C dx) → (∃ o, s'.heap.get? dx = some o ∧ qdict t' o) → Q .next s') :
    wpAny (model prog w) A (execs [.If (.Name g r5) [.Assign [.Name u q8] (.JoinedStr [.Constant (.str a) k1 q1, .FormattedValue (.Name u q2) 115 Option.none q3, .Constant (.str b) k2 q4, .FormattedValue (.Name g q5) 115 Option.none q6] q7) q9] [] r6,
      .Assign [.Attribute (.Name sN r1) "text" r2] (.Name u r3) r4] env) Q E s := by
  have fin : ∀ (s₁ : Shared) (m₁ : Str → Option Value) (t₁ : Tok), s₁.gens = s.gens → s₁.os = s.os → Fr h env.locals s₁.heap m₁ → News h env.locals s₁.heap [(dx, dictOf [] 0), (xa, instObj C dx)] → m₁ sN = some (.ref xa) → m₁ u = some (.str t' t₁) →
      wpAny (model prog w) A (execs [.Assign [.Attribute (.Name sN r1) "text" r2] (.Name u r3) r4] env) Q E s₁ := by
    intro s₁ m₁ t₁ hg ho F₁ N₁ ms₁ mu₁
    refine wpAny_execs_cons (plainObj_wpAny_Assign_Attribute (wpAny_Name (wpAny_loadName_local hk ku F₁.ns mu₁ (wpAny_Name (wpAny_loadName_local hk ks F₁.ns ms₁ ?_) ds)) du) hsw2)
    refine set_dict (es := []) (n := 0) F₁ X N₁ ⟨(N₁ _ (.tail _ (.head _))).1, rfl, rfl, (N₁ _ (.head _)).1⟩ rfl hsa hpo htk hhd rfl rfl (.head fun p hp => ?_) (by show 1 ≤ 1000; decide) fun h' F' N' => ?_
    · rcases List.mem_cons.mp hp with rfl | hp
      · exact hne
      · cases hp
    · refine wpAny_execs_nil (hq _ hg ho F'.keep (N' _ (.tail _ (.head _))).1 ⟨_, (N' _ (.head _)).1, ?_⟩)
      exact ⟨_, _, _, _, rfl⟩
  refine wpAny_execs_cons (wpAny_If (wpAny_isTrue_value (wpAny_Name (wpAny_loadName_local hk kg F.ns mg ?_) dg)))
  cases hi with
  | none =>
    refine truthy_none ?_
    simp only [Bool.false_eq_true, if_false]
    exact wpAny_execs_nil (fin s m tu rfl rfl F N ms mu)
  | tag hy =>
    rename_i y tk
    have l4 := strLen (a ++ t ++ b) y
    have l3 := strLen (a ++ t) b
    have l2 := strLen a t
    refine P.truthy_str (by omega) ?_
    have e : ((y.length : Int) != 0) = true := by simp [hy]
    rw [e]
    simp only [if_true]
    refine wpAny_execs_cons (wpAny_Assign_Name (braces_at hk F.ns ku kg mu mg du dg (by omega) fun t₁ k => ?_) hsw1)
    refine wpAny_storeName_local ku F.ns (fun h' hn hs => wpAny_execs_nil (fin _ _ t₁ rfl rfl (F.set hn hs) (fun p hp => ⟨(hs.2 _ (N p hp).2.1).trans (N p hp).1, (N p hp).2⟩) ?_ ?_)) (by rw [hk]; rfl)
    · rw [if_neg hsu]; exact ms
    · rw [if_pos rfl]
end

section
variable {W : Wc} {n : Nat}
/-- the class called -/
theorem Call.make {name qual : Str} {params : Arguments} {scope : Scope} {dV kV doc pm cdv ct oc : Value} {an od : Option Addr} {osl : Array (Option Value)} {fI : Addr}
    {sN u g a b : Str} {k1 k2 : Nat} {q1 q2 q3 q4 q5 q6 q7 q8 q9 r1 r2 r3 r4 r5 r6 : Pos} {args : List D} {t t' : Str} {tv : Value}
    (q : QOK W) (hinit : findIn W.K (.ref W.C) "__init__" = some (some (.ref fI))) (hf : typeIn W.K (.ref fI) = some (.type "function"))
    (ho : W.K.lookup fI = some ⟨oc, od, .func (fnOf name qual params [.If (.Name g r5) [.Assign [.Name u q8] (.JoinedStr [.Constant (.str a) k1 q1, .FormattedValue (.Name u q2) 115 Option.none q3, .Constant (.str b) k2 q4, .FormattedValue (.Name g q5) 115 Option.none q6] q7) q9] [] r6,
      .Assign [.Attribute (.Name sN r1) "text" r2] (.Name u r3) r4] scope dV kV doc pm an cdv ct), osl⟩) (hcd : codeIn W.K cdv qual = true)
    (hbind : ∀ (s : Shared) (self : Value) (vs : List Value) (β : Addr → Prop), W.K.In s.heap → RepL W.C β s.heap vs args → ∃ tu tv, Inits a b t tv t' ∧ BindsTo s (fnOf name qual params [.If (.Name g r5) [.Assign [.Name u q8] (.JoinedStr [.Constant (.str a) k1 q1, .FormattedValue (.Name u q2) 115 Option.none q3, .Constant (.str b) k2 q4, .FormattedValue (.Name g q5) 115 Option.none q6] q7) q9] [] r6,
      .Assign [.Attribute (.Name sN r1) "text" r2] (.Name u r3) r4] scope dV kV doc pm an cdv ct) ⟨self :: vs, []⟩ [(sN, self), (u, .str t tu), (g, tv)])
    (hz' : t'.length ≤ 1000000)
    (hcell : ∀ x ∈ scope.names, x.2 ≠ .cell) (ls : scope.names.lookup sN = some .local) (lu : scope.names.lookup u = some .local) (lg : scope.names.lookup g = some .local)
    (hsu : sN ≠ u) (hsg : sN ≠ g) (hug : u ≠ g) (ds : (sN == ("__debug__" : Str)) = false) (du : (u == ("__debug__" : Str)) = false) (dg : (g == ("__debug__" : Str)) = false)
    (hsw1 : ∀ env, swapsWith (.JoinedStr [.Constant (.str a) k1 q1, .FormattedValue (.Name u q2) 115 Option.none q3, .Constant (.str b) k2 q4, .FormattedValue (.Name g q5) 115 Option.none q6] q7) (some (.Name u q8)) q9.line env = pure false)
    (hsw2 : ∀ env, swapsWith (.Name u r3) (some (.Attribute (.Name sN r1) "text" r2)) r4.line env = pure false)
    (hco : scope.isCoroutine = false := by rfl) (hgen : scope.isGenerator = false := by rfl) (hk : scope.kind = .function := by rfl) : CallOK W (n + 2) (.ref W.C) args (.obj t') := fun A s β vs rm g₀ hβ r => by
  obtain ⟨h, gn, d, tk, os⟩ := s
  have X := g₀.k
  refine wpAny_call (make_core (makes_of X q.mks) (looks_findIn X hinit) (fun self => bind_fn X self hf) (.inl rfl) ?_)
  have k0 : ∀ b o, h.get? b = some o → ((h.push emptyDict).push (instObj W.C h.objs.size)).get? b = some o := fun b o e => Heap.get?_push_of_some _ (Heap.get?_push_of_some _ e)
  have hdp := rm.dp
  have hroom : (A.under (.builtin "type.__call__" ⟨.ref W.C :: vs, []⟩)).depth < recursionLimit := by rw [depth_under_kw]; show A.depth + 1 < 1000; omega
  obtain ⟨tu, tv, hi, hb⟩ := hbind ⟨(h.push emptyDict).push (instObj W.C h.objs.size), gn, d, tk, os⟩ (.ref (h.objs.size + 1)) vs β (X.keeps k0) (r.keep k0)
  have hsz : ((h.push emptyDict).push (instObj W.C h.objs.size)).objs.size = h.objs.size + 2 := by rw [Heap.size_push, Heap.size_push]
  have hgx : ((h.push emptyDict).push (instObj W.C h.objs.size)).get? (h.objs.size + 1) = some (instObj W.C h.objs.size) := by
    have := Heap.get?_push_size (h.push emptyDict) (o := instObj W.C h.objs.size) rfl
    rwa [Heap.size_push] at this
  have hgd : ((h.push emptyDict).push (instObj W.C h.objs.size)).get? h.objs.size = some (dictOf [] 0) := Heap.get?_push_of_some _ (Heap.get?_push_size _ rfl)
  refine codeAny_call_def hroom (X.keeps k0 _ _ ho) rfl (g₀.t.nolimit.keeps k0) (codeRec_of (X.keeps k0) hcd) rfl hb hcell (fun x hx => ?_) (fun h₁ hn hk₁ => ?_) hco hgen hk
  · rcases List.mem_cons.mp hx with rfl | hx
    · exact ls
    · rcases List.mem_cons.mp hx with rfl | hx
      · exact lu
      · rcases List.mem_cons.mp hx with rfl | hx
        · exact lg
        · cases hx
  · have nx : h.get? (h.objs.size + 1) = Option.none := by
      cases z : h.get? (h.objs.size + 1) with
      | none => rfl
      | some o => exact absurd (Heap.lt_size z) (Nat.not_lt.mpr (Nat.le_succ _))
    have nd : h.get? h.objs.size = Option.none := by
      cases z : h.get? h.objs.size with
      | none => rfl
      | some o => exact absurd (Heap.lt_size z) (Nat.lt_irrefl _)
    have bg : (sN == g) = false := by simpa using hsg
    have bu : (sN == u) = false := by simpa using hsu
    have ug : (u == g) = false := by simpa using hug
    have hL : h.objs.size ≤ ((h.push emptyDict).push (instObj W.C h.objs.size)).objs.size := by rw [hsz]; exact Nat.le_add_right _ _
    have hxL : h.objs.size + 1 ≠ ((h.push emptyDict).push (instObj W.C h.objs.size)).objs.size := by rw [hsz]; exact Nat.ne_of_lt (Nat.lt_succ_self _)
    have hdL : h.objs.size ≠ ((h.push emptyDict).push (instObj W.C h.objs.size)).objs.size := by rw [hsz]; exact Nat.ne_of_lt (Nat.lt_of_lt_of_le (Nat.lt_succ_self _) (Nat.le_succ _))
    refine wpAny_mono (Q := fun f s' => hz (⟨h₁, gn, d, tk + 3, os⟩ : Shared) ≤ hz s' ∧ f = Flow.next ∧ s'.gens = gn ∧ s'.os = os ∧ (∀ b o, h.get? b = some o → s'.heap.get? b = some o) ∧ s'.heap.get? (h.objs.size + 1) = some (instObj W.C h.objs.size) ∧ ∃ o, s'.heap.get? h.objs.size = some o ∧ qdict t' o) (E := F0) (wpz ?_) ?_ fun _ _ z => z.elim
    · refine init_walk (tu := tu) (s := ⟨h₁, gn, d, tk + 3, os⟩) (h := h) (dx := h.objs.size) (xa := h.objs.size + 1) X ⟨hn, fun b o e => hk₁ b o (k0 b o e), hL⟩ ?_ q.sa q.po q.tk q.hd (Nat.succ_ne_self _) hk ls lu lg hsu ?_ ?_ ?_ ds du dg hi hz' (hsw1 _) (hsw2 _) fun s' e1 e2 e3 e4 e5 hh => ⟨hh, rfl, e1, e2, e3, e4, e5⟩
      · intro p hp
        rcases List.mem_cons.mp hp with rfl | hp
        · exact ⟨hk₁ _ _ hgd, hdL, nd⟩
        · rcases List.mem_cons.mp hp with rfl | hp
          · exact ⟨hk₁ _ _ hgx, hxL, nx⟩
          · cases hp
      · show List.lookup sN [(g, tv), (u, .str t tu), (sN, .ref (h.objs.size + 1))] = _
        simp only [List.lookup_cons, bg, bu, beq_self_eq_true]
      · show List.lookup u [(g, tv), (u, .str t tu), (sN, .ref (h.objs.size + 1))] = _
        simp only [List.lookup_cons, ug, beq_self_eq_true]
      · show List.lookup g [(g, tv), (u, .str t tu), (sN, .ref (h.objs.size + 1))] = _
        simp only [List.lookup_cons, beq_self_eq_true]
    · rintro f s' ⟨hh, rfl, e1, e2, e3, e4, o, e5, e6⟩
      refine ⟨rfl, ⟨fun b o _ e => e3 b o e, e1, e2, ?_⟩, rep_obj.mpr ⟨_, _, o, rfl, fun z => ?_, fun z => Nat.lt_irrefl _ (hβ _ z), e4, e5, e6⟩⟩
      · have h2 : ((h.push emptyDict).push (instObj W.C h.objs.size)).objs.size < h₁.objs.size := hn.lt
        exact Nat.le_trans hL (Nat.le_trans (Nat.le_of_lt h2) hh)
      · exact Nat.lt_irrefl _ (Nat.lt_of_lt_of_le (hβ _ z) (Nat.le_succ _))
end
end Mine
-- MB19
namespace Mine

section
variable {W : Wc} {n : Nat}

theorem rich_inst {prog : Program} {w : World} {A : Around} {E : Value → Shared → Prop} {s : Shared} {K : Frag} {x C : Addr} {ox : Obj} {od : Option Obj} {b tb : Value} {op : CmpOp} {Q : Value → Shared → Prop} (hu : A.units < cLine) (X : K.In s.heap) (I : InstAt s.heap x ox C od)
    (hb : Looks (model prog w) s.heap (typeOf b) tb) (hn : notFirst K C tb = true)
    (h : wpAny (model prog w) A (callSpecialIfBound? (.ref x) (cmpInfo op).2.1 [b]) (fun r s' => ∃ v, r = some v ∧ v ≠ .notImplemented ∧ Q v s') E s) : wpAny (model prog w) A (richCompare op (.ref x) b) Q E s := by
  have one : wpAny (model prog w) A (tryCompare (.ref x) (cmpInfo op).2.1 b) (fun r s' => ∃ v, r = some v ∧ Q v s') E s := by
    unfold tryCompare
    refine wpAny_bind (wpAny_mono h (fun r s' hr => ?_) fun _ _ e => e)
    obtain ⟨v, rfl, hv, hq⟩ := hr
    cases v <;> first | exact absurd rfl hv | exact wpAny_pure ⟨_, rfl, hq⟩
  unfold richCompare
  simp only [oneThing_ref]
  refine wpAny_holding (wpAny_bind (wpAny_cRoomFor hu (wpAny_bind (I.type.here (wpAny_bind (hb.here ?_))))))
  have last : wpAny (model prog w) A (tryCompare (.ref x) (cmpInfo op).2.1 b >>= fun r => match r with | some v => pure v | none => unsupported "") Q E s :=
    wpAny_bind (wpAny_mono one (fun r s' ⟨v, e, hq⟩ => by subst e; exact wpAny_pure hq) fun _ _ e => e)
  have ns : (Value.ref C != tb) = true → subIn K tb (.ref C) = some false := fun q => by
    rcases Bool.or_eq_true_iff.mp hn with e | e
    · rw [beq_iff_eq.mp e] at q; simp at q
    · exact beq_iff_eq.mp e
  split
  · rename_i q
    refine wpAny_bind ((looks_subIn X (ns q)).here ?_)
    simp only [Bool.false_eq_true, if_false]
    exact wpAny_bind (wpAny_mono one (fun r s' ⟨v, e, hq⟩ => by subst e; exact wpAny_pure hq) fun _ _ e => e)
  · refine wpAny_bind (wpAny_pure ?_)
    simp only [Bool.false_eq_true, if_false]
    exact wpAny_bind (wpAny_mono one (fun r s' ⟨v, e, hq⟩ => by subst e; exact wpAny_pure hq) fun _ _ e => e)

/-- the kind of a datum, as a look at its value tells -/
def KindOf (W : Wc) (d : D) (tb : Value) : Prop := ∀ (s : Shared) (v : Value), Rep W.C no s.heap v d → ∀ M, Looks M s.heap (typeOf v) tb
theorem kind_obj {t : Str} : KindOf W (.obj t) (.ref W.C) := fun s v r M => by
  obtain ⟨a, d, o, rfl, I, _⟩ := rep_inst r
  exact I.type
theorem CmpV.obj {op : CmpOp} {t : Str} {db : D} {r : Bool} {f : Addr} {tb : Value} (hs : findIn W.K (.ref W.C) (cmpInfo op).2.1 = some (some (.ref f))) (hf : isFn W.K (.ref f) = true) (hn : notFirst W.K W.C tb = true) (hk : KindOf W db tb)
    (hc : CallOK W n (.ref f) [.obj t, db] (.bool r)) (hop : ∀ a b, compareOp op a b = richCompare op a b := by intro _ _; rfl) : CmpV W n op (.obj t) db r := fun A s va vb rm g ra rb => by
  rw [hop]
  obtain ⟨a, d, o, rfl, I, _⟩ := rep_inst ra
  refine rich_inst rm.units g.k I (hk s vb rb _) hn (ifBound_K g.k I hs hf (wpF (hc A s no [.ref a, vb] rm g (fun _ q => q.elim) (.cons ra (.cons rb .nil))) fun v s' ⟨x, y⟩ => ?_))
  obtain rfl := rep_bool.mp y
  exact ⟨_, rfl, (by intro q; cases q), x, rfl⟩

end
end Mine
-- MB20
namespace Mine

/-- a list of iL -/
abbrev iL (ns : List Int) : D := .list (ns.map .int)

/-- the tree of questions, answered -/
def runT {α : Type} (lt : Nat → Nat → Bool) : KasT α → α
  | .ret a => a
  | .ask i j k => runT lt (k (lt i j))
/-- questions that stay below n -/
inductive KasIn (n : Nat) {α : Type} : KasT α → Prop
  | ret (a : α) : KasIn n (.ret a)
  | ask {i j : Nat} {k : Bool → KasT α} : i < n → j < n → (∀ b, KasIn n (k b)) → KasIn n (.ask i j k)
theorem kasWp_runIn {α : Type} {n : Nat} {lt : Nat → Nat → Bool} {cmp : Nat → Nat → (Bool → Shared → Prop) → Shared → Prop} {Q : α → Shared → Prop} {s : Shared}
    (h : ∀ i j C, i < n → j < n → C (lt i j) s → cmp i j C s) {t : KasT α} (ht : KasIn n t) : Q (runT lt t) s → t.kasWp cmp Q s := by
  induction ht with
  | ret a => exact fun hq => hq
  | ask hi hj _ ih => exact fun hq => h _ _ _ hi hj (ih _ hq)

/-- all places lie below n -/
def Blw (n : Nat) (p : Array Nat) : Prop := ∀ i, p.getD i 0 < n
theorem Blw.of_mem {n : Nat} {p : Array Nat} (h0 : 0 < n) (h : ∀ x ∈ p, x < n) : Blw n p := fun i => by
  by_cases hi : i < p.size
  · have : p.getD i 0 = p[i] := by simp [Array.getD, hi]
    rw [this]; exact h _ (Array.getElem_mem hi)
  · have : p.getD i 0 = 0 := by simp [Array.getD, hi]
    rw [this]; exact h0
theorem Blw.mem {n : Nat} {p : Array Nat} (h : Blw n p) : ∀ x ∈ p, x < n := fun x hx => by
  obtain ⟨i, hi, rfl⟩ := Array.mem_iff_getElem.mp hx
  have := h i
  have e : p.getD i 0 = p[i] := by simp [Array.getD, hi]
  rwa [e] at this
theorem Blw.perm {n : Nat} {p q : Array Nat} (h : Blw n p) (e : q.Perm p) : Blw n q :=
  .of_mem (Nat.lt_of_le_of_lt (Nat.zero_le _) (h 0)) fun x hx => h.mem x ((Array.Perm.mem_iff e).mp hx)
theorem Blw.rev {n : Nat} {p : Array Nat} (h : Blw n p) (i j : Nat) : Blw n (kas_rev p i j) := h.perm (mirror_perm ..)
theorem Blw.bub {n : Nat} {p : Array Nat} (h : Blw n p) (i j : Nat) : Blw n (bubble p i j) := h.perm (bubble_perm ..)

/-- a tree whose questions stay below n and whose answer is as P says -/
inductive KasOK (n : Nat) {α : Type} (P : α → Prop) : KasT α → Prop
  | ret {a : α} : P a → KasOK n P (.ret a)
  | ask {i j : Nat} {k : Bool → KasT α} : i < n → j < n → (∀ b, KasOK n P (k b)) → KasOK n P (.ask i j k)
theorem KasOK.bind {n : Nat} {α β : Type} {P : α → Prop} {R : β → Prop} {t : KasT α} {f : α → KasT β} (ht : KasOK n P t) (hf : ∀ a, P a → KasOK n R (f a)) : KasOK n R (t.bind f) := by
  induction ht with
  | ret h => exact hf _ h
  | ask hi hj _ ih => exact .ask hi hj ih
theorem KasOK.isIn {n : Nat} {α : Type} {P : α → Prop} {t : KasT α} (ht : KasOK n P t) : KasIn n t := by
  induction ht with
  | ret h => exact .ret _
  | ask hi hj _ ih => exact .ask hi hj ih
theorem kasOK_asc {n : Nat} {p : Array Nat} (h : Blw n p) : ∀ f m, KasOK n (fun _ => True) (kas_asc p f m)
  | 0, m => .ret trivial
  | f + 1, m => by
    unfold kas_asc
    refine .ask (h _) (h _) fun b => ?_
    cases b
    · exact kasOK_asc h f (m + 1)
    · exact .ret trivial
theorem kasOK_desc {n : Nat} : ∀ f (p : Array Nat) m q, Blw n p → KasOK n (fun r => Blw n r.1) (kas_desc f p m q)
  | 0, p, m, q, h => .ret h
  | f + 1, p, m, q, h => by
    unfold kas_desc
    refine .ask (h _) (h _) fun b => ?_
    cases b
    · refine .ask (h _) (h _) fun d => ?_
      cases d
      · exact kasOK_desc f p _ _ h
      · exact .ret h
    · by_cases hq : q > 0
      · simp only [if_true, if_pos hq]; exact kasOK_desc f _ _ _ (h.rev _ _)
      · simp only [if_true, if_neg hq]; exact kasOK_desc f _ _ _ h
theorem kasOK_tail3 {n : Nat} (a b : Nat) (p : Array Nat) (h : Blw n p) : KasOK n (fun r => Blw n r.2) (kas_tail3 a b p) :=
  (kasOK_asc (h.rev _ _) _ _).bind fun m _ => .ret (h.rev _ _)
theorem kasOK_descPart {n : Nat} (a b : Nat) (p : Array Nat) (h : Blw n p) : KasOK n (fun r => Blw n r.2) (kas_descPart a b p) := by
  unfold kas_descPart
  refine (kasOK_desc _ _ _ _ h).bind fun r hr => ?_
  split
  · exact kasOK_tail3 _ _ _ (hr.rev _ _)
  · exact kasOK_tail3 _ _ _ hr
theorem kasOK_count {n : Nat} (b : Nat) (p : Array Nat) (h : Blw n p) : KasOK n (fun r => Blw n r.2) (kas_count b p) := by
  unfold kas_count
  refine (kasOK_asc h _ _).bind fun m _ => ?_
  split
  · exact .ret h
  · split
    · refine .ask (h _) (h _) fun c => ?_
      cases c
      · exact kasOK_descPart _ _ _ (h.rev _ _)
      · exact .ret h
    · exact kasOK_descPart _ _ _ h
theorem kasOK_place {n : Nat} {p : Array Nat} (h : Blw n p) (k : Nat) : ∀ f l r, KasOK n (fun _ => True) (kas_place p k f l r)
  | 0, l, r => .ret trivial
  | f + 1, l, r => by
    unfold kas_place
    split
    · exact .ret trivial
    · refine .ask (h _) (h _) fun c => ?_
      cases c
      · exact kasOK_place h k f _ _
      · exact kasOK_place h k f _ _
theorem kasOK_bin {n : Nat} : ∀ f (p : Array Nat) k, Blw n p → KasOK n (Blw n) (kas_bin f p k)
  | 0, p, k, h => .ret h
  | f + 1, p, k, h => by
    unfold kas_bin
    exact (kasOK_place h k _ _ _).bind fun l _ => kasOK_bin f _ _ (h.bub _ _)
theorem kasOK_sort {n : Nat} (h0 : 0 < n) : KasOK n (Blw n) (kas_sort n) := by
  unfold kas_sort
  refine (kasOK_count n _ (Blw.of_mem h0 fun x hx => by simpa using hx)).bind fun r hr => ?_
  split
  · exact kasOK_bin _ _ _ hr
  · exact .ret hr

/-- the order of the places, by the keys -/
def lessAt (kss : List (List Int)) (i j : Nat) : Bool := ltI (kss.getD i []) (kss.getD j [])
def sortPlaces (kss : List (List Int)) : List Nat := (runT (lessAt kss) (kas_sort kss.length)).toList

section
variable {prog : Program} {w : World} {A : Around} {E : Value → Shared → Prop} {s : Shared} {C : Addr}

theorem list_lt_call {a b : Addr} {vs ws : Array Value} {n m : Nat} {xs ys : List Int} {Q : Value → Shared → Prop} (hg : s.heap.get? a = some (listOf vs n)) (hg' : s.heap.get? b = some (listOf ws m)) (hx : IntAt vs xs) (hy : IntAt ws ys)
    (h : Q (.bool (ltI xs ys)) s) : wpAny (model prog w) A (call (.builtin "list.__lt__") [.ref a, .ref b]) Q E s :=
  call_meets F.slot_list_lt ⟨_, hg, rfl⟩ F.entry_list_lt (F.args_list_lt_2 _ _) (list_lt a b vs ws n m xs ys hx hy) ⟨hg, hg', h⟩

theorem keyLt_list {a b : Addr} {vs ws : Array Value} {n m : Nat} {xs ys : List Int} {Q : Bool → Shared → Prop} (hu : A.units < cLine) (hg : s.heap.get? a = some (listOf vs n)) (hg' : s.heap.get? b = some (listOf ws m)) (hx : IntAt vs xs) (hy : IntAt ws ys)
    (h : Q (ltI xs ys) s) : wpAny (model prog w) A (keyLt' oneType' (.ref a) (.ref b)) Q E s := by
  rw [keyLt'_oneType, oneLt'_eq]
  simp only [if_true]
  refine wpAny_bind (wpAny_cRoomFor hu ?_)
  refine wpAny_bind (wpAny_callSpecialIfBound?_slot ⟨_, hg, rfl⟩ F.slot_list_lt (list_lt_call hg hg' hx hy ?_))
  exact wpAny_truthy_bool h

theorem rep_ints_at {δ : Addr → Prop} {h : Heap} {v : Value} {ns : List Int} (r : Rep C δ h v (iL ns)) : ∃ a vs n, v = .ref a ∧ ¬ δ a ∧ h.get? a = some (listOf vs n) ∧ IntAt vs ns := by
  obtain ⟨a, vs, n, rfl, ha, hg, hl⟩ := rep_list.mp r
  exact ⟨a, vs, n, rfl, ha, hg, intAt_rep hl⟩

/-- the end of a sort by keys that are lists of iL -/
theorem sort_end {a kS : Addr} {keys vs : List Value} {kss : List (List Int)} {e1 e2 : Nat} {P : PySem.Fin → Shared → Prop} (hu : A.units < cLine) (hne : kS ≠ a)
    (ho : s.heap.get? a = some (listOf #[] e1)) (hk : s.heap.get? kS = some (listOf keys.toArray e2)) (hl : kss.length = vs.length) (h2 : 2 ≤ vs.length) (h64 : vs.length < 64)
    (hr : RepL C (fun b => b = a ∨ b = kS) s.heap keys (kss.map iL))
    (h : ∀ s' c, Ext (fun b => b = a ∨ b = kS) s s' → s'.heap.get? a = some (listOf ((sortPlaces kss).map fun i => vs.getD i Value.none).toArray c) → P (.done (.ret .none)) s') :
    wpAny (model prog w) A (ksk_end a false vs.toArray e1 (.ref kS) keys.toArray) P E s := by
  have hkl : keys.length = vs.length := by rw [hr.length, List.length_map, hl]
  have hn2 : ¬ vs.toArray.size < 2 := by rw [List.size_toArray]; omega
  have hget : ∀ (i : Nat), i < vs.length → ∃ b ws n, keys.getD i Value.none = .ref b ∧ s.heap.get? b = some (listOf ws n) ∧ IntAt ws (kss.getD i []) := fun i hi => by
    have hi1 : i < (kss.map iL).length := by rw [List.length_map]; omega
    obtain ⟨v, hv, rv⟩ := hr.get (List.getElem?_eq_getElem hi1)
    rw [List.getElem_map] at rv
    obtain ⟨b, ws, n, rfl, _, hg, hI⟩ := rep_ints_at rv
    refine ⟨b, ws, n, by rw [List.getD_eq_getElem?_getD, hv]; rfl, hg, ?_⟩
    have hi2 : i < kss.length := by omega
    rw [List.getD_eq_getElem?_getD, List.getElem?_eq_getElem hi2]; exact hI
  unfold ksk_end
  dsimp only
  simp only [Bool.false_eq_true, if_false]
  rw [if_neg hn2, if_neg hn2]
  refine wpAny_bind (kas_kind (T := .type "list") (by omega) (fun v hv => ?_) (by decide) (by decide) ?_)
  · obtain ⟨i, hi, rfl⟩ := List.mem_iff_getElem.mp hv
    obtain ⟨b, ws, n, e, hg, _⟩ := hget i (by omega)
    rw [List.getD_eq_getElem?_getD, List.getElem?_eq_getElem hi] at e
    simp only [Option.getD_some] at e
    rw [e]
    exact (Looks.ld hg).andThen .now
  · refine wpAny_bind (wpAny_mono (kat_run (ks := keys) (vs := vs) (G := fun p s' => s' = s ∧ p = runT (lessAt kss) (kas_sort vs.length)) hkl h2 h64 (Q := fun st' s' => s' = s ∧ (arrOf st').map (·.2) = List.toArray ((sortPlaces kss).map fun i => vs.getD i Value.none) ∧ failedOf st' = none ∧ (arrOf st').size = vs.length) (fun p st' s' hp har hf hs' => ⟨hs'.1, ?_, hf, ?_⟩) ?_) (fun r s' hq => ?_) fun _ _ x => x)
    · rw [kat_snds hkl har, hs'.2]
      unfold sortPlaces
      rw [hl]
    · rw [har, Array.size_map, hp]
    · refine kasWp_runIn (lt := lessAt kss) (fun i j C' hi hj hC => ?_) (kasOK_sort (by omega)).isIn ⟨rfl, rfl⟩
      obtain ⟨b, ws, n, e, hg, hI⟩ := hget i hi
      obtain ⟨b', ws', n', e', hg', hI'⟩ := hget j hj
      show wpAny _ _ (keyLt' oneType' (keys.getD i Value.none) (keys.getD j Value.none)) _ _ s
      rw [e, e']
      exact keyLt_list hu hg hg' hI hI' hC
    · obtain ⟨rfl, hout, hf, hsz⟩ := hq
      have s1 := Heap.SameBut.update s'.heap kS (Obj.mapSeq fun _ => (#[] : Array Value))
      have ho1 : (s'.heap.update kS (Obj.mapSeq fun _ => (#[] : Array Value))).get? a = some (listOf #[] e1) := (s1.2 a (Ne.symm hne)).trans ho
      have hz1 : (List.toArray ((sortPlaces kss).map fun i => vs.getD i Value.none)).size = vs.length := by rw [← hout, Array.size_map, hsz]
      have s2 := Heap.SameBut.update (s'.heap.update kS (Obj.mapSeq fun _ => (#[] : Array Value))) a (Obj.mapSeq fun _ => List.toArray ((sortPlaces kss).map fun i => vs.getD i Value.none))
      obtain ⟨c2, hc2⟩ : ∃ c2, ((s'.heap.update kS (Obj.mapSeq fun _ => (#[] : Array Value))).update a (Obj.mapSeq fun _ => List.toArray ((sortPlaces kss).map fun i => vs.getD i Value.none))).get? a = some (listOf (List.toArray ((sortPlaces kss).map fun i => vs.getD i Value.none)) c2) := ⟨_, get?_update_seq ho1 fun _ => List.toArray ((sortPlaces kss).map fun i => vs.getD i Value.none)⟩
      unfold ksk_tail
      try dsimp only
      rw [hout]
      simp only [Bool.false_eq_true, if_false]
      refine wpAny_bind (listUpdate_at hk rfl ?_ (by rw [List.size_toArray, sizeLine_eq]; omega) (Nat.zero_le _))
      refine wpAny_bind (wpAny_letGo ?_)
      refine wpAny_bind (seqEpoch_at ho1 rfl ?_)
      refine wpAny_bind (listUpdate_at ho1 rfl ?_ (Nat.zero_le _) (Nat.le_trans (Nat.le_of_eq hz1) (by rw [sizeLine_eq]; omega)))
      rw [hf]
      simp only [bne_self_eq_false, Bool.false_eq_true, if_false]
      refine wpAny_pure (h _ c2 ⟨fun b o hb e => ?_, rfl, rfl, ?_⟩ hc2)
      · have h1 : b ≠ a := fun q => hb (.inl q)
        have h2' : b ≠ kS := fun q => hb (.inr q)
        exact (s2.2 b h1).trans ((s1.2 b h2').trans e)
      · show s'.heap.objs.size ≤ _
        rw [s2.1, s1.1]; exact Nat.le_refl _

/-- a list sorted by keys that are lists of ints -/
theorem sort_tree {a : Addr} {f : Value} {vs : List Value} {kss : List (List Int)} {n0 : Nat} {P : PySem.Fin → Shared → Prop} (hu : A.units < cLine) (ho : s.heap.get? a = some (listOf vs.toArray n0))
    (hl : kss.length = vs.length) (h2 : 2 ≤ vs.length) (h64 : vs.length < 64)
    (hkey : ∀ (i : Nat) (v : Value) (ks : List Int), vs[i]? = some v → kss[i]? = some ks → ∀ s' kS, hz s ≤ kS → a < hz s' → kS < hz s' → Ext (fun b => b = a ∨ b = kS) s s' → wpAny (model prog w) A (call f [v]) (fun k s'' => Ext0 s' s'' ∧ Rep C (fun b => b = a ∨ b = kS) s''.heap k (iL ks)) F0 s')
    (h : ∀ s' c, Ext (only a) s s' → s'.heap.get? a = some (listOf ((sortPlaces kss).map fun i => vs.getD i Value.none).toArray c) → P (.done (.ret .none)) s') :
    wpAny (model prog w) A (ksk_tree a f false) P E s := by
  have ha : a < s.heap.objs.size := Heap.lt_size ho
  have s1 := Heap.SameBut.update s.heap a (Obj.mapSeq fun _ => (#[] : Array Value))
  obtain ⟨e1, ho1⟩ : ∃ e1, (s.heap.update a (Obj.mapSeq fun _ => (#[] : Array Value))).get? a = some (listOf #[] e1) := ⟨_, get?_update_seq ho fun _ => #[]⟩
  have hkS : ((s.heap.update a (Obj.mapSeq fun _ => (#[] : Array Value))).push (seqObj "tuple" vs.toArray 0)).objs.size = s.heap.objs.size + 1 := by rw [size_push', Heap.size_update]
  unfold ksk_tree
  refine wpAny_bind (listItems_at ho rfl ?_)
  refine wpAny_bind (listUpdate_at ho rfl ?_ (by rw [List.size_toArray, sizeLine_eq]; omega) (Nat.zero_le _))
  refine wpAny_bind (seqEpoch_at ho1 rfl ?_)
  refine wpAny_bind (wpAny_newTuple ?_ (by show vs.length ≤ _; rw [sizeLine_eq]; omega))
  refine wpAny_bind (wpAny_newList ?_ (Nat.zero_le _))
  refine wpAny_holding ?_
  generalize hk0 : ((s.heap.update a (Obj.mapSeq fun _ => (#[] : Array Value))).push (seqObj "tuple" vs.toArray 0)).objs.size = kS
  have hkS' : kS = s.heap.objs.size + 1 := hk0.symm.trans hkS
  have hne : kS ≠ a := Nat.ne_of_gt (hkS'.symm ▸ Nat.lt_succ_of_lt ha)
  have hlo : hz s ≤ kS := hkS'.symm ▸ Nat.le_succ _
  generalize hsX : ({ s with heap := ((s.heap.update a (Obj.mapSeq fun _ => (#[] : Array Value))).push (seqObj "tuple" vs.toArray 0)).push (seqObj "list" #[] 0) } : Shared) = sX
  have hkX : sX.heap.get? kS = some (listOf #[] 0) := by
    rw [← hsX, ← hk0]; exact Heap.get?_push_size _ rfl
  have haX : sX.heap.get? a = some (listOf #[] e1) := by
    rw [← hsX]; exact Heap.get?_push_of_some _ (Heap.get?_push_of_some _ ho1)
  have xX : Ext (fun b => b = a ∨ b = kS) s sX := by
    rw [← hsX]
    refine ⟨fun b o hb e => Heap.get?_push_of_some _ (Heap.get?_push_of_some _ ((s1.2 b fun q => hb (.inl q)).trans e)), rfl, rfl, ?_⟩
    show s.heap.objs.size ≤ _
    rw [size_push', hk0, hkS']; exact Nat.le_succ_of_le (Nat.le_succ _)
  show wpAny _ _ (ksk_rest a f false vs.toArray e1 (.ref kS)) _ _ sX
  clear hsX
  unfold ksk_rest
  refine wpAny_bind (wpAny_rule ?_)
  first
    | rw [List.forIn_toArray]
    | (rw [← Array.forIn_toList]; simp only [List.toList_toArray])
    | rw [← Array.forIn_toList]
  refine wpAny_bind (ksk_fold (fun i s' => ∃ kA e, Ext (fun b => b = a ∨ b = kS) s s' ∧ s'.heap.get? kS = some (listOf (List.toArray kA) e) ∧ s'.heap.get? a = some (listOf #[] e1) ∧ RepL C (fun b => b = a ∨ b = kS) s'.heap kA ((kss.take i).map iL)) vs 0 sX
    ⟨[], 0, xX, hkX, haX, by simpa using RepL.nil⟩ ?step ?done)
  case step =>
    rintro j x s' hx ⟨kA, e, x', hk', ha', hr'⟩
    simp only [Nat.zero_add] at hr' ⊢
    have hj : j < vs.length := (List.getElem?_eq_some_iff.mp hx).1
    obtain ⟨k, hkj⟩ : ∃ k, kss[j]? = some k := ⟨_, List.getElem?_eq_getElem (by omega)⟩
    have hz' : kA.length ≤ vs.length := by
      have h1 := hr'.length
      rw [List.length_map, List.length_take] at h1
      omega
    refine wpAny_bind (wpAny_attempt (wpAny_mono (hkey j x k hx hkj s' kS hlo (Heap.lt_size ha') (Heap.lt_size hk') x') (fun v s'' he => ?_) fun _ _ hF => hF.elim))
    obtain ⟨x2, rv⟩ := he
    try dsimp only
    have nk := x2.keeps _ _ hk'
    have s2 := Heap.SameBut.update s''.heap kS (Obj.mapSeq (·.push v))
    have ea : (List.toArray kA).push v = List.toArray (kA ++ [v]) := by simp
    obtain ⟨c2, hc2⟩ : ∃ c2, (s''.heap.update kS (Obj.mapSeq (·.push v))).get? kS = some (listOf (List.toArray (kA ++ [v])) c2) := ⟨_, by rw [← ea]; exact get?_update_seq nk (·.push v)⟩
    refine wpAny_bind (listUpdate_at nk rfl ?_ (by rw [List.size_toArray, sizeLine_eq]; omega) (Nat.le_trans (Nat.le_of_eq (Array.size_push ..)) (by rw [List.size_toArray, sizeLine_eq]; omega)))
    have x3 : Ext (fun b => b = a ∨ b = kS) s'' { s'' with heap := s''.heap.update kS (Obj.mapSeq (·.push v)) } := ⟨fun b o hb e => (s2.2 b fun q => hb (.inr q)).trans e, rfl, rfl, Nat.le_of_eq s2.1.symm⟩
    refine wpAny_pure ⟨rfl, kA ++ [v], c2, x'.trans (x2.of.trans x3), hc2, (s2.2 a (Ne.symm hne)).trans (x2.keeps _ _ ha'), ?_⟩
    have ek : kss.take (j + 1) = kss.take j ++ [k] := by rw [List.take_add_one, hkj]; simp
    rw [ek, List.map_append]
    exact (((x2.repL hr').sameBut (.inr rfl) s2).append (.cons (rv.sameBut (.inr rfl) s2) .nil))
  case done =>
    rintro s' ⟨kA, e, x', hk', ha', hr'⟩
    have e3 : kss.take (0 + vs.length) = kss := List.take_of_length_le (by omega)
    rw [e3] at hr'
    refine wpAny_bind (listItems_at hk' rfl ?_)
    refine sort_end hu hne ha' hk' hl h2 h64 hr' fun s'' c x'' hg => h s'' c ?_ hg
    have xx := x'.trans x''
    exact ⟨fun b o hb e => xx.keep b o (fun q => q.elim hb fun z => Nat.lt_irrefl _ (Nat.lt_of_lt_of_le (Heap.lt_size e) (z ▸ hlo))) e, xx.gens, xx.os, xx.size⟩
end
end Mine
-- MB21
namespace Mine

section
variable {prog : Program} {w : World} {A : Around} {E : Value → Shared → Prop} {s : Shared} {C : Addr}

theorem coll_rng {r : Addr} {a b c : Int} {t u v : Tok} {n : Nat} {Q : List Value → Shared → Prop} (hh : A.handled = none) (hr : IsRange s.heap r a b c t u v) (hsmall : Builtin.Range.small a b c = true)
    (hn : Builtin.Range.rangeSize a b c = n) (hlen : n ≤ 2 ^ 24)
    (h : ∀ s' acc, Ext0 s s' → ItemsOf (fun i v => ∃ t, v = .int (a + i * c) t) acc n → Q acc.toList s') : wpAny (model prog w) A (collect (.ref r)) Q E s := by
  refine wpz ?_
  unfold collect
  refine wpAny_bind (wpAny_runValue (codeAny_builtin entry_proto_collect' ?_))
  show wpAny _ _ (do again (.builtin "list.__iadd__" ⟨[← newList [], .ref r], []⟩)) _ _ s
  refine wpAny_bind (wpAny_newList (wpAny_pure ⟨Code.quiet_builtin _ (by decide +kernel), codeAny_builtin entry_list_iadd' ?_⟩))
  show wpAny _ A.in1 (Builtin.List.listExtendWith (.ref s.heap.objs.size) (.ref r) (.ref s.heap.objs.size)) _ _ { s with heap := s.heap.push (seqObj "list" #[] 0) }
  refine wpAny_extend_range (A := A) (s := { s with heap := s.heap.push (seqObj "list" #[] 0) }) (R := fun r s' => match r with
    | .ok (.ret v) => wpAny (model prog w) A (match v with
      | .ref a => do
        let o ← load a
        match o.data with
        | .seq xs _ => pure xs.toList
        | _ => unsupported "internal:collect"
      | _ => unsupported "internal:collect") (fun a s' => hz s ≤ hz s' → Q a s') (fun e s' => hz s ≤ hz s' → E e s') s'
    | .ok _ => False
    | .error e => hz s ≤ hz s' → E e s') hh (Heap.get?_push_of_some _ hr) hsmall hn hlen _ _ 0 (Heap.get?_push_size _ rfl) fun h' tk acc c' hk hS hacc => ?_
  show wpAny (model prog w) A (do
      let o ← load s.heap.objs.size
      match o.data with
      | .seq xs _ => pure xs.toList
      | _ => unsupported "internal:collect") _ _ { s with heap := h', toks := tk }
  refine wpAny_bind (wpAny_load hS ?_)
  refine wpAny_pure fun hz' => h _ acc ?_ hacc
  exact ext0_wpz (fun b o e => hk b o (Nat.ne_of_lt (Heap.lt_size e)) (Heap.get?_push_of_some _ e)) hz'

/-- the ints of a range, sorted by keys that are lists of ints -/
theorem sorted_rng {r q : Addr} {n : Nat} {t u v : Tok} {kss : List (List Int)} {Q : Value → Shared → Prop} (hu : A.units + 3 < cLine) (hh : A.handled = none) (hr : IsRange s.heap r 0 n 1 t u v) (hsmall : Builtin.Range.small 0 n 1 = true)
    (hn : Builtin.Range.rangeSize 0 n 1 = n) (hl : kss.length = n) (h2 : 2 ≤ n) (h64 : n < 64)
    (hkey : ∀ (i : Nat) (t : Tok) (ks : List Int), i < n → kss[i]? = some ks → ∀ s' D kS, hz s ≤ D → hz s ≤ kS → D < hz s' → kS < hz s' → Ext (fun b => b = D ∨ b = kS) s s' → wpAny (model prog w) A.in1.in1 (call (.ref q) [.int i t]) (fun k s'' => Ext0 s' s'' ∧ Rep C (fun b => b = D ∨ b = kS) s''.heap k (iL ks)) F0 s')
    (h : ∀ D s' c out, hz s ≤ D → Ext0 s s' → s'.heap.get? D = some (listOf out c) → RepL C (only D) s'.heap out.toList ((sortPlaces kss).map fun (i : Nat) => .int i) → Q (.ref D) s') :
    wpAny (model prog w) A (call (.builtin "sorted") [.ref r] [(Str.ofString "key", .ref q)]) Q E s := by
  refine call_function_entry_kw kind_sorted plain_sorted entry_sorted (ksk_s1 _ _) ?_
  unfold Builtin.«sorted»
  refine wpAny_bind (m := checkCount "sorted" 1 1 _) (wpAny_pure ?_)
  refine wpAny_bind (coll_rng (A := A.in1) hh hr hsmall hn (by omega) fun s1 acc x1 hacc => ?_)
  have hsz : acc.toList.length = n := by rw [Array.length_toList, hacc.1]
  refine wpAny_bind (wpAny_newList ?_ (by rw [sizeLine_eq]; omega))
  have x2 : Ext0 s1 { s1 with heap := s1.heap.push (seqObj "list" acc.toList.toArray 0) } := ext0_push
  have hoL : (s1.heap.push (seqObj "list" acc.toList.toArray 0)).get? s1.heap.objs.size = some (listOf acc.toList.toArray 0) := Heap.get?_push_size _ rfl
  have hlo : hz s ≤ s1.heap.objs.size := x1.size
  refine wpAny_bind (wpAny_holding (wpAny_call_entry_kw slot_list_sort ⟨_, hoL, rfl⟩ entry_list_sort ?body (ksk_l1 _ _)))
  case body =>
    show wpAny (model prog w) A.in1.in1 (Builtin.«list.sort» ⟨[.ref s1.heap.objs.size], [(Str.ofString "key", .ref q)]⟩) _ _ _
    rw [ksk_t1]
    refine sort_tree (C := C) (kss := kss) (A := A.in1.in1) (by show A.units + 1 + 1 < cLine; omega) hoL (by omega) (by omega) (by omega) (fun i v ks hv hk s' kS hkS hDl hkl x3 => ?_) fun s' c x3 hg => ⟨_, rfl, wpAny_pure ⟨_, rfl, h _ s' c _ hlo ?_ hg ?_⟩⟩
    · have hi : i < n := by have := (List.getElem?_eq_some_iff.mp hv).1; omega
      obtain ⟨t, rfl⟩ := hacc.2 i v (by simpa using hv)
      have e : (0 + (i : Int) * 1) = i := by omega
      rw [e]
      refine hkey i t ks hi hk s' _ kS hlo (Nat.le_trans hlo (Nat.le_trans x2.size hkS)) hDl hkl ((x1.of.trans x2.of).trans x3)
    · have xx := (x1.of.trans x2.of).trans x3
      exact ⟨fun b o _ e => xx.keep b o (fun z => Nat.lt_irrefl _ (Nat.lt_of_lt_of_le (Heap.lt_size e) (z ▸ hlo))) e, xx.gens, xx.os, xx.size⟩
    · rw [List.toList_toArray]
      have hb : ∀ i ∈ sortPlaces kss, i < n := by
        intro i hi
        have key : KasOK n (Blw n) (kas_sort n) := kasOK_sort (by omega)
        have : ∀ {t : KasT (Array Nat)}, KasOK n (Blw n) t → Blw n (runT (lessAt kss) t) := fun {t} ht => by
          induction ht with
          | ret h => exact h
          | ask _ _ _ ih => exact ih _
        have hB := this key
        unfold sortPlaces at hi
        rw [hl] at hi
        exact hB.mem i (by simpa using hi)
      generalize sortPlaces kss = l at hb
      induction l with
      | nil => exact .nil
      | cons i l ih =>
        refine .cons ?_ (ih fun j hj => hb j (.tail _ hj))
        have hi := hb i (.head _)
        have hi' : i < acc.toList.length := by omega
        obtain ⟨t, ht⟩ := hacc.2 i acc.toList[i] (by simp)
        show Rep C _ _ (acc.toList.getD i Value.none) _
        rw [List.getD_eq_getElem?_getD, List.getElem?_eq_getElem hi']
        simp only [Option.getD_some]
        rw [ht]
        exact rep_int.mpr ⟨t, by rw [Int.mul_one, Int.zero_add]⟩
end
end Mine
-- MB22
namespace Mine

theorem codeAmong_more {pos : Pos} {c cv : Value} {line col : Int} {t u : Tok} (l : List Value) (h : TriplesOk l) (hn : codeAmong pos l = some cv) : codeAmong pos (l ++ [.int line t, .int col u, c]) = some cv := by
  fun_induction TriplesOk l with
  | case1 => cases hn
  | case2 a ta b tb x rest ih =>
    simp only [List.cons_append, codeAmong] at hn ⊢
    split
    · rename_i e; rw [if_pos e] at hn; exact hn
    · rename_i e; rw [if_neg e] at hn; exact ih h hn
  | case3 => exact h.elim
theorem codeAmong_other {pos : Pos} {c : Value} {line col : Int} {t u : Tok} (l : List Value) (h : TriplesOk l) (hn : codeAmong pos l = none) (hp : (line == (pos.line : Int) && col == (pos.col : Int)) = false) : codeAmong pos (l ++ [.int line t, .int col u, c]) = none := by
  fun_induction TriplesOk l with
  | case1 =>
    simp only [List.nil_append, codeAmong]
    rw [if_neg (by rw [hp]; decide)]
  | case2 a ta b tb x rest ih =>
    simp only [List.cons_append, codeAmong] at hn ⊢
    split
    · rename_i e; rw [if_pos e] at hn; cases hn
    · rename_i e; rw [if_neg e] at hn; exact ih h hn
  | case3 => exact h.elim
theorem triples_snoc {c : Value} {line col : Int} {t u : Tok} (l : List Value) (h : TriplesOk l) : TriplesOk (l ++ [.int line t, .int col u, c]) := by
  fun_induction TriplesOk l with
  | case1 => simp [TriplesOk]
  | case2 a ta b tb x rest ih => simp only [List.cons_append, TriplesOk]; exact ih h
  | case3 => exact h.elim

def samePl (p q : Pos) : Bool := p.line == q.line && p.col == q.col
theorem triples_two {q : Str} {t : Tok} (l : List Value) (h : TriplesOk l) (r : l[1]? = some (.str q t)) : False := by
  fun_induction TriplesOk l with
  | case1 => cases r
  | case2 a ta b tb x rest ih => cases r
  | case3 => exact h
/-- the table of a code: what has been made from it -/
def MadeAt (h : Heap) (P : Addr) (G : Addr → Prop) (made : List (Pos × Str)) : Prop := ∃ ps : Array Value, h.get? P = some (tabObj ps) ∧ TriplesOk ps.toList ∧ (∀ p ∈ made, ∃ c, codeAmong p.1 ps.toList = some (.ref c) ∧ h.CodeRec (.ref c) p.2 ∧ G c) ∧
  ∀ pos, (∀ p ∈ made, samePl p.1 pos = false) → codeAmong pos ps.toList = none
theorem MadeAt.keep {h h' : Heap} {P : Addr} {G : Addr → Prop} {made : List (Pos × Str)} (x : MadeAt h P G made) (k : Keep h h') : MadeAt h' P G made := by
  obtain ⟨ps, h1, h2, h3, h4⟩ := x
  exact ⟨ps, k _ _ h1, h2, fun p hp => let ⟨c, e, r, g⟩ := h3 p hp; ⟨c, e, r.keeps k, g⟩, h4⟩
section
variable {W : Wc} {cx : Cx} {n : Nat} {ρ ρ' ρ2 : Rho} {β : Addr → Prop} {A : Around} {s s' : Shared} {x : Str} {a P : Addr}

/-- the table of a code is changed: no name of the frame sees it -/
theorem Inv.chgTab {ps : Array Value} (i : Inv W cx ρ s) (hν : cx.ν P) (hδ : cx.δ P) (hL : P ≠ cx.env.locals) (hP : s.heap.get? P = some (tabObj ps)) (e : Ext (only P) s s') : Inv W cx ρ s' := by
  obtain ⟨h₀, m, F, g, hμ0⟩ := i.fr
  have hk : ∀ b o', b ≠ P → s.heap.get? b = some o' → s'.heap.get? b = some o' := fun b o' hb q => e.keep b o' hb q
  have nsK : ∀ {m : Str → Option Value}, s.heap.Ns cx.env.locals m → s'.heap.Ns cx.env.locals m := fun hn => by
    obtain ⟨o', es, ep, h1, r⟩ := hn
    exact ⟨o', es, ep, hk _ _ (Ne.symm hL) h1, r⟩
  have ceK : ∀ {c : Addr} {v : Option Value}, s.heap.IsCell c v → s'.heap.IsCell c v := fun hc => by
    obtain ⟨o', h1, r⟩ := hc
    exact ⟨o', hk _ _ (fun q => by rw [q, hP] at h1; cases h1; cases r) h1, r⟩
  have bK : ∀ {x : Str} {v : Value}, Binds cx.env s.heap x v → Binds cx.env s'.heap x v := fun b => by
    rcases b with ⟨kd, m', hn, q⟩ | ⟨kd, c, hc, q⟩
    · exact .inl ⟨kd, m', nsK hn, q⟩
    · exact .inr ⟨kd, c, hc, ceK q⟩
  have rK : ∀ {v : Value} {d : D}, Rep W.C cx.δ s.heap v d → Rep W.C cx.δ s'.heap v d := fun r => r.mono (fun _ _ q => q) fun b o hb q => hk b o (fun z => hb (z ▸ hδ)) q
  have rLK : ∀ {v : List Value} {d : List D}, RepL W.C cx.δ s.heap v d → RepL W.C cx.δ s'.heap v d := fun r => r.mono (fun _ _ q => q) fun b o hb q => hk b o (fun z => hb (z ▸ hδ)) q
  refine ⟨i.st, ⟨h₀, m, ⟨nsK F.ns, fun b o' q => hk b o' (fun z => ?_) (F.keep b o' q), F.above⟩, g, hμ0⟩, fun x c q => ?_, fun a ha => Nat.lt_of_lt_of_le (i.lt a ha) e.size, fun x en hm => ?_, fun y z ys zs a h1 h2 b1 b2 => ?_⟩
  · rw [z, hμ0 _ (.inr hν)] at q; cases q
  · obtain ⟨v, hv⟩ := i.cells x c q
    exact ⟨v, ceK hv⟩
  · have := i.val x en hm
    cases en with
    | val d => obtain ⟨v, b, r⟩ := this; exact ⟨v, bK b, rK r⟩
    | own xs =>
      obtain ⟨a, vs, kk, b, hμ, hnb, hg, r⟩ := this
      exact ⟨a, vs, kk, bK b, hμ, hnb, hk _ _ (fun z => by rw [z, hP] at hg; cases hg) hg, rLK r⟩
    | pool R =>
      obtain ⟨hn, hp⟩ := this
      refine ⟨hn, fun p hm => ?_⟩
      obtain ⟨hμ, hnb, vs, kk, hg, r⟩ := hp p hm
      exact ⟨hμ, hnb, vs, kk, hk _ _ (fun z => by rw [z, hP] at hg; cases hg) hg, rLK r⟩
  · obtain ⟨a1, e1⟩ := (i.val y _ h1).ref
    obtain ⟨a2, e2⟩ := (i.val z _ h2).ref
    have q1 := (bK e1).uniq b1
    have q2 := (bK e2).uniq b2
    cases q1; cases q2
    exact i.oap y z ys zs _ h1 h2 e1 e2

/-- the frame of a lambda -/
def cxL (β : Addr → Prop) (qual : Str) (scope : Scope) (L f c : Addr) (cl : List (Str × Addr)) : Cx where
  env := envX qual scope L f (.ref c) cl
  β := β
  δ := fun b => β b ∨ b = L
  μ := only L
  ν := no
  own := fun _ => false

theorem lam_call {qual : Str} {params : Arguments} {body : Expr} {scope : Scope} {clos : List (Str × Addr)} {pm ctv : Value} {f c : Addr} {v : Value} {da d : D} (rm : Rm (n + 1) A) (g : Gd W s.heap)
    (ho : s.heap.get? f = some (kla_obj "<lambda>" qual params body scope clos pm c ctv)) (hcd : s.heap.CodeRec (.ref c) qual)
    (hbind : bindArgs (kla_fn "<lambda>" qual params body scope clos pm (.ref c) ctv) ⟨[v], []⟩ = pure [(x, v)])
    (hx : scope.names.lookup x = some .local) (hnc : ∀ y ∈ scope.names, y.2 ≠ .cell)
    (hβ : ∀ b, β b → b < hz s) (rv : Rep W.C β s.heap v da)
    (hcl : ∀ y, scope.names.lookup y = some .free → (clos.lookup y).isSome = true)
    (hap : ∀ y z c, clos.lookup y = some c → clos.lookup z = some c → y = z)
    (hce : ∀ y c, clos.lookup y = some c → ∃ v, s.heap.IsCell c v)
    (hρ2 : ∀ y e, (y, e) ∈ ρ2 → scope.names.lookup y = some .free ∧ ∃ d c v, e = .val d ∧ clos.lookup y = some c ∧ s.heap.IsCell c (some v) ∧ Rep W.C β s.heap v d)
    (hbody : ∀ L, EvOK W (cxL β qual scope L f c clos) n ((x, .val da) :: ρ2) β body d)
    (hco : scope.isCoroutine = false := by rfl) (hgen : scope.isGenerator = false := by rfl) (hk : scope.kind = .function := by rfl) :
    wpAny (model W.prog W.w) A (call (.ref f) [v]) (fun k s' => Ext0 s s' ∧ Rep W.C β s'.heap k d) F0 s := by
  refine wpAny_call (kla_callFunE rm.room ho rfl hco hgen rfl hcd ?_)
  rw [hbind]
  refine wpAny_pure (wpAny_newFunctionEnv hnc (fun y hy => by rw [List.mem_singleton.mp hy]; exact hx) (fun h₁ hns hsb => ⟨(g.t.nolimit).fresh _ hsb, ?_⟩) hk)
  have hk₁ : Keep s.heap h₁ := fun b o e => hsb.extBut b o (Nat.ne_of_lt (Heap.lt_size e)) (Heap.get?_push_of_some _ e)
  have hsz : hz s < h₁.objs.size := hns.lt
  have x1 : Ext0 s { s with heap := h₁, toks := s.toks + [(x, v)].length } := ext0_of hk₁ (Nat.le_of_lt hsz)
  show codeAny _ _ (.expr body (envX qual scope s.heap.objs.size f (.ref c) clos)) _ _
  refine kla_codeExpr ?_
  have i1 : Inv W (cxL β qual scope (hz s) f c clos) ((x, .val da) :: ρ2) { s with heap := h₁, toks := s.toks + [(x, v)].length } := by
    have kd : ∀ y, (cxL β qual scope (hz s) f c clos).env.kindOf y = scope.names.lookup y := fun y => rfl
    refine ⟨(⟨hk, rfl, rfl, fun y e => ?_, fun y z c' e1 e2 => hap y z c' e1 e2, rfl, fun y c' e _ => Bool.noConfusion e, fun b q => Or.inr q, fun b q => Or.inl q⟩ : Stat (cxL β qual scope (hz s) f c clos)), ⟨s.heap, _, ⟨hns, hk₁, Nat.le_refl _⟩, g, fun b q => ?_⟩, fun y c' e => ?_, fun b q => ?_, fun y e hm => ?_, fun y z ys zs b h1 => ?_⟩
    · rcases e with e | e
      · exact absurd rfl (hnc _ (mem_of_lookup' ((kd y).symm.trans e)))
      · exact hcl y ((kd y).symm.trans e)
    · rcases q with q | q
      · cases z : s.heap.get? b with
        | none => rfl
        | some o => exact absurd (Heap.lt_size z) (Nat.not_lt.mpr (Nat.le_of_eq (Eq.symm q)))
      · exact q.elim
    · obtain ⟨w, hw⟩ := hce y c' e
      exact ⟨w, hw.keeps hk₁⟩
    · rcases q with q | q
      · exact Nat.lt_trans (hβ b q) hsz
      · rw [q]; exact hsz
    · have up : ∀ {v : Value} {d : D}, Rep W.C β s.heap v d → Rep W.C (fun b => β b ∨ b = hz s) h₁ v d := fun r => r.mono (fun b hb q => q.elim id fun z => by
        obtain ⟨o, ho⟩ := Option.isSome_iff_exists.mp hb
        exact absurd (Heap.lt_size ho) (Nat.not_lt.mpr (Nat.le_of_eq z.symm))) fun b o _ q => hk₁ _ _ q
      rcases List.mem_cons.mp hm with q | hm
      · cases q
        exact ⟨v, .inl ⟨hx, _, hns, by simp⟩, up rv⟩
      · obtain ⟨h1, d', c', w, rfl, h3, h4, h5⟩ := hρ2 y e hm
        exact ⟨w, .inr ⟨.inr h1, c', h3, h4.keeps hk₁⟩, up h5⟩
    · exfalso
      rcases List.mem_cons.mp h1 with q | hm
      · cases q
      · obtain ⟨_, d', _, _, q, _⟩ := hρ2 y _ hm
        cases q
  refine wpAny_mono (hbody (hz s) (fun b q => .inl q) (A.deeper (envX qual scope s.heap.objs.size f (.ref c) clos)) { s with heap := h₁, toks := s.toks + [(x, v)].length } (rm.deeper _) i1) (fun k s' ⟨x2, r⟩ => ⟨x1.trans x2, r⟩) fun _ _ z => z.elim

/-- a lambda made -/
theorem lam_make {params : Arguments} {body : Expr} {scope : Scope} {pos : Pos} {names : List (Str × NameKind)} {c : Addr} {G : Addr → Prop} {made : List (Pos × Str)} {Q : Value → Shared → Prop} {E : Value → Shared → Prop}
    (i : Inv W cx ρ s) (hG : ∀ c, hz s ≤ c → G c) (hc : cx.env.code = .ref c) (hcd : codeHdIn W.K c P = true) (hT : MadeAt s.heap P G made) (hK : Kinds cx names)
    (hfr : (scope.names.all fun p => p.2 != .free || (names.lookup p.1 == some .cell || names.lookup p.1 == some .free)) = true) (hnd : (scope.names.map (·.1)).Nodup)
    (hdef : defaultsOf params cx.env = ([], []))
    (hm : (∀ p ∈ made, samePl p.1 pos = false) ∨ (pos, cx.env.qual ++ "<lambda>") ∈ made)
    (k : ∀ f s' pm c' ctv, hz s ≤ f → Ext (only P) s s' → s'.heap.get? f = some (kla_obj "<lambda>" (cx.env.qual ++ "<lambda>") params body scope (closOf cx.env.cells scope.names []) pm c' ctv) → s'.heap.CodeRec (.ref c') (cx.env.qual ++ "<lambda>") →
      MadeAt s'.heap P G ((pos, cx.env.qual ++ "<lambda>") :: made) → Q (.ref f) s') :
    wpAny (model W.prog W.w) A (eval (.Lambda params body scope pos) cx.env) Q E s := by
  have hfree := free_of_all hK hfr
  have hclos : closureFor scope cx.env = pure (closOf cx.env.cells scope.names []) := closureFor_eq fun p hp e => i.st.hasCell _ (hfree p.1 (lookup_of_nodup hnd (by rw [← e]; exact hp)))
  obtain ⟨ps, hP, ht, hmade, hnot⟩ := hT
  have g := i.gd
  obtain ⟨bm, ob, b1, b2, b3, b4, b5, b6⟩ := g.b
  have hgs := g.t.g
  have hbP : bm ≠ P := fun q => by rw [q, hP] at b3; cases b3; cases b4
  have hgP : mainGlobals ≠ P := fun q => by
    obtain ⟨o, es, ep, e, hd, _⟩ := hgs
    rw [q, hP] at e; cases e; cases hd
  have hbG : bm ≠ mainGlobals := fun q => by
    obtain ⟨o, es, ep, e, hd, _⟩ := hgs
    rw [← q, b3] at e; cases e; rw [hd] at b6; cases b6
  have hB : s.heap.BuiltinsAt W.mg P := ⟨bm, ob, b1, b2, hbG, hbP, b3, b4, b5, b6⟩
  refine kla_eval hdef ?_
  rcases hm with hm | hm
  · refine kla_makeFunction (mg := W.mg) hclos i.st.glob hgs hc (codeHd_of_K g.k hcd) hP ht (hnot pos hm) hgP hB fun c' ctv h' tk hx hge hlt hrec htb => ?_
    have x1 : Ext (only P) s { s with heap := h'.push (kla_obj "<lambda>" (cx.env.qual ++ "<lambda>") params body scope (closOf cx.env.cells scope.names []) ((W.mg "__name__").getD .none) c' ctv), toks := tk } :=
      ⟨fun b o hb e => Heap.get?_push_of_some _ (hx b o hb e), rfl, rfl, by show s.heap.objs.size ≤ (h'.push _).objs.size; rw [Heap.size_push]; exact Nat.le_succ_of_le (Nat.le_trans hge (Nat.le_of_lt hlt))⟩
    have hk : ∀ b o, b ≠ P → s.heap.get? b = some o → (h'.push (kla_obj "<lambda>" (cx.env.qual ++ "<lambda>") params body scope (closOf cx.env.cells scope.names []) ((W.mg "__name__").getD .none) c' ctv)).get? b = some o := fun b o hb e => x1.keep b o hb e
    refine k _ _ _ c' ctv (Nat.le_trans hge (Nat.le_of_lt hlt)) x1 (Heap.get?_push_size _ rfl) (hrec.push _) ⟨_, Heap.get?_push_of_some _ htb, ?_, fun p hp => ?_, fun pos' hn => ?_⟩
    · rw [Array.toList_append]; exact triples_snoc _ ht
    · rw [Array.toList_append]
      rcases List.mem_cons.mp hp with rfl | hp
      · exact ⟨c', codeAmong_snoc _ ht (hnot pos hm), hrec.push _, hG _ hge⟩
      · obtain ⟨c2, e2, r2, g2⟩ := hmade p hp
        refine ⟨c2, codeAmong_more _ ht e2, ?_, g2⟩
        obtain ⟨c3, o, vs, t, e, gg, d, r⟩ := r2
        cases e
        refine ⟨c2, o, vs, t, rfl, hk _ _ (fun q => ?_) gg, d, r⟩
        rw [q, hP] at gg; cases gg
        cases d
        exact triples_two ps.toList ht (Array.getElem?_toList.trans r)
    · rw [Array.toList_append]
      have h1 := hn _ (.head _)
      refine codeAmong_other _ ht (hnot pos' fun p hp => hn p (.tail _ hp)) ?_
      simp only [samePl] at h1
      rw [Bool.and_eq_false_iff] at h1 ⊢
      rcases h1 with h1 | h1
      · left; simp only [beq_eq_false_iff_ne, ne_eq] at h1 ⊢; omega
      · right; simp only [beq_eq_false_iff_ne, ne_eq] at h1 ⊢; omega
  · obtain ⟨c', e', r', g'⟩ := hmade _ hm
    refine kla_makeFunctionHit (mg := W.mg) hclos i.st.glob hgs hc (codeHd_of_K g.k hcd) hP ht e' hB fun ctv h' tk hk hsz => ?_
    have hk2 : Keep s.heap (h'.push (kla_obj "<lambda>" (cx.env.qual ++ "<lambda>") params body scope (closOf cx.env.cells scope.names []) ((W.mg "__name__").getD .none) c' ctv)) := fun b o e => Heap.get?_push_of_some _ (hk b o e)
    have x1 : Ext0 s { s with heap := h'.push (kla_obj "<lambda>" (cx.env.qual ++ "<lambda>") params body scope (closOf cx.env.cells scope.names []) ((W.mg "__name__").getD .none) c' ctv), toks := tk } :=
      ext0_of hk2 (by rw [Heap.size_push]; exact Nat.le_succ_of_le hsz)
    refine k _ _ _ c' ctv hsz x1.of (Heap.get?_push_size _ rfl) (r'.keeps hk2) ((show MadeAt s.heap P G _ from ⟨ps, hP, ht, fun p hp => ?_, fun pos' hn => hnot pos' fun p hp => hn p (.tail _ hp)⟩).keep hk2)
    rcases List.mem_cons.mp hp with rfl | hp
    · exact ⟨c', e', r', g'⟩
    · exact hmade p hp
end
end Mine
-- MB23
namespace Mine

theorem RepL.scI {C : Addr} {δ δ' : Addr → Prop} {h h' : Heap} : ∀ {vs : List Value} {l : List Nat}, RepL C δ h vs (l.map fun (i : Nat) => D.int i) → RepL C δ' h' vs (l.map fun (i : Nat) => D.int i)
  | _, [], r => by rw [r.nil_inv']; exact .nil
  | _, i :: l, r => by
    obtain ⟨v, vs', rfl, rv, rl⟩ := RepL.cons_inv' r
    exact .cons (rv.sc rfl) rl.scI

section
variable {W : Wc} {cx : Cx} {n : Nat} {ρ ρ' ρ2 : Rho} {β : Addr → Prop} {A : Around} {s s' : Shared} {x : Str} {a P : Addr}

theorem sorted_lam {p1 kp pos lpos : Pos} {e : Expr} {params : Arguments} {body : Expr} {scope : Scope} {names : List (Str × NameKind)} {c : Addr} {G : Addr → Prop} {made : List (Pos × Str)} {N : Nat} {kss : List (List Int)}
    (i : Inv W cx ρ s) (hG : ∀ c, hz s ≤ c → G c) (rm : Rm (n + 3) A) (hsorted : GlobV W "sorted" (.builtin "sorted")) (hgk : cx.env.kindOf "sorted" = some .globalImplicit)
    (he : EvOK W cx (n + 3) ρ cx.δ e (.rng 0 N 1)) (hN : Builtin.Range.small 0 N 1 = true) (hN2 : Builtin.Range.rangeSize 0 N 1 = N) (h2 : 2 ≤ N) (h64 : N < 64) (hl : kss.length = N)
    (hν : cx.ν P) (hδ : cx.δ P) (hL : P ≠ cx.env.locals)
    (hc : cx.env.code = .ref c) (hcd : codeHdIn W.K c P = true) (hT : MadeAt s.heap P G made) (hK : Kinds cx names)
    (hfr : (scope.names.all fun p => p.2 != .free || (names.lookup p.1 == some .cell || names.lookup p.1 == some .free)) = true) (hnd : (scope.names.map (·.1)).Nodup)
    (hdef : defaultsOf params cx.env = ([], []))
    (hm : (∀ p ∈ made, samePl p.1 lpos = false) ∨ (lpos, cx.env.qual ++ "<lambda>") ∈ made)
    (hbind : ∀ pm c ctv v, bindArgs (kla_fn "<lambda>" (cx.env.qual ++ "<lambda>") params body scope (closOf cx.env.cells scope.names []) pm (.ref c) ctv) ⟨[v], []⟩ = pure [(x, v)])
    (hx : scope.names.lookup x = some .local) (hnc : ∀ y ∈ scope.names, y.2 ≠ .cell)
    (hρ2 : ∀ p, p ∈ ρ2 → p ∈ ρ ∧ scope.names.lookup p.1 = some .free ∧ ∃ d, p.2 = .val d)
    (hbody : ∀ (i : Nat) ks, kss[i]? = some ks → ∀ β L f c, EvOK W (cxL β (cx.env.qual ++ "<lambda>") scope L f c (closOf cx.env.cells scope.names [])) n ((x, .val (.int i)) :: ρ2) β body (iL ks))
    (hse : starEach (e :: []) cx.env = (false, eval e cx.env) :: starEach [] cx.env := by rfl)
    (hco : scope.isCoroutine = false := by rfl) (hgen : scope.isGenerator = false := by rfl) (hk : scope.kind = .function := by rfl) :
    wpAny (model W.prog W.w) A (eval (.Call (.Name "sorted" p1) [e] [⟨some (Str.ofString "key"), .Lambda params body scope lpos, kp⟩] pos) cx.env)
      (fun v s' => Ext (only P) s s' ∧ Inv W cx ρ s' ∧ Rep W.C cx.δ s'.heap v (iL ((sortPlaces kss).map fun (i : Nat) => (i : Int))) ∧ MadeAt s'.heap P G ((lpos, cx.env.qual ++ "<lambda>") :: made)) F0 s := by
  show wpAny _ A (do callWith pos (← eval (.Name "sorted" p1) cx.env) [] (backTo pos (starEach [e] cx.env)) (backToKw pos (keywordEach [⟨some (Str.ofString "key"), .Lambda params body scope lpos, kp⟩] cx.env))) _ _ s
  refine wpAny_bind (load_glob i hgk hsorted ?_ rfl)
  refine callWith_of (P := Gd W) (M := model W.prog W.w) ?_ (fun h q => Keeps.pure (W := W) (v := .builtin "sorted") rfl _ h q) ?_
  · rw [hse]; rfl
  refine evalArgs_kw2 rfl ?_ hse
  refine args_cons (he.use (fun _ q => q) rm i fun rv s1 x1 i1 r1 => args_nil ?_) hse
  have hT1 := hT.keep x1.keeps
  refine kwAll_cons (lam_make i1 (fun c hc => hG c (Nat.le_trans x1.size hc)) hc hcd hT1 hK hfr hnd hdef hm fun f s2 pm c' ctv hf x2 ho hrec hmade => kwAll_nil ?_)
  obtain ⟨ps, hP, _⟩ := hT1
  have i2 := i1.chgTab hν hδ hL hP x2
  refine ⟨i2.gd, ?_⟩
  obtain ⟨r, t, u, w, rfl, hnr, hr⟩ := rep_rng.mp r1
  have hrP : r ≠ P := fun q => hnr (q ▸ hδ)
  have hr2 : IsRange s2.heap r 0 N 1 t u w := x2.keep _ _ hrP hr
  have hun := rm.un
  have hcl : cLine = 9900 := rfl
  have hfree := free_of_all hK hfr
  have hmemfree : ∀ p ∈ scope.names, p.2 = .free → (cx.env.cells.lookup p.1).isSome = true := fun p hp e => i.st.hasCell _ (hfree p.1 (lookup_of_nodup hnd (by rw [← e]; exact hp)))
  have hclm := closOf_mem (acc := []) hmemfree (fun p hp => by cases hp)
  show wpAny _ A (call (.builtin "sorted") [.ref r] [(Str.ofString "key", .ref f)]) _ _ s2
  refine sorted_rng (C := W.C) (kss := kss) (by omega) rm.hd hr2 hN hN2 hl h2 h64 (fun j tk ks hj hks s3 D kS hD hkS hDl hkl x3 => ?_) fun D s3 c0 out hD x3 hg rl => ?_
  · have k3 : ∀ b o, b < hz s2 → s2.heap.get? b = some o → s3.heap.get? b = some o := fun b o hb q => x3.keep b o (fun z => z.elim (fun z => Nat.lt_irrefl _ (Nat.lt_of_lt_of_le hb (z ▸ hD))) fun z => Nat.lt_irrefl _ (Nat.lt_of_lt_of_le hb (z ▸ hkS))) q
    have k3' : Keep s2.heap s3.heap := fun b o q => k3 b o (Heap.lt_size q) q
    have lookc : ∀ y c, (closOf cx.env.cells scope.names []).lookup y = some c → cx.env.cells.lookup y = some c := fun y c e => hclm _ (mem_of_lookup e)
    refine lam_call (n := n) (ρ2 := ρ2) (da := .int j) ⟨rm.hd, by have := rm.dp; show A.depth + _ ≤ _; omega, by show A.units + 1 + 1 + _ ≤ _; omega⟩ (i2.gd.keeps k3') (k3' _ _ ho) (hrec.keeps k3') (hbind pm c' ctv _) hx hnc
      (fun b q => q.elim (fun q => q ▸ hDl) fun q => q ▸ hkl) (rep_int.mpr ⟨tk, rfl⟩) (fun y hy => ?_) (fun y z c2 e1 e2 => i.st.apart y z c2 (lookc _ _ e1) (lookc _ _ e2)) (fun y c2 e1 => ?_) (fun y en hm => ?_) (fun L => hbody j ks hks _ L f c') hco hgen hk
    · obtain ⟨c2, h2⟩ := closOf_has (cells := cx.env.cells) (acc := []) (.inl (mem_of_lookup' hy))
      exact lookup_some_of_mem h2
    · obtain ⟨v, hv⟩ := i2.cells y c2 (lookc _ _ e1)
      exact ⟨v, hv.keeps k3'⟩
    · obtain ⟨h1, h2, d, h3⟩ := hρ2 _ hm
      simp only at h3 h2
      subst h3
      obtain ⟨v, hb, rv⟩ := i2.val y _ h1
      have hce : ∃ c2, cx.env.cells.lookup y = some c2 ∧ s2.heap.IsCell c2 (some v) := by
        rcases hb with ⟨kd, m', hn, q⟩ | ⟨kd, c2, hc2, q⟩
        · rcases hfree y h2 with e | e <;> rw [kd] at e <;> cases e
        · exact ⟨c2, hc2, q⟩
      obtain ⟨c2, hc2, hv⟩ := hce
      obtain ⟨c3, hc3⟩ := closOf_has (cells := cx.env.cells) (acc := []) (.inl (mem_of_lookup' h2))
      obtain ⟨c4, hc4⟩ := Option.isSome_iff_exists.mp (lookup_some_of_mem hc3)
      have e4 := lookc _ _ hc4
      rw [hc2] at e4; cases e4
      refine ⟨h2, d, c2, v, rfl, hc4, hv.keeps k3', rv.mono (fun b hb q => ?_) fun b o hb q => k3' _ _ q⟩
      obtain ⟨o, hbo⟩ := Option.isSome_iff_exists.mp hb
      have hlt : b < hz s2 := Heap.lt_size hbo
      exact absurd hlt (Nat.not_lt.mpr (q.elim (fun q => q ▸ hD) fun q => q ▸ hkS))
  · have hs : hz s ≤ D := Nat.le_trans x1.size (Nat.le_trans x2.size hD)
    refine ⟨(x1.of.trans x2).trans x3.of, i2.ext0 x3, rep_list.mpr ⟨D, out, c0, rfl, fun q => Nat.lt_irrefl _ (Nat.lt_of_lt_of_le (i2.lt _ q) hD), hg, ?_⟩, hmade.keep x3.keeps⟩
    rw [List.map_map]
    exact rl.scI
end
end Mine
-- MB24
namespace Mine

/-- how values of a kind are told as data, and read back -/
structure Enc (α : Type) where
  e : α → D
  d : D → α
  h : ∀ a, d (e a) = a

abbrev encI : Enc Int := ⟨.int, fun | .int i => i | _ => 0, fun _ => rfl⟩
abbrev encS : Enc Str := ⟨.str, fun | .str i => i | _ => ⟨#[]⟩, fun _ => rfl⟩
abbrev encO : Enc Str := ⟨.obj, fun | .obj i => i | _ => ⟨#[]⟩, fun _ => rfl⟩
abbrev encB : Enc Bool := ⟨.bool, fun | .bool i => i | _ => false, fun _ => rfl⟩
abbrev encL {α : Type} (E : Enc α) : Enc (List α) := ⟨fun xs => .list (xs.map E.e), fun | .list ds => ds.map E.d | _ => [], fun xs => by
  show (xs.map E.e).map E.d = xs
  rw [List.map_map]
  induction xs with
  | nil => rfl
  | cons x xs ih => rw [List.map_cons, ih]; exact congrArg (· :: xs) (E.h x)⟩
/-- two values of different kinds in one list -/
abbrev encP {α β : Type} [Inhabited α] [Inhabited β] (E : Enc α) (F : Enc β) : Enc (α × β) := ⟨fun p => .list [E.e p.1, F.e p.2], fun | .list [a, b] => (E.d a, F.d b) | _ => default, fun p => by
  show (E.d (E.e p.1), F.d (F.e p.2)) = p
  rw [E.h, F.h]⟩

/-- the ints below n -/
def upto (n : Int) : List Int := (List.range n.toNat).map fun (k : Nat) => (k : Int)
theorem mem_upto {n k : Int} : k ∈ upto n ↔ 0 ≤ k ∧ k < n := by
  unfold upto
  simp only [List.mem_map, List.mem_range]
  constructor
  · rintro ⟨j, hj, rfl⟩; omega
  · rintro ⟨h1, h2⟩; exact ⟨k.toNat, by omega, by omega⟩
theorem upto_length {n : Int} : (upto n).length = n.toNat := by simp [upto]

/-- the ints from a to b -/
def fromto (a b : Int) : List Int := (List.range (b - a).toNat).map fun (k : Nat) => a + (k : Int)
theorem mem_fromto {a b k : Int} : k ∈ fromto a b ↔ a ≤ k ∧ k < b := by
  unfold fromto
  simp only [List.mem_map, List.mem_range]
  constructor
  · rintro ⟨j, hj, rfl⟩; omega
  · rintro ⟨h1, h2⟩; exact ⟨(k - a).toNat, by omega, by omega⟩
/-- the ints from a down to above b -/
def downto (a b : Int) : List Int := (List.range (a - b).toNat).map fun (k : Nat) => a - (k : Int)
theorem mem_downto {a b k : Int} : k ∈ downto a b ↔ b < k ∧ k ≤ a := by
  unfold downto
  simp only [List.mem_map, List.mem_range]
  constructor
  · rintro ⟨j, hj, rfl⟩; omega
  · rintro ⟨h1, h2⟩; exact ⟨(a - k).toNat, by omega, by omega⟩

section
variable {α : Type}
theorem Items.enc {E : Enc α} {xs : List α} : Items ((encL E).e xs) (xs.map E.e) := Items.list
theorem Items.upto {n : Int} (hs : Builtin.Range.small 0 n 1 = true) (hz : (Builtin.Range.rangeSize 0 n 1).toNat = n.toNat) : Items (.rng 0 n 1) ((Mine.upto n).map encI.e) := by
  have h := Items.rng (a := 0) (b := n) (c := 1) hs
  have e : (Mine.upto n).map encI.e = (List.range (Builtin.Range.rangeSize 0 n 1).toNat).map fun (k : Nat) => D.int (0 + k * 1) := by
    unfold Mine.upto
    rw [List.map_map, hz]
    refine List.map_congr_left fun k _ => ?_
    show D.int k = _
    congr 1; omega
  rw [e]; exact h
theorem Items.fromto {a b : Int} (hs : Builtin.Range.small a b 1 = true) (hz : (Builtin.Range.rangeSize a b 1).toNat = (b - a).toNat) : Items (.rng a b 1) ((Mine.fromto a b).map encI.e) := by
  have h := Items.rng (a := a) (b := b) (c := 1) hs
  have e : (Mine.fromto a b).map encI.e = (List.range (Builtin.Range.rangeSize a b 1).toNat).map fun (k : Nat) => D.int (a + k * 1) := by
    unfold Mine.fromto
    rw [List.map_map, hz]
    refine List.map_congr_left fun k _ => ?_
    show D.int (a + (k : Int)) = _
    congr 1; omega
  rw [e]; exact h
theorem Items.downto {a b : Int} (hs : Builtin.Range.small a b (-1) = true) (hz : (Builtin.Range.rangeSize a b (-1)).toNat = (a - b).toNat) : Items (.rng a b (-1)) ((Mine.downto a b).map encI.e) := by
  have h := Items.rng (a := a) (b := b) (c := -1) hs
  have e : (Mine.downto a b).map encI.e = (List.range (Builtin.Range.rangeSize a b (-1)).toNat).map fun (k : Nat) => D.int (a + k * (-1)) := by
    unfold Mine.downto
    rw [List.map_map, hz]
    refine List.map_congr_left fun k _ => ?_
    show D.int (a - (k : Int)) = _
    congr 1; omega
  rw [e]; exact h
theorem rng1_ok {a b : Int} (h1 : -1000000 < a) (h2 : b < 1000000) (h3 : a < 1000000) (h4 : -1000000 < b) : Builtin.Range.small a b 1 = true ∧ (Builtin.Range.rangeSize a b 1).toNat = (b - a).toNat := by
  refine ⟨small_one (by omega) (by omega) (by omega) (by omega), ?_⟩
  rw [rangeSize_one]; split <;> omega
theorem rngm_ok {a b : Int} (h1 : -1000000 < a) (h2 : b < 1000000) (h3 : a < 1000000) (h4 : -1000000 < b) : Builtin.Range.small a b (-1) = true ∧ (Builtin.Range.rangeSize a b (-1)).toNat = (a - b).toNat := by
  refine ⟨small_down (by omega) (by omega) (by omega) (by omega), ?_⟩
  rw [rangeSize_down]; split <;> omega
end

theorem filterMap_run {α : Type} (xs : List α) : ∀ (m a : Nat), ((List.range m).map (a + ·)).filterMap (xs[·]?) = (xs.drop a).take m
  | 0, a => by simp
  | m + 1, a => by
    rw [List.range_succ, List.map_append, List.filterMap_append, filterMap_run xs m a]
    simp only [List.map_cons, List.map_nil]
    rw [List.take_add_one]
    congr 1
    simp only [List.filterMap_cons, List.filterMap_nil]
    rw [List.getElem?_drop]
    cases xs[a + m]? <;> rfl
/-- a slice by ones -/
theorem pickD_one {α : Type} (xs : List α) (lo hi : Option Int) : pickD xs lo hi none = (xs.drop (kms_lo lo xs.length)).take (kms_hi hi xs.length - kms_lo lo xs.length) := by
  unfold pickD
  rw [kms_bounds]
  dsimp only
  rw [sliceRange_one]
  exact filterMap_run xs _ _
theorem pickD_map {α β : Type} (f : α → β) (xs : List α) (lo hi st : Option Int) : pickD (xs.map f) lo hi st = (pickD xs lo hi st).map f := by
  unfold pickD
  rw [List.length_map, List.map_filterMap]
  congr 1
  funext j
  rw [List.getElem?_map]
theorem pickD_upto {α : Type} (xs : List α) {k : Int} (h : 0 ≤ k) : pickD xs none (some k) none = xs.take k.toNat := by
  rw [pickD_one]
  have e1 : kms_lo none xs.length = 0 := rfl
  have e2 : kms_hi (some k) xs.length = min k.toNat xs.length := if_neg (by omega)
  rw [e1, e2, List.drop_zero, Nat.sub_zero]
  by_cases h2 : k.toNat ≤ xs.length
  · rw [Nat.min_eq_left h2]
  · rw [Nat.min_eq_right (by omega), List.take_of_length_le (Nat.le_refl _), List.take_of_length_le (by omega)]
theorem pickD_from {α : Type} (xs : List α) {k : Int} (h : 0 ≤ k) : pickD xs (some k) none none = xs.drop k.toNat := by
  rw [pickD_one]
  have e1 : kms_lo (some k) xs.length = min k.toNat xs.length := if_neg (by omega)
  have e2 : kms_hi none xs.length = xs.length := rfl
  rw [e1, e2]
  by_cases h2 : k.toNat ≤ xs.length
  · rw [Nat.min_eq_left h2, List.take_of_length_le (by simp)]
  · rw [Nat.min_eq_right (by omega), List.drop_of_length_le (Nat.le_refl _), List.drop_of_length_le (by omega), List.take_nil]
theorem pickD_run {α : Type} (xs : List α) {a b : Int} (ha : 0 ≤ a) (hb : 0 ≤ b) : pickD xs (some a) (some b) none = (xs.take b.toNat).drop a.toNat := by
  rw [pickD_one]
  have e1 : kms_lo (some a) xs.length = min a.toNat xs.length := if_neg (by omega)
  have e2 : kms_hi (some b) xs.length = min b.toNat xs.length := if_neg (by omega)
  rw [e1, e2, ← List.drop_take]
  by_cases h2 : a.toNat ≤ xs.length
  · rw [Nat.min_eq_left h2]
    by_cases h3 : b.toNat ≤ xs.length
    · rw [Nat.min_eq_left h3]
    · rw [Nat.min_eq_right (by omega), List.take_of_length_le (Nat.le_refl _), List.take_of_length_le (by omega)]
  · rw [Nat.min_eq_right (by omega), List.drop_of_length_le (by simp; omega), List.drop_of_length_le (by simp; omega)]
end Mine
-- MB25
namespace Mine

theorem map_filter_enc {α γ : Type} (E : Enc α) (G : Enc γ) (xs : List α) (p : α → Bool) (f : α → γ) : ((xs.map E.e).filter fun d => p (E.d d)).map (fun d => G.e (f (E.d d))) = ((xs.filter p).map f).map G.e := by
  rw [List.filter_map, List.map_map, List.map_map]
  have e1 : ((fun d => p (E.d d)) ∘ E.e) = p := funext fun a => congrArg p (E.h a)
  have e2 : ((fun d => G.e (f (E.d d))) ∘ E.e) = (G.e ∘ f) := funext fun a => congrArg (fun b => G.e (f b)) (E.h a)
  rw [e1, e2]

section
variable {W : Wc} {cx : Cx} {n : Nat} {ρ ρ' ρ2 : Rho} {β : Addr → Prop} {A : Around} {s s' : Shared} {x y : Str} {a : Addr} {α γ δ' : Type}

theorem Ev.conv {e : Expr} {d d' : D} (h : EvOK W cx n ρ β e d) (q : d = d') : EvOK W cx n ρ β e d' := q ▸ h
theorem Ts.conv {e : Expr} {b b' : Bool} (h : TsOK W cx n ρ e b) (q : b = b') : TsOK W cx n ρ e b' := q ▸ h
theorem Ev.item {E : Enc α} {value slice : Expr} {pos : Pos} {xs : List α} {i : Int} (h1 : EvOK W cx n ρ β value ((encL E).e xs)) (h2 : EvOK W cx n ρ Mine.no slice (.int i)) (h0 : 0 ≤ i) (hi : i < xs.length) (hz : i < 2 ^ 63)
    (hs : ∀ o i, subscripted slice false o i = operate [o, i] (getItem o i) := by intro _ _; with_unfolding_all rfl) :
    EvOK W cx n ρ β (.Subscript value slice pos) (E.e (xs.getD i.toNat (E.d .none))) := by
  have hlt : i.toNat < xs.length := by omega
  refine Ev.sub h1 h2 h0 ?_ hz hs
  rw [List.getElem?_map, List.getElem?_eq_getElem hlt, List.getD_eq_getElem?_getD, List.getElem?_eq_getElem hlt]; rfl

theorem Ev.slE {E : Enc α} {value : Expr} {lo hi st : Option Expr} {p pos : Pos} {xs : List α} {a b c : Option Int} (h1 : EvOK W cx n ρ β value ((encL E).e xs))
    (hl : PartOK W cx n ρ lo a) (hh : PartOK W cx n ρ hi b) (ht : PartOK W cx n ρ st c) (h0 : c ≠ some 0) (hz : xs.length ≤ sizeLine) :
    EvOK W cx n ρ β (.Subscript value (.Slice lo hi st p) pos) ((encL E).e (pickD xs a b c)) :=
  Ev.conv (Ev.slice h1 hl hh ht h0 (by simpa using hz)) (by rw [pickD_map])

theorem Ev.slTo {E : Enc α} {value hi : Expr} {p pos : Pos} {xs : List α} {k : Int} (h1 : EvOK W cx n ρ β value ((encL E).e xs)) (h2 : EvOK W cx n ρ Mine.no hi (.int k)) (h0 : 0 ≤ k) (hz : xs.length ≤ sizeLine) :
    EvOK W cx n ρ β (.Subscript value (.Slice Option.none (some hi) Option.none p) pos) ((encL E).e (xs.take k.toNat)) := Ev.conv (Ev.slE h1 .none (.some h2) .none (by simp) hz) (by rw [pickD_upto _ h0])
theorem Ev.slFrom {E : Enc α} {value lo : Expr} {p pos : Pos} {xs : List α} {k : Int} (h1 : EvOK W cx n ρ β value ((encL E).e xs)) (h2 : EvOK W cx n ρ Mine.no lo (.int k)) (h0 : 0 ≤ k) (hz : xs.length ≤ sizeLine) :
    EvOK W cx n ρ β (.Subscript value (.Slice (some lo) Option.none Option.none p) pos) ((encL E).e (xs.drop k.toNat)) := Ev.conv (Ev.slE h1 (.some h2) .none .none (by simp) hz) (by rw [pickD_from _ h0])
theorem Ev.slRun {E : Enc α} {value lo hi : Expr} {p pos : Pos} {xs : List α} {k l : Int} (h1 : EvOK W cx n ρ β value ((encL E).e xs)) (h2 : EvOK W cx n ρ Mine.no lo (.int k)) (h3 : EvOK W cx n ρ Mine.no hi (.int l)) (h0 : 0 ≤ k) (h0' : 0 ≤ l) (hz : xs.length ≤ sizeLine) :
    EvOK W cx n ρ β (.Subscript value (.Slice (some lo) (some hi) Option.none p) pos) ((encL E).e ((xs.take l.toNat).drop k.toNat)) := Ev.conv (Ev.slE h1 (.some h2) (.some h3) .none (by simp) hz) (by rw [pickD_run _ h0 h0'])
/-- what a comprehension's inner frame is known by -/
structure Inner (cx' : Cx) (scope : Scope) : Prop where
  k : Kinds cx' scope.names
  o : ∀ y, scope.names.lookup y = some .cell → cx'.own y = true
theorem Inner.stor {cx' : Cx} {scope : Scope} (i : Inner cx' scope) (h : scope.names.lookup x = some .local ∨ scope.names.lookup x = some .cell) : Stor cx' x := by
  rcases h with h | h
  · exact i.k.local h
  · exact .inr ⟨i.k.cell h, i.o x h⟩
theorem inner_comp {scope : Scope} {cells : List (Str × Addr)} {L lo hi : Nat} : Inner (cxC cx β scope cells L lo hi) scope := ⟨kinds_comp, fun y h => by show (scope.names.lookup y == some .cell) = true; rw [h]; decide⟩
/-- a comprehension's frame -/
def IsComp (cx : Cx) (β : Addr → Prop) (scope : Scope) (cx' : Cx) : Prop := ∃ cells L lo hi, cx' = cxC cx β scope cells L lo hi

theorem Cl.oneE {E : Enc α} {G : Enc γ} {D : Addr} {elt i1 : Expr} {px : Pos} {ifs : List Expr} {scope : Scope} {pos : Pos} {xs : List α} {p : α → Bool} {f : α → γ}
    (hx : Stor cx x) (hDr : Drop x ρ ρ) (hno : NoOwn ρ) (hDμ : ¬ cx.μ D) (hDδ : cx.δ D) (hDν : cx.ν D) (hz : xs.length ≤ sizeLine)
    (hb : ∀ a ∈ xs, IfsOK W cx n ((x, .val (E.e a)) :: ρ) ifs (p a) ∧ (p a = true → EvOK W cx n ((x, .val (E.e a)) :: ρ) cx.δ elt (G.e (f a)))) :
    ClOK W cx n D ρ (.ListComp elt [⟨.Name x px, i1, ifs, 0⟩] scope pos) (xs.map E.e) (((xs.filter p).map f).map G.e) := by
  rw [← map_filter_enc E G xs p f]
  refine Cl.one hx hDr hno hDμ hDδ hDν (fun d hd => ?_) (fun d hd hp => ?_) (by simpa using hz)
  · obtain ⟨a, ha, rfl⟩ := List.mem_map.mp hd
    (try dsimp only)
    rw [E.h]; exact (hb a ha).1
  · obtain ⟨a, ha, rfl⟩ := List.mem_map.mp hd
    (try dsimp only at hp ⊢)
    rw [E.h] at hp ⊢
    exact (hb a ha).2 hp

theorem Cl.twoE {E : Enc α} {F : Enc δ'} {G : Enc γ} {D : Addr} {elt i1 i2 : Expr} {px py : Pos} {ifs : List Expr} {scope : Scope} {pos : Pos} {xs : List α} {d2 : α → Mine.D} {ys : α → List δ'} {p : α → δ' → Bool} {f : α → δ' → γ}
    (hx : Stor cx x) (hDr : Drop x ρ ρ) (hno : NoOwn ρ) (hDμ : ¬ cx.μ D) (hDδ : cx.δ D) (hDν : cx.ν D)
    (hy : Stor cx y) (hDy : ∀ d, Drop y ((x, .val d) :: ρ) ((x, .val d) :: ρ))
    (h2 : ∀ a ∈ xs, EvOK W cx n ((x, .val (E.e a)) :: ρ) cx.δ i2 (d2 a) ∧ Items (d2 a) ((ys a).map F.e))
    (hb : ∀ a ∈ xs, ∀ b ∈ ys a, IfsOK W cx n ((y, .val (F.e b)) :: (x, .val (E.e a)) :: ρ) ifs (p a b) ∧ (p a b = true → EvOK W cx n ((y, .val (F.e b)) :: (x, .val (E.e a)) :: ρ) cx.δ elt (G.e (f a b))))
    (hz : (xs.flatMap fun a => ((ys a).filter (p a)).map (f a)).length ≤ sizeLine)
    (hs : ∀ v, foldedSetIterable i2 cx.env v = pure v) :
    ClOK W cx n D ρ (.ListComp elt [⟨.Name x px, i1, [], 0⟩, ⟨.Name y py, i2, ifs, 0⟩] scope pos) (xs.map E.e) ((xs.flatMap fun a => ((ys a).filter (p a)).map (f a)).map G.e) := by
  have e0 : ∀ a, ((ys a).map F.e).filter (fun e => p a (F.d e)) = ((ys a).filter (p a)).map F.e := fun a => by
    rw [List.filter_map]
    congr 2
    exact funext fun b => congrArg (p a) (F.h b)
  have e : ((xs.map E.e).filter fun _ => true).flatMap (fun d => (((ys (E.d d)).map F.e).filter fun e => p (E.d d) (F.d e)).map fun e => G.e (f (E.d d) (F.d e))) = (xs.flatMap fun a => ((ys a).filter (p a)).map (f a)).map G.e := by
    rw [List.filter_eq_self.mpr (fun _ _ => rfl), List.flatMap_map, List.map_flatMap]
    congr 1
    funext a
    rw [E.h]
    exact map_filter_enc F G (ys a) (p a) (f a)
  have hlen : (((xs.map E.e).filter fun _ => true).flatMap (fun d => (((ys (E.d d)).map F.e).filter fun e => p (E.d d) (F.d e)).map fun e => G.e (f (E.d d) (F.d e)))).length ≤ sizeLine := by rw [e, List.length_map]; exact hz
  rw [← e]
  refine Cl.two (p1 := fun _ => true) (d2 := fun d => d2 (E.d d)) (ds2 := fun d => (ys (E.d d)).map F.e) (p := fun d e => p (E.d d) (F.d e)) (f := fun d e => G.e (f (E.d d) (F.d e))) hx hDr hno hDμ hDδ hDν hy hDy (fun d hd => Ifs.nil) (fun d hd _ => ?_) (fun d hd _ => ?_) (fun d hd _ e he => ?_) (fun d hd _ e he hp => ?_) hlen hs
  · obtain ⟨a, ha, rfl⟩ := List.mem_map.mp hd
    rw [E.h]; exact (h2 a ha).1
  · obtain ⟨a, ha, rfl⟩ := List.mem_map.mp hd
    rw [E.h]; exact (h2 a ha).2
  · obtain ⟨a, ha, rfl⟩ := List.mem_map.mp hd
    rw [E.h] at he
    obtain ⟨b, hb', rfl⟩ := List.mem_map.mp he
    (try dsimp only)
    rw [E.h, F.h]; exact (hb a ha b hb').1
  · obtain ⟨a, ha, rfl⟩ := List.mem_map.mp hd
    rw [E.h] at he
    obtain ⟨b, hb', rfl⟩ := List.mem_map.mp he
    (try dsimp only at hp ⊢)
    rw [E.h, F.h] at hp ⊢
    exact (hb a ha b hb').2 hp

/-- one clause -/
theorem Ev.comp1 {E : Enc α} {G : Enc γ} {elt i1 : Expr} {px : Pos} {ifs : List Expr} {scope : Scope} {pos : Pos} {names : List (Str × NameKind)} {d : D} (ρ2 : Rho) (xs : List α) (p : α → Bool) (f : α → γ)
    (hiter : EvOK W cx n ρ β i1 d) (hitems : Items d (xs.map E.e)) (hK : Kinds cx names) (hx : scope.names.lookup x = some .local ∨ scope.names.lookup x = some .cell) (hDr : Drop x ρ2 ρ2) (hz : xs.length ≤ sizeLine)
    (hb : ∀ cx', Inner cx' scope → ∀ a ∈ xs, IfsOK W cx' n ((x, .val (E.e a)) :: ρ2) ifs (p a) ∧ (p a = true → EvOK W cx' n ((x, .val (E.e a)) :: ρ2) cx'.δ elt (G.e (f a))))
    (hfr : (scope.names.all fun p => p.2 != .free || (names.lookup p.1 == some .cell || names.lookup p.1 == some .free)) = true)
    (hnd : (scope.names.map (·.1)).Nodup) (hkind : scope.kind = .function)
    (hρ2 : ∀ p, p ∈ ρ2 → p ∈ ρ ∧ scope.names.lookup p.1 = some .free ∧ ∃ d, p.2 = .val d)
    (hs : ∀ v, foldedSetIterable i1 cx.env v = pure v := by intro _; rfl) :
    EvOK W cx n ρ β (.ListComp elt [⟨.Name x px, i1, ifs, 0⟩] scope pos) ((encL G).e ((xs.filter p).map f)) :=
  Ev.comp ρ2 hiter hitems hK (fun cells L lo hi D h1 h2 h3 => Cl.oneE (inner_comp.stor hx) hDr (fun p hp => (hρ2 p hp).2.2) (fun q => Nat.lt_irrefl _ (Nat.lt_of_lt_of_le h2 q.1)) (.inr ⟨h1, Nat.lt_trans h2 h3⟩) ⟨h1, Nat.lt_trans h2 h3⟩ hz (hb _ inner_comp)) hfr hnd hkind hρ2 hs
theorem St.comp1 {E : Enc α} {G : Enc γ} {z : Str} {elt i1 : Expr} {px zp spos : Pos} {ifs : List Expr} {scope : Scope} {pos : Pos} {names : List (Str × NameKind)} {d : D} (ρ2 : Rho) (xs : List α) (p : α → Bool) (f : α → γ)
    (hiter : EvOK W cx n ρ cx.δ i1 d) (hitems : Items d (xs.map E.e)) (hK : Kinds cx names) (hx : scope.names.lookup x = some .local ∨ scope.names.lookup x = some .cell) (hDr : Drop x ρ2 ρ2) (hzz : xs.length ≤ sizeLine)
    (hb : ∀ cx', Inner cx' scope → ∀ a ∈ xs, IfsOK W cx' n ((x, .val (E.e a)) :: ρ2) ifs (p a) ∧ (p a = true → EvOK W cx' n ((x, .val (E.e a)) :: ρ2) cx'.δ elt (G.e (f a))))
    (hz : names.lookup z = some .local) (hd : Drop z ρ ρ') (hl : (zp.line == pos.line) = true) (hn : (scope.names.any fun (n, k) => n == z && (k == .local || k == .cell)) = false)
    (hfr : (scope.names.all fun p => p.2 != .free || (names.lookup p.1 == some .cell || names.lookup p.1 == some .free)) = true)
    (hnd : (scope.names.map (·.1)).Nodup) (hkind : scope.kind = .function)
    (hρ2 : ∀ p, p ∈ ρ2 → p ∈ ρ ∧ scope.names.lookup p.1 = some .free ∧ ∃ d, p.2 = .val d)
    (hs : ∀ v, foldedSetIterable i1 cx.env v = pure v := by intro _; rfl) :
    StOK W cx n ρ (.Assign [.Name z zp] (.ListComp elt [⟨.Name x px, i1, ifs, 0⟩] scope pos) spos) (.nxt ((z, .val ((encL G).e ((xs.filter p).map f))) :: ρ')) :=
  St.assignComp ρ2 hiter hitems hK (fun cells L lo hi D h1 h2 h3 => Cl.oneE (inner_comp.stor hx) hDr (fun p hp => (hρ2 p hp).2.2) (fun q => Nat.lt_irrefl _ (Nat.lt_of_lt_of_le h2 q.1)) (.inr ⟨h1, Nat.lt_trans h2 h3⟩) ⟨h1, Nat.lt_trans h2 h3⟩ hzz (hb _ inner_comp)) hz hd hl hn hfr hnd hkind hρ2 hs

/-- one clause, no test -/
theorem Ev.comp0 {E : Enc α} {G : Enc γ} {elt i1 : Expr} {px : Pos} {scope : Scope} {pos : Pos} {names : List (Str × NameKind)} {d : D} (ρ2 : Rho) (xs : List α) (f : α → γ)
    (hiter : EvOK W cx n ρ β i1 d) (hitems : Items d (xs.map E.e)) (hK : Kinds cx names) (hx : scope.names.lookup x = some .local ∨ scope.names.lookup x = some .cell) (hDr : Drop x ρ2 ρ2) (hz : xs.length ≤ sizeLine)
    (hb : ∀ cx', Inner cx' scope → ∀ a ∈ xs, EvOK W cx' n ((x, .val (E.e a)) :: ρ2) cx'.δ elt (G.e (f a)))
    (hfr : (scope.names.all fun p => p.2 != .free || (names.lookup p.1 == some .cell || names.lookup p.1 == some .free)) = true)
    (hnd : (scope.names.map (·.1)).Nodup) (hkind : scope.kind = .function)
    (hρ2 : ∀ p, p ∈ ρ2 → p ∈ ρ ∧ scope.names.lookup p.1 = some .free ∧ ∃ d, p.2 = .val d)
    (hs : ∀ v, foldedSetIterable i1 cx.env v = pure v := by intro _; rfl) :
    EvOK W cx n ρ β (.ListComp elt [⟨.Name x px, i1, [], 0⟩] scope pos) ((encL G).e (xs.map f)) :=
  Ev.conv (Ev.comp1 ρ2 xs (fun _ => true) f hiter hitems hK hx hDr hz (fun cx' hI a ha => ⟨Ifs.nil, fun _ => hb cx' hI a ha⟩) hfr hnd hkind hρ2 hs) (by rw [List.filter_eq_self.mpr (fun _ _ => rfl)])
theorem St.comp0 {E : Enc α} {G : Enc γ} {z : Str} {elt i1 : Expr} {px zp spos : Pos} {scope : Scope} {pos : Pos} {names : List (Str × NameKind)} {d : D} (ρ2 : Rho) (xs : List α) (f : α → γ)
    (hiter : EvOK W cx n ρ cx.δ i1 d) (hitems : Items d (xs.map E.e)) (hK : Kinds cx names) (hx : scope.names.lookup x = some .local ∨ scope.names.lookup x = some .cell) (hDr : Drop x ρ2 ρ2) (hzz : xs.length ≤ sizeLine)
    (hb : ∀ cx', Inner cx' scope → ∀ a ∈ xs, EvOK W cx' n ((x, .val (E.e a)) :: ρ2) cx'.δ elt (G.e (f a)))
    (hz : names.lookup z = some .local) (hd : Drop z ρ ρ') (hl : (zp.line == pos.line) = true) (hn : (scope.names.any fun (n, k) => n == z && (k == .local || k == .cell)) = false)
    (hfr : (scope.names.all fun p => p.2 != .free || (names.lookup p.1 == some .cell || names.lookup p.1 == some .free)) = true)
    (hnd : (scope.names.map (·.1)).Nodup) (hkind : scope.kind = .function)
    (hρ2 : ∀ p, p ∈ ρ2 → p ∈ ρ ∧ scope.names.lookup p.1 = some .free ∧ ∃ d, p.2 = .val d)
    (hs : ∀ v, foldedSetIterable i1 cx.env v = pure v := by intro _; rfl) :
    StOK W cx n ρ (.Assign [.Name z zp] (.ListComp elt [⟨.Name x px, i1, [], 0⟩] scope pos) spos) (.nxt ((z, .val ((encL G).e (xs.map f))) :: ρ')) := by
  have h := St.comp1 (px := px) ρ2 xs (fun _ => true) f hiter hitems hK hx hDr hzz (fun cx' hI a ha => ⟨Ifs.nil, fun _ => hb cx' hI a ha⟩) hz hd hl hn hfr hnd hkind hρ2 hs (spos := spos)
  rw [List.filter_eq_self.mpr (fun _ _ => rfl)] at h
  exact h

/-- two clauses -/
theorem Ev.comp2 {E : Enc α} {F : Enc δ'} {G : Enc γ} {elt i1 i2 : Expr} {px py : Pos} {ifs : List Expr} {scope : Scope} {pos : Pos} {names : List (Str × NameKind)} {d : D} (ρ2 : Rho) (xs : List α) (d2 : α → Mine.D) (ys : α → List δ') (p : α → δ' → Bool) (f : α → δ' → γ)
    (hiter : EvOK W cx n ρ β i1 d) (hitems : Items d (xs.map E.e)) (hK : Kinds cx names) (hx : scope.names.lookup x = some .local ∨ scope.names.lookup x = some .cell) (hDr : Drop x ρ2 ρ2)
    (hy : scope.names.lookup y = some .local ∨ scope.names.lookup y = some .cell) (hDy : ∀ d, Drop y ((x, .val d) :: ρ2) ((x, .val d) :: ρ2))
    (h2 : ∀ cx', Inner cx' scope → ∀ a ∈ xs, EvOK W cx' n ((x, .val (E.e a)) :: ρ2) cx'.δ i2 (d2 a) ∧ Items (d2 a) ((ys a).map F.e))
    (hb : ∀ cx', Inner cx' scope → ∀ a ∈ xs, ∀ b ∈ ys a, IfsOK W cx' n ((y, .val (F.e b)) :: (x, .val (E.e a)) :: ρ2) ifs (p a b) ∧ (p a b = true → EvOK W cx' n ((y, .val (F.e b)) :: (x, .val (E.e a)) :: ρ2) cx'.δ elt (G.e (f a b))))
    (hz : (xs.flatMap fun a => ((ys a).filter (p a)).map (f a)).length ≤ sizeLine)
    (hfr : (scope.names.all fun p => p.2 != .free || (names.lookup p.1 == some .cell || names.lookup p.1 == some .free)) = true)
    (hnd : (scope.names.map (·.1)).Nodup) (hkind : scope.kind = .function)
    (hρ2 : ∀ p, p ∈ ρ2 → p ∈ ρ ∧ scope.names.lookup p.1 = some .free ∧ ∃ d, p.2 = .val d)
    (hs2 : ∀ (env : Env) v, foldedSetIterable i2 env v = pure v := by intro _ _; rfl)
    (hs : ∀ v, foldedSetIterable i1 cx.env v = pure v := by intro _; rfl) :
    EvOK W cx n ρ β (.ListComp elt [⟨.Name x px, i1, [], 0⟩, ⟨.Name y py, i2, ifs, 0⟩] scope pos) ((encL G).e (xs.flatMap fun a => ((ys a).filter (p a)).map (f a))) :=
  Ev.comp ρ2 hiter hitems hK (fun cells L lo hi D h1 h2' h3 => Cl.twoE (inner_comp.stor hx) hDr (fun p hp => (hρ2 p hp).2.2) (fun q => Nat.lt_irrefl _ (Nat.lt_of_lt_of_le h2' q.1)) (.inr ⟨h1, Nat.lt_trans h2' h3⟩) ⟨h1, Nat.lt_trans h2' h3⟩ (inner_comp.stor hy) hDy (h2 _ inner_comp) (hb _ inner_comp) hz (hs2 _)) hfr hnd hkind hρ2 hs
theorem St.comp2 {E : Enc α} {F : Enc δ'} {G : Enc γ} {z : Str} {elt i1 i2 : Expr} {px py zp spos : Pos} {ifs : List Expr} {scope : Scope} {pos : Pos} {names : List (Str × NameKind)} {d : D} (ρ2 : Rho) (xs : List α) (d2 : α → Mine.D) (ys : α → List δ') (p : α → δ' → Bool) (f : α → δ' → γ)
    (hiter : EvOK W cx n ρ cx.δ i1 d) (hitems : Items d (xs.map E.e)) (hK : Kinds cx names) (hx : scope.names.lookup x = some .local ∨ scope.names.lookup x = some .cell) (hDr : Drop x ρ2 ρ2)
    (hy : scope.names.lookup y = some .local ∨ scope.names.lookup y = some .cell) (hDy : ∀ d, Drop y ((x, .val d) :: ρ2) ((x, .val d) :: ρ2))
    (h2 : ∀ cx', Inner cx' scope → ∀ a ∈ xs, EvOK W cx' n ((x, .val (E.e a)) :: ρ2) cx'.δ i2 (d2 a) ∧ Items (d2 a) ((ys a).map F.e))
    (hb : ∀ cx', Inner cx' scope → ∀ a ∈ xs, ∀ b ∈ ys a, IfsOK W cx' n ((y, .val (F.e b)) :: (x, .val (E.e a)) :: ρ2) ifs (p a b) ∧ (p a b = true → EvOK W cx' n ((y, .val (F.e b)) :: (x, .val (E.e a)) :: ρ2) cx'.δ elt (G.e (f a b))))
    (hzz : (xs.flatMap fun a => ((ys a).filter (p a)).map (f a)).length ≤ sizeLine)
    (hz : names.lookup z = some .local) (hd : Drop z ρ ρ') (hl : (zp.line == pos.line) = true) (hn : (scope.names.any fun (n, k) => n == z && (k == .local || k == .cell)) = false)
    (hfr : (scope.names.all fun p => p.2 != .free || (names.lookup p.1 == some .cell || names.lookup p.1 == some .free)) = true)
    (hnd : (scope.names.map (·.1)).Nodup) (hkind : scope.kind = .function)
    (hρ2 : ∀ p, p ∈ ρ2 → p ∈ ρ ∧ scope.names.lookup p.1 = some .free ∧ ∃ d, p.2 = .val d)
    (hs2 : ∀ (env : Env) v, foldedSetIterable i2 env v = pure v := by intro _ _; rfl)
    (hs : ∀ v, foldedSetIterable i1 cx.env v = pure v := by intro _; rfl) :
    StOK W cx n ρ (.Assign [.Name z zp] (.ListComp elt [⟨.Name x px, i1, [], 0⟩, ⟨.Name y py, i2, ifs, 0⟩] scope pos) spos) (.nxt ((z, .val ((encL G).e (xs.flatMap fun a => ((ys a).filter (p a)).map (f a)))) :: ρ')) :=
  St.assignComp ρ2 hiter hitems hK (fun cells L lo hi D h1 h2' h3 => Cl.twoE (inner_comp.stor hx) hDr (fun p hp => (hρ2 p hp).2.2) (fun q => Nat.lt_irrefl _ (Nat.lt_of_lt_of_le h2' q.1)) (.inr ⟨h1, Nat.lt_trans h2' h3⟩) ⟨h1, Nat.lt_trans h2' h3⟩ (inner_comp.stor hy) hDy (h2 _ inner_comp) (hb _ inner_comp) hzz (hs2 _)) hz hd hl hn hfr hnd hkind hρ2 hs
end
end Mine
-- MB26
namespace Mine

section
variable {W : Wc} {cx : Cx} {n : Nat} {ρ ρ' ρ2 : Rho} {β : Addr → Prop} {A : Around} {s s' : Shared} {x y : Str} {a : Addr} {α γ δ' : Type}

theorem Call.body {name qual : Str} {params : Arguments} {body : List Stmt} {scope : Scope} {dV kV doc pm cdv ct oc : Value} {an od : Option Addr} {osl : Array (Option Value)} {f : Addr} (xs : List Str) {ds : List D} {d : D}
    (ho : W.K.lookup f = some ⟨oc, od, .func (fnOf name qual params body scope dV kV doc pm an cdv ct), osl⟩) (hcd : codeIn W.K cdv qual = true)
    (hbind : ∀ vs, vs.length = xs.length → bindArgs (fnOf name qual params body scope dV kV doc pm an cdv ct) ⟨vs, []⟩ = pure (xs.zip vs))
    (hlen : ds.length = xs.length)
    (hxs : xs.Nodup) (hkx : ∀ x ∈ xs, scope.names.lookup x = some .local ∨ scope.names.lookup x = some .cell) (hnd : (scope.names.map (·.1)).Nodup) (hnf : ∀ y ∈ scope.names, y.2 ≠ .free)
    (hbody : ∀ cx, Inner cx scope → ExOK W cx n (startRho xs ds) body (.ret d))
    (hco : scope.isCoroutine = false := by rfl) (hgen : scope.isGenerator = false := by rfl) (hk : scope.kind = .function := by rfl) : CallOK W (n + 1) (.ref f) ds d :=
  Call.fn ho hcd hbind hlen hxs hkx hnd hnf (fun β L hi => hbody _ ⟨kinds_fn hnf, fun _ _ => rfl⟩) hco hgen hk

theorem Ex.assign {px pos : Pos} {e : Expr} {d : D} {rest : List Stmt} {o : O} (h : EvOK W cx n ρ cx.δ e d) (hx : Stor cx x) (hd : Drop x ρ ρ') (hr : ExOK W cx n ((x, .val d) :: ρ') rest o)
    (hs : swapsWith e (some (.Name x px)) pos.line cx.env = pure false := by rfl) : ExOK W cx n ρ (.Assign [.Name x px] e pos :: rest) o := Ex.cons (St.assign h hx hd hs) hr

theorem Ex.assignC {px pos : Pos} {e : Expr} {d0 d : D} {rest : List Stmt} {o : O} (h : EvOK W cx n ρ cx.δ e d0) (hc : d0 = d) (hx : Stor cx x) (hd : Drop x ρ ρ') (hr : ExOK W cx n ((x, .val d) :: ρ') rest o)
    (hs : swapsWith e (some (.Name x px)) pos.line cx.env = pure false) : ExOK W cx n ρ (.Assign [.Name x px] e pos :: rest) o := Ex.cons (St.assign (Ev.conv h hc) hx hd hs) hr

/-- an item of a list of the block's own -/
theorem Ev.itemOwn {E : Enc α} {p : Pos} {slice : Expr} {pos : Pos} {xs : List α} {i : Int} (hm : (x, Ent.own (xs.map E.e)) ∈ ρ) (h2 : EvOK W cx n ρ Mine.no slice (.int i)) (h0 : 0 ≤ i) (hi : i < xs.length) (hz : i < 2 ^ 63)
    (hs : ∀ o i, subscripted slice false o i = operate [o, i] (getItem o i) := by intro _ _; with_unfolding_all rfl)
    (hdb : (x == ("__debug__" : Str)) = false := by rfl) (hc : (x == ("__classdict__" : Str)) = false := by rfl) :
    EvOK W cx n ρ β (.Subscript (.Name x p) slice pos) (E.e (xs.getD i.toNat (E.d .none))) := by
  have hlt : i.toNat < xs.length := by omega
  refine Ev.subOwn hm h2 h0 ?_ hz hs hdb hc
  rw [List.getElem?_map, List.getElem?_eq_getElem hlt, List.getD_eq_getElem?_getD, List.getElem?_eq_getElem hlt]; rfl
end
theorem CmpV.inOcc {W : Wc} {x y : Str} : CmpV W 3 .In (.str y) (.str x) (occ y x) := CmpV.inStr
theorem cap_nil {ρ : Rho} {names : List (Str × NameKind)} : ∀ p, p ∈ ([] : Rho) → p ∈ ρ ∧ names.lookup p.1 = some .free ∧ ∃ d, p.2 = Ent.val d := fun _ h => nomatch h
theorem cap_cons {ρ ρ2 : Rho} {names : List (Str × NameKind)} {x : Str} {d : D} (hm : (x, Ent.val d) ∈ ρ) (hl : names.lookup x = some .free) (hr : ∀ p, p ∈ ρ2 → p ∈ ρ ∧ names.lookup p.1 = some .free ∧ ∃ d, p.2 = Ent.val d) :
    ∀ p, p ∈ ((x, Ent.val d) :: ρ2) → p ∈ ρ ∧ names.lookup p.1 = some .free ∧ ∃ d, p.2 = Ent.val d := fun p hp => by
  rcases List.mem_cons.mp hp with rfl | hp
  · exact ⟨hm, hl, d, rfl⟩
  · exact hr p hp
theorem Items.uptoS {n : Int} (h1 : -1000000 < n) (h2 : n < 1000000) : Items (.rng 0 n 1) ((Mine.upto n).map encI.e) :=
  let h := rng1_ok (a := 0) (b := n) (by omega) h2 (by omega) h1
  Items.upto h.1 (by rw [h.2, Int.sub_zero])
theorem Items.fromtoS {a b : Int} (h1 : -1000000 < a) (h2 : b < 1000000) (h3 : a < 1000000) (h4 : -1000000 < b) : Items (.rng a b 1) ((Mine.fromto a b).map encI.e) :=
  let h := rng1_ok h1 h2 h3 h4
  Items.fromto h.1 h.2
theorem Items.downtoS {a b : Int} (h1 : -1000000 < a) (h2 : b < 1000000) (h3 : a < 1000000) (h4 : -1000000 < b) : Items (.rng a b (-1)) ((Mine.downto a b).map encI.e) :=
  let h := rngm_ok h1 h2 h3 h4
  Items.downto h.1 h.2
end Mine

open Mine
local macro_rules | `(tactic| walk_at "items") => `(tactic| first
  | with_reducible exact Items.enc
  | ((with_reducible refine' Items.uptoS ?h1 ?h2) <;> walk_at "side")
  | ((with_reducible refine' Items.fromtoS ?h1 ?h2 ?h3 ?h4) <;> walk_at "side")
  | ((with_reducible refine' Items.downtoS ?h1 ?h2 ?h3 ?h4) <;> walk_at "side")
  | fail "no")
local macro_rules | `(tactic| walk_at "cap") => `(tactic| first
  | exact cap_nil
  | ((with_reducible refine' cap_cons ?m ?l ?r); (case m => walk_at "mem"); (case l => rfl); (case r => walk_at "cap"))
  | fail "no")
local macro_rules | `(tactic| walk_at "mem") => `(tactic| with_reducible first
  | exact List.mem_cons_self
  | ((with_reducible refine' List.mem_cons_of_mem _ ?_); walk_at "mem")
  | fail "no")
local macro_rules | `(tactic| walk_at "drop") => `(tactic| first
  | with_reducible exact Drop.nil
  | ((with_reducible refine' Drop.skip ?hk ?hr); (case hk => rfl); (case hr => walk_at "drop"))
  | ((with_reducible refine' Drop.keep ?hk ?hr); (case hk => rfl); (case hr => walk_at "drop"))
  | fail "no")
local macro_rules | `(tactic| walk_at "side") => `(tactic| first
  | (with_reducible assumption)
  | omega
  | decide
  | (simp only [List.length_append, List.length_take, List.length_drop, List.length_cons, List.length_nil, List.length_map, List.length_replicate, List.length_reverse]; omega)
  | (simp; done)
  | (simp; omega)
  | fail "no")
local macro_rules | `(tactic| walk_at "bin") => `(tactic| first
  | with_reducible exact BinV.addInt
  | with_reducible exact BinV.subInt
  | ((with_reducible refine' BinV.modInt ?_); walk_at "side")
  | ((with_reducible refine' BinV.divInt ?_ ?_) <;> walk_at "side")
  | ((with_reducible refine' BinV.mulInt ?_); walk_at "mul")
  | ((with_reducible refine' BinV.addStr ?_); walk_at "side")
  | ((with_reducible refine' BinV.addList ?_); walk_at "side")
  | fail "no")
local macro_rules | `(tactic| walk_at "cmp") => `(tactic| first
  | with_reducible exact CmpV.eqInt
  | with_reducible exact CmpV.gtStr
  | with_reducible exact CmpV.inOcc
  | fail "no")
local macro_rules | `(tactic| walk_at "keeps") => `(tactic| first
  | ((with_reducible refine' Keeps.pure ?h); (case h => rfl))
  | ((with_reducible refine' Keeps.K ?h); (case h => rfl))
  | fail "no")
local macro_rules | `(tactic| walk_at "call") => `(tactic| first
  | ((with_reducible refine' Call.len ?_); walk_at "side")
  | ((with_reducible refine' Call.ord ?_); walk_at "side")
  | with_reducible exact Call.range1
  | with_reducible exact Call.range2
  | with_reducible exact Call.sum
  | fail "no")
local macro_rules | `(tactic| walk_at "args") => `(tactic| first
  | with_reducible exact Args.nil
  | ((with_reducible refine' Args.cons ?h1 ?h2 ?he); (case he => (intro _; rfl)); (case h1 => walk_at "ev"); (case h2 => walk_at "args"))
  | fail "no")
local macro_rules | `(tactic| walk_at "kinds") => `(tactic| exact Inner.k (by assumption))
local macro_rules | `(tactic| walk_at "stor") => `(tactic| first
  | exact Inner.stor (by assumption) (.inl rfl)
  | exact Inner.stor (by assumption) (.inr rfl)
  | fail "no")
local macro_rules | `(tactic| walk_at "gk") => `(tactic| exact Kinds.glob (Inner.k (by assumption)) rfl)
local macro_rules | `(tactic| walk_at "part") => `(tactic| first
  | with_reducible exact PartOK.none
  | ((with_reducible refine' PartOK.some ?h); (case h => walk_at "ev"))
  | fail "no")
local macro_rules | `(tactic| walk_at "ev") => `(tactic| first
  | with_reducible exact Ev.int
  | with_reducible exact Ev.str
  | ((with_reducible refine' Ev.name ?hm ?hd ?hc); (case hd => rfl); (case hc => rfl); (case hm => walk_at "mem"))
  | ((with_reducible refine' Ev.bin ?h1 ?h2 ?hv ?hn); (case hn => decide); (case h1 => walk_at "ev"); (case h2 => walk_at "ev"); (case hv => walk_at "bin"))
  | ((with_reducible refine' Ev.cmp (k := 3) ?h1 ?h2 ?hv ?hn ?hm); (case hn => decide); (case hm => with_unfolding_all rfl); (case h1 => walk_at "ev"); (case h2 => walk_at "ev"); (case hv => walk_at "cmp"))
  | ((with_reducible refine' Ev.cmp (k := 6) ?h1 ?h2 ?hv ?hn ?hm); (case hn => decide); (case hm => with_unfolding_all rfl); (case h1 => walk_at "ev"); (case h2 => walk_at "ev"); (case hv => walk_at "cmp6"))
  | ((with_reducible refine' Ev.neg ?h); (case h => walk_at "ev"))
  | ((with_reducible refine' Ev.slTo ?h1 ?h2 ?h0 ?hz); (case h1 => walk_at "ev"); (case h2 => walk_at "ev"); (case h0 => walk_at "side"); (case hz => walk_at "side"))
  | ((with_reducible refine' Ev.slFrom ?h1 ?h2 ?h0 ?hz); (case h1 => walk_at "ev"); (case h2 => walk_at "ev"); (case h0 => walk_at "side"); (case hz => walk_at "side"))
  | ((with_reducible refine' Ev.slRun ?h1 ?h2 ?h3 ?h0 ?h4 ?hz); (case h1 => walk_at "ev"); (case h2 => walk_at "ev"); (case h3 => walk_at "ev"); (case h0 => walk_at "side"); (case h4 => walk_at "side"); (case hz => walk_at "side"))
  | ((with_reducible refine' Ev.slE ?h1 ?hl ?hh ?ht ?h0 ?hz); (case h1 => walk_at "ev"); (case hl => walk_at "part"); (case hh => walk_at "part"); (case ht => walk_at "part"); (case h0 => decide); (case hz => walk_at "side"))
  | ((with_reducible refine' Ev.item ?h1 ?h2 ?h0 ?hi ?hz ?hs); (case hs => (intro _ _; with_unfolding_all rfl)); (case h1 => walk_at "ev"); (case h2 => walk_at "ev"); (case h0 => walk_at "side"); (case hi => walk_at "side"); (case hz => walk_at "side"))
  | ((with_reducible refine' Ev.item (E := encI) ?h1 ?h2 ?h0 ?hi ?hz ?hs); (case hs => (intro _ _; with_unfolding_all rfl)); (case h1 => walk_at "ev"); (case h2 => walk_at "ev"); (case h0 => walk_at "side"); (case hi => walk_at "side"); (case hz => walk_at "side"))
  | ((with_reducible refine' Ev.item (E := encB) ?h1 ?h2 ?h0 ?hi ?hz ?hs); (case hs => (intro _ _; with_unfolding_all rfl)); (case h1 => walk_at "ev"); (case h2 => walk_at "ev"); (case h0 => walk_at "side"); (case hi => walk_at "side"); (case hz => walk_at "side"))
  | ((with_reducible refine' Ev.item (E := encS) ?h1 ?h2 ?h0 ?hi ?hz ?hs); (case hs => (intro _ _; with_unfolding_all rfl)); (case h1 => walk_at "ev"); (case h2 => walk_at "ev"); (case h0 => walk_at "side"); (case hi => walk_at "side"); (case hz => walk_at "side"))
  | ((with_reducible refine' Ev.item (E := encO) ?h1 ?h2 ?h0 ?hi ?hz ?hs); (case hs => (intro _ _; with_unfolding_all rfl)); (case h1 => walk_at "ev"); (case h2 => walk_at "ev"); (case h0 => walk_at "side"); (case hi => walk_at "side"); (case hz => walk_at "side"))
  | ((with_reducible refine' Ev.itemOwn ?h1 ?h2 ?h0 ?hi ?hz ?hs ?hd ?hc); (case hs => (intro _ _; with_unfolding_all rfl)); (case hd => rfl); (case hc => rfl); (case h1 => walk_at "mem"); (case h2 => walk_at "ev"); (case h0 => walk_at "side"); (case hi => walk_at "side"); (case hz => walk_at "side"))
  | ((with_reducible refine' Ev.itemOwn (E := encI) ?h1 ?h2 ?h0 ?hi ?hz ?hs ?hd ?hc); (case hs => (intro _ _; with_unfolding_all rfl)); (case hd => rfl); (case hc => rfl); (case h1 => walk_at "mem"); (case h2 => walk_at "ev"); (case h0 => walk_at "side"); (case hi => walk_at "side"); (case hz => walk_at "side"))
  | ((with_reducible refine' Ev.subStr ?h1 ?h2 ?h0 ?hi ?hz ?hs); (case hs => (intro _ _; with_unfolding_all rfl)); (case h1 => walk_at "ev"); (case h2 => walk_at "ev"); (case h0 => walk_at "side"); (case hi => walk_at "sidestr"); (case hz => walk_at "fits"))
  | ((with_reducible refine' Ev.find ?h1 ?h2 ?he ?hs); (case he => rfl); (case hs => rfl); (case h1 => walk_at "ev"); (case h2 => walk_at "ev"))
  | ((with_reducible refine' Ev.list ?h1 ?h2); (case h1 => walk_at "args"); (case h2 => walk_at "side"))
  | ((with_reducible refine' Ev.call ?hk ?hg ?hp ?ha ?hc ?he ?hl ?hd); (case he => rfl); (case hl => rfl); (case hd => rfl); (case hk => walk_at "gk"); (case hg => walk_at "glob"); (case hp => walk_at "keeps"); (case ha => walk_at "args"); (case hc => walk_at "call"))
  | fail "no")
local macro_rules | `(tactic| walk_at "assign") => `(tactic| first
  | ((refine' Ex.assign ?h ?hx ?hd ?hr ?hs); (case hs => rfl); (case h => walk_at "ev"); (case hx => walk_at "stor"); (case hd => walk_at "drop"))
  | fail "no")
local macro_rules | `(tactic| walk_at "ts") => `(tactic| first
  | ((with_reducible refine' Ts.cmp (k := 3) ?h1 ?h2 ?hv ?hn ?hm); (case hn => decide); (case hm => with_unfolding_all rfl); (case h1 => walk_at "ev"); (case h2 => walk_at "ev"); (case hv => walk_at "cmp"))
  | ((with_reducible refine' Ts.cmp (k := 6) ?h1 ?h2 ?hv ?hn ?hm); (case hn => decide); (case hm => with_unfolding_all rfl); (case h1 => walk_at "ev"); (case h2 => walk_at "ev"); (case hv => walk_at "cmp6"))
  | ((with_reducible refine' Ts.value ?h1 ?he); (case he => rfl); (case h1 => walk_at "ev"))
  | fail "no")

theorem Mine.fits_small {i : Int} (h0 : 0 ≤ i) (h : i < 1000000) : fitsSsize i = true := fitsSsize_of (N := 1000000) (by omega) h (by decide)
local macro_rules | `(tactic| walk_at "fits") => `(tactic| first
  | (refine' Mine.fits_small ?h1 ?h2 <;> walk_at "side")
  | fail "no")
theorem Mine.str_lt {i : Int} {x : Str} (k : Nat) (hk : x.length = k) (h : i < (k : Int)) : i < (x.length : Int) := by rw [hk]; exact h
local macro_rules | `(tactic| walk_at "sidestr") => `(tactic| first
  | assumption
  | (refine' Mine.str_lt 10 ?h2 ?h1; (case h2 => decide +kernel); (case h1 => walk_at "side"))
  | (refine' Mine.str_lt 9 ?h2 ?h1; (case h2 => decide +kernel); (case h1 => walk_at "side"))
  | fail "no")
-- MB27
namespace Mine

/-- one sign replaced -/
def subC (c : Nat) (z : List Nat) (k : Nat) : List Nat := if k = c then z else [k]
theorem sub_free (c : Nat) (z : List Nat) : ∀ l : List Nat, c ∉ l → l.flatMap (subC c z) = l
  | [], _ => rfl
  | k :: r, h => by
    have h1 : ¬ k = c := fun e => h (e ▸ List.mem_cons_self ..)
    have h2 : c ∉ r := fun m => h (List.mem_cons_of_mem _ m)
    rw [List.flatMap_cons, sub_free c z r h2]
    unfold subC
    rw [if_neg h1]; rfl
theorem sub_join (c : Nat) (z : Str) : ∀ parts : List Str, (∀ p ∈ parts, c ∉ p.cps.toList) → (Str.join ⟨#[c]⟩ parts).cps.toList.flatMap (subC c z.cps.toList) = (Str.join z parts).cps.toList
  | [], _ => rfl
  | [p], h => sub_free c _ _ (h p (List.mem_singleton.mpr rfl))
  | p :: q :: r, h => by
    have ih := sub_join c z (q :: r) fun a ha => h a (List.mem_cons_of_mem _ ha)
    show (p ++ ⟨#[c]⟩ ++ Str.join ⟨#[c]⟩ (q :: r)).cps.toList.flatMap _ = (p ++ z ++ Str.join z (q :: r)).cps.toList
    simp only [Str.cps_append, Array.toList_append, List.flatMap_append]
    rw [ih, sub_free c _ _ (h p (List.mem_cons_self ..))]
    simp [subC]
theorem replace_flat (x z : Str) (c : Nat) : (Txt.replace x ⟨#[c]⟩ z).cps.toList = x.cps.toList.flatMap (subC c z.cps.toList) := by
  rw [StrLaws.replace_one, ← sub_join c z _ (StrLaws.split_free x c), StrLaws.join_split]
theorem esc1_flat (x z : Str) (c : Nat) : (esc1 ⟨#[c]⟩ z x).cps.toList = x.cps.toList.flatMap (subC c z.cps.toList) := by
  unfold esc1 occ
  rw [StrLaws.found_one]
  by_cases h : c ∈ x.cps.toList
  · rw [decide_eq_true h, if_pos rfl, replace_flat]
  · rw [decide_eq_false h, if_neg (by decide), sub_free c _ _ h]

/-- what the rules make of one sign -/
def cm (rules : List (Nat × Str)) (k : Nat) : List Nat := rules.foldl (fun s r => s.flatMap (subC r.1 r.2.cps.toList)) [k]
def escs (rules : List (Nat × Str)) (t : Str) : Str := rules.foldl (fun t r => esc1 ⟨#[r.1]⟩ r.2 t) t
theorem fold_flat : ∀ (rules : List (Nat × Str)) (l : List Nat), rules.foldl (fun s r => s.flatMap (subC r.1 r.2.cps.toList)) l = l.flatMap (cm rules)
  | [], l => by
    show l = l.flatMap fun k => [k]
    rw [List.flatMap_singleton']
  | r :: rs, l => by
    rw [List.foldl_cons, fold_flat rs, List.flatMap_assoc]
    congr 1
    funext k
    show _ = (r :: rs).foldl (fun s r => s.flatMap (subC r.1 r.2.cps.toList)) [k]
    rw [List.foldl_cons, fold_flat rs]
    simp
theorem escs_flat (rules : List (Nat × Str)) (t : Str) : (escs rules t).cps.toList = t.cps.toList.flatMap (cm rules) := by
  rw [← fold_flat]
  unfold escs
  induction rules generalizing t with
  | nil => rfl
  | cons r rs ih => rw [List.foldl_cons, List.foldl_cons, ih, esc1_flat]
theorem cm_other {k : Nat} : ∀ (rules : List (Nat × Str)), (∀ r ∈ rules, k ≠ r.1) → cm rules k = [k]
  | [], _ => rfl
  | r :: rs, h => by
    show (r :: rs).foldl _ [k] = _
    rw [List.foldl_cons]
    have e : [k].flatMap (subC r.1 r.2.cps.toList) = [k] := by simp [subC, h r (.head _)]
    rw [e]
    exact cm_other rs fun q hq => h q (.tail _ hq)
theorem cm_le {rules : List (Nat × Str)} (h : ∀ r ∈ rules, (cm rules r.1).length ≤ 6) (k : Nat) : (cm rules k).length ≤ 6 := by
  by_cases hk : ∃ r ∈ rules, k = r.1
  · obtain ⟨r, hr, rfl⟩ := hk; exact h r hr
  · rw [cm_other rules fun r hr q => hk ⟨r, hr, q⟩]; show 1 ≤ 6; omega
theorem flat_le {f : Nat → List Nat} (h : ∀ k, (f k).length ≤ 6) : ∀ l : List Nat, (l.flatMap f).length ≤ 6 * l.length
  | [] => by simp
  | k :: r => by
    rw [List.flatMap_cons, List.length_append, List.length_cons]
    have := h k
    have := flat_le h r
    omega
theorem escs_le {rules : List (Nat × Str)} (h : ∀ r ∈ rules, (cm rules r.1).length ≤ 6) (t : Str) : (escs rules t).length ≤ 6 * t.length := by
  have := flat_le (cm_le h) t.cps.toList
  rw [← escs_flat] at this
  simpa [Str.length] using this

abbrev amp : Nat × Str := (38, "&amp;")
abbrev lts : Nat × Str := (60, "&lt;")
abbrev gts : Nat × Str := (62, "&gt;")
abbrev quo : Nat × Str := (34, "&quot;")
def rCdata : List (Nat × Str) := [amp, lts, gts]
def rAttrib : List (Nat × Str) := [amp, lts, gts, quo, (13, "&#13;"), (10, "&#10;"), (9, "&#09;")]
def rHtml : List (Nat × Str) := [amp, gts, quo]
def rCdataC : List (Nat × Str) := [amp, lts, gts, (13, "&#xD;")]
def rAttribC : List (Nat × Str) := [amp, lts, quo, (9, "&#x9;"), (10, "&#xA;"), (13, "&#xD;")]
/-- the rules of the five escapes, as the laws number them -/
def rulesOf (hand : Int) : List (Nat × Str) := if hand = 0 then rCdata else if hand = 1 then rAttrib else if hand = 2 then rHtml else if hand = 3 then rCdataC else rAttribC

section
variable {W : Wc} {cx : Cx} {n : Nat} {ρ ρ' : Rho} {β : Addr → Prop} {x : Str}
end
theorem len1 {vs : List Value} (h : vs.length = 1) : ∃ a, vs = [a] := by
  match vs, h with
  | [a], _ => exact ⟨a, rfl⟩
theorem len2 {vs : List Value} (h : vs.length = 2) : ∃ a b, vs = [a, b] := by
  match vs, h with
  | [a, b], _ => exact ⟨a, b, rfl⟩
theorem mulOk_small {a b : Int} (h1 : -1000000 ≤ a) (h2 : a ≤ 1000000) : IntMulOk a b := IntMulOk.of_left (intBits_le_iff.mpr (by omega))
end Mine
open Mine
local macro_rules | `(tactic| walk_at "esc") => `(tactic| first
  | (refine' Ex.cons (St.esc ?hm ?hx ?hd ?hyz ?hz ?ht ?he ?hmk ?hs ?hdb ?hc) ?hr; (case he => rfl); (case hmk => with_unfolding_all rfl); (case hs => rfl); (case hdb => rfl); (case hc => rfl); (case hyz => rfl); (case hz => decide); (case hm => walk_at "mem"); (case hx => walk_at "stor"); (case hd => walk_at "drop"))
  | fail "no")
local macro_rules | `(tactic| walk_at "ret") => `(tactic| first
  | ((refine' Ex.ret (St.ret (Ev.conv ?h ?e))); (case h => walk_at "ev"))
  | fail "no")
-- MB28
namespace Mine
section
variable {W : Wc} {cx : Cx} {n : Nat} {ρ ρ' ρ2 : Rho} {β : Addr → Prop} {A : Around} {s s' : Shared} {x y : Str} {a : Addr} {α γ δ' : Type}

/-- a loop that runs through, a state folded -/
theorem St.forFold {σ : Type} {E : Enc α} {px pos : Pos} {iter : Expr} {body : List Stmt} {d : D} (xs : List α) (I : σ → Prop) (ρs : σ → Rho) (step : σ → α → σ) (st0 : σ)
    (hiter : EvOK W cx n ρ cx.δ iter d) (hitems : Items d (xs.map E.e)) (hx : Stor cx x) (hD : ∀ st, Drop x (ρs st) (ρs st)) (h0 : ∀ p, p ∈ ρs st0 → p ∈ ρ) (hI : I st0)
    (hturn : ∀ st a, I st → a ∈ xs → I (step st a) ∧ ∃ ρ', ExOK W cx n ((x, .val (E.e a)) :: ρs st) body (.nxt ρ') ∧ ∀ p, p ∈ ρs (step st a) → p ∈ ρ')
    (hs : ∀ v, foldedSetIterable iter cx.env v = pure v := by intro _; rfl) :
    StOK W cx n ρ (.For (.Name x px) iter body [] pos) (.nxt (ρs (xs.foldl step st0))) := by
  have key := St.for_ (W := W) (cx := cx) (n := n) (ρ := ρ) (x := x) (px := px) (pos := pos) (iter := iter) (body := body) (d := d) (ds := xs.map E.e)
    (fun ds (st : σ) => ∃ as : List α, ds = as.map E.e ∧ (∀ a ∈ as, a ∈ xs) ∧ I st) ρs (fun ds st => .nxt (ρs ((ds.map E.d).foldl step st))) st0 hiter hitems hx hD h0
    ⟨xs, rfl, fun _ h => h, hI⟩ (fun st _ => rfl) (fun e ds st ⟨as, h1, h2, h3⟩ => by
      cases as with
      | nil => cases h1
      | cons a as =>
        rw [List.map_cons] at h1
        injection h1 with e1 e2
        subst e1 e2
        obtain ⟨t1, ρ', t2, t3⟩ := hturn st a h3 (h2 a (.head _))
        refine ⟨.nxt ρ', t2, step st a, t3, ⟨as, rfl, fun b hb => h2 b (.tail _ hb), t1⟩, ?_⟩
        show O.nxt _ = O.nxt _
        rw [List.map_cons, List.foldl_cons, E.h]) hs
  have e : (xs.map E.e).map E.d = xs := by
    rw [List.map_map]
    exact (List.map_congr_left fun a _ => E.h a).trans (List.map_id _)
  rw [e] at key
  exact key

/-- the same, what holds told of the items gone by -/
theorem St.forFoldP {σ : Type} {E : Enc α} {px pos : Pos} {iter : Expr} {body : List Stmt} {d : D} (xs : List α) (I : List α → σ → Prop) (ρs : σ → Rho) (step : σ → α → σ) (st0 : σ)
    (hiter : EvOK W cx n ρ cx.δ iter d) (hitems : Items d (xs.map E.e)) (hx : Stor cx x) (hD : ∀ st, Drop x (ρs st) (ρs st)) (h0 : ∀ p, p ∈ ρs st0 → p ∈ ρ) (hI : I [] st0)
    (hturn : ∀ pre a post st, xs = pre ++ a :: post → I pre st → I (pre ++ [a]) (step st a) ∧ ∃ ρ', ExOK W cx n ((x, .val (E.e a)) :: ρs st) body (.nxt ρ') ∧ ∀ p, p ∈ ρs (step st a) → p ∈ ρ')
    (hs : ∀ v, foldedSetIterable iter cx.env v = pure v := by intro _; rfl) :
    StOK W cx n ρ (.For (.Name x px) iter body [] pos) (.nxt (ρs (xs.foldl step st0))) := by
  have key := St.for_ (W := W) (cx := cx) (n := n) (ρ := ρ) (x := x) (px := px) (pos := pos) (iter := iter) (body := body) (d := d) (ds := xs.map E.e)
    (fun ds (st : σ) => ∃ pre as : List α, xs = pre ++ as ∧ ds = as.map E.e ∧ I pre st) ρs (fun ds st => .nxt (ρs ((ds.map E.d).foldl step st))) st0 hiter hitems hx hD h0
    ⟨[], xs, rfl, rfl, hI⟩ (fun st _ => rfl) (fun e ds st ⟨pre, as, h2, h1, h3⟩ => by
      cases as with
      | nil => cases h1
      | cons a as =>
        rw [List.map_cons] at h1
        injection h1 with e1 e2
        subst e1 e2
        obtain ⟨t1, ρ', t2, t3⟩ := hturn pre a as st h2 h3
        refine ⟨.nxt ρ', t2, step st a, t3, ⟨pre ++ [a], as, by rw [h2]; simp, rfl, t1⟩, ?_⟩
        show O.nxt _ = O.nxt _
        rw [List.map_cons, List.foldl_cons, E.h]) hs
  have e : (xs.map E.e).map E.d = xs := by
    rw [List.map_map]
    exact (List.map_congr_left fun a _ => E.h a).trans (List.map_id _)
  rw [e] at key
  exact key
theorem Inner.plus {scope : Scope} (i : Inner cx scope) : Inner (cx.plus a) scope := ⟨fun y k e => i.k y k e, fun y h => i.o y h⟩

/-- a list of one int, so many times -/
theorem BinV.rep {z x : Int} (hlo : 0 ≤ x) (hhi : x < 1000000) : BinV W .Mult (.list [.int z]) (.int x) ((encL encI).e (List.replicate x.toNat z)) := by
  have h := BinV.mulList (W := W) (xs := [.int z]) (x := x) (by simp) (by omega) (by omega) (by simp; omega)
  have e : (List.replicate x.toNat [D.int z]).flatten = (List.replicate x.toNat z).map encI.e := by
    induction x.toNat with
    | zero => rfl
    | succ k ih => rw [List.replicate_succ, List.flatten_cons, List.replicate_succ, List.map_cons, ih]; rfl
  rw [e] at h
  exact h
theorem BinV.repI {z x : Int} (hlo : 0 ≤ x) (hhi : x < 1000000) : BinV W .Mult ((encL encI).e [z]) (.int x) ((encL encI).e (List.replicate x.toNat z)) := BinV.rep hlo hhi
theorem BinV.catE {E : Enc α} {xs ys : List α} (h : xs.length + ys.length ≤ sizeLine) : BinV W .Add ((encL E).e xs) ((encL E).e ys) ((encL E).e (xs ++ ys)) := by
  have := BinV.addList (W := W) (xs := xs.map E.e) (ys := ys.map E.e) (by simpa using h)
  rw [← List.map_append] at this
  exact this
theorem Call.lenE {E : Enc α} {xs : List α} (hz : xs.length < 2 ^ 62) : CallOK W n (.builtin "len") [(encL E).e xs] (.int xs.length) := by
  have := Call.len (W := W) (n := n) (xs := xs.map E.e) (by simpa using hz)
  rw [List.length_map] at this
  exact this
theorem Call.max2 {a b : Int} : CallOK W n (.builtin "max") [(encL encI).e [a, b]] (.int (Max.max a b)) := by
  have := Call.max (W := W) (n := n) (ns := [a, b]) (M := Max.max a b) (by simp only [List.mem_cons, List.not_mem_nil, or_false]; omega) (fun c hc => by
    simp only [List.mem_cons, List.not_mem_nil, or_false] at hc; omega)
  exact this
theorem ArgsI.nil : ArgsOK W cx n ρ β [] (([] : List Int).map .int) := Args.nil
theorem ArgsI.cons {e : Expr} {es : List Expr} {a : Int} {ns : List Int} (h1 : EvOK W cx n ρ β e (.int a)) (h2 : ArgsOK W cx n ρ β es (ns.map .int)) (he : ∀ env, starEach (e :: es) env = (false, eval e env) :: starEach es env) : ArgsOK W cx n ρ β (e :: es) ((a :: ns).map .int) := Args.cons h1 h2 he
theorem Ev.listI {es : List Expr} {pos : Pos} {ns : List Int} (h : ArgsOK W cx n ρ β es (ns.map .int)) (hz : ns.length ≤ sizeLine) : EvOK W cx n ρ β (.List es pos) ((encL encI).e ns) := Ev.list h (by simpa using hz)
theorem getD_all {P : α → Prop} {xs : List α} {i : Nat} {z : α} (h : ∀ a ∈ xs, P a) (hi : i < xs.length) : P (xs.getD i z) := by
  rw [List.getD_eq_getElem?_getD, List.getElem?_eq_getElem hi]
  exact h _ (List.getElem_mem hi)
theorem sub_nil {ρ : Rho} : ∀ p, p ∈ ([] : Rho) → p ∈ ρ := fun _ h => nomatch h
theorem sub_cons {q : Str × Ent} {ρ ρ2 : Rho} (h : q ∈ ρ) (hr : ∀ p, p ∈ ρ2 → p ∈ ρ) : ∀ p, p ∈ q :: ρ2 → p ∈ ρ := fun p hp => by
  rcases List.mem_cons.mp hp with rfl | hp
  · exact h
  · exact hr p hp
end
end Mine
open Mine
local macro_rules | `(tactic| walk_at "sub") => `(tactic| first
  | exact sub_nil
  | ((with_reducible refine' sub_cons ?h ?r); (case h => walk_at "mem"); (case r => walk_at "sub"))
  | fail "no")
local macro_rules | `(tactic| walk_at "bin") => `(tactic| first
  | ((with_reducible refine' BinV.repI ?h1 ?h2) <;> walk_at "side")
  | ((with_reducible refine' BinV.catE (E := encI) ?h); (case h => walk_at "side"))
  | ((with_reducible refine' BinV.catE (E := encS) ?h); (case h => walk_at "side"))
  | ((with_reducible refine' BinV.rep ?h1 ?h2) <;> walk_at "side")
  | fail "no")
local macro_rules | `(tactic| walk_at "call") => `(tactic| first
  | ((with_reducible refine' Call.lenE ?h); (case h => walk_at "side"))
  | with_reducible exact Call.max2
  | exact Call.range3 (by decide) (by decide)
  | fail "no")
local macro_rules | `(tactic| walk_at "ev") => `(tactic| first
  | ((with_reducible refine' Ev.ownName ?hm ?hb ?hd ?hc); (case hd => rfl); (case hc => rfl); (case hb => exact fun _ q => q); (case hm => walk_at "mem"))
  | fail "no")
local macro_rules | `(tactic| walk_at "argsI") => `(tactic| first
  | with_reducible exact ArgsI.nil
  | ((with_reducible refine' ArgsI.cons ?h1 ?h2 ?he); (case he => (intro _; rfl)); (case h1 => walk_at "ev"); (case h2 => walk_at "argsI"))
  | fail "no")
local macro_rules | `(tactic| walk_at "argsS") => `(tactic| first
  | fail "no")
local macro_rules | `(tactic| walk_at "ev") => `(tactic| first
  | ((with_reducible refine' Ev.listI ?h ?hz); (case h => walk_at "argsI"); (case hz => walk_at "side"))
  | fail "no")
-- MB29
namespace Mine

theorem CellsAre.mem' {cm : Str → Option Value} : ∀ {cs : List (Str × Addr)} {cells : List (Addr × Obj)}, CellsAre cm cs cells → ∀ {x : Str} {c : Addr}, (x, c) ∈ cs → ∃ o, (c, o) ∈ cells ∧ o.data = .cell (cm x)
  | _, _, .nil, _, _, h => nomatch h
  | _, _, .cons hd r, x, c, h => by
    rcases List.mem_cons.mp h with h | h
    · cases h; exact ⟨_, .head _, hd⟩
    · obtain ⟨o, h1, h2⟩ := CellsAre.mem' r h
      exact ⟨o, .tail _ h1, h2⟩

/-- the frame of the law, called from the top -/
def cxT (name : Str) (scope : Scope) (L a : Addr) (cd : Value) (P : Addr) (hi : Nat) : Cx where
  env := envOfC name scope L a cd
  β := no
  δ := fun b => rngP L hi b ∨ b = P
  μ := rngP L hi
  ν := only P
  own := fun _ => true

theorem script_rep {Pm : Params} {C : Addr} {δ : Addr → Prop} {h h' : Heap} {l : Addr} {ns : List Int} (x : Well Pm h (.ref l) (ofPy (PyData.list (ns.map PyData.int)))) (hk : ∀ o, h.get? l = some o → o ≠ tabObj #[] → h'.get? l = some o) (hd : ¬ δ l) : Rep C δ h' (.ref l) (iL ns) := by
  cases x with
  | list hg ha =>
    rename_i vs
    refine rep_list.mpr ⟨l, vs.toArray, 0, rfl, hd, hk _ hg (fun q => by cases q), ?_⟩
    rw [List.toList_toArray]
    clear hg
    induction ns generalizing vs with
    | nil => cases ha; exact .nil
    | cons i ns ih =>
      cases ha with
      | cons h1 h2 =>
        cases h1
        exact .cons (rep_int.mpr ⟨_, rfl⟩) (ih h2)

section
variable {W : Wc} {n : Nat} {A : Around} {s : Shared}
theorem top_inv {h₀ : Heap} {name x : Str} {scope : Scope} {L a P l : Addr} {cd : Value} {news cells : List (Addr × Obj)} {d : D}
    (hk : scope.kind = .function) (hnd : (scope.names.map (·.1)).Nodup) (hnf : ∀ y ∈ scope.names, y.2 ≠ .free) (hx : scope.names.lookup x = some .local ∨ scope.names.lookup x = some .cell)
    (F : Fr h₀ L s.heap (bindL (envOfC name scope L a cd).kindOf [(x, .ref l)] fun _ => none)) (N : News h₀ L s.heap news) (hc : ∀ p ∈ cells, p ∈ news) (hP : (P, tabObj #[]) ∈ news)
    (X : CellsAre (bindC (envOfC name scope L a cd).kindOf [(x, .ref l)] fun _ => none) (cellsFrom (L + 1) scope.names []) cells) (g : Gd W h₀)
    (r : Rep W.C (fun b => rngP L (hz s) b ∨ b = P) s.heap (.ref l) d) :
    Inv W (cxT name scope L a cd P (hz s)) [(x, .val d)] s ∧ (∀ G, MadeAt s.heap P G []) ∧ Inner (cxT name scope L a cd P (hz s)) scope := by
  have nP := N _ hP
  have hL : L < hz s := F.ns.lt
  have hcell : ∀ y c, (y, c) ∈ cellsFrom (L + 1) scope.names [] → s.heap.IsCell c (bindC (envOfC name scope L a cd).kindOf [(x, .ref l)] (fun _ => none) y) ∧ L < c := fun y c hm => by
    obtain ⟨o, h1, h2⟩ := CellsAre.mem' X hm
    refine ⟨⟨o, (N _ (hc _ h1)).1, h2⟩, ?_⟩
    rcases cellsFrom_mem _ hm with q | ⟨_, q⟩
    · cases q
    · exact q
  have kd : ∀ y, (envOfC name scope L a cd).kindOf y = scope.names.lookup y := fun y => rfl
  have hhas : ∀ y, scope.names.lookup y = some .cell → ((envOfC name scope L a cd).cells.lookup y).isSome = true := fun y e => by
    obtain ⟨c, hc⟩ := cellsFrom_has (names := scope.names) (n := L + 1) (acc := []) (x := y) (.inl (mem_of_lookup' e))
    exact lookup_some_of_mem hc
  have huq : Uniq (cellsFrom (L + 1) scope.names []) := cellsFrom_uniq (fun a b c h => nomatch h) fun p hp => nomatch hp
  refine ⟨⟨(⟨hk, rfl, rfl, fun y e => ?_, fun y z c e1 e2 => huq y z c (mem_of_lookup' e1) (mem_of_lookup' e2), ⟨Nat.le_refl _, hL⟩, fun y c _ e => ?_, fun b q => .inl q, fun b q => q.elim⟩ : Stat (cxT name scope L a cd P (hz s))), ⟨h₀, _, F, g, fun b q => ?_⟩, fun y c e => ⟨_, (hcell y c (mem_of_lookup' e)).1⟩, fun b q => ?_, fun y e hm => ?_, fun y z ys zs b h1 => ?_⟩, (show ∀ G, MadeAt s.heap P G [] from fun G => ⟨#[], nP.1, trivial, (fun p hp => nomatch hp), fun pos _ => rfl⟩), ⟨fun y k e => ⟨fun q => ?_, fun _ => e⟩, fun _ _ => rfl⟩⟩
  · rcases e with e | e
    · exact hhas y e
    · exact absurd rfl (hnf _ (mem_of_lookup' (show scope.names.lookup y = some .free from e)))
  · obtain ⟨h1, h2⟩ := hcell y c (mem_of_lookup' e)
    obtain ⟨o, h3, _⟩ := h1
    exact ⟨⟨Nat.le_of_lt h2, Heap.lt_size h3⟩, h2⟩
  · rcases q with q | q
    · exact Heap.get?_none_of_le (Nat.le_trans F.above q.1)
    · rw [show b = P from q]; exact nP.2.2
  · rcases q with q | q
    · exact q.2
    · rw [q]; exact Heap.lt_size nP.1
  · rcases List.mem_cons.mp hm with q | q
    · cases q
      have hn : ([(x, Value.ref l)].map (·.1)).Nodup := by simp
      refine ⟨.ref l, ?_, r⟩
      rcases hx with e | e
      · exact .inl ⟨e, _, F.ns, bindL_get _ _ _ _ hn (.head _) e⟩
      · obtain ⟨c, hc⟩ := Option.isSome_iff_exists.mp (hhas x e)
        refine .inr ⟨.inl e, c, hc, ?_⟩
        have := (hcell x c (mem_of_lookup' hc)).1
        rw [bindC_get _ _ x _ hn (.head _) (by rw [kd, e]; decide)] at this
        exact this
    · cases q
  · exfalso
    rcases List.mem_cons.mp h1 with q | q
    · cases q
    · cases q
  · exact absurd q (hnf _ (mem_of_lookup' e))

theorem good_true {c : ClaimW} {cl : Str → Option Addr} {mean : ExcName → Option Value} {args : List WData} {s₁ s' : Shared} (hr : ∀ cls, c.raises args cls = false) (hp : c.post args (.bool true) args = true)
    (hk : ∀ b o, s₁.heap.get? b = some o → s'.heap.get? b = some o) (ho : s'.os = s₁.os) (hg : s'.gens = #[]) : GoodW c cl mean args s₁ (.ok (.ret (.bool true))) s' :=
  ⟨.inl ⟨_, _, [], rfl, hr, ReadsW.bool true, hp, fun _ => ⟨List.nodup_nil, fun _ hm => (nomatch hm)⟩⟩, hk, ho, hg⟩
theorem MadeAt.grown {h : Heap} {P : Addr} {G : Addr → Prop} {made : List (Pos × Str)} (x : MadeAt h P G made) : GrownAt P h := let ⟨ps, h1, _⟩ := x; ⟨ps, h1⟩
theorem MadeAt.ext {s s' : Shared} {μ : Addr → Prop} {P : Addr} {made : List (Pos × Str)} (x : MadeAt s.heap P (fun c => ¬ μ c) made) (e : Ext μ s s') (hP : ¬ μ P) : MadeAt s'.heap P (fun c => ¬ μ c) made := by
  obtain ⟨ps, h1, h2, h3, h4⟩ := x
  refine ⟨ps, e.keep _ _ hP h1, h2, fun p hp => ?_, h4⟩
  obtain ⟨c, e1, r, hn⟩ := h3 p hp
  obtain ⟨c', o, vs, t, q, gg, dd, rr⟩ := r
  cases q
  exact ⟨c, e1, ⟨c, o, vs, t, rfl, e.keep _ _ hn gg, dd, rr⟩, hn⟩
end

section
variable {W : Wc} {cx : Cx} {n : Nat} {ρ ρ' ρ1 ρ2 : Rho} {A : Around} {s s' : Shared} {x y : Str} {P : Addr} {made : List (Pos × Str)}
/-- statements that may make lambdas: the table at P is changed too -/
def ExT (W : Wc) (cx : Cx) (n : Nat) (P : Addr) (ρ : Rho) (made : List (Pos × Str)) (ss : List Stmt) (d : D) : Prop :=
  ¬ cx.μ P → cx.ν P → cx.δ P → ∀ A s, Rm n A → Inv W cx ρ s → MadeAt s.heap P (fun c => ¬ cx.μ c) made → wpAny (model W.prog W.w) A (execs ss cx.env) (fun f s' => Ext (or1 cx.μ P) s s' ∧ GrownAt P s'.heap ∧ ∃ v, f = .ret v ∧ Rep W.C cx.β s'.heap v d) F0 s
theorem ExT.cons {st : Stmt} {rest : List Stmt} {d : D} (h1 : StOK W cx n ρ st (.nxt ρ1)) (h2 : ExT W cx n P ρ1 made rest d) : ExT W cx n P ρ made (st :: rest) d := fun hP hν hδ A s rm i m => by
  refine wpAny_execs_cons (wpF (h1 A s rm i) fun f s1 ⟨x1, e, i1⟩ => ?_)
  subst e
  exact wpF (h2 hP hν hδ A s1 rm i1 (m.ext x1 hP)) fun f s2 ⟨x2, y⟩ => ⟨(x1.weak fun _ q => .inl q).trans x2, y⟩
theorem ExT.last {ss : List Stmt} {d : D} (h : ExOK W cx n ρ ss (.ret d)) : ExT W cx n P ρ made ss d := fun hP hν hδ A s rm i m =>
  wpF (h A s rm i) fun f s1 ⟨x1, v, e, r⟩ => ⟨x1.weak fun _ q => .inl q, (m.ext x1 hP).grown, v, e, r⟩
theorem ExT.assignC {px pos : Pos} {e : Expr} {d0 d r : D} {rest : List Stmt} (h : EvOK W cx n ρ cx.δ e d0) (hc : d0 = d) (hx : Stor cx x) (hd : Drop x ρ ρ') (hr : ExT W cx n P ((x, .val d) :: ρ') made rest r)
    (hs : swapsWith e (some (.Name x px)) pos.line cx.env = pure false) : ExT W cx n P ρ made (.Assign [.Name x px] e pos :: rest) r := ExT.cons (St.assign (Ev.conv h hc) hx hd hs) hr
/-- a name is bound to what sorted gives by a lambda -/
theorem ExT.sorted {px apos p1 kp pos lpos : Pos} {e : Expr} {params : Arguments} {body : Expr} {scope : Scope} {names : List (Str × NameKind)} {c : Addr} {N : Nat} {kss : List (List Int)} {rest : List Stmt} {d : D} {z : Str}
    (ρ2 : Rho) (hz' : Stor cx z) (hd : Drop z ρ ρ') (hsorted : GlobV W "sorted" (.builtin "sorted")) (hgk : cx.env.kindOf "sorted" = some .globalImplicit)
    (he : EvOK W cx (n + 3) ρ cx.δ e (.rng 0 N 1)) (hN : Builtin.Range.small 0 N 1 = true) (hN2 : Builtin.Range.rangeSize 0 N 1 = N) (h2 : 2 ≤ N) (h64 : N < 64) (hl : kss.length = N)
    (hL : P ≠ cx.env.locals)
    (hc : cx.env.code = .ref c) (hcd : codeHdIn W.K c P = true) (hK : Kinds cx names)
    (hfr : (scope.names.all fun p => p.2 != .free || (names.lookup p.1 == some .cell || names.lookup p.1 == some .free)) = true) (hnd : (scope.names.map (·.1)).Nodup)
    (hdef : defaultsOf params cx.env = ([], []))
    (hm : (∀ p ∈ made, samePl p.1 lpos = false) ∨ (lpos, cx.env.qual ++ "<lambda>") ∈ made)
    (hbind : ∀ pm c ctv v, bindArgs (kla_fn "<lambda>" (cx.env.qual ++ "<lambda>") params body scope (closOf cx.env.cells scope.names []) pm (.ref c) ctv) ⟨[v], []⟩ = pure [(x, v)])
    (hx : scope.names.lookup x = some .local) (hnc : ∀ y ∈ scope.names, y.2 ≠ .cell)
    (hρ2 : ∀ p, p ∈ ρ2 → p ∈ ρ ∧ scope.names.lookup p.1 = some .free ∧ ∃ d, p.2 = .val d)
    (hbody : ∀ (i : Nat) ks, kss[i]? = some ks → ∀ β L f c, EvOK W (cxL β (cx.env.qual ++ "<lambda>") scope L f c (closOf cx.env.cells scope.names [])) n ((x, .val (.int i)) :: ρ2) β body (iL ks))
    (hr : ExT W cx (n + 3) P ((z, .val (iL ((sortPlaces kss).map fun (i : Nat) => (i : Int)))) :: ρ') ((lpos, cx.env.qual ++ "<lambda>") :: made) rest d)
    (hs : swapsWith (.Call (.Name "sorted" p1) [e] [⟨some (Str.ofString "key"), .Lambda params body scope lpos, kp⟩] pos) (some (.Name z px)) apos.line cx.env = pure false := by rfl)
    (hse : starEach (e :: []) cx.env = (false, eval e cx.env) :: starEach [] cx.env := by rfl)
    (hco : scope.isCoroutine = false := by rfl) (hgen : scope.isGenerator = false := by rfl) (hk : scope.kind = .function := by rfl) :
    ExT W cx (n + 3) P ρ made (.Assign [.Name z px] (.Call (.Name "sorted" p1) [e] [⟨some (Str.ofString "key"), .Lambda params body scope lpos, kp⟩] pos) apos :: rest) d := fun hP hν hδ A s rm i m => by
  refine wpAny_execs_cons (wpAny_Assign_Name (wpF (sorted_lam (G := fun c => ¬ cx.μ c) i (fun c hc q => Nat.lt_irrefl _ (Nat.lt_of_lt_of_le (i.lt _ (i.st.mδ _ q)) hc)) rm hsorted hgk he hN hN2 h2 h64 hl hν hδ hL hc hcd m hK hfr hnd hdef hm hbind hx hnc hρ2 hbody hse hco hgen hk) fun v s1 ⟨x1, i1, r1, m1⟩ => ?_) hs)
  refine store_val i1 hz' hd r1 fun s2 x2 i2 => ?_
  exact wpF (hr hP hν hδ A s2 rm i2 (m1.ext x2 hP)) fun f s3 ⟨x3, y⟩ => ⟨(x1.weak fun _ q => .inr q).trans ((x2.weak fun _ q => .inl q).trans x3), y⟩
end

section
variable {W : Wc} {cx : Cx} {n : Nat} {ρ : Rho} {β : Addr → Prop} {α γ : Type}
theorem Ev.fst [Inhabited α] [Inhabited γ] {E : Enc α} {F : Enc γ} {value slice : Expr} {pos : Pos} {p : α × γ} (h1 : EvOK W cx n ρ β value ((encP E F).e p)) (h2 : EvOK W cx n ρ Mine.no slice (.int 0))
    (hs : ∀ o i, subscripted slice false o i = operate [o, i] (getItem o i)) : EvOK W cx n ρ β (.Subscript value slice pos) (E.e p.1) := Ev.sub h1 h2 (by decide) rfl (by decide) hs
theorem Ev.snd [Inhabited α] [Inhabited γ] {E : Enc α} {F : Enc γ} {value slice : Expr} {pos : Pos} {p : α × γ} (h1 : EvOK W cx n ρ β value ((encP E F).e p)) (h2 : EvOK W cx n ρ Mine.no slice (.int 1))
    (hs : ∀ o i, subscripted slice false o i = operate [o, i] (getItem o i)) : EvOK W cx n ρ β (.Subscript value slice pos) (F.e p.2) := Ev.sub h1 h2 (by decide) rfl (by decide) hs
theorem sim_intss {k : Nat} {xs ys : List (List Int)} : Sim (k + 2) ((encL (encL encI)).e xs) ((encL (encL encI)).e ys) := .list fun i x y hx hy => by
  rw [List.getElem?_map] at hx hy
  obtain ⟨a, _, rfl⟩ := Option.map_eq_some_iff.mp hx
  obtain ⟨b, _, rfl⟩ := Option.map_eq_some_iff.mp hy
  exact sim_ints
theorem enc_inj {E : Enc α} {a b : α} : E.e a = E.e b ↔ a = b := ⟨fun h => by rw [← E.h a, h, E.h], fun h => by rw [h]⟩
theorem CmpV.eqIntss {xs ys : List (List Int)} : CmpV W 3 .Eq ((encL (encL encI)).e xs) ((encL (encL encI)).e ys) (decide (xs = ys)) :=
  CmpV.eqList (k := 1) sim_intss (by decide) (by
    rw [decide_eq_true_iff]
    constructor
    · rintro rfl; rfl
    · intro h
      have : (encL (encL encI)).e xs = (encL (encL encI)).e ys := congrArg D.list h
      exact enc_inj.mp this)
/-- [ints, int] compared -/
theorem CmpV.nePair {xs ys : List Int} {a b : Int} : CmpV W 3 .NotEq (.list [(encL encI).e xs, .int a]) (.list [(encL encI).e ys, .int b]) (!decide (xs = ys ∧ a = b)) :=
  CmpV.neList (k := 1) (.list fun i x y hx hy => by
    match i with
    | 0 => cases hx; cases hy; exact sim_ints
    | 1 => cases hx; cases hy; exact .int
    | i + 2 => simp at hx) (by decide) (by
    rw [Bool.not_eq_false', decide_eq_true_iff]
    constructor
    · rintro ⟨rfl, rfl⟩; rfl
    · intro h
      injection h with h1 h2
      injection h2 with h2 _
      injection h2 with h2
      exact ⟨enc_inj.mp h1, h2⟩)
end
end Mine
open Mine
local macro_rules | `(tactic| walk_at "cmp") => `(tactic| first
  | with_reducible exact CmpV.gtInts
  | with_reducible exact CmpV.eqInts
  | fail "no")
-- H3
set_option maxHeartbeats 8000000
namespace Mine
/-- the head's rule, the run of the top asked as one equation for every world -/
theorem PySem.W.holds_open {r : OpenRow} {q : Program} {loose : List Str} {Xt : Shared → Bool} {XP : (Str → Option Value) → Heap → Prop} {α : Type} {Yf : Shared → α} {Ya : World → α} {YP : World → Heap → Prop} {d : DefRec} {kwd : List (Str × Expr)} {N : Nat}
    (left : ∀ w : World, (openEnds treeTable r.prog w N).map (fun s => (openSeen q loose (importedModules r.prog.main.body) Xt true s, Yf s)) = some (openGood q loose, Ya w))
    (hY : ∀ w s, Yf s = Ya w → YP w s.heap) (hYk : ∀ w h h', YP w h → (∀ b o, h.get? b = some o → h'.get? b = some o) → YP w h')
    (hX : ∀ s, Xt s = true → XP (s.heap.nsMap mainGlobals) s.heap) (hXk : ∀ mg h h', XP mg h → (∀ b o, h.get? b = some o → h'.get? b = some o) → XP mg h')
    (hdef : defOf q r.name = some (d, kwd)) (hp : r.prog.theDef r.name = some (d.params, d.body, d.scope)) (hk : kwWritten? d.params.kwonlyargs d.params.kw_defaults = some kwd) (hRf : ∀ s, Xt s = true → RecFacts r.records s.heap) (hwr : (!r.writes || r.records.isEmpty) = true)
    (k1 : r.wellSaid = true) (ok : (chainsOk q && opensWell r.prog && (frees r.toRowW && r.within.isEmpty)) = true) (hb : r.prog.bare) (hw : r.toRowW.promised)
    (call : WalkO q loose XP YP r.toRowW d kwd fun f vs => _root_.PySem.call f vs) : r.Holds :=
  _root_.PySem.W.holds_open left hY hYk hX hXk hdef hp hk hRf hwr k1 ok hb hw call
open_top hd for PySem.Challenge.rw_wn0140_03
end Mine
-- L3a
set_option maxHeartbeats 4000000
noncomputable section
namespace Mine
def W3 (w : World) (lo : List Str) (mg mb : Str → Option Value) : Wc := ⟨PySem.Challenge.rw_wn0140_03.row.prog, w, hd.heap_39 w.params, topProg, lo, mg, mb, 88⟩

section
variable {w : World} {lo : List Str} {mg mb : Str → Option Value}
theorem g3_len : GlobV (W3 w lo mg mb) "len" (.builtin "len") := .inr ⟨by kernel_rfl, by decide +kernel, by decide⟩
theorem g3_ord : GlobV (W3 w lo mg mb) "ord" (.builtin "ord") := .inr ⟨by kernel_rfl, by decide +kernel, by decide⟩
theorem g3_range : GlobV (W3 w lo mg mb) "range" (.type "range") := .inr ⟨by kernel_rfl, by decide +kernel, by decide⟩
theorem g3_sum : GlobV (W3 w lo mg mb) "sum" (.builtin "sum") := .inr ⟨by kernel_rfl, by decide +kernel, by decide⟩
theorem g3_max : GlobV (W3 w lo mg mb) "max" (.builtin "max") := .inr ⟨by kernel_rfl, by decide +kernel, by decide⟩
theorem g3_sorted : GlobV (W3 w lo mg mb) "sorted" (.builtin "sorted") := .inr ⟨by kernel_rfl, by decide +kernel, by decide⟩
theorem g3_isinstance : GlobV (W3 w lo mg mb) "isinstance" (.builtin "isinstance") := .inr ⟨by kernel_rfl, by decide +kernel, by decide⟩
theorem g3_QName : GlobV (W3 w lo mg mb) "QName" (.ref 88) := .inl (by kernel_rfl)
theorem g3_cdata : GlobV (W3 w lo mg mb) "_escape_cdata" (.ref 106) := .inl (by kernel_rfl)
theorem g3_attrib : GlobV (W3 w lo mg mb) "_escape_attrib" (.ref 113) := .inl (by kernel_rfl)
theorem g3_html : GlobV (W3 w lo mg mb) "_escape_attrib_html" (.ref 120) := .inl (by kernel_rfl)
theorem g3_cdataC : GlobV (W3 w lo mg mb) "_escape_cdata_c14n" (.ref 127) := .inl (by kernel_rfl)
theorem g3_attribC : GlobV (W3 w lo mg mb) "_escape_attrib_c14n" (.ref 134) := .inl (by kernel_rfl)
theorem g3_write : GlobV (W3 w lo mg mb) "_law_write" (.ref 141) := .inl (by kernel_rfl)
theorem g3_rank : GlobV (W3 w lo mg mb) "_law_rank" (.ref 148) := .inl (by kernel_rfl)
theorem g3_name : GlobV (W3 w lo mg mb) "_law_name" (.ref 153) := .inl (by kernel_rfl)
theorem g3_exchanged : GlobV (W3 w lo mg mb) "_law_exchanged" (.ref 160) := .inl (by kernel_rfl)
theorem g3_spreads : GlobV (W3 w lo mg mb) "_law_spreads" (.ref 165) := .inl (by kernel_rfl)
theorem g3_times : GlobV (W3 w lo mg mb) "_law_times" (.ref 170) := .inl (by kernel_rfl)
theorem g3_whole : GlobV (W3 w lo mg mb) "_law_whole" (.ref 175) := .inl (by kernel_rfl)
theorem g3_grown : GlobV (W3 w lo mg mb) "_law_grown" (.ref 182) := .inl (by kernel_rfl)
theorem q3 : QOK (W3 w lo mg mb) := ⟨by kernel_rfl, by kernel_rfl, by kernel_rfl, by kernel_rfl, by kernel_rfl, by kernel_rfl, by kernel_rfl⟩
end
end Mine
local macro_rules | `(tactic| walk_at "glob") => `(tactic| first
  | with_reducible exact Mine.g3_len
  | with_reducible exact Mine.g3_ord
  | with_reducible exact Mine.g3_range
  | with_reducible exact Mine.g3_sum
  | with_reducible exact Mine.g3_max
  | with_reducible exact Mine.g3_isinstance
  | with_reducible exact Mine.g3_QName
  | with_reducible exact Mine.g3_cdata
  | with_reducible exact Mine.g3_attrib
  | with_reducible exact Mine.g3_html
  | with_reducible exact Mine.g3_cdataC
  | with_reducible exact Mine.g3_attribC
  | with_reducible exact Mine.g3_write
  | with_reducible exact Mine.g3_rank
  | with_reducible exact Mine.g3_name
  | with_reducible exact Mine.g3_exchanged
  | with_reducible exact Mine.g3_spreads
  | with_reducible exact Mine.g3_times
  | with_reducible exact Mine.g3_whole
  | with_reducible exact Mine.g3_grown
  | fail "no")
local macro_rules | `(tactic| walk_at "mul") => `(tactic| first
  | exact IntMulOk.of_left (by decide)
  | exact IntMulOk.of_right (by decide)
  | fail "no")
namespace Mine
section
variable {w : World} {lo : List Str} {mg mb : Str → Option Value}

theorem cdata3 {t : Str} (ht : t.length ≤ 100000) : CallOK (W3 w lo mg mb) 2 (.ref 106) [.str t] (.str (escs rCdata t)) := by
  refine Call.body (n := 1) ["text"] (by rfl) (by kernel_rfl) (fun vs h => match vs, h with | [a], _ => rfl) rfl (by decide +kernel) (by decide +kernel) (by decide +kernel) (by decide +kernel) (fun cx hI => ?_)
  show ExOK _ _ _ [_] _ _
  refine Ex.ret (St.try_ ?_ (fun _ h => by cases h))
  walk_at "esc"
  case ht => exact Nat.le_trans ht (by decide)
  walk_at "esc"
  case ht => exact Nat.le_trans (escs_le (rules := rCdata.take 1) (by decide +kernel) t) (by omega)
  walk_at "esc"
  case ht => exact Nat.le_trans (escs_le (rules := rCdata.take 2) (by decide +kernel) t) (by omega)
  walk_at "ret"
  rfl

theorem attrib3 {t : Str} (ht : t.length ≤ 100000) : CallOK (W3 w lo mg mb) 2 (.ref 113) [.str t] (.str (escs rAttrib t)) := by
  refine Call.body (n := 1) ["text"] (by rfl) (by kernel_rfl) (fun vs h => match vs, h with | [a], _ => rfl) rfl (by decide +kernel) (by decide +kernel) (by decide +kernel) (by decide +kernel) (fun cx hI => ?_)
  show ExOK _ _ _ [_] _ _
  refine Ex.ret (St.try_ ?_ (fun _ h => by cases h))
  walk_at "esc"
  case ht => exact Nat.le_trans ht (by decide)
  walk_at "esc"
  case ht => exact Nat.le_trans (escs_le (rules := rAttrib.take 1) (by decide +kernel) t) (by omega)
  walk_at "esc"
  case ht => exact Nat.le_trans (escs_le (rules := rAttrib.take 2) (by decide +kernel) t) (by omega)
  walk_at "esc"
  case ht => exact Nat.le_trans (escs_le (rules := rAttrib.take 3) (by decide +kernel) t) (by omega)
  walk_at "esc"
  case ht => exact Nat.le_trans (escs_le (rules := rAttrib.take 4) (by decide +kernel) t) (by omega)
  walk_at "esc"
  case ht => exact Nat.le_trans (escs_le (rules := rAttrib.take 5) (by decide +kernel) t) (by omega)
  walk_at "esc"
  case ht => exact Nat.le_trans (escs_le (rules := rAttrib.take 6) (by decide +kernel) t) (by omega)
  walk_at "ret"
  rfl

theorem html3 {t : Str} (ht : t.length ≤ 100000) : CallOK (W3 w lo mg mb) 2 (.ref 120) [.str t] (.str (escs rHtml t)) := by
  refine Call.body (n := 1) ["text"] (by rfl) (by kernel_rfl) (fun vs h => match vs, h with | [a], _ => rfl) rfl (by decide +kernel) (by decide +kernel) (by decide +kernel) (by decide +kernel) (fun cx hI => ?_)
  show ExOK _ _ _ [_] _ _
  refine Ex.ret (St.try_ ?_ (fun _ h => by cases h))
  walk_at "esc"
  case ht => exact Nat.le_trans ht (by decide)
  walk_at "esc"
  case ht => exact Nat.le_trans (escs_le (rules := rHtml.take 1) (by decide +kernel) t) (by omega)
  walk_at "esc"
  case ht => exact Nat.le_trans (escs_le (rules := rHtml.take 2) (by decide +kernel) t) (by omega)
  walk_at "ret"
  rfl

theorem cdataC3 {t : Str} (ht : t.length ≤ 100000) : CallOK (W3 w lo mg mb) 2 (.ref 127) [.str t] (.str (escs rCdataC t)) := by
  refine Call.body (n := 1) ["text"] (by rfl) (by kernel_rfl) (fun vs h => match vs, h with | [a], _ => rfl) rfl (by decide +kernel) (by decide +kernel) (by decide +kernel) (by decide +kernel) (fun cx hI => ?_)
  show ExOK _ _ _ [_] _ _
  refine Ex.ret (St.try_ ?_ (fun _ h => by cases h))
  walk_at "esc"
  case ht => exact Nat.le_trans ht (by decide)
  walk_at "esc"
  case ht => exact Nat.le_trans (escs_le (rules := rCdataC.take 1) (by decide +kernel) t) (by omega)
  walk_at "esc"
  case ht => exact Nat.le_trans (escs_le (rules := rCdataC.take 2) (by decide +kernel) t) (by omega)
  walk_at "esc"
  case ht => exact Nat.le_trans (escs_le (rules := rCdataC.take 3) (by decide +kernel) t) (by omega)
  walk_at "ret"
  rfl

theorem attribC3 {t : Str} (ht : t.length ≤ 100000) : CallOK (W3 w lo mg mb) 2 (.ref 134) [.str t] (.str (escs rAttribC t)) := by
  refine Call.body (n := 1) ["text"] (by rfl) (by kernel_rfl) (fun vs h => match vs, h with | [a], _ => rfl) rfl (by decide +kernel) (by decide +kernel) (by decide +kernel) (by decide +kernel) (fun cx hI => ?_)
  show ExOK _ _ _ [_] _ _
  refine Ex.ret (St.try_ ?_ (fun _ h => by cases h))
  walk_at "esc"
  case ht => exact Nat.le_trans ht (by decide)
  walk_at "esc"
  case ht => exact Nat.le_trans (escs_le (rules := rAttribC.take 1) (by decide +kernel) t) (by omega)
  walk_at "esc"
  case ht => exact Nat.le_trans (escs_le (rules := rAttribC.take 2) (by decide +kernel) t) (by omega)
  walk_at "esc"
  case ht => exact Nat.le_trans (escs_le (rules := rAttribC.take 3) (by decide +kernel) t) (by omega)
  walk_at "esc"
  case ht => exact Nat.le_trans (escs_le (rules := rAttribC.take 4) (by decide +kernel) t) (by omega)
  walk_at "esc"
  case ht => exact Nat.le_trans (escs_le (rules := rAttribC.take 5) (by decide +kernel) t) (by omega)
  walk_at "ret"
  rfl

end
end Mine
-- L3b
set_option maxHeartbeats 4000000
open Mine
local macro_rules | `(tactic| walk_at "call") => `(tactic| first
  | ((with_reducible refine' CallOK.le (cdata3 ?h) ?hn); (case hn => decide); (case h => walk_at "side"))
  | ((with_reducible refine' CallOK.le (attrib3 ?h) ?hn); (case hn => decide); (case h => walk_at "side"))
  | ((with_reducible refine' CallOK.le (html3 ?h) ?hn); (case hn => decide); (case h => walk_at "side"))
  | ((with_reducible refine' CallOK.le (cdataC3 ?h) ?hn); (case hn => decide); (case h => walk_at "side"))
  | ((with_reducible refine' CallOK.le (attribC3 ?h) ?hn); (case hn => decide); (case h => walk_at "side"))
  | exact Call.isObj (by kernel_rfl)
  | fail "no")
local macro_rules | `(tactic| walk_at "ev") => `(tactic| first
  | ((with_reducible refine' Ev.global ?hk ?hg ?hd); (case hd => rfl); (case hk => walk_at "gk"); (case hg => walk_at "glob"))
  | ((with_reducible refine' Ev.text q3 ?h); (case h => walk_at "ev"))
  | fail "no")
noncomputable section
namespace Mine
section
variable {w : World} {lo : List Str} {mg mb : Str → Option Value}

theorem gtm3 {a b : Str} : CallOK (W3 w lo mg mb) 6 (.ref 78) [.obj a, .obj b] (.bool (decide (b.cps.toList < a.cps.toList))) := by
  refine Call.body (n := 5) ["self", "other"] (by rfl) (by kernel_rfl) (fun vs h => match vs, h with | [a, b], _ => rfl) rfl (by decide +kernel) (by decide +kernel) (by decide +kernel) (by decide +kernel) (fun cx hI => ?_)
  show ExOK _ _ _ [_, _] _ _
  refine Ex.ite (b := true) (by walk_at "ts") (fun hb => ?_) (fun hb => ?_)
  · walk_at "ret"
    rfl
  · cases hb
theorem gt3 {a b : Str} : CmpV (W3 w lo mg mb) 6 .Gt (.obj a) (.obj b) (decide (b.cps.toList < a.cps.toList)) :=
  CmpV.obj (f := 78) (tb := .ref 88) (by kernel_rfl) (by kernel_rfl) (by kernel_rfl) kind_obj gtm3
theorem make3 {t : Str} (ht : t.length ≤ 100000) : CallOK (W3 w lo mg mb) 3 (.ref 88) [.str t] (.obj t) := by
  refine Call.make (n := 1) q3 (fI := 29) (sN := "self") (u := "text_or_uri") (g := "tag") (t := t) (t' := t) (tv := .none) (by kernel_rfl) (by kernel_rfl) (by rfl) (by kernel_rfl) (fun s self vs β X r => ?_) (by omega) (by decide +kernel) (by rfl) (by rfl) (by rfl) (by decide) (by decide) (by decide) (by rfl) (by rfl) (by rfl) (fun _ => rfl) (fun _ => rfl)
  obtain ⟨v, vs', rfl, rv, r'⟩ := r.cons_inv'
  obtain rfl := r'.nil_inv'
  obtain ⟨tk, rfl⟩ := rep_str.mp rv
  exact ⟨tk, .none, .none, binds_K X rfl (by rfl) rfl rfl rfl⟩
theorem make3t {u t : Str} (ht : u.length + t.length ≤ 100000) (h0 : t.length ≠ 0) : CallOK (W3 w lo mg mb) 3 (.ref 88) [.str u, .str t] (.obj (("{" : Str) ++ u ++ "}" ++ t)) := by
  have l1 := strLen (("{" : Str) ++ u ++ "}") t
  have l2 := strLen (("{" : Str) ++ u) "}"
  have l3 := strLen ("{" : Str) u
  have l4 : ("{" : Str).length = 1 := rfl
  have l5 : ("}" : Str).length = 1 := rfl
  refine Call.make (n := 1) q3 (fI := 29) (sN := "self") (u := "text_or_uri") (g := "tag") (t := u) (t' := ("{" : Str) ++ u ++ "}" ++ t) (tv := .none) (by kernel_rfl) (by kernel_rfl) (by rfl) (by kernel_rfl) (fun s self vs β X r => ?_) (by omega) (by decide +kernel) (by rfl) (by rfl) (by rfl) (by decide) (by decide) (by decide) (by rfl) (by rfl) (by rfl) (fun _ => rfl) (fun _ => rfl)
  obtain ⟨v, vs', rfl, rv, r'⟩ := r.cons_inv'
  obtain ⟨v2, vs2, rfl, rv2, r2⟩ := r'.cons_inv'
  obtain rfl := r2.nil_inv'
  obtain ⟨tk, rfl⟩ := rep_str.mp rv
  obtain ⟨tk2, rfl⟩ := rep_str.mp rv2
  exact ⟨tk, .str t tk2, .tag h0, binds_K X rfl (by rfl) rfl rfl rfl⟩

theorem write3 {hand : Int} {t : Str} (ht : t.length ≤ 100000) : CallOK (W3 w lo mg mb) 4 (.ref 141) [.int hand, .str t] (.str (escs (rulesOf hand) t)) := by
  refine Call.body (n := 3) ["hand", "text"] (by rfl) (by kernel_rfl) (fun vs h => match vs, h with | [a, b], _ => rfl) rfl (by decide +kernel) (by decide +kernel) (by decide +kernel) (by decide +kernel) (fun cx hI => ?_)
  show ExOK _ _ _ [_, _] _ _
  refine Ex.ite (b := hand == 0) (by walk_at "ts") (fun hb => ?_) (fun hb => ?_)
  · walk_at "ret"
    rw [show rulesOf hand = rCdata from if_pos (by simpa using hb)]
  have h0 : hand ≠ 0 := by simpa using hb
  refine Ex.ite (b := hand == 1) (by walk_at "ts") (fun hb => ?_) (fun hb => ?_)
  · walk_at "ret"
    have h1 : hand = 1 := by simpa using hb
    subst h1; rfl
  have h1 : hand ≠ 1 := by simpa using hb
  refine Ex.ite (b := hand == 2) (by walk_at "ts") (fun hb => ?_) (fun hb => ?_)
  · walk_at "ret"
    have h2 : hand = 2 := by simpa using hb
    subst h2; rfl
  have h2 : hand ≠ 2 := by simpa using hb
  refine Ex.ite (b := hand == 3) (by walk_at "ts") (fun hb => ?_) (fun hb => ?_)
  · walk_at "ret"
    have h3 : hand = 3 := by simpa using hb
    subst h3; rfl
  have h3 : hand ≠ 3 := by simpa using hb
  walk_at "ret"
  unfold rulesOf
  rw [if_neg h0, if_neg h1, if_neg h2, if_neg h3]
end
end Mine
-- L3c
set_option maxHeartbeats 4000000
open Mine
local macro_rules | `(tactic| walk_at "mul") => `(tactic| first
  | exact mulOk_small (by omega) (by omega)
  | fail "no")
noncomputable section
namespace Mine
section
variable {w : World} {lo : List Str} {mg mb : Str → Option Value}

def spelled3 : List Str := ["------&><-", "\t\n\r---&><\"", "------&>-\"", "-----\r&><-", "---\t\n\r&-<\""]
def rank3 (hand : Int) (sign : Str) : Int := if occ sign (spelled3.getD hand.toNat ⟨#[]⟩) then 608 + Txt.find (spelled3.getD hand.toNat ⟨#[]⟩) sign else 16 * (sign.cps.getD 0 0 : Nat)

theorem rankC3 {hand : Int} {sign : Str} (h0 : 0 ≤ hand) (h1 : hand < 5) (h2 : sign.length = 1) :
    CallOK (W3 w lo mg mb) 4 (.ref 148) [.int hand, .str sign] (.int (rank3 hand sign)) := by
  refine Call.body (n := 3) ["hand", "sign"] (by rfl) (by kernel_rfl) (fun vs h => by obtain ⟨a, b, rfl⟩ := len2 h; rfl) rfl (by decide +kernel) (by decide +kernel) (by decide +kernel) (by decide +kernel) (fun cx hI => ?_)
  show ExOK _ _ _ [_, _] _ _
  have hh : hand < (spelled3.length : Int) := h1
  have disp : ∀ (p : Pos) (es : List Expr), ArgsOK (W3 w lo mg mb) cx 3 [("hand", .val (.int hand)), ("sign", .val (.str sign))] cx.δ es (spelled3.map encS.e) → EvOK (W3 w lo mg mb) cx 3 [("hand", .val (.int hand)), ("sign", .val (.str sign))] cx.δ (.List es p) ((encL encS).e spelled3) := fun p es h => Ev.list h (by decide)
  refine' Ex.assign (d := encS.e (spelled3.getD hand.toNat ⟨#[]⟩)) (Ev.item (E := encS) (xs := spelled3) (disp _ _ ?_) ?_ h0 hh (by omega)) ?hx ?hd ?_ rfl
  case hx => walk_at "stor"
  case hd => walk_at "drop"
  · show ArgsOK _ _ _ _ _ _ [_, _, _, _, _]
    walk_at "args"
  · walk_at "ev"
  refine Ex.ite (b := occ sign (spelled3.getD hand.toNat ⟨#[]⟩)) (by walk_at "ts") (fun hb => ?_) (fun hb => ?_)
  · walk_at "ret"
    unfold rank3; rw [if_pos hb]
  · walk_at "ret"
    unfold rank3; rw [if_neg (by rw [hb]; decide)]
end
end Mine
local macro_rules | `(tactic| walk_at "call") => `(tactic| first
  | ((with_reducible refine' CallOK.le (write3 ?h) ?hn); (case hn => decide); (case h => walk_at "side"))
  | ((with_reducible refine' CallOK.le (rankC3 ?h ?h1 ?h2) ?hn); (case hn => decide); (case h => walk_at "side"); (case h1 => walk_at "side"); (case h2 => walk_at "side"))
  | ((with_reducible refine' CallOK.le (make3 ?h) ?hn); (case hn => decide); (case h => walk_at "side"))
  | ((with_reducible refine' CallOK.le (make3t ?h ?h1) ?hn); (case hn => decide); (case h => walk_at "side"); (case h1 => walk_at "side"))
  | fail "no")
namespace Mine
section
variable {w : World} {lo : List Str} {mg mb : Str → Option Value}
def row3 : Str := "&\t>\"\n<\r#{}"
def sign3 (first j : Int) : Str := Txt.item row3 ((first + (first / 10 % 4 + 1) * j) % 10)
def name3 (first cell : Int) : Str × List Int :=
  if cell / 225 % 3 = 0 then (escs (rulesOf (cell / 9 % 5)) (sign3 first (cell % 3)), [rank3 (cell / 9 % 5) (sign3 first (cell % 3))])
  else if cell / 225 % 3 = 1 then (("{" : Str) ++ escs (rulesOf (cell / 9 % 5)) (sign3 first (cell % 3)) ++ "}" ++ escs (rulesOf (cell / 45 % 5)) (sign3 first (cell / 3 % 3)),
    [1968, rank3 (cell / 9 % 5) (sign3 first (cell % 3)), 2000, rank3 (cell / 45 % 5) (sign3 first (cell / 3 % 3))])
  else (escs (rulesOf (cell / 9 % 5)) (("{" : Str) ++ sign3 first (cell % 3) ++ "}" ++ sign3 first (cell / 3 % 3)),
    [1968, rank3 (cell / 9 % 5) (sign3 first (cell % 3)), 2000, rank3 (cell / 9 % 5) (sign3 first (cell / 3 % 3))])

theorem getD_upto {α : Type} {f : Int → α} {n i : Int} {z : α} (h0 : 0 ≤ i) (h1 : i < n) : ((upto n).map f).getD i.toNat z = f i := by
  have hlt : i.toNat < ((upto n).map f).length := by rw [List.length_map, upto_length]; omega
  rw [List.getD_eq_getElem?_getD, List.getElem?_eq_getElem hlt]
  simp only [upto, List.getElem_map, List.getElem_range, Option.getD_some]
  congr 1; omega
theorem sign3_len {first j : Int} : (sign3 first j).length = 1 := rfl
theorem rulesOf_ok (hand : Int) : ∀ r ∈ rulesOf hand, (cm (rulesOf hand) r.1).length ≤ 6 := by
  unfold rulesOf
  split
  · decide +kernel
  split
  · decide +kernel
  split
  · decide +kernel
  split
  · decide +kernel
  · decide +kernel
theorem cm_pos {rules : List (Nat × Str)} (h : ∀ r ∈ rules, 1 ≤ (cm rules r.1).length) (k : Nat) : 1 ≤ (cm rules k).length := by
  by_cases hk : ∃ r ∈ rules, k = r.1
  · obtain ⟨r, hr, rfl⟩ := hk; exact h r hr
  · rw [cm_other rules fun r hr q => hk ⟨r, hr, q⟩]; exact Nat.le_refl _
theorem rulesOf_pos (hand : Int) : ∀ r ∈ rulesOf hand, 1 ≤ (cm (rulesOf hand) r.1).length := by
  unfold rulesOf
  split
  · decide +kernel
  split
  · decide +kernel
  split
  · decide +kernel
  split
  · decide +kernel
  · decide +kernel
theorem flat_ge {f : Nat → List Nat} (h : ∀ k, 1 ≤ (f k).length) : ∀ l : List Nat, l.length ≤ (l.flatMap f).length
  | [] => by simp
  | k :: r => by
    rw [List.flatMap_cons, List.length_append, List.length_cons]
    have := h k
    have := flat_ge h r
    omega
theorem escs_ge (hand : Int) (t : Str) : t.length ≤ (escs (rulesOf hand) t).length := by
  have := flat_ge (cm_pos (rulesOf_pos hand)) t.cps.toList
  rw [← escs_flat] at this
  simpa [Str.length] using this

theorem nameC3 {first cell : Int} : CallOK (W3 w lo mg mb) 6 (.ref 153) [.int first, .int cell] ((encP encO (encL encI)).e (name3 first cell)) := by
  refine Call.body (n := 5) ["first", "cell"] (by rfl) (by kernel_rfl) (fun vs h => by obtain ⟨a, b, rfl⟩ := len2 h; rfl) rfl (by decide +kernel) (by decide +kernel) (by decide +kernel) (by decide +kernel) (fun cx hI => ?_)
  show ExOK _ _ _ [_, _] _ _
  refine' Ex.cons (St.comp0 (E := encI) (G := encS) [("first", .val (.int first))] (upto 3) (fun j => sign3 first j) ?hiter_a ?hitems_a ?hK_a ?hx_a ?hDr_a ?hzz_a ?hb_a ?hz_a ?hd_a ?hl_a ?hn_a ?hfr_a ?hnd_a ?hkind_a ?hρ_a ?hs_a) ?hr_a
  case hK_a => exact Inner.k (by assumption)
  case hx_a => first | exact .inl rfl | exact .inr rfl
  case hDr_a => walk_at "drop"
  case hz_a => rfl
  case hd_a => walk_at "drop"
  case hl_a => rfl
  case hn_a => decide +kernel
  case hfr_a => decide +kernel
  case hnd_a => decide +kernel
  case hkind_a => rfl
  case hρ_a => walk_at "cap"
  case hs_a => intro _; rfl
  case hiter_a => walk_at "ev"
  case hitems_a => walk_at "items"
  case hzz_a => decide
  case hb_a =>
    intro cx' hI' j hj
    have hj' := mem_upto.mp hj
    refine' Ev.conv ?h_n4 ?e_n4
    case h_n4 => walk_at "ev"
    case e_n4 => rfl
  have hl3 : ((upto 3).map fun j => sign3 first j).length = 3 := by simp [upto_length]
  have eone : ((upto 3).map fun j => sign3 first j).getD (cell % 3).toNat ⟨#[]⟩ = sign3 first (cell % 3) := getD_upto (by omega) (by omega)
  have etwo : ((upto 3).map fun j => sign3 first j).getD (cell / 3 % 3).toNat ⟨#[]⟩ = sign3 first (cell / 3 % 3) := getD_upto (by omega) (by omega)
  refine' Ex.assignC (d := encS.e (sign3 first (cell % 3))) ?h_b ?hc_b ?hx_b ?hd_b ?hr_b ?hs_b
  case hs_b => rfl
  case h_b => walk_at "ev"
  case hx_b => walk_at "stor"
  case hd_b => walk_at "drop"
  case hc_b => exact congrArg encS.e eone
  refine' Ex.assignC (d := encS.e (sign3 first (cell / 3 % 3))) ?h_c ?hc_c ?hx_c ?hd_c ?hr_c ?hs_c
  case hs_c => rfl
  case h_c => walk_at "ev"
  case hx_c => walk_at "stor"
  case hd_c => walk_at "drop"
  case hc_c => exact congrArg encS.e etwo
  refine' Ex.assignC (d := encI.e (cell / 9 % 5)) ?h_n7 ?hc_n7 ?hx_n7 ?hd_n7 ?hr_n7 ?hs_n7
  case hs_n7 => rfl
  case h_n7 => walk_at "ev"
  case hc_n7 => rfl
  case hx_n7 => walk_at "stor"
  case hd_n7 => walk_at "drop"
  refine' Ex.assignC (d := encI.e (cell / 45 % 5)) ?h_n8 ?hc_n8 ?hx_n8 ?hd_n8 ?hr_n8 ?hs_n8
  case hs_n8 => rfl
  case h_n8 => walk_at "ev"
  case hc_n8 => rfl
  case hx_n8 => walk_at "stor"
  case hd_n8 => walk_at "drop"
  refine' Ex.assignC (d := encI.e (cell / 225 % 3)) ?h_n9 ?hc_n9 ?hx_n9 ?hd_n9 ?hr_n9 ?hs_n9
  case hs_n9 => rfl
  case h_n9 => walk_at "ev"
  case hc_n9 => rfl
  case hx_n9 => walk_at "stor"
  case hd_n9 => walk_at "drop"
  have hz := sizeLine_eq
  have s1 : (sign3 first (cell % 3)).length = 1 := sign3_len
  have s2 : (sign3 first (cell / 3 % 3)).length = 1 := sign3_len
  have e1 := escs_le (rulesOf_ok (cell / 9 % 5)) (sign3 first (cell % 3))
  have e2 := escs_le (rulesOf_ok (cell / 45 % 5)) (sign3 first (cell / 3 % 3))
  have e3 := escs_ge (cell / 45 % 5) (sign3 first (cell / 3 % 3))
  have e4 := escs_le (rulesOf_ok (cell / 9 % 5)) (("{" : Str) ++ sign3 first (cell % 3) ++ "}" ++ sign3 first (cell / 3 % 3))
  have l1 := strLen (("{" : Str) ++ sign3 first (cell % 3) ++ "}") (sign3 first (cell / 3 % 3))
  have l2 := strLen (("{" : Str) ++ sign3 first (cell % 3)) "}"
  have l3 := strLen ("{" : Str) (sign3 first (cell % 3))
  have l4 : ("{" : Str).length = 1 := rfl
  have l5 : ("}" : Str).length = 1 := rfl
  refine Ex.ite (b := cell / 225 % 3 == 0) (by walk_at "ts") (fun hb => ?_) (fun hb => ?_)
  · have hk : cell / 225 % 3 = 0 := by simpa using hb
    walk_at "ret"
    unfold name3; rw [if_pos hk]
  have hk0 : ¬ cell / 225 % 3 = 0 := by simpa using hb
  refine Ex.ite (b := cell / 225 % 3 == 1) (by walk_at "ts") (fun hb => ?_) (fun hb => ?_)
  · have hk : cell / 225 % 3 = 1 := by simpa using hb
    walk_at "ret"
    unfold name3; rw [if_neg hk0, if_pos hk]
  have hk1 : ¬ cell / 225 % 3 = 1 := by simpa using hb
  walk_at "ret"
  unfold name3; rw [if_neg hk0, if_neg hk1]
end
end Mine
-- L3d
set_option maxHeartbeats 4000000
open Mine
local macro_rules | `(tactic| walk_at "cmp6") => `(tactic| exact gt3)
noncomputable section
namespace Mine
section
variable {w : World} {lo : List Str} {mg mb : Str → Option Value}

/-- which name is greater -/
def gtS (ts : List Str) (i j : Int) : Bool := decide ((ts.getD j.toNat ⟨#[]⟩).cps.toList < (ts.getD i.toNat ⟨#[]⟩).cps.toList)
def exStep (g : Int → Int → Bool) (st : List Int × Int) (k : Int) : List Int × Int :=
  if g (st.1.getD k.toNat 0) (st.1.getD (k + 1).toNat 0) then (st.1.take k.toNat ++ [st.1.getD (k + 1).toNat 0, st.1.getD k.toNat 0] ++ st.1.drop (k + 2).toNat, st.2 + 1) else st
def exLoop (g : Int → Int → Bool) (st : List Int × Int) (last : Int) : List Int × Int := (upto last).foldl (exStep g) st
def exch (g : Int → Int → Bool) : List Int × Int := (downto 3 0).foldl (exLoop g) ([0, 1, 2, 3], 0)
def exInv (st : List Int × Int) : Prop := st.1.length = 4 ∧ ∀ a ∈ st.1, 0 ≤ a ∧ a < 4
theorem exStep_inv {g : Int → Int → Bool} {st : List Int × Int} {k : Int} (h : exInv st) (h0 : 0 ≤ k) (h1 : k < 3) : exInv (exStep g st k) := by
  unfold exStep
  split
  · obtain ⟨e, a⟩ := h
    refine ⟨by simp; omega, fun b hb => ?_⟩
    simp only [List.mem_append, List.mem_cons, List.not_mem_nil, or_false] at hb
    rcases hb with (hb | rfl | rfl) | hb
    · exact a b (List.mem_of_mem_take hb)
    · exact getD_all (P := fun b => 0 ≤ b ∧ b < 4) a (by omega)
    · exact getD_all (P := fun b => 0 ≤ b ∧ b < 4) a (by omega)
    · exact a b (List.mem_of_mem_drop hb)
  · exact h
theorem exLoop_inv {g : Int → Int → Bool} {last : Int} (h1 : last ≤ 3) : ∀ (l : List Int) {st : List Int × Int}, (∀ k ∈ l, 0 ≤ k ∧ k < 3) → exInv st → exInv (l.foldl (exStep g) st)
  | [], _, _, h => h
  | k :: l, st, hk, h => exLoop_inv h1 l (fun j hj => hk j (.tail _ hj)) (exStep_inv h (hk k (.head _)).1 (hk k (.head _)).2)

theorem exchC3 {ts : List Str} (ht : ts.length = 4) : CallOK (W3 w lo mg mb) 8 (.ref 160) [(encL encO).e ts] (.list [(encL encI).e (exch (gtS ts)).1, .int (exch (gtS ts)).2]) := by
  refine Call.body (n := 7) ["names"] (by rfl) (by kernel_rfl) (fun vs h => by obtain ⟨a, rfl⟩ := len1 h; rfl) rfl (by decide +kernel) (by decide +kernel) (by decide +kernel) (by decide +kernel) (fun cx hI => ?_)
  show ExOK _ _ _ [_] _ _
  have hz := sizeLine_eq
  refine' Ex.assignC (d := (encL encI).e [0, 1, 2, 3]) ?h_n2 ?hc_n2 ?hx_n2 ?hd_n2 ?hr_n2 ?hs_n2
  case hs_n2 => rfl
  case h_n2 => walk_at "ev"
  case hc_n2 => rfl
  case hx_n2 => walk_at "stor"
  case hd_n2 => walk_at "drop"
  refine' Ex.assignC (d := encI.e 0) ?h_n3 ?hc_n3 ?hx_n3 ?hd_n3 ?hr_n3 ?hs_n3
  case hs_n3 => rfl
  case h_n3 => walk_at "ev"
  case hc_n3 => rfl
  case hx_n3 => walk_at "stor"
  case hd_n3 => walk_at "drop"
  refine' Ex.cons (St.forFold (E := encI) (downto 3 0) exInv (fun st => [("turns", .val (.int st.2)), ("row", .val ((encL encI).e st.1)), ("names", .val ((encL encO).e ts))]) (exLoop (gtS ts)) ([0, 1, 2, 3], 0) ?hit1 ?hitems1 ?hx1 ?hD1 ?h01 ?hI1 ?ht1 ?hs1) ?hr1
  case hs1 => intro _; rfl
  case hit1 => walk_at "ev"
  case hitems1 => walk_at "items"
  case hx1 => walk_at "stor"
  case hD1 => intro st; walk_at "drop"
  case h01 => walk_at "sub"
  case hI1 => exact ⟨rfl, by decide⟩
  case ht1 =>
    intro st last hst hl
    have hl' := mem_downto.mp hl
    refine' ⟨exLoop_inv (last := last) (by omega) _ (fun k hk => by have := mem_upto.mp hk; omega) hst, _, Ex.one (St.forFold (E := encI) (upto last) exInv (fun st => [("turns", .val (.int st.2)), ("row", .val ((encL encI).e st.1)), ("names", .val ((encL encO).e ts))]) (exStep (gtS ts)) st ?hit2 ?hitems2 ?hx2 ?hD2 ?h02 hst ?ht2 ?hs2), fun p hp => hp⟩
    case hs2 => intro _; rfl
    case hit2 => walk_at "ev"
    case hitems2 => walk_at "items"
    case hx2 => walk_at "stor"
    case hD2 => intro st; walk_at "drop"
    case h02 => walk_at "sub"
    case ht2 =>
      intro st k hst hk
      have hk' := mem_upto.mp hk
      obtain ⟨hlen, hall⟩ := id hst
      have q1 : 0 ≤ st.1.getD k.toNat (encI.d .none) ∧ st.1.getD k.toNat (encI.d .none) < (ts.length : Int) := by rw [ht]; exact getD_all (P := fun b => 0 ≤ b ∧ b < 4) hall (by omega)
      have q2 : 0 ≤ st.1.getD (k + 1).toNat (encI.d .none) ∧ st.1.getD (k + 1).toNat (encI.d .none) < (ts.length : Int) := by rw [ht]; exact getD_all (P := fun b => 0 ≤ b ∧ b < 4) hall (by omega)
      obtain ⟨q11, q12⟩ := q1
      obtain ⟨q21, q22⟩ := q2
      refine' ⟨exStep_inv hst hk'.1 (by omega), [("turns", .val (.int (exStep (gtS ts) st k).2)), ("row", .val ((encL encI).e (exStep (gtS ts) st k).1)), ("names", .val ((encL encO).e ts))], Ex.one (St.ite (b := gtS ts (st.1.getD k.toNat 0) (st.1.getD (k + 1).toNat 0)) ?tst (fun hb => ?yes) (fun hb => ?no)), fun p hp => hp⟩
      case tst => walk_at "ts"
      case yes =>
        have e : exStep (gtS ts) st k = _ := if_pos hb
        rw [e]
        refine' Ex.weak (ρ1 := _) ?bd ?sb
        case bd =>
          refine' Ex.assignC (d := (encL encI).e (st.1.take k.toNat ++ [st.1.getD (k + 1).toNat 0, st.1.getD k.toNat 0] ++ st.1.drop (k + 2).toNat)) ?h_r ?hc_r ?hx_r ?hd_r ?hr_r ?hs_r
          case hs_r => rfl
          case h_r => walk_at "ev"
          case hx_r => walk_at "stor"
          case hd_r => walk_at "drop"
          case hc_r => rfl
          refine' Ex.assignC (d := encI.e (st.2 + 1)) ?h_n5 ?hc_n5 ?hx_n5 ?hd_n5 ?hr_n5 ?hs_n5
          case hs_n5 => rfl
          case h_n5 => walk_at "ev"
          case hc_n5 => rfl
          case hx_n5 => walk_at "stor"
          case hd_n5 => walk_at "drop"
          exact Ex.nil
        case sb => walk_at "sub"
      case no =>
        have e : exStep (gtS ts) st k = st := if_neg (by rw [hb]; decide)
        rw [e]
        exact Ex.weak Ex.nil (by walk_at "sub")
  walk_at "ret"
  rfl
end
end Mine
-- L3e
set_option maxHeartbeats 4000000
open Mine
local macro_rules | `(tactic| walk_at "mul") => `(tactic| first
  | exact mulOk_small (by omega) (by omega)
  | fail "no")
noncomputable section
namespace Mine
section
variable {w : World} {lo : List Str} {mg mb : Str → Option Value}
def wideS (row : List Int) (ones : Int) : List Int := row ++ List.replicate (ones - 1).toNat 0
def timesS (row : List Int) (ones : Int) : List Int := (upto (wideS row ones).length).map fun k => (((wideS row ones).take (k + 1).toNat).drop (max 0 (k - ones + 1)).toNat).sum
theorem wideS_length {row : List Int} {ones : Int} : (wideS row ones).length = row.length + (ones - 1).toNat := by simp [wideS]
theorem timesS_length {row : List Int} {ones : Int} : (timesS row ones).length = row.length + (ones - 1).toNat := by simp only [timesS, List.length_map, upto_length, wideS_length]; omega

theorem timesC3 {row : List Int} {ones : Int} (h1 : 1 ≤ ones) (h2 : ones ≤ 4) (hl : row.length ≤ 1000) : CallOK (W3 w lo mg mb) 5 (.ref 170) [(encL encI).e row, .int ones] ((encL encI).e (timesS row ones)) := by
  refine Call.body (n := 4) ["row", "ones"] (by rfl) (by kernel_rfl) (fun vs h => by obtain ⟨a, b, rfl⟩ := len2 h; rfl) rfl (by decide +kernel) (by decide +kernel) (by decide +kernel) (by decide +kernel) (fun cx hI => ?_)
  show ExOK _ _ _ [_, _] _ _
  have hz := sizeLine_eq
  have hw := wideS_length (row := row) (ones := ones)
  refine' Ex.assignC (d := (encL encI).e (wideS row ones)) ?h_n2 ?hc_n2 ?hx_n2 ?hd_n2 ?hr_n2 ?hs_n2
  case hs_n2 => rfl
  case h_n2 => walk_at "ev"
  case hc_n2 => rfl
  case hx_n2 => walk_at "stor"
  case hd_n2 => walk_at "drop"
  refine' Ex.ret (St.ret ?c)
  case c =>
    refine' Ev.conv (Ev.comp0 (E := encI) (G := encI) [("wide", .val ((encL encI).e (wideS row ones))), ("ones", .val (.int ones))] (upto (wideS row ones).length) (fun k => (((wideS row ones).take (k + 1).toNat).drop (max 0 (k - ones + 1)).toNat).sum) ?hiter_a ?hitems_a ?hK_a ?hx_a ?hDr_a ?hzz_a ?hb_a ?hfr_a ?hnd_a ?hkind_a ?hρ_a ?hs_a) ?hconv_a
    case hK_a => exact Inner.k (by assumption)
    case hx_a => first | exact .inl rfl | exact .inr rfl
    case hDr_a => walk_at "drop"
    case hfr_a => decide +kernel
    case hnd_a => decide +kernel
    case hkind_a => rfl
    case hρ_a => walk_at "cap"
    case hs_a => intro _; rfl
    case hiter_a => walk_at "ev"
    case hitems_a => walk_at "items"
    case hzz_a => rw [upto_length]; omega
    case hb_a =>
      intro cx' hI' k hk
      have hk' := mem_upto.mp hk
      refine' Ev.conv ?h_n4 ?e_n4
      case h_n4 => walk_at "ev"
      case e_n4 => rfl
    case hconv_a => rfl
end
end Mine
local macro_rules | `(tactic| walk_at "call") => `(tactic| first
  | ((with_reducible refine' CallOK.le (timesC3 ?h ?h1 ?h2) ?hn); (case hn => decide); (case h => walk_at "side"); (case h1 => walk_at "side"); (case h2 => walk_at "side"))
  | fail "no")
namespace Mine
section
variable {w : World} {lo : List Str} {mg mb : Str → Option Value}
def wholeStep (alike : List Int) (row : List Int) (k : Int) : List Int := (timesS row (k + 1)).map fun x => alike.getD k.toNat 0 * x
def wholeS (alike : List Int) : List Int := (upto 4).foldl (wholeStep alike) [1] ++ List.replicate (alike.sum - 4).toNat 0
theorem wholeFold_length {alike : List Int} : ((upto 4).foldl (wholeStep alike) [1]).length = 7 := by
  have e : upto 4 = [0, 1, 2, 3] := by decide
  rw [e]
  simp [wholeStep, timesS_length]
theorem split4 {pre post : List Int} {k : Int} (h : upto 4 = pre ++ k :: post) : (pre.length : Int) = k ∧ pre.length < 4 := by
  have e : (upto 4)[pre.length]? = some k := by rw [h]; simp
  have hl : pre.length < 4 := by
    have := congrArg List.length h
    simp [upto_length] at this
    omega
  refine ⟨?_, hl⟩
  have key : ∀ i : Nat, i < 4 → (upto 4)[i]? = some (i : Int) := by decide
  rw [key _ hl] at e; cases e; rfl
theorem wholeC3 {alike : List Int} (hl : alike.length = 4) (ha : ∀ a ∈ alike, 0 ≤ a ∧ a ≤ 4) (hs : 4 ≤ alike.sum) (hs2 : alike.sum ≤ 16) : CallOK (W3 w lo mg mb) 7 (.ref 175) [(encL encI).e alike] ((encL encI).e (wholeS alike)) := by
  refine Call.body (n := 6) ["alike"] (by rfl) (by kernel_rfl) (fun vs h => by obtain ⟨a, rfl⟩ := len1 h; rfl) rfl (by decide +kernel) (by decide +kernel) (by decide +kernel) (by decide +kernel) (fun cx hI => ?_)
  show ExOK _ _ _ [_] _ _
  have hz := sizeLine_eq
  refine' Ex.assignC (d := (encL encI).e [1]) ?h_n6 ?hc_n6 ?hx_n6 ?hd_n6 ?hr_n6 ?hs_n6
  case hs_n6 => rfl
  case h_n6 => walk_at "ev"
  case hc_n6 => rfl
  case hx_n6 => walk_at "stor"
  case hd_n6 => walk_at "drop"
  refine' Ex.cons (St.forFoldP (E := encI) (upto 4) (fun pre (row : List Int) => row.length ≤ 1 + 3 * pre.length) (fun row => [("row", .val ((encL encI).e row)), ("alike", .val ((encL encI).e alike))]) (wholeStep alike) [1] ?hit_f ?hitems_f ?hx_f ?hD_f ?h0_f ?hI_f ?ht_f ?hs_f) ?hr_f
  case hs_f => intro _; rfl
  case hit_f => walk_at "ev"
  case hitems_f => walk_at "items"
  case hx_f => walk_at "stor"
  case hD_f => intro _; walk_at "drop"
  case h0_f => walk_at "sub"
  case hI_f => exact Nat.le_refl _
  case ht_f =>
    intro pre k post row hsp hrow
    obtain ⟨hk, hlt⟩ := split4 hsp
    have hlen : (wholeStep alike row k).length ≤ 1 + 3 * (pre ++ [k]).length := by
      simp [wholeStep, timesS_length]; omega
    have hq : 0 ≤ alike.getD k.toNat (encI.d .none) ∧ alike.getD k.toNat (encI.d .none) ≤ 4 := getD_all (P := fun a => 0 ≤ a ∧ a ≤ 4) ha (by omega)
    have hk4 : k < 4 := by omega
    refine' ⟨hlen, _, ?bd, fun p hp => hp⟩
    refine' Ex.weak (ρ1 := _) ?bd2 ?sb
    case bd2 =>
      refine' Ex.cons (St.comp0 (E := encI) (G := encI) [("alike", .val ((encL encI).e alike)), ("k", .val (.int k))] (timesS row (k + 1)) (fun x => alike.getD k.toNat 0 * x) ?hiter_g ?hitems_g ?hK_g ?hx_g ?hDr_g ?hzz_g ?hb_g ?hz_g ?hd_g ?hl_g ?hn_g ?hfr_g ?hnd_g ?hkind_g ?hρ_g ?hs_g) ?hr_g
      case hK_g => exact Inner.k (by assumption)
      case hx_g => first | exact .inl rfl | exact .inr rfl
      case hDr_g => walk_at "drop"
      case hz_g => rfl
      case hd_g => walk_at "drop"
      case hl_g => rfl
      case hn_g => decide +kernel
      case hfr_g => decide +kernel
      case hnd_g => decide +kernel
      case hkind_g => rfl
      case hρ_g => walk_at "cap"
      case hs_g => intro _; rfl
      case hiter_g => walk_at "ev"
      case hitems_g => walk_at "items"
      case hzz_g => rw [timesS_length]; omega
      case hb_g =>
        intro cx' hI' x hx
        refine' Ev.conv ?h_n9 ?e_n9
        case h_n9 => walk_at "ev"
        case e_n9 => rfl
      exact Ex.nil
    case sb => unfold wholeStep; walk_at "sub"
  have hfl := wholeFold_length (alike := alike)
  walk_at "ret"
  rfl

def grownS (row alike : List Int) : List Int := alike.foldl timesS row
theorem grownC3 {row alike : List Int} (hr : row.length ≤ 100) (hl : alike.length = 4) (ha : ∀ a ∈ alike, 1 ≤ a ∧ a ≤ 4) : CallOK (W3 w lo mg mb) 7 (.ref 182) [(encL encI).e row, (encL encI).e alike] ((encL encI).e (grownS row alike)) := by
  refine Call.body (n := 6) ["row", "alike"] (by rfl) (by kernel_rfl) (fun vs h => by obtain ⟨a, b, rfl⟩ := len2 h; rfl) rfl (by decide +kernel) (by decide +kernel) (by decide +kernel) (by decide +kernel) (fun cx hI => ?_)
  show ExOK _ _ _ [_, _] _ _
  have hz := sizeLine_eq
  refine' Ex.cons (St.forFoldP (E := encI) alike (fun pre (row : List Int) => row.length ≤ 100 + 3 * pre.length) (fun row => [("row", .val ((encL encI).e row)), ("alike", .val ((encL encI).e alike))]) timesS row ?hit_f ?hitems_f ?hx_f ?hD_f ?h0_f ?hI_f ?ht_f ?hs_f) ?hr_f
  case hs_f => intro _; rfl
  case hit_f => walk_at "ev"
  case hitems_f => walk_at "items"
  case hx_f => walk_at "stor"
  case hD_f => intro _; walk_at "drop"
  case h0_f => walk_at "sub"
  case hI_f => simpa using hr
  case ht_f =>
    intro pre ones post row hsp hrow
    have hm : ones ∈ alike := by rw [hsp]; simp
    have hq := ha ones hm
    have hpre : pre.length < 4 := by
      have := congrArg List.length hsp
      simp at this; omega
    refine' ⟨by simp [timesS_length]; omega, _, ?bd, fun p hp => hp⟩
    refine' Ex.weak (ρ1 := _) ?bd2 ?sb
    case bd2 =>
      refine' Ex.assignC (d := (encL encI).e (timesS row ones)) ?h_n12 ?hc_n12 ?hx_n12 ?hd_n12 ?hr_n12 ?hs_n12
      case hs_n12 => rfl
      case h_n12 => walk_at "ev"
      case hc_n12 => rfl
      case hx_n12 => walk_at "stor"
      case hd_n12 => walk_at "drop"
      exact Ex.nil
    case sb => walk_at "sub"
  walk_at "ret"
  rfl
end
end Mine
-- L3f
set_option maxHeartbeats 4000000
open Mine
local macro_rules | `(tactic| walk_at "cmp6") => `(tactic| with_reducible exact gt3)
noncomputable section
namespace Mine
section
variable {w : World} {lo : List Str} {mg mb : Str → Option Value}
def matS (ts : List Str) : List (List Bool) := ts.map fun a => ts.map fun b => decide (b.cps.toList < a.cps.toList)
def ordStep (os : List (List Int)) (place : Int) : List (List Int) := os.flatMap fun o => (upto (o.length + 1)).map fun k => o.take k.toNat ++ [place] ++ o.drop k.toNat
def orders4 : List (List Int) := (upto 4).foldl ordStep [[]]
def atM (G : List (List Bool)) (a b : Int) : Bool := (G.getD a.toNat []).getD b.toNat false
def pairsS (G : List (List Bool)) (o : List Int) : Nat := ((upto 4).flatMap fun k => ((upto k).filter fun j => atM G (o.getD j.toNat 0) (o.getD k.toNat 0)).map fun _ => (1 : Int)).length
def fallsS (G : List (List Bool)) (o : List Int) : Int := (((fromto 1 4).filter fun k => atM G (o.getD (k - 1).toNat 0) (o.getD k.toNat 0)).map fun k => k).sum
def spStep (G : List (List Bool)) (st : List Int × List Int) (o : List Int) : List Int × List Int :=
  (st.1.set (pairsS G o) (st.1.getD (pairsS G o) 0 + 1), st.2.set (fallsS G o).toNat (st.2.getD (fallsS G o).toNat 0 + 1))
def spreads (G : List (List Bool)) : List Int × List Int := orders4.foldl (spStep G) ([0, 0, 0, 0, 0, 0, 0], [0, 0, 0, 0, 0, 0, 0])
theorem orders4_ok : ∀ o ∈ orders4, o.length = 4 ∧ ∀ a ∈ o, 0 ≤ a ∧ a < 4 := by decide +kernel
theorem split4' {pre post : List Int} {k : Int} (h : upto 4 = pre ++ k :: post) : (pre.length : Int) = k ∧ pre.length < 4 := by
  have e : (upto 4)[pre.length]? = some k := by rw [h]; simp
  have hl : pre.length < 4 := by
    have := congrArg List.length h
    simp [upto_length] at this
    omega
  refine ⟨?_, hl⟩
  have key : ∀ i : Nat, i < 4 → (upto 4)[i]? = some (i : Int) := by decide
  rw [key _ hl] at e; cases e; rfl
theorem ordStep_len {os : List (List Int)} {p : Int} {m c : Nat} (h1 : os.length ≤ c) (h2 : ∀ o ∈ os, o.length = m) : (ordStep os p).length ≤ c * (m + 1) ∧ ∀ o ∈ ordStep os p, o.length = m + 1 := by
  constructor
  · unfold ordStep
    have : ∀ l : List (List Int), (∀ o ∈ l, o.length = m) → (l.flatMap fun o => (upto (o.length + 1)).map fun k => o.take k.toNat ++ [p] ++ o.drop k.toNat).length = l.length * (m + 1) := by
      intro l hl
      induction l with
      | nil => simp
      | cons o l ih =>
        rw [List.flatMap_cons, List.length_append, ih (fun o ho => hl o (.tail _ ho)), List.length_map, upto_length, hl o (.head _), List.length_cons, Nat.add_mul]
        omega
    rw [this os h2]
    exact Nat.mul_le_mul_right _ h1
  · intro o ho
    unfold ordStep at ho
    obtain ⟨o', ho', hk⟩ := List.mem_flatMap.mp ho
    obtain ⟨k, hk2, rfl⟩ := List.mem_map.mp hk
    have := mem_upto.mp hk2
    have := h2 o' ho'
    simp; omega
theorem pairs_le {G : List (List Bool)} {o : List Int} : pairsS G o ≤ 6 := by
  unfold pairsS
  have e : upto 4 = [0, 1, 2, 3] := by decide
  rw [e]
  simp only [List.flatMap_cons, List.flatMap_nil, List.append_nil, List.length_append, List.length_map]
  have h : ∀ k : Int, ∀ p : Int → Bool, ((upto k).filter p).length ≤ k.toNat := fun k p => by
    have := List.length_filter_le p (upto k)
    rw [upto_length] at this; exact this
  have h0 := h 0 fun j => atM G (o.getD j.toNat 0) (o.getD (0 : Int).toNat 0)
  have h1 := h 1 fun j => atM G (o.getD j.toNat 0) (o.getD (1 : Int).toNat 0)
  have h2 := h 2 fun j => atM G (o.getD j.toNat 0) (o.getD (2 : Int).toNat 0)
  have h3 := h 3 fun j => atM G (o.getD j.toNat 0) (o.getD (3 : Int).toNat 0)
  omega
theorem falls_le {G : List (List Bool)} {o : List Int} : 0 ≤ fallsS G o ∧ fallsS G o ≤ 6 := by
  unfold fallsS
  have e : fromto 1 4 = [1, 2, 3] := by decide
  rw [e, List.map_id']
  simp only [List.filter_cons, List.filter_nil]
  split <;> split <;> split <;> simp

theorem spreadsC3 {ts : List Str} (ht : ts.length = 4) : CallOK (W3 w lo mg mb) 9 (.ref 165) [(encL encO).e ts] (.list [(encL encI).e (spreads (matS ts)).1, (encL encI).e (spreads (matS ts)).2]) := by
  refine Call.body (n := 8) ["names"] (by rfl) (by kernel_rfl) (fun vs h => by obtain ⟨a, rfl⟩ := len1 h; rfl) rfl (by decide +kernel) (by decide +kernel) (by decide +kernel) (by decide +kernel) (fun cx hI => ?_)
  show ExOK _ _ _ [_] _ _
  have hz := sizeLine_eq
  refine' Ex.assignC (d := (encL (encL encB)).e (matS ts)) ?hg rfl ?hgx ?hgd ?hgr (swaps_cell (Kinds.cell hI.k rfl))
  case hgx => walk_at "stor"
  case hgd => walk_at "drop"
  case hg =>
    refine' Ev.conv (Ev.comp0 (E := encO) (G := (encL encB)) [("names", .val ((encL encO).e ts))] ts (fun a => ts.map fun b => decide (b.cps.toList < a.cps.toList)) ?hiter_g ?hitems_g ?hK_g ?hx_g ?hDr_g ?hzz_g ?hb_g ?hfr_g ?hnd_g ?hkind_g ?hρ_g ?hs_g) ?hconv_g
    case hK_g => exact Inner.k (by assumption)
    case hx_g => first | exact .inl rfl | exact .inr rfl
    case hDr_g => walk_at "drop"
    case hfr_g => decide +kernel
    case hnd_g => decide +kernel
    case hkind_g => rfl
    case hρ_g => walk_at "cap"
    case hs_g => intro _; rfl
    case hiter_g => walk_at "ev"
    case hitems_g => walk_at "items"
    case hzz_g => omega
    case hconv_g => rfl
    case hb_g =>
      intro cx1 hI1 a ha
      refine' Ev.conv (Ev.comp0 (E := encO) (G := encB) [("one", .val (.obj a))] ts (fun b => decide (b.cps.toList < a.cps.toList)) ?hiter_h ?hitems_h ?hK_h ?hx_h ?hDr_h ?hzz_h ?hb_h ?hfr_h ?hnd_h ?hkind_h ?hρ_h ?hs_h) ?hconv_h
      case hK_h => exact Inner.k (by assumption)
      case hx_h => first | exact .inl rfl | exact .inr rfl
      case hDr_h => walk_at "drop"
      case hfr_h => decide +kernel
      case hnd_h => decide +kernel
      case hkind_h => rfl
      case hρ_h => walk_at "cap"
      case hs_h => intro _; rfl
      case hiter_h => walk_at "ev"
      case hitems_h => walk_at "items"
      case hzz_h => omega
      case hb_h =>
        intro cx2 hI2 b hb
        walk_at "ev"
      case hconv_h => rfl
  refine' Ex.assignC (d := (encL (encL encI)).e [[]]) ?h_n4 ?hc_n4 ?hx_n4 ?hd_n4 ?hr_n4 ?hs_n4
  case hs_n4 => rfl
  case h_n4 => walk_at "ev"
  case hc_n4 => rfl
  case hx_n4 => walk_at "stor"
  case hd_n4 => walk_at "drop"
  refine' Ex.cons (St.forFoldP (E := encI) (upto 4) (fun pre (os : List (List Int)) => os.length ≤ 5 ^ pre.length ∧ ∀ o ∈ os, o.length = pre.length) (fun os => [("orders", .val ((encL (encL encI)).e os)), ("greater", .val ((encL (encL encB)).e (matS ts))), ("names", .val ((encL encO).e ts))]) ordStep [[]] ?hit_o ?hitems_o ?hx_o ?hD_o ?h0_o ?hI_o ?ht_o ?hs_o) ?hr_o
  case hs_o => intro _; rfl
  case hit_o => walk_at "ev"
  case hitems_o => walk_at "items"
  case hx_o => walk_at "stor"
  case hD_o => intro _; walk_at "drop"
  case h0_o => walk_at "sub"
  case hI_o => exact ⟨by decide, fun o ho => by rw [List.mem_singleton.mp ho]⟩
  case ht_o =>
    intro pre place post os hsp hos
    obtain ⟨hp, hlt⟩ := split4' hsp
    obtain ⟨l1, l2⟩ := ordStep_len (p := place) hos.1 hos.2
    have l3 : 5 ^ pre.length * (pre.length + 1) ≤ 5 ^ (pre.length + 1) := by
      rw [Nat.pow_succ]; exact Nat.mul_le_mul_left _ (by omega)
    have l4 : 5 ^ (pre.length + 1) ≤ 5 ^ 4 := Nat.pow_le_pow_right (by decide) (by omega)
    refine' ⟨⟨by rw [List.length_append]; exact Nat.le_trans l1 l3, by rw [List.length_append]; exact l2⟩, _, ?bd, fun p hp => hp⟩
    refine' Ex.weak (ρ1 := _) ?bd2 ?sb
    case bd2 =>
      refine' Ex.cons (St.comp2 (E := (encL encI)) (F := encI) (G := (encL encI)) [("place", .val (.int place))] os (fun o => .rng 0 ((o.length : Int) + 1) 1) (fun o => upto (o.length + 1)) (fun _ _ => true) (fun o k => o.take k.toNat ++ [place] ++ o.drop k.toNat) ?hiter_p ?hitems_p ?hK_p ?hx_p ?hDr_p ?hy_p ?hDy_p ?h2_p ?hb_p ?hzz_p ?hz_p ?hd_p ?hl_p ?hn_p ?hfr_p ?hnd_p ?hkind_p ?hρ_p ?hs2_p ?hs_p) ?hr_p
      case hK_p => exact Inner.k (by assumption)
      case hx_p => first | exact .inl rfl | exact .inr rfl
      case hDr_p => walk_at "drop"
      case hy_p => first | exact .inl rfl | exact .inr rfl
      case hDy_p => intro _; walk_at "drop"
      case hs2_p => intro _ _; rfl
      case hz_p => rfl
      case hd_p => walk_at "drop"
      case hl_p => rfl
      case hn_p => decide +kernel
      case hfr_p => decide +kernel
      case hnd_p => decide +kernel
      case hkind_p => rfl
      case hρ_p => walk_at "cap"
      case hs_p => intro _; rfl
      case hiter_p => walk_at "ev"
      case hitems_p => walk_at "items"
      case h2_p =>
        intro cx1 hI1 o ho
        have hol := hos.2 o ho
        exact ⟨by walk_at "ev", Items.uptoS (by omega) (by omega)⟩
      case hb_p =>
        intro cx1 hI1 o ho k hk
        have hol := hos.2 o ho
        have hk' := mem_upto.mp hk
        refine ⟨Ifs.nil, fun _ => ?_⟩
        walk_at "ev"
      case hzz_p =>
        simp only [List.filter_eq_self.mpr (fun _ _ => rfl)]
        exact Nat.le_trans (Nat.le_trans l1 (Nat.le_trans l3 l4)) (by omega)
      exact Ex.nil
    case sb =>
      have e : ordStep os place = os.flatMap fun o => ((upto (o.length + 1)).filter fun _ => true).map fun k => o.take k.toNat ++ [place] ++ o.drop k.toNat := by
        simp only [List.filter_eq_self.mpr (fun _ _ => rfl)]
        try rfl
      rw [e]
      walk_at "sub"
  have hG : (matS ts).length = 4 := by simp [matS, ht]
  have hG2 : ∀ g ∈ matS ts, g.length = 4 := fun g hg => by
    obtain ⟨a, _, rfl⟩ := List.mem_map.mp hg
    simp [ht]
  show ExOK _ _ _ [("orders", .val ((encL (encL encI)).e orders4)), ("greater", .val ((encL (encL encB)).e (matS ts))), ("names", .val ((encL encO).e ts))] _ _
  refine' Ex.own (ds := [0, 0, 0, 0, 0, 0, 0].map encI.e) ?oh ?oz ?ox ?od ?or rfl
  case oh => walk_at "argsI"
  case oz => decide
  case ox => walk_at "stor"
  case od => walk_at "drop"
  case or =>
  intro a1
  have hI1 := hI.plus (a := a1)
  refine' Ex.own (ds := [0, 0, 0, 0, 0, 0, 0].map encI.e) ?ph ?pz ?px ?pd ?pr rfl
  case ph => walk_at "argsI"
  case pz => decide
  case px => walk_at "stor"
  case pd => walk_at "drop"
  case pr =>
  intro a2
  have hI2 := hI1.plus (a := a2)
  refine' Ex.cons (St.forFold (E := (encL encI)) orders4 (fun (st : List Int × List Int) => st.1.length = 7 ∧ st.2.length = 7) (fun st => [("by_falls", .own (st.2.map encI.e)), ("by_pairs", .own (st.1.map encI.e)), ("greater", .val ((encL (encL encB)).e (matS ts)))]) (spStep (matS ts)) ([0, 0, 0, 0, 0, 0, 0], [0, 0, 0, 0, 0, 0, 0]) ?hit_z ?hitems_z ?hx_z ?hD_z ?h0_z ?hI_z ?ht_z ?hs_z) ?hr_z
  case hs_z => intro _; rfl
  case hit_z => walk_at "ev"
  case hitems_z => walk_at "items"
  case hx_z => walk_at "stor"
  case hD_z => intro _; walk_at "drop"
  case h0_z => walk_at "sub"
  case hI_z => exact ⟨rfl, rfl⟩
  case ht_z =>
    intro st o hst ho
    obtain ⟨s1, s2⟩ := hst
    obtain ⟨ol, oa⟩ := orders4_ok o ho
    have pl := pairs_le (G := matS ts) (o := o)
    have fl := falls_le (G := matS ts) (o := o)
    have inr : ∀ i : Int, 0 ≤ i → i < 4 → 0 ≤ o.getD i.toNat (encI.d .none) ∧ o.getD i.toNat (encI.d .none) < 4 := fun i h0 h1 => getD_all (P := fun a => 0 ≤ a ∧ a < 4) oa (by omega)
    have inm : ∀ i : Int, 0 ≤ i → i < 4 → ((matS ts).getD i.toNat ((encL encB).d .none)).length = 4 := fun i h0 h1 => getD_all (P := fun (g : List Bool) => g.length = 4) hG2 (by omega)
    refine' ⟨⟨by simp [spStep, s1], by simp [spStep, s2]⟩, _, ?zd, fun p hp => hp⟩
    refine' Ex.weak (ρ1 := _) ?zd2 ?zb
    case zd2 =>
      refine' Ex.assignC (d := encI.e (pairsS (matS ts) o)) ?q1 ?q2 ?q3 ?q4 ?q5 rfl
      case q3 => walk_at "stor"
      case q4 => walk_at "drop"
      case q1 =>
        refine' Ev.call ?hk_c ?hg_c ?hp_c (Args.cons ?harg_c Args.nil (fun _ => rfl)) ?hcl_c ?he_c ?hl_c ?hdb_c
        case he_c => rfl
        case hl_c => rfl
        case hdb_c => rfl
        case hk_c => walk_at "gk"
        case hg_c => walk_at "glob"
        case hp_c => walk_at "keeps"
        case harg_c =>
          refine' Ev.conv (Ev.comp2 (E := encI) (F := encI) (G := encI) [("greater", .val ((encL (encL encB)).e (matS ts))), ("order", .val ((encL encI).e o))] (upto 4) (fun k => .rng 0 k 1) (fun k => upto k) (fun k j => atM (matS ts) (o.getD j.toNat 0) (o.getD k.toNat 0)) (fun _ _ => 1) ?hiter_d ?hitems_d ?hK_d ?hx_d ?hDr_d ?hy_d ?hDy_d ?h2_d ?hb_d ?hzz_d ?hfr_d ?hnd_d ?hkind_d ?hρ_d ?hs2_d ?hs_d) ?hconv_d
          case hK_d => exact Inner.k (by assumption)
          case hx_d => first | exact .inl rfl | exact .inr rfl
          case hDr_d => walk_at "drop"
          case hy_d => first | exact .inl rfl | exact .inr rfl
          case hDy_d => intro _; walk_at "drop"
          case hs2_d => intro _ _; rfl
          case hfr_d => decide +kernel
          case hnd_d => decide +kernel
          case hkind_d => rfl
          case hρ_d => walk_at "cap"
          case hs_d => intro _; rfl
          case hiter_d => walk_at "ev"
          case hitems_d => walk_at "items"
          case h2_d =>
            intro cx3 hI3 k hk
            have hk' := mem_upto.mp hk
            exact ⟨by walk_at "ev", Items.uptoS (by omega) (by omega)⟩
          case hb_d =>
            intro cx3 hI3 k hk j hj
            have hk' := mem_upto.mp hk
            have hj' := mem_upto.mp hj
            obtain ⟨b1, b2⟩ := inr j (by omega) (by omega)
            obtain ⟨b3, b4⟩ := inr k (by omega) (by omega)
            have b5 := inm (o.getD j.toNat (encI.d .none)) b1 b2
            refine ⟨Ifs.one ?_, fun _ => ?_⟩
            · refine' Ts.conv ?th ?te
              case th => walk_at "ts"
              case te => rfl
            · walk_at "ev"
          case hzz_d => exact Nat.le_trans pl (by rw [hz]; decide)
          case hconv_d => rfl
        case hcl_c => exact Call.lenE (E := encI) (by exact Nat.lt_of_le_of_lt pl (by decide))
      case q2 => rfl
      refine' Ex.assignC (d := encI.e (fallsS (matS ts) o)) ?r1 ?r2 ?r3 ?r4 ?r5 rfl
      case r3 => walk_at "stor"
      case r4 => walk_at "drop"
      case r1 =>
        refine' Ev.call ?hk_e ?hg_e ?hp_e (Args.cons ?harg_e Args.nil (fun _ => rfl)) ?hcl_e ?he_e ?hl_e ?hdb_e
        case he_e => rfl
        case hl_e => rfl
        case hdb_e => rfl
        case hk_e => walk_at "gk"
        case hg_e => walk_at "glob"
        case hp_e => walk_at "keeps"
        case harg_e =>
          refine' Ev.conv (Ev.comp1 (E := encI) (G := encI) [("greater", .val ((encL (encL encB)).e (matS ts))), ("order", .val ((encL encI).e o))] (fromto 1 4) (fun k => atM (matS ts) (o.getD (k - 1).toNat 0) (o.getD k.toNat 0)) (fun k => k) ?hiter_f ?hitems_f ?hK_f ?hx_f ?hDr_f ?hzz_f ?hb_f ?hfr_f ?hnd_f ?hkind_f ?hρ_f ?hs_f) ?hconv_f
          case hK_f => exact Inner.k (by assumption)
          case hx_f => first | exact .inl rfl | exact .inr rfl
          case hDr_f => walk_at "drop"
          case hfr_f => decide +kernel
          case hnd_f => decide +kernel
          case hkind_f => rfl
          case hρ_f => walk_at "cap"
          case hs_f => intro _; rfl
          case hiter_f => walk_at "ev"
          case hitems_f => walk_at "items"
          case hb_f =>
            intro cx3 hI3 k hk
            have hk' := mem_fromto.mp hk
            obtain ⟨b1, b2⟩ := inr (k - 1) (by omega) (by omega)
            obtain ⟨b3, b4⟩ := inr k (by omega) (by omega)
            have b5 := inm (o.getD (k - 1).toNat (encI.d .none)) b1 b2
            refine ⟨Ifs.one ?_, fun _ => ?_⟩
            · refine' Ts.conv ?th9 ?te9
              case th9 => walk_at "ts"
              case te9 => rfl
            · walk_at "ev"
          case hzz_f => decide
          case hconv_f => rfl
        case hcl_e => walk_at "call"
      case r2 => rfl
      refine' Ex.cons (St.setItem (xs := st.1.map encI.e) (i := pairsS (matS ts) o) (d := .int (st.1.getD (pairsS (matS ts) o) 0 + 1)) ?u1 ?u2 ?u3 ?u4 ?u5 ?u6 rfl rfl rfl) ?ur
      case u1 =>
        refine' Ev.conv ?uh ?ue
        case uh => walk_at "ev"
        case ue => rfl
      case u2 => walk_at "mem"
      case u3 => walk_at "ev"
      case u4 => rw [List.length_map, s1]; omega
      case u5 => rw [List.length_map, s1]; decide
      case u6 => walk_at "drop"
      refine' Ex.cons (St.setItem (xs := st.2.map encI.e) (i := (fallsS (matS ts) o).toNat) (d := .int (st.2.getD (fallsS (matS ts) o).toNat 0 + 1)) ?v1 ?v2 ?v3 ?v4 ?v5 ?v6 rfl rfl rfl) ?vr
      case v1 =>
        refine' Ev.conv ?vh ?ve
        case vh => walk_at "ev"
        case ve => rfl
      case v2 => walk_at "mem"
      case v3 =>
        refine' Ev.conv ?vh2 ?ve2
        case vh2 => walk_at "ev"
        case ve2 => exact congrArg D.int (Int.toNat_of_nonneg fl.1).symm
      case v4 => rw [List.length_map, s2]; omega
      case v5 => rw [List.length_map, s2]; decide
      case v6 => walk_at "drop"
      exact Ex.nil
    case zb =>
      show ∀ p, p ∈ ([("by_falls", Ent.own (((st.2.set (fallsS (matS ts) o).toNat (st.2.getD (fallsS (matS ts) o).toNat 0 + 1))).map encI.e)), ("by_pairs", Ent.own ((st.1.set (pairsS (matS ts) o) (st.1.getD (pairsS (matS ts) o) 0 + 1)).map encI.e)), ("greater", Ent.val ((encL (encL encB)).e (matS ts)))] : Rho) → _
      rw [List.map_set, List.map_set]
      walk_at "sub"
  walk_at "ret"
  rfl
end
end Mine
-- MB30
namespace Mine

theorem law_end {W : Wc} {n : Nat} {A : Around} {s s₁ : Shared} {h₀ hW : Heap} {name x : Str} {scope : Scope} {L a P l cc : Addr} {cd : Value} {cells : List (Addr × Obj)} {ns : List Int} {body : List Stmt} {Pm : Params}
    {c : ClaimW} {cl : Str → Option Addr} {mean : ExcName → Option Value} {args : List WData} {E : Value → Shared → Prop}
    (F : Fr h₀ L s.heap (bindL (envOfC name scope L a cd).kindOf [(x, .ref l)] fun _ => none)) (N : News h₀ L s.heap (cells ++ [(P, tabObj #[])]))
    (X : CellsAre (bindC (envOfC name scope L a cd).kindOf [(x, .ref l)] fun _ => none) (cellsFrom (L + 1) scope.names []) cells) (g : Gd W h₀)
    (hw : Well Pm hW (.ref l) (ofPy (PyData.list (ns.map PyData.int)))) (hk0 : ∀ o, hW.get? l = some o → o ≠ tabObj #[] → h₀.get? l = some o)
    (hPL : P < L) (rm : Rm n A) (hs : s₁.heap = h₀) (hgen : s.gens = #[]) (hos : s.os = s₁.os) (hr : ∀ cls, c.raises args cls = false) (hp : c.post args (.bool true) args = true)
    (hk : scope.kind = .function) (hnd : (scope.names.map (·.1)).Nodup) (hnf : ∀ y ∈ scope.names, y.2 ≠ .free) (hx : scope.names.lookup x = some .local ∨ scope.names.lookup x = some .cell)
    (hX : ∀ hi, P ≠ L → Inner (cxT name scope L a cd P hi) scope → ExT W (cxT name scope L a cd P hi) n P [(x, .val (iL ns))] [] body (.bool true)) :
    wpAny (model W.prog W.w) A (execs body (envOfC name scope L a cd)) (fun f s' => GoodW c cl mean args s₁ (.ok (.ret (match f with | .ret v => v | _ => .none))) s' ∧ GrownAll [(cc, P)] s'.heap) E s := by
  have nP := N (P, tabObj #[]) (List.mem_append_right _ (.head _))
  have hl0 : ∃ o, h₀.get? l = some o := by
    cases hw with
    | list hg _ => exact ⟨_, hk0 _ hg fun q => by cases q⟩
  obtain ⟨ol, hol⟩ := hl0
  have hlL : l < L := Nat.lt_of_lt_of_le (Heap.lt_size hol) F.above
  have r : Rep W.C (fun b => rngP L (hz s) b ∨ b = P) s.heap (.ref l) (iL ns) := script_rep hw (fun o ho hn => F.keep _ _ (hk0 o ho hn)) fun q => by
    rcases q with q | q
    · exact Nat.lt_irrefl _ (Nat.lt_of_lt_of_le hlL q.1)
    · rw [q, nP.2.2] at hol; cases hol
  obtain ⟨i, m, hI⟩ := top_inv (W := W) hk hnd hnf hx F N (fun p hp => List.mem_append_left _ hp) (List.mem_append_right _ (.head _)) X g r
  have hμ : ¬ (cxT name scope L a cd P (hz s)).μ P := fun q => Nat.lt_irrefl _ (Nat.lt_of_lt_of_le hPL q.1)
  refine wpF (hX _ nP.2.1 hI hμ rfl (.inr rfl) A s rm i (m _)) fun f s' ⟨x1, hgr, v, e, rv⟩ => ?_
  subst e
  obtain rfl := rep_bool.mp rv
  refine ⟨good_true hr hp (fun b o e => ?_) (x1.os.trans hos) (x1.gens.trans hgen), hgr, trivial⟩
  rw [hs] at e
  refine x1.keep b o (fun q => ?_) (F.keep b o e)
  rcases q with q | q
  · exact Nat.lt_irrefl _ (Nat.lt_of_lt_of_le (Nat.lt_of_lt_of_le (Heap.lt_size e) F.above) q.1)
  · rw [q, nP.2.2] at e; cases e
end Mine
-- PA
namespace Mine

/-! texts by tokens -/
/-- two codes part at a place -/
def part : List Nat → List Nat → Bool
  | a :: x, b :: y => decide (a < b) || (decide (a = b) && part x y)
  | _, _ => false
theorem part_lt : ∀ {x y : List Nat}, part x y = true → ∀ p q, x ++ p < y ++ q
  | a :: x, b :: y, h, p, q => by
    rw [part, Bool.or_eq_true, Bool.and_eq_true, decide_eq_true_iff, decide_eq_true_iff] at h
    rw [List.cons_append, List.cons_append, List.cons_lt_cons_iff]
    rcases h with h | ⟨h, h2⟩
    · exact .inl h
    · exact .inr ⟨h, part_lt h2 p q⟩
  | [], _, h, _, _ => by simp [part] at h
  | _ :: _, [], h, _, _ => by simp [part] at h
theorem app_lt (x : List Nat) (p q : List Nat) : x ++ p < x ++ q ↔ p < q := by
  induction x with
  | nil => exact Iff.rfl
  | cons a x ih => rw [List.cons_append, List.cons_append, List.cons_lt_cons_iff, ih]; simp
theorem ltI_lt : ∀ {x y : List Int}, ltI x y = decide (x < y)
  | [], [] => by simp [ltI]
  | [], _ :: _ => by simp [ltI]
  | _ :: _, [] => by simp [ltI]
  | a :: x, b :: y => by
    rw [ltI, ltI_lt, eq_comm]
    by_cases h : a = b
    · subst h; simp [List.cons_lt_cons_iff]
    · simp [List.cons_lt_cons_iff, h]
abbrev Tok := List Nat × Int
structure TokOK (T : List Tok) : Prop where
  ne : ∀ a ∈ T, a.1 ≠ []
  eq : ∀ a ∈ T, ∀ b ∈ T, a.2 = b.2 → a.1 = b.1
  lt : ∀ a ∈ T, ∀ b ∈ T, a.2 < b.2 → part a.1 b.1 = true
def tokTest (T : List Tok) : Bool := T.all fun a => !a.1.isEmpty && T.all fun b => (if a.2 = b.2 then decide (a.1 = b.1) else true) && (if a.2 < b.2 then part a.1 b.1 else true)
theorem TokOK.of {T : List Tok} (h : tokTest T = true) : TokOK T := by
  unfold tokTest at h
  rw [List.all_eq_true] at h
  refine ⟨fun a ha => ?_, fun a ha b hb e => ?_, fun a ha b hb e => ?_⟩
  · have := (Bool.and_eq_true _ _ ▸ h a ha).1
    simpa using this
  · have := (Bool.and_eq_true _ _ ▸ h a ha).2
    rw [List.all_eq_true] at this
    have := (Bool.and_eq_true _ _ ▸ this b hb).1
    rw [if_pos e] at this
    simpa using this
  · have := (Bool.and_eq_true _ _ ▸ h a ha).2
    rw [List.all_eq_true] at this
    have := (Bool.and_eq_true _ _ ▸ this b hb).2
    rw [if_pos e] at this
    exact this
theorem tok_iff {T : List Tok} (hT : TokOK T) : ∀ {ks ls : List Tok}, (∀ k ∈ ks, k ∈ T) → (∀ k ∈ ls, k ∈ T) → (ks.flatMap (·.1) < ls.flatMap (·.1) ↔ ks.map (·.2) < ls.map (·.2))
  | [], [], _, _ => by simp
  | [], l :: ls, _, h => by
    have := hT.ne l (h l (.head _))
    cases e : l.1 with
    | nil => exact absurd e this
    | cons a x => simp [e]
  | k :: ks, [], h, _ => by simp
  | k :: ks, l :: ls, hk, hl => by
    have ih := tok_iff hT (ks := ks) (ls := ls) (fun a ha => hk a (.tail _ ha)) (fun a ha => hl a (.tail _ ha))
    have mk := hk k (.head _)
    have ml := hl l (.head _)
    rw [List.flatMap_cons, List.flatMap_cons, List.map_cons, List.map_cons, List.cons_lt_cons_iff]
    rcases Int.lt_trichotomy k.2 l.2 with h | h | h
    · exact ⟨fun _ => .inl h, fun _ => part_lt (hT.lt k mk l ml h) _ _⟩
    · rw [hT.eq k mk l ml h, app_lt, ih, h]; simp
    · have := part_lt (hT.lt l ml k mk h) (ls.flatMap (·.1)) (ks.flatMap (·.1))
      constructor
      · intro q; exact absurd (List.lt_trans this q) (List.lt_irrefl _)
      · rintro (q | q)
        · omega
        · omega
/-! the keys' order by small numbers -/
def below (ks : List (List Int)) (a : List Int) : Nat := (ks.filter fun b => ltI b a).length
theorem ltI_trans {a b c : List Int} (h1 : ltI a b = true) (h2 : ltI b c = true) : ltI a c = true := by
  rw [ltI_lt, decide_eq_true_iff] at *
  exact List.lt_trans h1 h2
theorem ltI_irrefl (a : List Int) : ltI a a = false := by
  rw [ltI_lt, decide_eq_false_iff_not]
  exact List.lt_irrefl _
theorem ltI_tri {a b : List Int} (h1 : ltI a b = false) (h2 : ltI b a = false) : a = b := by
  rw [ltI_lt, decide_eq_false_iff_not] at *
  exact List.le_antisymm (List.not_lt.mp h2) (List.not_lt.mp h1)
theorem filter_mono {α : Type} {p q : α → Bool} : ∀ {l : List α}, (∀ x ∈ l, p x = true → q x = true) → (l.filter p).length ≤ (l.filter q).length
  | [], _ => Nat.le_refl _
  | x :: l, h => by
    have ih := filter_mono (l := l) fun y hy => h y (.tail _ hy)
    have hx := h x (.head _)
    cases hp : p x with
    | true => rw [List.filter_cons_of_pos hp, List.filter_cons_of_pos (hx hp)]; simpa using ih
    | false =>
      rw [List.filter_cons_of_neg (by rw [hp]; decide)]
      cases hq : q x with
      | true => rw [List.filter_cons_of_pos hq]; simp; omega
      | false => rw [List.filter_cons_of_neg (by rw [hq]; decide)]; exact ih
theorem filter_mono_lt {α : Type} {p q : α → Bool} {a : α} : ∀ {l : List α}, (∀ x ∈ l, p x = true → q x = true) → a ∈ l → p a = false → q a = true → (l.filter p).length < (l.filter q).length
  | x :: l, h, ha, hp, hq => by
    have hl : ∀ y ∈ l, p y = true → q y = true := fun y hy => h y (.tail _ hy)
    rcases List.mem_cons.mp ha with rfl | ha
    · rw [List.filter_cons_of_neg (by rw [hp]; decide), List.filter_cons_of_pos hq, List.length_cons]
      have := filter_mono hl
      omega
    · have ih := filter_mono_lt hl ha hp hq
      have hx := h x (.head _)
      cases hpx : p x with
      | true => rw [List.filter_cons_of_pos hpx, List.filter_cons_of_pos (hx hpx)]; simpa using ih
      | false =>
        rw [List.filter_cons_of_neg (by rw [hpx]; decide)]
        cases hqx : q x with
        | true => rw [List.filter_cons_of_pos hqx]; simp; omega
        | false => rw [List.filter_cons_of_neg (by rw [hqx]; decide)]; exact ih
theorem below_lt {ks : List (List Int)} {a b : List Int} (ha : a ∈ ks) : ltI a b = decide (below ks a < below ks b) := by
  cases h : ltI a b with
  | true =>
    rw [eq_comm, decide_eq_true_iff]
    exact filter_mono_lt (a := a) (fun x _ hx => ltI_trans hx h) ha (ltI_irrefl a) h
  | false =>
    rw [eq_comm, decide_eq_false_iff_not, Nat.not_lt]
    refine filter_mono fun x _ hx => ?_
    cases h2 : ltI b a with
    | true => exact ltI_trans hx h2
    | false => rw [ltI_tri h h2]; exact hx
/-- the ranks of the keys among themselves; no key is nothing, and nothing is 0 -/
def vOf (ks : List (List Int)) : List Nat := ks.map (below ([] :: ks))
theorem below_nil (ks : List (List Int)) : below ks [] = 0 := by
  unfold below
  rw [List.length_eq_zero_iff, List.filter_eq_nil_iff]
  intro b _
  cases b <;> simp [ltI]
theorem vOf_getD (ks : List (List Int)) (i : Nat) : (vOf ks).getD i 0 = below ([] :: ks) (ks.getD i []) := by
  unfold vOf
  rw [List.getD_eq_getElem?_getD, List.getD_eq_getElem?_getD, List.getElem?_map]
  cases ks[i]? with
  | none => simp [below_nil]
  | some a => rfl
theorem getD_nil_mem (ks : List (List Int)) (i : Nat) : ks.getD i [] ∈ [] :: ks := by
  rw [List.getD_eq_getElem?_getD]
  cases h : ks[i]? with
  | none => exact .head _
  | some a => exact .tail _ (List.mem_of_getElem? h)
theorem vOf_lt (ks : List (List Int)) (i j : Nat) : ltI (ks.getD i []) (ks.getD j []) = decide ((vOf ks).getD i 0 < (vOf ks).getD j 0) := by
  rw [vOf_getD, vOf_getD]
  exact below_lt (getD_nil_mem ks i)
theorem vOf_eq (ks : List (List Int)) (i j : Nat) : decide (ks.getD i [] = ks.getD j []) = decide ((vOf ks).getD i 0 = (vOf ks).getD j 0) := by
  have h1 := vOf_lt ks i j
  have h2 := vOf_lt ks j i
  rw [decide_eq_decide]
  constructor
  · intro e; rw [vOf_getD, vOf_getD, e]
  · intro e
    refine ltI_tri ?_ ?_
    · rw [h1, decide_eq_false_iff_not, e]; exact Nat.lt_irrefl _
    · rw [h2, decide_eq_false_iff_not, e]; exact Nat.lt_irrefl _
theorem vOf_length (ks : List (List Int)) : (vOf ks).length = ks.length := by simp [vOf]
theorem vOf_bd {ks : List (List Int)} (hne : ∀ k ∈ ks, k ≠ []) : ∀ v ∈ vOf ks, 1 ≤ v ∧ v ≤ ks.length := fun v hv => by
  unfold vOf at hv
  obtain ⟨a, ha, rfl⟩ := List.mem_map.mp hv
  constructor
  · have h0 : ltI [] a = true := by
      have := hne a ha
      cases a with
      | nil => exact absurd rfl this
      | cons => rfl
    unfold below
    rw [List.filter_cons_of_pos (by simpa using h0), List.length_cons]
    omega
  · have h : (([] :: ks).filter fun b => ltI b a).length < (([] :: ks).filter fun _ => true).length := filter_mono_lt (a := a) (fun _ _ _ => rfl) (.tail _ ha) (ltI_irrefl a) rfl
    rw [List.filter_eq_self.mpr (fun _ _ => rfl), List.length_cons] at h
    unfold below
    omega
/-- a vector of ranks: each one more than how many are less -/
def isRank (v : List Nat) : Bool := decide (v.map (fun a => 1 + (v.filter fun b => decide (b < a)).length) = v)
theorem filter_len_map {α β : Type} (f : α → β) (p : β → Bool) (l : List α) : ((l.map f).filter p).length = (l.filter fun a => p (f a)).length := by
  rw [List.filter_map, List.length_map]; rfl
theorem vOf_rank {ks : List (List Int)} (hne : ∀ k ∈ ks, k ≠ []) : isRank (vOf ks) = true := by
  unfold isRank
  rw [decide_eq_true_iff]
  unfold vOf
  rw [List.map_map]
  refine List.map_congr_left fun a ha => ?_
  show 1 + ((ks.map (below ([] :: ks))).filter fun b => decide (b < below ([] :: ks) a)).length = below ([] :: ks) a
  rw [filter_len_map]
  have h0 : ltI [] a = true := by
    have := hne a ha
    cases a with
    | nil => exact absurd rfl this
    | cons => rfl
  have e : (ks.filter fun b => decide (below ([] :: ks) b < below ([] :: ks) a)) = ks.filter fun b => ltI b a :=
    List.filter_congr fun b hb => (below_lt (ks := [] :: ks) (List.mem_cons_of_mem _ hb)).symm
  rw [e]
  conv => rhs; unfold below
  rw [List.filter_cons_of_pos (by simpa using h0), List.length_cons]
  omega
theorem list4 {α : Type} {l : List α} (h : l.length = 4) : ∃ a b c d, l = [a, b, c, d] := by
  match l, h with
  | [a, b, c, d], _ => exact ⟨a, b, c, d, rfl⟩
end Mine
-- P3
noncomputable section
namespace Mine
def fixed3 : List Int := [11, 421, 331, 9, 493]
def cell3 (ns : List Int) (k : Int) : Int := fixed3.getD k.toNat 0 + ((pickD ns (some k) (some 63) (some 5)).map fun x => x % 1000000).sum
def cs3 (ns : List Int) : List Int := (upto 5).map (cell3 ns)
def ps3 (ns : List Int) : List (Str × List Int) := ((cs3 ns).drop 1).map fun c => name3 ((cs3 ns).getD 0 0) c
def turns3 (ks : List (List Int)) : Nat := ((upto 4).flatMap fun k => ((upto k).filter fun j => ltI (ks.getD k.toNat []) (ks.getD j.toNat [])).map fun _ => (1 : Int)).length
def alike3 (ks : List (List Int)) : List Int := (upto 4).map fun k => (((upto (k + 1)).filter fun j => decide (ks.getD j.toNat [] = ks.getD k.toNat [])).map fun j => j).length
/-- what the law asks, in plain words -/
structure Asked3 (ts : List Str) (ks : List (List Int)) : Prop where
  due : (exch (gtS ts)).1 = (sortPlaces ks).map fun (i : Nat) => (i : Int)
  turns : (exch (gtS ts)).2 = turns3 ks
  al : ∀ a ∈ alike3 ks, 1 ≤ a ∧ a ≤ 4
  al0 : ∀ a ∈ alike3 ks, 0 ≤ a ∧ a ≤ 4
  als : 4 ≤ (alike3 ks).sum
  als2 : (alike3 ks).sum ≤ 16
  l1 : (spreads (matS ts)).1.length = 7
  l2 : (spreads (matS ts)).2.length = 7
  w1 : grownS (spreads (matS ts)).1 (alike3 ks) = wholeS (alike3 ks)
  w2 : grownS (spreads (matS ts)).2 (alike3 ks) = wholeS (alike3 ks)

/-! the tokens of law 03 -/
def hands : List Int := [0, 1, 2, 3, 4]
def tok3 (h : Int) (s : Str) : Tok := (s.cps.toList.flatMap (cm (rulesOf h)), rank3 h s)
def brL : Tok := ([123], 1968)
def brR : Tok := ([125], 2000)
def toks3 : List Tok := brL :: brR :: (hands.flatMap fun h => (List.range 10).map fun i => tok3 h (Txt.item row3 (i : Nat)))
theorem toks3_ok : TokOK toks3 := TokOK.of (by decide +kernel)
theorem sign3_mem (first j : Int) {h : Int} (hh : h ∈ hands) : tok3 h (sign3 first j) ∈ toks3 := by
  refine .tail _ (.tail _ (List.mem_flatMap.mpr ⟨h, hh, List.mem_map.mpr ⟨((first + (first / 10 % 4 + 1) * j) % 10).toNat, ?_, ?_⟩⟩))
  · rw [List.mem_range]; omega
  · unfold sign3
    rw [Int.toNat_of_nonneg (by omega)]
theorem hand_mem (c : Int) : c % 5 ∈ hands := by
  have h1 := Int.emod_nonneg c (b := 5) (by decide)
  have h2 := Int.emod_lt_of_pos c (b := 5) (by decide)
  have : c % 5 = 0 ∨ c % 5 = 1 ∨ c % 5 = 2 ∨ c % 5 = 3 ∨ c % 5 = 4 := by omega
  rcases this with h | h | h | h | h <;> rw [h] <;> decide
theorem brace_cm {h : Int} (hh : h ∈ hands) : cm (rulesOf h) 123 = [123] ∧ cm (rulesOf h) 125 = [125] := by
  have : ∀ h ∈ hands, cm (rulesOf h) 123 = [123] ∧ cm (rulesOf h) 125 = [125] := by decide +kernel
  exact this h hh
/-- a name's text and key, by tokens -/
theorem name3_toks (first cell : Int) : ∃ ks : List Tok, ks ≠ [] ∧ (∀ k ∈ ks, k ∈ toks3) ∧ (name3 first cell).1.cps.toList = ks.flatMap (·.1) ∧ (name3 first cell).2 = ks.map (·.2) := by
  have h1 := hand_mem (cell / 9)
  have h2 := hand_mem (cell / 45)
  have s11 := sign3_mem first (cell % 3) h1
  have s22 := sign3_mem first (cell / 3 % 3) h2
  have s21 := sign3_mem first (cell / 3 % 3) h1
  have bl : brL ∈ toks3 := .head _
  have br : brR ∈ toks3 := .tail _ (.head _)
  unfold name3
  split
  · refine ⟨[tok3 (cell / 9 % 5) (sign3 first (cell % 3))], by simp, ?_, ?_, rfl⟩
    · intro k hk; rw [List.mem_singleton.mp hk]; exact s11
    · dsimp only; rw [escs_flat]; simp [tok3]
  split
  · refine ⟨[brL, tok3 (cell / 9 % 5) (sign3 first (cell % 3)), brR, tok3 (cell / 45 % 5) (sign3 first (cell / 3 % 3))], by simp, ?_, ?_, rfl⟩
    · intro k hk
      simp only [List.mem_cons, List.not_mem_nil, or_false] at hk
      rcases hk with rfl | rfl | rfl | rfl <;> assumption
    · dsimp only
      simp only [Str.cps_append, Array.toList_append, escs_flat]
      have e1 : (("{" : Str)).cps.toList = [123] := rfl
      have e2 : (("}" : Str)).cps.toList = [125] := rfl
      rw [e1, e2]
      simp [tok3, brL, brR]
  · refine ⟨[brL, tok3 (cell / 9 % 5) (sign3 first (cell % 3)), brR, tok3 (cell / 9 % 5) (sign3 first (cell / 3 % 3))], by simp, ?_, ?_, rfl⟩
    · intro k hk
      simp only [List.mem_cons, List.not_mem_nil, or_false] at hk
      rcases hk with rfl | rfl | rfl | rfl <;> assumption
    · dsimp only
      rw [escs_flat]
      simp only [Str.cps_append, Array.toList_append, List.flatMap_append]
      have e1 : (("{" : Str)).cps.toList = [123] := rfl
      have e2 : (("}" : Str)).cps.toList = [125] := rfl
      rw [e1, e2]
      simp [tok3, brL, brR, (brace_cm h1).1, (brace_cm h1).2]

/-! four keys by their ranks -/
def gtV (v : List Nat) (i j : Int) : Bool := decide (v.getD j.toNat 0 < v.getD i.toNat 0)
def matV (v : List Nat) : List (List Bool) := v.map fun a => v.map fun b => decide (b < a)
def turnsV (v : List Nat) : Nat := ((upto 4).flatMap fun k => ((upto k).filter fun j => decide (v.getD k.toNat 0 < v.getD j.toNat 0)).map fun _ => (1 : Int)).length
def alikeV (v : List Nat) : List Int := (upto 4).map fun k => (((upto (k + 1)).filter fun j => decide (v.getD j.toNat 0 = v.getD k.toNat 0)).map fun j => j).length
def placesV (v : List Nat) : List Nat := (runT (fun i j => decide (v.getD i 0 < v.getD j 0)) (kas_sort 4)).toList
def okV (v : List Nat) : Bool :=
  let e := exch (gtV v)
  let al := alikeV v
  let sp := spreads (matV v)
  let wh := wholeS al
  decide (e.1 = (placesV v).map fun (i : Nat) => (i : Int)) && decide (e.2 = turnsV v) && (al.all fun a => decide (1 ≤ a) && decide (a ≤ 4)) && decide (4 ≤ al.sum) && decide (al.sum ≤ 16) &&
    decide (sp.1.length = 7) && decide (sp.2.length = 7) && decide (grownS sp.1 al = wh) && decide (grownS sp.2 al = wh)
theorem okV_1 : ∀ b c d : Fin 4, isRank [1, b.val + 1, c.val + 1, d.val + 1] = true → okV [1, b.val + 1, c.val + 1, d.val + 1] = true := by decide +kernel
theorem okV_2 : ∀ b c d : Fin 4, isRank [2, b.val + 1, c.val + 1, d.val + 1] = true → okV [2, b.val + 1, c.val + 1, d.val + 1] = true := by decide +kernel
theorem okV_3 : ∀ b c d : Fin 4, isRank [3, b.val + 1, c.val + 1, d.val + 1] = true → okV [3, b.val + 1, c.val + 1, d.val + 1] = true := by decide +kernel
theorem okV_4 : ∀ b c d : Fin 4, isRank [4, b.val + 1, c.val + 1, d.val + 1] = true → okV [4, b.val + 1, c.val + 1, d.val + 1] = true := by decide +kernel
theorem okV_all {a b c d : Nat} (ha : 1 ≤ a ∧ a ≤ 4) (hb : 1 ≤ b ∧ b ≤ 4) (hc : 1 ≤ c ∧ c ≤ 4) (hd : 1 ≤ d ∧ d ≤ 4) (h : isRank [a, b, c, d] = true) : okV [a, b, c, d] = true := by
  obtain ⟨b', rfl⟩ : ∃ b' : Fin 4, b = b'.val + 1 := ⟨⟨b - 1, by omega⟩, by show b = b - 1 + 1; omega⟩
  obtain ⟨c', rfl⟩ : ∃ b' : Fin 4, c = b'.val + 1 := ⟨⟨c - 1, by omega⟩, by show c = c - 1 + 1; omega⟩
  obtain ⟨d', rfl⟩ : ∃ b' : Fin 4, d = b'.val + 1 := ⟨⟨d - 1, by omega⟩, by show d = d - 1 + 1; omega⟩
  have : a = 1 ∨ a = 2 ∨ a = 3 ∨ a = 4 := by omega
  rcases this with rfl | rfl | rfl | rfl
  · exact okV_1 _ _ _ h
  · exact okV_2 _ _ _ h
  · exact okV_3 _ _ _ h
  · exact okV_4 _ _ _ h

theorem asked3_of {ts : List Str} {ks : List (List Int)} (hl : ts.length = 4) (hk : ks.length = 4) (hne : ∀ k ∈ ks, k ≠ []) (h : ∀ i j : Nat, decide ((ts.getD i ⟨#[]⟩).cps.toList < (ts.getD j ⟨#[]⟩).cps.toList) = ltI (ks.getD i []) (ks.getD j [])) : Asked3 ts ks := by
  have hv := vOf_lt ks
  have hve := vOf_eq ks
  have hb := vOf_bd hne
  have hr := vOf_rank hne
  have hvl := vOf_length ks
  generalize vOf ks = v at *
  rw [hk] at hb hvl
  have e1 : gtS ts = gtV v := by
    funext i j
    unfold gtS gtV
    rw [h, hv]
  have e2 : matS ts = matV v := by
    obtain ⟨t0, t1, t2, t3, rfl⟩ := list4 hl
    obtain ⟨v0, v1, v2, v3, rfl⟩ := list4 hvl
    have q : ∀ i j : Nat, decide (([t0, t1, t2, t3].getD i ⟨#[]⟩).cps.toList < ([t0, t1, t2, t3].getD j ⟨#[]⟩).cps.toList) = decide ([v0, v1, v2, v3].getD i 0 < [v0, v1, v2, v3].getD j 0) := fun i j => by rw [h, hv]
    have q00 := q 0 0
    have q01 := q 0 1
    have q02 := q 0 2
    have q03 := q 0 3
    have q10 := q 1 0
    have q11 := q 1 1
    have q12 := q 1 2
    have q13 := q 1 3
    have q20 := q 2 0
    have q21 := q 2 1
    have q22 := q 2 2
    have q23 := q 2 3
    have q30 := q 3 0
    have q31 := q 3 1
    have q32 := q 3 2
    have q33 := q 3 3
    simp only [List.getD_cons_zero, List.getD_cons_succ] at q00 q01 q02 q03 q10 q11 q12 q13 q20 q21 q22 q23 q30 q31 q32 q33
    simp only [matS, matV, List.map_cons, List.map_nil, q00, q01, q02, q03, q10, q11, q12, q13, q20, q21, q22, q23, q30, q31, q32, q33]
  have e3 : turns3 ks = turnsV v := by
    unfold turns3 turnsV
    simp only [hv]
  have e4 : alike3 ks = alikeV v := by
    unfold alike3 alikeV
    simp only [hve]
  have e5 : sortPlaces ks = placesV v := by
    unfold sortPlaces placesV
    rw [hk]
    have : lessAt ks = fun i j => decide (v.getD i 0 < v.getD j 0) := by
      funext i j
      unfold lessAt
      rw [hv]
    rw [this]
  have ok : okV v = true := by
    obtain ⟨v0, v1, v2, v3, rfl⟩ := list4 hvl
    exact okV_all (hb v0 (by simp)) (hb v1 (by simp)) (hb v2 (by simp)) (hb v3 (by simp)) hr
  unfold okV at ok
  simp only [Bool.and_eq_true, decide_eq_true_eq, List.all_eq_true] at ok
  obtain ⟨⟨⟨⟨⟨⟨⟨⟨p1, p2⟩, p3⟩, p4⟩, p5⟩, p6⟩, p7⟩, p8⟩, p9⟩ := ok
  rw [← e1] at p1 p2
  rw [← e2] at p6 p7 p8 p9
  rw [← e3] at p2
  rw [← e4] at p3 p4 p5 p8 p9
  rw [← e5] at p1
  have p3' : ∀ a ∈ alike3 ks, 1 ≤ a ∧ a ≤ 4 := p3
  have p3'' : ∀ a ∈ alike3 ks, 0 ≤ a ∧ a ≤ 4 := fun a ha => ⟨Int.le_trans (by decide) (p3' a ha).1, (p3' a ha).2⟩
  exact ⟨p1, p2, p3', p3'', p4, p5, p6, p7, p8, p9⟩

theorem asked3 (ns : List Int) : Asked3 ((ps3 ns).map (·.1)) ((ps3 ns).map (·.2)) := by
  have hl : (ps3 ns).length = 4 := by simp [ps3, cs3, upto_length]
  have hm : ∀ p ∈ ps3 ns, ∃ ks : List Tok, ks ≠ [] ∧ (∀ k ∈ ks, k ∈ toks3) ∧ p.1.cps.toList = ks.flatMap (·.1) ∧ p.2 = ks.map (·.2) := fun p hp => by
    unfold ps3 at hp
    obtain ⟨c, _, rfl⟩ := List.mem_map.mp hp
    exact name3_toks _ _
  refine asked3_of (by simpa using hl) (by simpa using hl) (fun k hk => ?_) (fun i j => ?_)
  · obtain ⟨p, hp, rfl⟩ := List.mem_map.mp hk
    obtain ⟨ks, hne, _, _, e⟩ := hm p hp
    rw [e]; simpa using hne
  · have hg : ∀ i : Nat, ∃ ks : List Tok, (∀ k ∈ ks, k ∈ toks3) ∧ (((ps3 ns).map (fun p : Str × List Int => p.1)).getD i (⟨#[]⟩ : Str)).cps.toList = ks.flatMap (·.1) ∧ ((ps3 ns).map (fun p : Str × List Int => p.2)).getD i [] = ks.map (·.2) := fun i => by
      simp only [List.getD_eq_getElem?_getD, List.getElem?_map]
      cases hi : (ps3 ns)[i]? with
      | none => exact ⟨[], (fun _ h => nomatch h), rfl, rfl⟩
      | some p =>
        obtain ⟨ks, _, h1, h2, h3⟩ := hm p (List.mem_of_getElem? hi)
        exact ⟨ks, h1, h2, h3⟩
    obtain ⟨k1, a1, a2, a3⟩ := hg i
    obtain ⟨k2, b1, b2, b3⟩ := hg j
    rw [a2, a3, b2, b3, ltI_lt, decide_eq_decide]
    exact tok_iff toks3_ok a1 b1
end Mine
-- L3g
set_option maxHeartbeats 1000000
open Mine
local macro_rules | `(tactic| walk_at "call") => `(tactic| first
  | with_reducible exact CallOK.le nameC3 (by decide)
  | ((with_reducible refine' CallOK.le (exchC3 ?h) ?hn); (case hn => decide); (case h => walk_at "side"))
  | ((with_reducible refine' CallOK.le (spreadsC3 ?h) ?hn); (case hn => decide); (case h => walk_at "side"))
  | ((with_reducible refine' CallOK.le (wholeC3 ?h ?h1 ?h2 ?h3) ?hn); (case hn => decide); (case h => walk_at "side"); (case h1 => assumption); (case h2 => walk_at "side"); (case h3 => walk_at "side"))
  | ((with_reducible refine' CallOK.le (grownC3 ?h ?h1 ?h2) ?hn); (case hn => decide); (case h => walk_at "side"); (case h1 => walk_at "side"); (case h2 => assumption))
  | fail "no")
local macro_rules | `(tactic| walk_at "ev") => `(tactic| first
  | ((with_reducible refine' Ev.fst (E := encO) (F := encL encI) ?h1 ?h2 ?hs); (case hs => (intro _ _; with_unfolding_all rfl)); (case h1 => walk_at "ev"); (case h2 => walk_at "ev"))
  | ((with_reducible refine' Ev.snd (E := encO) (F := encL encI) ?h1 ?h2 ?hs); (case hs => (intro _ _; with_unfolding_all rfl)); (case h1 => walk_at "ev"); (case h2 => walk_at "ev"))
  | fail "no")
noncomputable section
namespace Mine
theorem pairs4_le (p : Int → Int → Bool) : ((upto 4).flatMap fun k => ((upto k).filter (p k)).map fun _ => (1 : Int)).length ≤ 6 := by
  have e : upto 4 = [0, 1, 2, 3] := by decide
  rw [e]
  simp only [List.flatMap_cons, List.flatMap_nil, List.append_nil, List.length_append, List.length_map]
  have h : ∀ k : Int, ((upto k).filter (p k)).length ≤ k.toNat := fun k => by
    have := List.length_filter_le (p k) (upto k)
    rw [upto_length] at this; exact this
  have h0 := h 0
  have h1 := h 1
  have h2 := h 2
  have h3 := h 3
  omega
theorem spreadsC3b {w : World} {lo : List Str} {mg mb : Str → Option Value} {ts : List Str} {a b : List Int} (ht : ts.length = 4) (h : spreads (matS ts) = (a, b)) :
    CallOK (W3 w lo mg mb) 9 (.ref 165) [(encL encO).e ts] ((encL (encL encI)).e [a, b]) := by
  have := spreadsC3 (w := w) (lo := lo) (mg := mg) (mb := mb) ht
  rw [h] at this
  exact this
theorem post3 (ns : List Int) : PySem.Challenge.rw_wn0140_03.row.claim.post [ofPy (PyData.list (List.map PyData.int ns))] (WData.bool true) [ofPy (PyData.list (List.map PyData.int ns))] = true := by
  with_unfolding_all rfl
theorem pickD_le (ns : List Int) (a b c : Option Int) : (pickD ns a b c).length ≤ ns.length := by
  have h := slicePick_size_le (ns.map fun i => Value.int i 0).toArray a b c
  have e := slicePick_eq (ns.map fun i => Value.int i 0).toArray a b c
  rw [List.toList_toArray] at e
  rw [pickD_map] at e
  have e2 := congrArg List.length e
  rw [Array.length_toList, List.length_map] at e2
  have h2 : (ns.map fun i => Value.int i 0).toArray.size = ns.length := by simp
  omega
theorem rm_top {e : Env} : Rm 20 (callerA.deeper e) := ⟨rfl, by show callerA.depth + 1 + 20 ≤ 990; decide, by show callerA.units + 3 + 20 * 20 ≤ 9800; decide⟩
end Mine
open Mine
theorem PySem.Challenge.cw_wn0140_03_holds : PySem.Challenge.rw_wn0140_03.Holds := by
  refine Mine.hd ?_
  k_go0
  rename_i w s₀ s₁ mg mb G Y fa o pm doc ho hg X0' V T B TE TW hcd ns hs hlay0 hLay hr hl2 w8 w9 l vs w5 hL ra w1 r0 hI hr2 hcond hcond2 hD h₁ tk₁ o1 o2 o3 o4 o5 e1 e2 e3 e4 e5 X0 X' T' K' F' N' l0
  have hlen : ns.length ≤ 63 := by omega
  obtain ⟨bm, ob, b1, b2, b3, b4, b5, b6⟩ := T'.bmain
  have hA := asked3 ns
  obtain ⟨a1, a2, a3, a30, a4, a5, a6, a7, a8, a9⟩ := hA
  refine' law_end (W := W3 w _ mg mb) (n := 20) F' N' X0 ⟨X', topRead_of T', bm, ob, b1, b2, b3, b4, b5, b6⟩ w1 (fun o ho hn => ghost_get hT9 ho hn) l0 rm_top ?t1 hg ?t2 ?t3 ?t4 ?t5 ?t6 ?t7 (.inr rfl) (fun hi hPL hI => ?body)
  case t1 => rfl
  case t2 => rfl
  case t3 => exact fun _ => rfl
  case t4 => exact post3 ns
  case t5 => rfl
  case t6 => decide +kernel
  case t7 => decide +kernel
  case body =>
  have hz := sizeLine_eq
  have hK := hI.k
  refine' ExT.assignC (d := (encL encI).e fixed3) ?f1 rfl ?f2 ?f3 ?f4 rfl
  case f2 => walk_at "stor"
  case f3 => walk_at "drop"
  case f1 =>
    refine' Ev.conv ?fq ?fr
    case fq => walk_at "ev"
    case fr => rfl
  refine' ExT.assignC (d := (encL encI).e (cs3 ns)) ?g1 rfl ?g2 ?g3 ?g4 (swaps_cell (Kinds.cell hI.k rfl))
  case g2 => walk_at "stor"
  case g3 => walk_at "drop"
  case g1 =>
    refine' Ev.conv (Ev.comp0 (E := encI) (G := encI) [("fixed", .val ((encL encI).e fixed3)), ("script", .val ((encL encI).e ns))] (upto 5) (cell3 ns) ?hiter_a ?hitems_a ?hK_a ?hx_a ?hDr_a ?hzz_a ?hb_a ?hfr_a ?hnd_a ?hkind_a ?hρ_a ?hs_a) ?hconv_a
    case hK_a => exact Inner.k (by assumption)
    case hx_a => first | exact .inl rfl | exact .inr rfl
    case hDr_a => walk_at "drop"
    case hfr_a => decide +kernel
    case hnd_a => decide +kernel
    case hkind_a => rfl
    case hρ_a => walk_at "cap"
    case hs_a => intro _; rfl
    case hiter_a => walk_at "ev"
    case hitems_a => walk_at "items"
    case hzz_a => decide
    case hconv_a => rfl
    case hb_a =>
      intro cx1 hI1 k hk
      have hk' := mem_upto.mp hk
      have hf5 : k < (fixed3.length : Int) := hk'.2
      refine' Ev.conv (Ev.bin ?p1 ?p2 ?p3 (by decide)) ?p4
      case p1 => walk_at "ev"
      case p2 =>
        refine' Ev.call ?hk_b ?hg_b ?hp_b (Args.cons ?harg_b Args.nil (fun _ => rfl)) ?hcl_b ?he_b ?hl_b ?hdb_b
        case he_b => rfl
        case hl_b => rfl
        case hdb_b => rfl
        case hk_b => walk_at "gk"
        case hg_b => walk_at "glob"
        case hp_b => walk_at "keeps"
        case harg_b =>
          refine' Ev.conv (Ev.comp0 (E := encI) (G := encI) [] (pickD ns (some k) (some 63) (some 5)) (fun x => x % 1000000) ?hiter_c ?hitems_c ?hK_c ?hx_c ?hDr_c ?hzz_c ?hb_c ?hfr_c ?hnd_c ?hkind_c ?hρ_c ?hs_c) ?hconv_c
          case hK_c => exact Inner.k (by assumption)
          case hx_c => first | exact .inl rfl | exact .inr rfl
          case hDr_c => walk_at "drop"
          case hfr_c => decide +kernel
          case hnd_c => decide +kernel
          case hkind_c => rfl
          case hρ_c => walk_at "cap"
          case hs_c => intro _; rfl
          case hiter_c => walk_at "ev"
          case hitems_c => walk_at "items"
          case hzz_c => exact Nat.le_trans (pickD_le ns _ _ _) (by omega)
          case hconv_c => rfl
          case hb_c =>
            intro cx2 hI2 x hx
            refine' Ev.conv ?h_n4 ?e_n4
            case h_n4 => walk_at "ev"
            case e_n4 => rfl
        case hcl_b => walk_at "call"
      case p3 => walk_at "bin"
      case p4 => rfl
  have cl : (cs3 ns).length = 5 := by simp [cs3, upto_length]
  have pl : (ps3 ns).length = 4 := by simp [ps3, cl]
  refine' ExT.cons (St.comp0 (E := encI) (G := encP encO (encL encI)) [("cells", .val ((encL encI).e (cs3 ns)))] ((cs3 ns).drop (1 : Int).toNat) (fun c => name3 ((cs3 ns).getD 0 0) c) ?hiter_d ?hitems_d ?hK_d ?hx_d ?hDr_d ?hzz_d ?hb_d ?hz_d ?hd_d ?hl_d ?hn_d ?hfr_d ?hnd_d ?hkind_d ?hρ_d ?hs_d) ?hr_d
  case hK_d => exact Inner.k (by assumption)
  case hx_d => first | exact .inl rfl | exact .inr rfl
  case hDr_d => walk_at "drop"
  case hz_d => rfl
  case hd_d => walk_at "drop"
  case hl_d => rfl
  case hn_d => decide +kernel
  case hfr_d => decide +kernel
  case hnd_d => decide +kernel
  case hkind_d => rfl
  case hρ_d => walk_at "cap"
  case hs_d => intro _; rfl
  case hiter_d => walk_at "ev"
  case hitems_d => walk_at "items"
  case hzz_d => simp; omega
  case hb_d =>
    intro cx1 hI1 c hc
    have c5 : (0 : Int) < (cs3 ns).length := by omega
    refine' Ev.conv ?h_n5 ?e_n5
    case h_n5 => walk_at "ev"
    case e_n5 => rfl
  show ExT _ _ _ _ (("pairs", .val ((encL (encP encO (encL encI))).e (ps3 ns))) :: _) _ _ _
  refine' ExT.cons (St.comp0 (E := encP encO (encL encI)) (G := encO) [] (ps3 ns) (fun p => p.1) ?hiter_e ?hitems_e ?hK_e ?hx_e ?hDr_e ?hzz_e ?hb_e ?hz_e ?hd_e ?hl_e ?hn_e ?hfr_e ?hnd_e ?hkind_e ?hρ_e ?hs_e) ?hr_e
  case hK_e => exact Inner.k (by assumption)
  case hx_e => first | exact .inl rfl | exact .inr rfl
  case hDr_e => walk_at "drop"
  case hz_e => rfl
  case hd_e => walk_at "drop"
  case hl_e => rfl
  case hn_e => decide +kernel
  case hfr_e => decide +kernel
  case hnd_e => decide +kernel
  case hkind_e => rfl
  case hρ_e => walk_at "cap"
  case hs_e => intro _; rfl
  case hiter_e => walk_at "ev"
  case hitems_e => exact Items.enc
  case hzz_e => omega
  case hb_e =>
    intro cx1 hI1 c hc
    refine' Ev.conv ?h_n6 ?e_n6
    case h_n6 => walk_at "ev"
    case e_n6 => rfl
  refine' ExT.assignC (d := (encL (encL encI)).e ((ps3 ns).map (·.2))) ?k1 rfl ?k2 ?k3 ?k4 (swaps_cell (Kinds.cell hI.k rfl))
  case k2 => walk_at "stor"
  case k3 => walk_at "drop"
  case k1 =>
    refine' Ev.conv (Ev.comp0 (E := (encP encO (encL encI))) (G := (encL encI)) [] (ps3 ns) (fun p => p.2) ?hiter_g ?hitems_g ?hK_g ?hx_g ?hDr_g ?hzz_g ?hb_g ?hfr_g ?hnd_g ?hkind_g ?hρ_g ?hs_g) ?hconv_g
    case hK_g => exact Inner.k (by assumption)
    case hx_g => first | exact .inl rfl | exact .inr rfl
    case hDr_g => walk_at "drop"
    case hfr_g => decide +kernel
    case hnd_g => decide +kernel
    case hkind_g => rfl
    case hρ_g => walk_at "cap"
    case hs_g => intro _; rfl
    case hiter_g => walk_at "ev"
    case hitems_g => walk_at "items"
    case hzz_g => omega
    case hconv_g => rfl
    case hb_g =>
      intro cx1 hI1 c hc
      refine' Ev.conv ?h_n8 ?e_n8
      case h_n8 => walk_at "ev"
      case e_n8 => rfl
  generalize hts : (ps3 ns).map (·.1) = ts at *
  generalize hks : (ps3 ns).map (·.2) = ks at *
  have tl : ts.length = 4 := by rw [← hts, List.length_map, pl]
  have kl : ks.length = 4 := by rw [← hks, List.length_map, pl]
  refine' ExT.sorted (n := 17) (N := 4) (kss := ks) [("keys", .val ((encL (encL encI)).e ks))] ?s1 ?s2 g3_sorted ?s3 ?s4 ?s5 ?s6 (by decide) (by decide) kl hPL rfl ?s7 hI.k ?s8 ?s9 ?s10 (.inl ?s11) ?s12 ?s13 ?s14 ?s15 ?s16 ?s17 rfl rfl rfl rfl rfl
  case s1 => walk_at "stor"
  case s2 => walk_at "drop"
  case s3 => walk_at "gk"
  case s4 =>
    refine' Ev.conv ?s41 ?s42
    case s41 => walk_at "ev"
    case s42 => rfl
  case s5 => decide
  case s6 => decide
  case s7 => kernel_rfl
  case s8 => decide +kernel
  case s9 => decide +kernel
  case s10 => rfl
  case s11 => exact fun p hp => nomatch hp
  case s12 => exact fun _ _ _ _ => rfl
  case s13 => rfl
  case s14 => decide +kernel
  case s15 => walk_at "cap"
  case s16 =>
    intro i kk hi β L f c
    have hi4 : i < ks.length := (List.getElem?_eq_some_iff.mp hi).1
    refine' Ev.conv (Ev.item (E := encL encI) (xs := ks) (i := (i : Int)) ?u1 ?u2 (by omega) (by omega) (by omega) ?u3) ?u4
    case u1 => walk_at "ev"
    case u2 => walk_at "ev"
    case u3 => intro _ _; with_unfolding_all rfl
    case u4 => 
      rw [show ((i : Int)).toNat = i from by omega, List.getD_eq_getElem?_getD, hi]; rfl
  case s17 =>
  refine' ExT.last ?fin
  case fin =>
  rw [← a1]
  show ExOK _ _ _ (("due", .val ((encL encI).e (exch (gtS ts)).1)) :: _) _ _
  refine' Ex.assignC (d := encI.e (turns3 ks)) ?q1 rfl ?q3 ?q4 ?q5 rfl
  case q3 => walk_at "stor"
  case q4 => walk_at "drop"
  case q1 =>
    refine' Ev.call ?hk_t ?hg_t ?hp_t (Args.cons ?harg_t Args.nil (fun _ => rfl)) ?hcl_t ?he_t ?hl_t ?hdb_t
    case he_t => rfl
    case hl_t => rfl
    case hdb_t => rfl
    case hk_t => walk_at "gk"
    case hg_t => walk_at "glob"
    case hp_t => walk_at "keeps"
    case harg_t =>
      refine' Ev.conv (Ev.comp2 (E := encI) (F := encI) (G := encI) [("keys", .val ((encL (encL encI)).e ks))] (upto 4) (fun k => .rng 0 k 1) (fun k => upto k) (fun k j => ltI (ks.getD k.toNat []) (ks.getD j.toNat [])) (fun _ _ => 1) ?hiter_u ?hitems_u ?hK_u ?hx_u ?hDr_u ?hy_u ?hDy_u ?h2_u ?hb_u ?hzz_u ?hfr_u ?hnd_u ?hkind_u ?hρ_u ?hs2_u ?hs_u) ?hconv_u
      case hK_u => exact Inner.k (by assumption)
      case hx_u => first | exact .inl rfl | exact .inr rfl
      case hDr_u => walk_at "drop"
      case hy_u => first | exact .inl rfl | exact .inr rfl
      case hDy_u => intro _; walk_at "drop"
      case hs2_u => intro _ _; rfl
      case hfr_u => decide +kernel
      case hnd_u => decide +kernel
      case hkind_u => rfl
      case hρ_u => walk_at "cap"
      case hs_u => intro _; rfl
      case hiter_u => walk_at "ev"
      case hitems_u => walk_at "items"
      case h2_u =>
        intro cx3 hI3 k hk
        have hk' := mem_upto.mp hk
        exact ⟨by walk_at "ev", Items.uptoS (by omega) (by omega)⟩
      case hb_u =>
        intro cx3 hI3 k hk j hj
        have hk' := mem_upto.mp hk
        have hj' := mem_upto.mp hj
        refine ⟨Ifs.one ?_, fun _ => ?_⟩
        · refine' Ts.conv ?th ?te
          case th => walk_at "ts"
          case te => rfl
        · walk_at "ev"
      case hzz_u => exact Nat.le_trans (pairs4_le _) (by rw [hz]; decide)
      case hconv_u => rfl
    case hcl_t => exact Call.lenE (E := encI) (Nat.lt_of_le_of_lt (pairs4_le _) (by decide))
  refine' Ex.ite (b := !decide ((exch (gtS ts)).1 = (exch (gtS ts)).1 ∧ (exch (gtS ts)).2 = (turns3 ks : Int))) ?tst (fun hb => ?yes) (fun hb => ?no)
  case tst =>
    refine' Ts.cmp (k := 3) ?x1 ?x2 CmpV.nePair (by decide) (by with_unfolding_all rfl)
    case x1 => walk_at "ev"
    case x2 => walk_at "ev"
  case yes => rw [a2] at hb; simp at hb
  case no =>
  refine' Ex.assignC (d := (encL encI).e (alike3 ks)) ?v1 rfl ?v3 ?v4 ?v5 rfl
  case v3 => walk_at "stor"
  case v4 => walk_at "drop"
  case v1 =>
    refine' Ev.conv (Ev.comp0 (E := encI) (G := encI) [("keys", .val ((encL (encL encI)).e ks))] (upto 4) (fun k => ((((upto (k + 1)).filter fun j => decide (ks.getD j.toNat [] = ks.getD k.toNat [])).map fun j => j).length : Int)) ?hiter_w ?hitems_w ?hK_w ?hx_w ?hDr_w ?hzz_w ?hb_w ?hfr_w ?hnd_w ?hkind_w ?hρ_w ?hs_w) ?hconv_w
    case hK_w => exact Inner.k (by assumption)
    case hx_w => first | exact .inl rfl | exact .inr rfl
    case hDr_w => walk_at "drop"
    case hfr_w => decide +kernel
    case hnd_w => decide +kernel
    case hkind_w => rfl
    case hρ_w => walk_at "cap"
    case hs_w => intro _; rfl
    case hiter_w => walk_at "ev"
    case hitems_w => walk_at "items"
    case hzz_w => rw [upto_length, hz]; decide
    case hconv_w => rfl
    case hb_w =>
      intro cx1 hI1 k hk
      have hk' := mem_upto.mp hk
      refine' Ev.call ?hk_x ?hg_x ?hp_x (Args.cons ?harg_x Args.nil (fun _ => rfl)) ?hcl_x ?he_x ?hl_x ?hdb_x
      case he_x => rfl
      case hl_x => rfl
      case hdb_x => rfl
      case hk_x => walk_at "gk"
      case hg_x => walk_at "glob"
      case hp_x => walk_at "keeps"
      case harg_x =>
        refine' Ev.conv (Ev.comp1 (E := encI) (G := encI) [("keys", .val ((encL (encL encI)).e ks)), ("k", .val (.int k))] (upto (k + 1)) (fun j => decide (ks.getD j.toNat [] = ks.getD k.toNat [])) (fun j => j) ?hiter_y ?hitems_y ?hK_y ?hx_y ?hDr_y ?hzz_y ?hb_y ?hfr_y ?hnd_y ?hkind_y ?hρ_y ?hs_y) ?hconv_y
        case hK_y => exact Inner.k (by assumption)
        case hx_y => first | exact .inl rfl | exact .inr rfl
        case hDr_y => walk_at "drop"
        case hfr_y => decide +kernel
        case hnd_y => decide +kernel
        case hkind_y => rfl
        case hρ_y => walk_at "cap"
        case hs_y => intro _; rfl
        case hiter_y => walk_at "ev"
        case hitems_y => walk_at "items"
        case hzz_y => rw [upto_length, hz]; omega
        case hconv_y => rfl
        case hb_y =>
          intro cx2 hI2 j hj
          have hj' := mem_upto.mp hj
          refine ⟨Ifs.one ?_, fun _ => ?_⟩
          · refine' Ts.conv ?th ?te
            case th => walk_at "ts"
            case te => rfl
          · walk_at "ev"
      case hcl_x => exact Call.lenE (E := encI) (by
        rw [List.length_map]
        exact Nat.lt_of_le_of_lt (List.length_filter_le _ _) (by rw [upto_length]; omega))
  have al4 : (alike3 ks).length = 4 := by simp [alike3, upto_length]
  generalize hal : alike3 ks = al at *
  generalize hsp : spreads (matS ts) = sp at *
  obtain ⟨sp1, sp2⟩ := sp
  generalize hwh : wholeS al = wh at *
  refine' Ex.assignC (d := (encL encI).e wh) ?zh rfl ?zx ?zd ?zr rfl
  case zx => walk_at "stor"
  case zd => walk_at "drop"
  case zh =>
    rw [← hwh]
    refine' Ev.call ?hk ?hg ?hp (Args.cons ?harg Args.nil (fun _ => rfl)) ?hcl ?he ?hl ?hdb
    case he => rfl
    case hl => rfl
    case hdb => rfl
    case hk => walk_at "gk"
    case hg => walk_at "glob"
    case hp => walk_at "keeps"
    case harg => walk_at "ev"
    case hcl => exact CallOK.le (wholeC3 al4 a30 a4 a5) (by decide)
  refine' Ex.ret (St.ret ?c)
  case c =>
  refine' Ev.conv (d := .bool (decide ((([sp1, sp2] : List (List Int)).map fun row => grownS row al) = [wh, wh]))) (Ev.cmp (k := 3) ?y1 ?y2 (CmpV.eqIntss (ys := [wh, wh])) (by decide) (by with_unfolding_all rfl)) ?y3
  case y2 =>
    refine' Ev.conv (d := .list [(encL encI).e wh, (encL encI).e wh]) ?y4 rfl
    case y4 => walk_at "ev"
  case y3 =>
    rw [List.map_cons, List.map_cons, List.map_nil, a8, a9]; simp
  case y1 =>
    refine' Ev.conv (Ev.comp0 (E := encL encI) (G := encL encI) [("alike", .val ((encL encI).e al))] [sp1, sp2] (fun row => grownS row al) ?hiter_z Items.enc ?hK_z ?hx_z ?hDr_z ?hzz_z ?hb_z ?hfr_z ?hnd_z ?hkind_z ?hρ_z ?hs_z) ?hconv_z
    case hK_z => exact Inner.k (by assumption)
    case hx_z => first | exact .inl rfl | exact .inr rfl
    case hDr_z => walk_at "drop"
    case hfr_z => decide +kernel
    case hnd_z => decide +kernel
    case hkind_z => rfl
    case hρ_z => walk_at "cap"
    case hs_z => intro _; rfl
    case hiter_z =>
      refine' Ev.call ?hk ?hg ?hp (Args.cons ?harg Args.nil (fun _ => rfl)) (CallOK.le (spreadsC3b tl hsp) (by decide)) ?he ?hl ?hdb
      case he => rfl
      case hl => rfl
      case hdb => rfl
      case hk => walk_at "gk"
      case hg => walk_at "glob"
      case hp => walk_at "keeps"
      case harg => walk_at "ev"
    case hzz_z => rw [hz]; exact (by decide : (2 : Nat) ≤ 16777216)
    case hconv_z => rfl
    case hb_z =>
      intro cx1 hI1 row hrow
      have hrl : row.length ≤ 100 := by
        simp only [List.mem_cons, List.not_mem_nil, or_false] at hrow
        rcases hrow with rfl | rfl
        · rw [a6]; decide
        · rw [a7]; decide
      refine' Ev.call ?hk ?hg ?hp (Args.cons ?harg (Args.cons ?harg2 Args.nil (fun _ => rfl)) (fun _ => rfl)) ?hcl ?he ?hl ?hdb
      case he => rfl
      case hl => rfl
      case hdb => rfl
      case hk => walk_at "gk"
      case hg => walk_at "glob"
      case hp => walk_at "keeps"
      case harg => walk_at "ev"
      case harg2 => walk_at "ev"
      case hcl => exact CallOK.le (grownC3 hrl al4 a3) (by decide)
