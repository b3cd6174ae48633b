import PyProof.Rows.All
import Wide.All
import OpenK.AllK
import Wide.FinOn
import PySem.Challenge.RW_pg0220_01
set_option Elab.async false
section
open PySem PySem.W
set_option maxRecDepth 100000
set_option maxHeartbeats 8000000
set_option linter.all false
namespace Mine
inductive V where
  | none | bool (b : Bool) | int (i : Int) | str (s : Str) | ref (a : Addr) | bi (id : String) | ty (n : String)
noncomputable def VR : V → Value → Prop
  | .none, v => v = .none
  | .bool b, v => v = .bool b
  | .int i, v => ∃ t, v = .int i t
  | .str s, v => ∃ t, v = .str s t
  | .ref a, v => v = .ref a
  | .bi id, v => v = .builtin id
  | .ty n, v => v = .type n
inductive VRs : List V → List Value → Prop
  | nil : VRs [] []
  | cons {v cv l cl} : VR v cv → VRs l cl → VRs (v :: l) (cv :: cl)
inductive O where
  | list (l : List V) | tup (l : List V) | dict (l : List (Int × V)) | obj (C d : Addr) | attrs (l : List (Str × V)) | cell (v : Option V) | rng (a b : Int) | rit (a c : Int) (n : Nat) | items (d : Addr) | vals (d : Addr)
structure Cx where
  prog : Program
  w : World
  hB : Heap
  K : Frag
  KIn : K.In hB
  lim : hB.NoLimit
  mg : Str → Option Value
  mb : Str → Option Value
  hg : hB.Ns mainGlobals mg
  hb : hB.Ns builtinsNs mb
  hbt : ∀ x : Str, x ≠ "__name__" → mb x = bootBuiltins x
noncomputable def AttrsR : List (Str × V) → List DictEntry → Prop
  | [], [] => True
  | (x, v) :: l, e :: es => (∃ t, e.key = .str x t) ∧ VR v e.val ∧ AttrsR l es
  | _, _ => False
noncomputable abbrev Loc := List (Str × V)
inductive SeqM (ob : Obj) (t : String) (l : List V) : Prop where
  | mk (vs : Array Value) (n : Nat) (e : ob = { cls := .type t, data := .seq vs n }) (hv : VRs l vs.toList) : SeqM ob t l
inductive DictM (c : Cx) (ob : Obj) (l : List (Int × V)) : Prop where
  | mk (kvs : List (Int × Value)) (hd : ob.IsDictOf (intKind c.prog c.w) kvs) (hk : l.map (·.1) = kvs.map (·.1)) (hv : VRs (l.map (·.2)) (kvs.map (·.2))) : DictM c ob l
inductive AttrM (ob : Obj) (l : List (Str × V)) : Prop where
  | mk (es : List DictEntry) (n : Nat) (e : ob = dictOf es n) (ha : AttrsR l es) : AttrM ob l
inductive CellM (ob : Obj) (v : V) : Prop where
  | mk (cv : Value) (e : ob.data = .cell (some cv)) (hv : VR v cv) : CellM ob v
inductive RngM (ob : Obj) (a b : Int) : Prop where
  | mk (t u v : Tok) (e : ob = { cls := .type "range", data := .fields #[.int a t, .int b u, .int 1 v] }) : RngM ob a b
inductive LocM (h : Heap) (L : Addr) (m : Loc) : Prop where
  | mk (m' : Str → Option Value) (hn : h.Ns L m') (hr : ∀ x v, m.lookup x = some v → ∃ cv, m' x = some cv ∧ VR v cv) : LocM h L m
noncomputable def OM (c : Cx) (ob : Obj) : O → Prop
  | .list l => SeqM ob "list" l
  | .tup l => SeqM ob "tuple" l
  | .dict l => DictM c ob l
  | .obj C d => ob = instObj C d
  | .attrs l => AttrM ob l
  | .cell (some v) => CellM ob v
  | .cell none => ob.data = .cell none
  | .rng a b => RngM ob a b
  | .rit a k n => ob = { cls := .type "range_iterator", dict := none, data := .fields #[rawInt a, rawInt n, rawInt k], slots := #[] }
  | .items d => ob = { cls := .type "dict_items", data := .fields #[.ref d] }
  | .vals d => ob = { cls := .type "dict_values", data := .fields #[.ref d] }
noncomputable abbrev Fm := Addr → Option (Bool × Obj)
noncomputable abbrev Sto := Addr → Option (Bool × O)
inductive ObAt (c : Cx) (g : Fm) (h : Heap) (a : Addr) (b : Bool) (o : O) : Prop where
  | mk (ob : Obj) (e1 : h.get? a = some ob) (e2 : OM c ob o) (e3 : b = false → g a = some (false, ob)) : ObAt c g h a b o
inductive RelOb (c : Cx) (g : Fm) (L : Addr) (h : Heap) (a : Addr) (b : Bool) (o : O) : Prop where
  | mk (x : ObAt c g h a b o) (e4 : a ≠ L) (e5 : b = true → g a = none) (e6 : ∀ l, o = .dict l → a ≠ sysModules) : RelOb c g L h a b o
structure Rel (c : Cx) (g : Fm) (L : Addr) (m : Loc) (H : Sto) (h : Heap) : Prop where
  loc : LocM h L m
  base : ∀ b o, c.hB.get? b = some o → ∃ x, g b = some (x, o)
  keep : ∀ b x o, g b = some (x, o) → h.get? b = some o
  gL : g L = none
  ob : ∀ a b o, H a = some (b, o) → RelOb c g L h a b o
inductive Post {α : Type} (c : Cx) (g : Fm) (L : Addr) (s : Shared) (Q : α → Loc → Sto → Prop) (a : α) (s' : Shared) : Prop where
  | mk (h : Heap) (tk : Nat) (m : Loc) (H : Sto) (e : s' = { s with heap := h, toks := tk }) (R : Rel c g L m H h) (q : Q a m H) : Post c g L s Q a s'
noncomputable def TR {α : Type} (c : Cx) (A : Around) (L : Addr) (t : Sem α) (m : Loc) (H : Sto) (Q : α → Loc → Sto → Prop) : Prop :=
  ∀ g s, Rel c g L m H s.heap → wpAny (model c.prog c.w) A t (Post c g L s Q) (fun _ _ => False) s
section
variable {α β : Type} {c : Cx} {A : Around} {L : Addr} {m : Loc} {H : Sto}
theorem TR.mono {t : Sem α} {Q Q' : α → Loc → Sto → Prop} (h : TR c A L t m H Q) (hq : ∀ a m' H', Q a m' H' → Q' a m' H') : TR c A L t m H Q' :=
  fun g s R => wpAny_mono (h g s R) (fun a s' ⟨h', tk, m', H', e, R', q⟩ => ⟨h', tk, m', H', e, R', hq _ _ _ q⟩) fun _ _ x => x
theorem step_wp {t : Sem α} {f : α → Shared → Prop} {E : Value → Shared → Prop} {g : Fm} {s : Shared} {Q : α → Loc → Sto → Prop} (h : TR c A L t m H Q) (R : Rel c g L m H s.heap)
    (k : ∀ a h' tk m' H', Rel c g L m' H' h' → Q a m' H' → f a { s with heap := h', toks := tk }) : wpAny (model c.prog c.w) A t f E s :=
  wpAny_mono (h g s R) (fun a s' ⟨h', tk, m', H', e, R', q⟩ => by subst e; exact k a h' tk m' H' R' q) fun _ _ x => x.elim
noncomputable def Sub (m m' : Loc) : Prop := ∀ x v, m.lookup x = some v → m'.lookup x = some v
noncomputable def HSub (H H' : Sto) : Prop := ∀ a x, H a = some x → H' a = some x
theorem HSub.refl (H : Sto) : HSub H H := fun _ _ e => e
theorem Sub.refl (m : Loc) : Sub m m := fun _ _ e => e
theorem Rel.weaken {g : Fm} {h : Heap} {m' : Loc} {H' : Sto} (R : Rel c g L m H h) (hm : Sub m' m) (hH : HSub H' H) : Rel c g L m' H' h where
  loc := let ⟨k, a, b⟩ := R.loc; ⟨k, a, fun x v e => b x v (hm x v e)⟩
  base := R.base
  keep := R.keep
  gL := R.gL
  ob := fun a b o e => R.ob a b o (hH _ _ e)
theorem TR.weaken {t : Sem α} {Q : α → Loc → Sto → Prop} {m' : Loc} {H' : Sto} (h : TR c A L t m' H' Q) (hm : Sub m' m) (hH : HSub H' H) : TR c A L t m H Q :=
  fun g s R => h g s (R.weaken hm hH)
theorem TR.conseq {t : Sem α} {Q Q' : α → Loc → Sto → Prop} (h : TR c A L t m H Q) (hq : ∀ a m' H', Q a m' H' → ∃ m'' H'', Sub m'' m' ∧ HSub H'' H' ∧ Q' a m'' H'') : TR c A L t m H Q' :=
  fun g s R => wpAny_mono (h g s R) (fun a s' ⟨h', tk, m', H', e, R', q⟩ => let ⟨m'', H'', e1, e2, q'⟩ := hq _ _ _ q; ⟨h', tk, m'', H'', e, R'.weaken e1 e2, q'⟩) fun _ _ x => x
noncomputable def upd (H : Sto) (a : Addr) (x : Bool × O) : Sto := fun b => if b = a then some x else H b
theorem upd_same (H : Sto) (a : Addr) (x : Bool × O) : upd H a x a = some x := by simp [upd]
theorem upd_ne (H : Sto) {a b : Addr} (x : Bool × O) (h : b ≠ a) : upd H a x b = H b := by simp [upd, h]
theorem upd_upd (H : Sto) (a : Addr) (x y : Bool × O) : upd (upd H a x) a y = upd H a y := by funext b; simp only [upd]; split <;> rfl
theorem upd_comm (H : Sto) {a b : Addr} (x y : Bool × O) (h : a ≠ b) : upd (upd H a x) b y = upd (upd H b y) a x := by
  funext z; simp only [upd]; by_cases h1 : z = a <;> by_cases h2 : z = b <;> simp_all
theorem upd_self (H : Sto) {a : Addr} {x : Bool × O} (h : H a = some x) : upd H a x = H := by
  funext z; simp only [upd]; split <;> simp_all
noncomputable def setL (m : Loc) (x : Str) (v : V) : Loc := (x, v) :: m.filter (fun p => !(p.1 == x))
theorem lookup_setL_same (m : Loc) (x : Str) (v : V) : (setL m x v).lookup x = some v := by simp [setL, List.lookup]
theorem lookup_filter_ne {m : Loc} {x y : Str} (h : y ≠ x) : (m.filter (fun p => !(p.1 == x))).lookup y = m.lookup y := by
  induction m with
  | nil => rfl
  | cons p r ih =>
    obtain ⟨a, v⟩ := p
    by_cases hax : a = x
    · subst hax
      have : (y == a) = false := by simpa using h
      simp only [List.filter_cons, beq_self_eq_true, Bool.not_true, Bool.false_eq_true, if_false, List.lookup_cons, this]
      exact ih
    · have : (a == x) = false := by simpa using hax
      simp only [List.filter_cons, this, Bool.not_false, if_true, List.lookup_cons]
      split <;> first | rfl | exact ih
theorem lookup_setL_ne {m : Loc} {x y : Str} (v : V) (h : y ≠ x) : (setL m x v).lookup y = m.lookup y := by
  have : (y == x) = false := by simpa using h
  simp only [setL, List.lookup_cons, this]
  exact lookup_filter_ne h
theorem Rel.set {g : Fm} {h h' : Heap} {x : Str} {v : V} {cv : Value} (R : Rel c g L m H h) {m₀ : Str → Option Value} (hm₀ : ∀ x v, m.lookup x = some v → ∃ cv, m₀ x = some cv ∧ VR v cv)
    (hv : VR v cv) (hn : h'.Ns L (fun y => if y = x then some cv else m₀ y)) (hs : Heap.SameBut L h h') : Rel c g L (setL m x v) H h' where
  loc := ⟨_, hn, fun y u e => by
    by_cases hy : y = x
    · subst hy
      rw [lookup_setL_same] at e
      cases e
      exact ⟨cv, by simp, hv⟩
    · rw [lookup_setL_ne v hy] at e
      simpa [hy] using hm₀ y u e⟩
  base := R.base
  keep := fun b x o e => (hs.2 b (by rintro rfl; rw [R.gL] at e; cases e)).trans (R.keep b x o e)
  gL := R.gL
  ob := fun a b o e => by
    obtain ⟨⟨ob, e1, e2, e3⟩, e4, e5, e6⟩ := R.ob a b o e
    exact ⟨⟨ob, (hs.2 a e4).trans e1, e2, e3⟩, e4, e5, e6⟩
theorem Rel.ext {g : Fm} {h h' : Heap} (R : Rel c g L m H h) (k : ∀ b o, h.get? b = some o → h'.get? b = some o) : Rel c g L m H h' where
  loc := let ⟨m', a, b⟩ := R.loc; ⟨m', a.keeps k, b⟩
  base := R.base
  keep := fun b x o e => k b o (R.keep b x o e)
  gL := R.gL
  ob := fun a b o e => let ⟨⟨ob, e1, e2, e3⟩, e4, e5, e6⟩ := R.ob a b o e; ⟨⟨ob, k _ _ e1, e2, e3⟩, e4, e5, e6⟩
theorem Rel.new {g : Fm} {h h' : Heap} {a : Addr} {ob : Obj} {o : O} (R : Rel c g L m H h) (k : ∀ b o, h.get? b = some o → h'.get? b = some o) (ha : h.get? a = none) (hob : h'.get? a = some ob) (hm : OM c ob o)
    (hs : a ≠ sysModules) : Rel c g L m (upd H a (true, o)) h' ∧ H a = none := by
  have hn : ∀ {b : Addr} {o : Obj}, h.get? b = some o → b ≠ a := fun e q => by rw [q, ha] at e; cases e
  have hHa : H a = none := by
    cases e : H a with
    | none => rfl
    | some x => obtain ⟨⟨ob', e1, _⟩, _⟩ := R.ob a x.1 x.2 e; exact absurd rfl (hn e1)
  refine ⟨⟨(R.ext k).loc, R.base, (R.ext k).keep, R.gL, fun x b o' e => ?_⟩, hHa⟩
  by_cases hx : x = a
  · subst hx
    rw [upd_same] at e
    cases e
    refine ⟨⟨ob, hob, hm, fun q => by cases q⟩, ?_, fun _ => ?_, fun _ _ => hs⟩
    · rintro rfl
      obtain ⟨m', ⟨oL, _, _, e', _⟩, _⟩ := R.loc
      exact hn e' rfl
    · cases e' : g x with
      | none => rfl
      | some o' => exact absurd rfl (hn (R.keep x o'.1 o'.2 e'))
  · rw [upd_ne _ _ hx] at e
    exact (R.ext k).ob x b o' e
theorem Rel.turn {g : Fm} {h h' : Heap} {a : Addr} {ob : Obj} {o o₀ : O} (R : Rel c g L m H h) (ha : H a = some (true, o₀)) (hs : Heap.SameBut a h h') (hob : h'.get? a = some ob) (hm : OM c ob o)
    (hd : ∀ l, o = .dict l → a ≠ sysModules) : Rel c g L m (upd H a (true, o)) h' := by
  obtain ⟨⟨ob₀, e1, e2, _⟩, e4, e5, _⟩ := R.ob a true o₀ ha
  refine ⟨?_, R.base, fun b y o' e => ?_, R.gL, fun x b o' e => ?_⟩
  · obtain ⟨m', p, q⟩ := R.loc
    exact ⟨m', p.sameBut hs (Ne.symm e4), q⟩
  · exact (hs.2 b (by rintro rfl; rw [e5 rfl] at e; cases e)).trans (R.keep b y o' e)
  · by_cases hx : x = a
    · subst hx
      rw [upd_same] at e
      cases e
      exact ⟨⟨ob, hob, hm, fun q => by cases q⟩, e4, e5, hd⟩
    · rw [upd_ne _ _ hx] at e
      obtain ⟨⟨ob', f1, f2, f3⟩, f4, f5, f6⟩ := R.ob x b o' e
      exact ⟨⟨ob', (hs.2 x hx).trans f1, f2, f3⟩, f4, f5, f6⟩
theorem Rel.lend {g : Fm} {h : Heap} {a : Addr} {b : Bool} {o : O} (R : Rel c g L m H h) (ha : H a = some (b, o)) :
    ∃ g' : Fm, Rel c g' L m (upd H a (false, o)) h ∧ ∀ m' H' h', Rel c g' L m' H' h' → Rel c g L m' (upd H' a (b, o)) h' := by
  obtain ⟨⟨ob, e1, e2, e3⟩, e4, e5, e6⟩ := R.ob a b o ha
  let g' : Fm := fun x => if x = a then some (false, ob) else g x
  have gg : ∀ x y o, g x = some (y, o) → ∃ y, g' x = some (y, o) := fun x y o e => by
    by_cases hx : x = a
    · have h2 := R.keep x y o e
      rw [hx, e1] at h2
      cases h2
      exact ⟨false, by simp [g', hx]⟩
    · exact ⟨y, by simp [g', hx, e]⟩
  refine ⟨g', ⟨R.loc, fun x o e => let ⟨y, f⟩ := R.base x o e; gg _ _ _ f, fun x y o e => ?_, by simp [g', Ne.symm e4, R.gL], fun x b' o' e => ?_⟩, fun m' H' h' R2 => ⟨R2.loc, R.base, fun x y o e => let ⟨y', f⟩ := gg x y o e; R2.keep x y' o f, R.gL, fun x b' o' e => ?_⟩⟩
  · by_cases hx : x = a
    · simp only [g', hx, if_true] at e; cases e; rw [hx]; exact e1
    · simp only [g', hx, if_false] at e; exact R.keep x y o e
  · by_cases hx : x = a
    · subst hx
      rw [upd_same] at e
      cases e
      exact ⟨⟨ob, e1, e2, fun _ => by simp [g']⟩, e4, (fun q => by cases q), e6⟩
    · rw [upd_ne _ _ hx] at e
      obtain ⟨⟨ob', f1, f2, f3⟩, f4, f5, f6⟩ := R.ob x b' o' e
      exact ⟨⟨ob', f1, f2, fun q => by simp [g', hx, f3 q]⟩, f4, fun q => by simp [g', hx, f5 q], f6⟩
  · by_cases hx : x = a
    · subst hx
      rw [upd_same] at e
      cases e
      exact ⟨⟨ob, R2.keep x false ob (by simp [g']), e2, e3⟩, e4, e5, e6⟩
    · rw [upd_ne _ _ hx] at e
      obtain ⟨⟨ob', f1, f2, f3⟩, f4, f5, f6⟩ := R2.ob x b' o' e
      refine ⟨⟨ob', f1, f2, fun q => ?_⟩, f4, fun q => ?_, f6⟩
      · have := f3 q; simpa [g', hx] using this
      · have := f5 q; simpa [g', hx] using this
theorem TR.ro {t : Sem α} {Q : α → Loc → Sto → Prop} {a : Addr} {b : Bool} {o : O} (ha : H a = some (b, o)) (h : TR c A L t m (upd H a (false, o)) (fun r m' H' => Q r m' (upd H' a (b, o)))) : TR c A L t m H Q := by
  intro g s R
  obtain ⟨g', R', back⟩ := R.lend ha
  exact wpAny_mono (h g' s R') (fun r s' ⟨h', tk, m', H', e, R2, q⟩ => ⟨h', tk, m', upd H' a (b, o), e, back m' H' h' R2, q⟩) fun _ _ x => x
noncomputable def clo (g : Fm) (I : Addr) (ob : Obj) : Fm := fun x => if x = I then some (true, ob) else g x
theorem Rel.close {h : Heap} {g : Fm} {I : Addr} {ob : Obj} (R : Rel c g L m H h) (gI : g I = none) (hI : h.get? I = some ob) (LI : I ≠ L) (HI : H I = none) : Rel c (clo g I ob) L m H h := by
  have gg : ∀ x y o, g x = some (y, o) → clo g I ob x = some (y, o) := fun x y o e => by
    have : x ≠ I := by rintro rfl; rw [gI] at e; cases e
    simp [clo, this, e]
  refine ⟨R.loc, fun x o e => let ⟨y, f⟩ := R.base x o e; ⟨y, gg _ _ _ f⟩, fun x y o e => ?_, by simp [clo, Ne.symm LI, R.gL], fun x b' o' e => ?_⟩
  · by_cases hx : x = I
    · simp only [clo, hx, if_true] at e; cases e; rw [hx]; exact hI
    · simp only [clo, hx, if_false] at e; exact R.keep x y o e
  · have hx : x ≠ I := by rintro rfl; rw [HI] at e; cases e
    obtain ⟨⟨ob', f1, f2, f3⟩, f4, f5, f6⟩ := R.ob x b' o' e
    exact ⟨⟨ob', f1, f2, fun q => gg _ _ _ (f3 q)⟩, f4, fun q => by simp [clo, hx, f5 q], f6⟩
theorem Rel.open {h : Heap} {g : Fm} {I : Addr} {ob : Obj} (R2 : Rel c (clo g I ob) L m H h) (gI : g I = none) (hb : ∀ b o, c.hB.get? b = some o → ∃ x, g b = some (x, o)) : Rel c g L m H h ∧ h.get? I = some ob ∧ H I = none ∧ I ≠ L := by
  have gg : ∀ x y o, g x = some (y, o) → clo g I ob x = some (y, o) := fun x y o e => by
    have : x ≠ I := by rintro rfl; rw [gI] at e; cases e
    simp [clo, this, e]
  have gI' : clo g I ob I = some (true, ob) := by simp [clo]
  have HI' : H I = none := by
    cases e : H I with
    | none => rfl
    | some x =>
      obtain ⟨b', o'⟩ := x
      obtain ⟨⟨_, _, _, f3⟩, _, f5, _⟩ := R2.ob I b' o' e
      cases b' with
      | true => have := f5 rfl; rw [gI'] at this; cases this
      | false => have := f3 rfl; rw [gI'] at this; cases this
  have LI : I ≠ L := by rintro rfl; rw [R2.gL] at gI'; cases gI'
  refine ⟨⟨R2.loc, hb, fun x y o e => R2.keep x y o (gg x y o e), ?_, fun x b' o' e => ?_⟩, R2.keep I true ob gI', HI', LI⟩
  · have := R2.gL; simpa [clo, Ne.symm LI] using this
  have hx : x ≠ I := by rintro rfl; rw [HI'] at e; cases e
  obtain ⟨⟨ob', f1, f2, f3⟩, f4, f5, f6⟩ := R2.ob x b' o' e
  refine ⟨⟨ob', f1, f2, fun q => ?_⟩, f4, fun q => ?_, f6⟩
  · have := f3 q; simpa [clo, hx] using this
  · have := f5 q; simpa [clo, hx] using this
theorem hold {t : Sem α} {f : α → Shared → Prop} {E : Value → Shared → Prop} {s : Shared} {g : Fm} {Q : α → Loc → Sto → Prop} {I : Addr} {ob : Obj} (h : TR c A L t m H Q) (R : Rel c g L m H s.heap)
    (gI : g I = none) (hI : s.heap.get? I = some ob) (LI : I ≠ L) (HI : H I = none)
    (k : ∀ a h' tk m' H', Rel c g L m' H' h' → h'.get? I = some ob → H' I = none → Q a m' H' → f a { s with heap := h', toks := tk }) : wpAny (model c.prog c.w) A t f E s :=
  step_wp h (R.close gI hI LI HI) fun a h' tk m' H' R' q => let ⟨R2, e1, e2, _⟩ := R'.open gI R.base; k a h' tk m' H' R2 e1 e2 q
theorem Rel.but {g : Fm} {h h' : Heap} {I : Addr} (R : Rel c g L m H h) (gI : g I = none) (LI : I ≠ L) (HI : H I = none) (k : ∀ b o, b ≠ I → h.get? b = some o → h'.get? b = some o) : Rel c g L m H h' where
  loc := let ⟨m', a, b⟩ := R.loc; ⟨m', a.at' fun o e => k L o (Ne.symm LI) e, b⟩
  base := R.base
  keep := fun b x o e => k b o (by rintro rfl; rw [gI] at e; cases e) (R.keep b x o e)
  gL := R.gL
  ob := fun a b o e => let ⟨⟨ob, e1, e2, e3⟩, e4, e5, e6⟩ := R.ob a b o e; ⟨⟨ob, k a ob (by rintro rfl; rw [HI] at e; cases e) e1, e2, e3⟩, e4, e5, e6⟩
theorem Rel.free {g : Fm} {h : Heap} {I : Addr} (R : Rel c g L m H h) (hI : h.get? I = none) : g I = none ∧ I ≠ L ∧ H I = none := by
  refine ⟨?_, ?_, ?_⟩
  · cases e : g I with
    | none => rfl
    | some x => have := R.keep I x.1 x.2 e; rw [hI] at this; cases this
  · rintro rfl
    obtain ⟨m', ⟨oL, _, _, e', _⟩, _⟩ := R.loc
    rw [hI] at e'; cases e'
  · cases e : H I with
    | none => rfl
    | some x => obtain ⟨⟨ob', e1, _⟩, _⟩ := R.ob I x.1 x.2 e; rw [hI] at e1; cases e1
theorem Rel.has {g : Fm} {h : Heap} {b : Addr} {o : Obj} (R : Rel c g L m H h) (e : c.hB.get? b = some o) : h.get? b = some o := let ⟨_, f⟩ := R.base b o e; R.keep _ _ _ f
theorem Rel.room {g : Fm} {h : Heap} (R : Rel c g L m H h) : sysModules < h.objs.size := by
  obtain ⟨mc, ⟨o, _, _, e, _⟩, _⟩ := c.lim
  have := Heap.lt_size (R.has e)
  exact Nat.lt_of_le_of_lt (show sysModules ≤ cStatics by decide) this
theorem Rel.lim {g : Fm} {h : Heap} (R : Rel c g L m H h) : h.NoLimit := c.lim.keeps fun _ _ e => R.has e
theorem Rel.add {g : Fm} {h : Heap} {a : Addr} {ob : Obj} {o : O} (R : Rel c g L m H h) (ga : g a = none) (aL : a ≠ L) (hob : h.get? a = some ob) (hm : OM c ob o) (hs : a ≠ sysModules) : Rel c g L m (upd H a (true, o)) h := by
  refine ⟨R.loc, R.base, R.keep, R.gL, fun x b o' e => ?_⟩
  by_cases hx : x = a
  · subst hx
    rw [upd_same] at e
    cases e
    exact ⟨⟨ob, hob, hm, fun q => by cases q⟩, aL, fun _ => ga, fun _ _ => hs⟩
  · rw [upd_ne _ _ hx] at e
    exact R.ob x b o' e
theorem Rel.enter {g : Fm} {h h₁ : Heap} {C : Addr} {oL : Obj} {mc : Loc} {m₀ : Str → Option Value} (R : Rel c g L m H h) (hL : h.get? L = some oL) (k : ∀ b o, h.get? b = some o → h₁.get? b = some o) (hC : h.get? C = none)
    (hn : h₁.Ns C m₀) (hm : ∀ x v, mc.lookup x = some v → ∃ cv, m₀ x = some cv ∧ VR v cv) : Rel c (clo g L oL) C mc H h₁ := by
  have LC : L ≠ C := by rintro rfl; rw [hC] at hL; cases hL
  refine ⟨⟨m₀, hn, hm⟩, fun x o e => ?_, fun x y o e => ?_, ?_, fun x b o e => ?_⟩
  · obtain ⟨y, f⟩ := R.base x o e
    have : x ≠ L := by rintro rfl; rw [R.gL] at f; cases f
    exact ⟨y, by simp [clo, this, f]⟩
  · by_cases hx : x = L
    · subst hx; simp [clo] at e; obtain ⟨_, rfl⟩ := e; exact k _ _ hL
    · simp only [clo, hx, if_false] at e; exact k _ _ (R.keep x y o e)
  · have := (R.free hC).1
    simp [clo, Ne.symm LC, this]
  · obtain ⟨⟨ob, e1, e2, e3⟩, e4, e5, e6⟩ := R.ob x b o e
    refine ⟨⟨ob, k _ _ e1, e2, fun q => by simp [clo, e4, e3 q]⟩, ?_, fun q => by simp [clo, e4, e5 q], e6⟩
    rintro rfl; rw [hC] at e1; cases e1
theorem Rel.leave {g : Fm} {h h' : Heap} {C : Addr} {oL : Obj} {mc : Loc} {H' : Sto} (R : Rel c g L m H h) (hL : h.get? L = some oL) (R' : Rel c (clo g L oL) C mc H' h') : Rel c g L m H' h' ∧ h'.get? L = some oL := by
  have hL' : h'.get? L = some oL := R'.keep L true oL (by simp [clo])
  have hx : ∀ x b o, H' x = some (b, o) → x ≠ L := by
    rintro x b o e rfl
    obtain ⟨⟨_, _, _, f3⟩, _, f5, _⟩ := R'.ob x b o e
    cases b with
    | true => have := f5 rfl; simp [clo] at this
    | false => have := f3 rfl; simp [clo] at this
  refine ⟨⟨?_, R.base, fun x y o e => ?_, R.gL, fun x b o e => ?_⟩, hL'⟩
  · obtain ⟨m', ⟨o, es, ep, ho, r⟩, b⟩ := R.loc
    rw [hL] at ho; cases ho
    exact ⟨m', ⟨oL, es, ep, hL', r⟩, b⟩
  · have : x ≠ L := by rintro rfl; rw [R.gL] at e; cases e
    exact R'.keep x y o (by simp [clo, this, e])
  · have hxL := hx x b o e
    obtain ⟨⟨ob, e1, e2, e3⟩, e4, e5, e6⟩ := R'.ob x b o e
    exact ⟨⟨ob, e1, e2, fun q => by have := e3 q; simpa [clo, hxL] using this⟩, hxL, fun q => by have := e5 q; simpa [clo, hxL] using this, e6⟩
theorem Rel.home {g : Fm} {h : Heap} (R : Rel c g L m H h) : ∃ oL, h.get? L = some oL := let ⟨_, ⟨o, _, _, e, _⟩, _⟩ := R.loc; ⟨o, e⟩
end
end Mine
end
section
open PySem PySem.W
set_option maxRecDepth 100000
set_option maxHeartbeats 8000000
set_option linter.all false
namespace Mine
inductive More (P : Sto → Prop) (H : Sto) : Prop where
  | mk (H' : Sto) (hs : HSub H' H) (q : P H') : More P H
inductive PV (m : Loc) (Q : V → Sto → Prop) (cv : Value) (m' : Loc) (H' : Sto) : Prop where
  | mk (e : m' = m) (v : V) (hv : VR v cv) (q : Q v H') : PV m Q cv m' H'
inductive PB (m : Loc) (Q : Bool → Sto → Prop) (b : Bool) (m' : Loc) (H' : Sto) : Prop where
  | mk (e : m' = m) (q : Q b H') : PB m Q b m' H'
noncomputable def TV (c : Cx) (A : Around) (L : Addr) (t : Sem Value) (m : Loc) (H : Sto) (Q : V → Sto → Prop) : Prop :=
  TR c A L t m H (PV m Q)
noncomputable def TB (c : Cx) (A : Around) (L : Addr) (t : Sem Bool) (m : Loc) (H : Sto) (Q : Bool → Sto → Prop) : Prop :=
  TR c A L t m H (PB m Q)
noncomputable abbrev WE (c : Cx) (A : Around) (env : Env) (e : Expr) (m : Loc) (H : Sto) (Q : V → Sto → Prop) : Prop := TV c A env.locals (eval e env) m H Q
noncomputable abbrev WT (c : Cx) (A : Around) (env : Env) (e : Expr) (m : Loc) (H : Sto) (Q : Bool → Sto → Prop) : Prop := TB c A env.locals (isTrue e env (eval e env)) m H Q
noncomputable def OP2 (c : Cx) (A : Around) (L : Addr) (f : Value → Value → Sem Value) (a b : V) (m : Loc) (H : Sto) (Q : V → Sto → Prop) : Prop := ∀ ca cb, VR a ca → VR b cb → TV c A L (f ca cb) m H Q
noncomputable def OPT (c : Cx) (A : Around) (L : Addr) (a : V) (m : Loc) (H : Sto) (Q : Bool → Sto → Prop) : Prop := ∀ ca, VR a ca → TB c A L (truthy ca) m H Q
theorem VR.int (i : Int) (t : Tok) : VR (.int i) (.int i t) := ⟨t, rfl⟩
theorem VR.str (x : Str) (t : Tok) : VR (.str x) (.str x t) := ⟨t, rfl⟩
theorem VR.bool (b : Bool) : VR (.bool b) (.bool b) := rfl
theorem VR.ref (a : Addr) : VR (.ref a) (.ref a) := rfl
section
variable {c : Cx} {A : Around} {L : Addr} {m : Loc} {H : Sto} {env : Env} {g : Fm} {s : Shared}
theorem TV.mono {t : Sem Value} {Q Q' : V → Sto → Prop} (h : TV c A L t m H Q) (hq : ∀ v H', Q v H' → Q' v H') : TV c A L t m H Q' :=
  TR.mono h fun cv m' H' ⟨e, v, hv, q⟩ => ⟨e, v, hv, hq _ _ q⟩
theorem TV.conseq {t : Sem Value} {Q Q' : V → Sto → Prop} (h : TV c A L t m H Q) (hq : ∀ v H', Q v H' → More (Q' v) H') : TV c A L t m H Q' :=
  TR.conseq h fun cv m' H' ⟨e, v, hv, q⟩ => let ⟨H'', a, b⟩ := hq _ _ q; ⟨m', H'', Sub.refl _, a, e, v, hv, b⟩
theorem endV {v : V} {cv : Value} {h' : Heap} {tk : Nat} {H' : Sto} {Q : V → Sto → Prop} (R : Rel c g L m H' h') (hv : VR v cv) (q : Q v H') :
    Post c g L s (PV m Q) cv { s with heap := h', toks := tk } := ⟨h', tk, m, H', rfl, R, rfl, v, hv, q⟩
theorem endB {b : Bool} {h' : Heap} {tk : Nat} {H' : Sto} {Q : Bool → Sto → Prop} (R : Rel c g L m H' h') (q : Q b H') :
    Post c g L s (PB m Q) b { s with heap := h', toks := tk } := ⟨h', tk, m, H', rfl, R, rfl, q⟩
theorem stepV {t : Sem Value} {f : Value → Shared → Prop} {E : Value → Shared → Prop} {Q : V → Sto → Prop} (h : TV c A L t m H Q) (R : Rel c g L m H s.heap)
    (k : ∀ v cv h' tk H', Rel c g L m H' h' → VR v cv → Q v H' → f cv { s with heap := h', toks := tk }) : wpAny (model c.prog c.w) A t f E s :=
  step_wp h R fun cv h' tk m' H' R' ⟨e, v, hv, q⟩ => by subst e; exact k v cv h' tk H' R' hv q
theorem stepB {t : Sem Bool} {f : Bool → Shared → Prop} {E : Value → Shared → Prop} {Q : Bool → Sto → Prop} (h : TB c A L t m H Q) (R : Rel c g L m H s.heap)
    (k : ∀ b h' tk H', Rel c g L m H' h' → Q b H' → f b { s with heap := h', toks := tk }) : wpAny (model c.prog c.w) A t f E s :=
  step_wp h R fun b h' tk m' H' R' ⟨e, q⟩ => by subst e; exact k b h' tk H' R' q
theorem again {α : Type} {t : Sem α} {E : Value → Shared → Prop} {Q : α → Loc → Sto → Prop} {h' : Heap} {tk : Nat} {H' : Sto} {m' : Loc} (h : TR c A L t m' H' Q) (R : Rel c g L m' H' h') :
    wpAny (model c.prog c.w) A t (Post c g L s Q) E { s with heap := h', toks := tk } :=
  wpAny_mono (h g { s with heap := h', toks := tk } R) (fun _ _ ⟨h, tk, m, H, e, R, q⟩ => ⟨h, tk, m, H, e, R, q⟩) fun _ _ x => x.elim
variable {Q : V → Sto → Prop}
theorem WE.int {i k pos} (h : Q (.int i) H) : WE c A env (.Constant (.int i) k pos) m H Q := fun g s R => wpAny_Constant_int (endV R (VR.int _ _) h)
theorem WE.str {x k pos} (h : Q (.str x) H) : WE c A env (.Constant (.str x) k pos) m H Q := fun g s R => wpAny_Constant_str (endV R (VR.str _ _) h)
theorem WE.loc {x pos} {v : V} (hm : m.lookup x = some v) (h : Q v H) (hk : env.scope.kind = .function := by rfl) (hl : env.kindOf x = some .local := by rfl)
    (hd : (x == ("__debug__" : Str)) = false := by decide) : WE c A env (.Name x pos) m H Q := fun g s R => by
  obtain ⟨m', hn, hr⟩ := R.loc
  obtain ⟨cv, e, hv⟩ := hr x v hm
  exact wpAny_Name (wpAny_loadName_local hk hl hn e ⟨s.heap, s.toks, m, H, rfl, R, rfl, v, hv, h⟩) hd
theorem WE.cell {x pos} {v : V} {a : Addr} {b : Bool} (hc : env.cells.lookup x = some a) (ha : H a = some (b, .cell (some v))) (h : Q v H) (hk : env.scope.kind = .function := by rfl) (hl : env.kindOf x = some .cell := by rfl)
    (hd : (x == ("__debug__" : Str)) = false := by decide) : WE c A env (.Name x pos) m H Q := fun g s R => by
  obtain ⟨⟨ob, e1, ⟨cv, e2, hv⟩, _⟩, _⟩ := R.ob a b _ ha
  exact wpAny_Name (wpAny_loadName_cell hk hl hc ⟨ob, e1, e2⟩ ⟨s.heap, s.toks, m, H, rfl, R, rfl, v, hv, h⟩) hd
theorem WE.binop {l op r pos} {Q : V → Sto → Prop}
    (h : WE c A env l m H (fun a H₁ => WE c A env r m H₁ (fun b H₂ => OP2 c A env.locals (binaryOp op) a b m H₂ Q))) : WE c A env (.BinOp l op r pos) m H Q := fun g s R =>
  wpAny_BinOp (stepV h R fun a ca h₁ tk₁ H₁ R₁ ha q₁ => stepV q₁ R₁ fun b cb h₂ tk₂ H₂ R₂ hb q₂ => again (q₂ ca cb ha hb) R₂)
theorem WE.cmp {l op r pos} (h : WE c A env l m H (fun a H₁ => WE c A env r m H₁ (fun b H₂ => OP2 c A env.locals (compareOp op) a b m H₂ Q)))
    (hm : behindInMarks op r = false := by with_unfolding_all rfl) : WE c A env (.Compare l [op] [r] pos) m H Q := fun g s R =>
  wpAny_Compare1 (stepV h R fun a ca h₁ tk₁ H₁ R₁ ha q₁ => stepV q₁ R₁ fun b cb h₂ tk₂ H₂ R₂ hb q₂ => again (q₂ ca cb ha hb) R₂) hm
theorem WE.ifexp {t b o pos} (h : WT c A env t m H (fun x H₁ => if x then WE c A env b m H₁ Q else WE c A env o m H₁ Q)) : WE c A env (.IfExp t b o pos) m H Q := fun g s R =>
  PyProof.Rows.IfExp_ (stepB h R fun x h₁ tk₁ H₁ R₁ q₁ => by
    cases x
    · exact again q₁ R₁
    · exact again q₁ R₁)
theorem WE.and2 {a b pos} (h : WE c A env a m H (fun v H₁ => OPT c A env.locals v m H₁ (fun x H₂ => if x then WE c A env b m H₂ Q else Q v H₂))) : WE c A env (.BoolOp .And [a, b] pos) m H Q := fun g s R =>
  PyProof.Rows.BoolOp_and (stepV h R fun v cv h₁ tk₁ H₁ R₁ hv q₁ => stepB (q₁ cv hv) R₁ fun x h₂ tk₂ H₂ R₂ q₂ => by
    cases x
    · exact endV R₂ hv q₂
    · exact PyProof.Rows.BoolOp_one (again (c := c) (A := A) q₂ R₂))
theorem WT.plain {e} {Q : Bool → Sto → Prop} (h : WE c A env e m H (fun v H₁ => OPT c A env.locals v m H₁ Q))
    (he : isTrue e env (eval e env) = (do let v ← eval e env; standAt e.pos; holding [v] (truthy v)) := by rfl) : WT c A env e m H Q := fun g s R =>
  wpAny_isTrue_value (stepV h R fun v cv h₁ tk₁ H₁ R₁ hv q₁ => again (q₁ cv hv) R₁) he
theorem WT.cmp {l op r pos} {Q : Bool → Sto → Prop} (h : WE c A env l m H (fun a H₁ => WE c A env r m H₁ (fun b H₂ => OP2 c A env.locals (compareOp op) a b m H₂ (fun v H₃ => OPT c A env.locals v m H₃ Q))))
    (hm : behindInMarks op r = false := by with_unfolding_all rfl) : WT c A env (.Compare l [op] [r] pos) m H Q := fun g s R =>
  wpAny_isTrue_Compare1 (stepV h R fun a ca h₁ tk₁ H₁ R₁ ha q₁ => stepV q₁ R₁ fun b cb h₂ tk₂ H₂ R₂ hb q₂ => stepV (q₂ ca cb ha hb) R₂ fun v cv h₃ tk₃ H₃ R₃ hv q₃ => again (q₃ cv hv) R₃) hm
theorem WT.not {x pos} {Q : Bool → Sto → Prop} (h : WT c A env x m H (fun b H₁ => Q (!b) H₁)) : WT c A env (.UnaryOp .Not x pos) m H Q := fun g s R =>
  PyProof.Rows.isTrue_not (stepB h R fun b h₁ tk₁ H₁ R₁ q₁ => endB R₁ q₁)
theorem WT.and2 {a b pos} {Q : Bool → Sto → Prop} (h : WT c A env a m H (fun x H₁ => if x then WT c A env b m H₁ Q else Q false H₁)) : WT c A env (.BoolOp .And [a, b] pos) m H Q := fun g s R =>
  wpAny_isTrue_BoolOp (wpAny_allTrue_And_cons (stepB h R fun x h₁ tk₁ H₁ R₁ q₁ => by
    cases x
    · exact endB R₁ q₁
    · exact wpAny_allTrue_And_cons (stepB q₁ R₁ fun y h₂ tk₂ H₂ R₂ q₂ => by
        cases y
        · exact endB R₂ q₂
        · exact wpAny_allTrue_And_nil (endB R₂ q₂))))
theorem WT.or2 {a b pos} {Q : Bool → Sto → Prop} (h : WT c A env a m H (fun x H₁ => if x then Q true H₁ else WT c A env b m H₁ Q)) : WT c A env (.BoolOp .Or [a, b] pos) m H Q := fun g s R =>
  wpAny_isTrue_BoolOp (wpAny_allTrue_Or_cons (stepB h R fun x h₁ tk₁ H₁ R₁ q₁ => by
    cases x
    · exact wpAny_allTrue_Or_cons (stepB q₁ R₁ fun y h₂ tk₂ H₂ R₂ q₂ => by
        cases y
        · exact wpAny_allTrue_Or_nil (endB R₂ q₂)
        · exact endB R₂ q₂)
    · exact endB R₁ q₁))
theorem OPT.bool {b : Bool} {Q : Bool → Sto → Prop} (h : Q b H) : OPT c A L (.bool b) m H Q := fun ca e g s R => by
  cases e
  exact wpAny_truthy_bool ⟨s.heap, s.toks, m, H, rfl, R, rfl, h⟩
section
variable {a b : Int}
theorem op_add (h : Q (.int (a + b)) H) : OP2 c A L (binaryOp .Add) (.int a) (.int b) m H Q := by
  rintro ca cb ⟨t, rfl⟩ ⟨u, rfl⟩ g s R; exact P.add_int (endV R (VR.int _ _) h)
theorem op_iadd (h : Q (.int (a + b)) H) : OP2 c A L (inplaceOp .Add) (.int a) (.int b) m H Q := by
  rintro ca cb ⟨t, rfl⟩ ⟨u, rfl⟩ g s R; exact P.iadd_int (endV R (VR.int _ _) h)
theorem op_sub (h : Q (.int (a - b)) H) : OP2 c A L (binaryOp .Sub) (.int a) (.int b) m H Q := by
  rintro ca cb ⟨t, rfl⟩ ⟨u, rfl⟩ g s R; exact P.sub_int (endV R (VR.int _ _) h)
theorem op_mul (hm : IntMulOk a b) (h : Q (.int (a * b)) H) : OP2 c A L (binaryOp .Mult) (.int a) (.int b) m H Q := by
  rintro ca cb ⟨t, rfl⟩ ⟨u, rfl⟩ g s R; exact P.mul_int (endV R (VR.int _ _) h) hm
theorem op_fdiv (hb : b ≠ 0) (hs : b.natAbs < 1073741824) (h : Q (.int (a.fdiv b)) H) : OP2 c A L (binaryOp .FloorDiv) (.int a) (.int b) m H Q := by
  rintro ca cb ⟨t, rfl⟩ ⟨u, rfl⟩ g s R
  exact AutoIntOps.floordiv_1 (by simpa using hb) (by rw [PyProof.noPylong_small hs]; exact Bool.false_ne_true) (endV R (VR.int _ _) h)
theorem op_fmod (hb : b ≠ 0) (h : Q (.int (a.fmod b)) H) : OP2 c A L (binaryOp .Mod) (.int a) (.int b) m H Q := by
  rintro ca cb ⟨t, rfl⟩ ⟨u, rfl⟩ g s R
  exact AutoIntOps.mod_1 (by simpa using hb) (endV R (VR.int _ _) h)
theorem op_shr1 (ha : 0 ≤ a) (h : Q (.int (a / 2)) H) : OP2 c A L (binaryOp .RShift) (.int a) (.int 1) m H Q := by
  rintro ca cb ⟨t, rfl⟩ ⟨u, rfl⟩ g s R
  exact wpAny_rshift1_int ha (endV R (VR.int _ _) h)
theorem op_lt (h : Q (.bool (decide (a < b))) H) : OP2 c A L (compareOp .Lt) (.int a) (.int b) m H Q := by
  rintro ca cb ⟨t, rfl⟩ ⟨u, rfl⟩ g s R; exact P.lt_int ⟨s.heap, s.toks, m, H, rfl, R, rfl, _, VR.bool _, h⟩
theorem op_gt (h : Q (.bool (decide (a > b))) H) : OP2 c A L (compareOp .Gt) (.int a) (.int b) m H Q := by
  rintro ca cb ⟨t, rfl⟩ ⟨u, rfl⟩ g s R; exact P.gt_int ⟨s.heap, s.toks, m, H, rfl, R, rfl, _, VR.bool _, h⟩
theorem op_ge (h : Q (.bool (decide (a ≥ b))) H) : OP2 c A L (compareOp .GtE) (.int a) (.int b) m H Q := by
  rintro ca cb ⟨t, rfl⟩ ⟨u, rfl⟩ g s R; exact P.ge_int ⟨s.heap, s.toks, m, H, rfl, R, rfl, _, VR.bool _, h⟩
theorem op_le (h : Q (.bool (decide (a ≤ b))) H) : OP2 c A L (compareOp .LtE) (.int a) (.int b) m H Q := by
  rintro ca cb ⟨t, rfl⟩ ⟨u, rfl⟩ g s R; exact P.le_int ⟨s.heap, s.toks, m, H, rfl, R, rfl, _, VR.bool _, h⟩
theorem op_eq (h : Q (.bool (a == b)) H) : OP2 c A L (compareOp .Eq) (.int a) (.int b) m H Q := by
  rintro ca cb ⟨t, rfl⟩ ⟨u, rfl⟩ g s R; exact P.eq_int ⟨s.heap, s.toks, m, H, rfl, R, rfl, _, VR.bool _, h⟩
theorem op_ne (h : Q (.bool (a != b)) H) : OP2 c A L (compareOp .NotEq) (.int a) (.int b) m H Q := by
  rintro ca cb ⟨t, rfl⟩ ⟨u, rfl⟩ g s R; exact P.ne_int ⟨s.heap, s.toks, m, H, rfl, R, rfl, _, VR.bool _, h⟩
theorem op_is {x y : Bool} (h : Q (.bool (x == y)) H) : OP2 c A L (compareOp .Is) (.bool x) (.bool y) m H Q := by
  rintro ca cb rfl rfl g s R
  refine wpAny_is_plain rfl ⟨s.heap, s.toks, m, H, rfl, R, rfl, _, VR.bool _, ?_⟩
  have e : (Value.bool x == Value.bool y) = (x == y) := by cases x <;> cases y <;> rfl
  rw [e]; exact h
end
end
end Mine
end
section
open PySem PySem.W
set_option maxRecDepth 100000
set_option maxHeartbeats 8000000
set_option linter.all false
namespace Mine
inductive Fl where
  | next | brk | cont | ret (v : V)
noncomputable def FR : Fl → Flow → Prop
  | .next, f => f = .next
  | .brk, f => f = .brk
  | .cont, f => f = .cont
  | .ret v, f => ∃ cv, f = .ret cv ∧ VR v cv
noncomputable abbrev SPost := Fl → Loc → Sto → Prop
inductive PS (Q : SPost) (f : Flow) (m : Loc) (H : Sto) : Prop where
  | mk (fl : Fl) (hf : FR fl f) (q : Q fl m H) : PS Q f m H
@[reducible] noncomputable def Rets (Q : V → Sto → Prop) : SPost := fun fl _ H' => match fl with | .ret v => Q v H' | .next => Q .none H' | _ => False
@[reducible] noncomputable def Turn (N : Loc → Sto → Prop) (Q : SPost) : SPost := fun fl m' H' => match fl with
  | .next | .cont => N m' H'
  | .brk => Q .next m' H'
  | .ret v => Q (.ret v) m' H'
noncomputable def WS (c : Cx) (A : Around) (env : Env) (b : List Stmt) (m : Loc) (H : Sto) (Q : SPost) : Prop := TR c A env.locals (execs b env) m H (PS Q)
noncomputable def W1 (c : Cx) (A : Around) (env : Env) (b : Stmt) (m : Loc) (H : Sto) (Q : SPost) : Prop := TR c A env.locals (exec b env) m H (PS Q)
noncomputable def WA (c : Cx) (A : Around) (env : Env) (t : Expr) (v : V) (m : Loc) (H : Sto) (Q : Loc → Sto → Prop) : Prop := ∀ cv, VR v cv → TR c A env.locals (assign t env cv) m H (fun _ m' H' => Q m' H')
noncomputable def Thn (c : Cx) (A : Around) (env : Env) (rest : List Stmt) (Q : SPost) : SPost := fun fl m H => match fl with
  | .next => WS c A env rest m H Q
  | fl => Q fl m H
structure Room (n : Nat) (A : Around) : Prop where
  hd : A.handled = none
  dp : A.depth + n ≤ 900
  un : A.units + 16 * n ≤ 9000
section
variable {c : Cx} {A : Around} {L : Addr} {m : Loc} {H : Sto} {env : Env} {g : Fm} {s : Shared} {Q : SPost} {rest : List Stmt}
theorem endS {fl : Fl} {f : Flow} {h' : Heap} {tk : Nat} {H' : Sto} {m' : Loc} {Q : SPost} (R : Rel c g L m' H' h') (hf : FR fl f) (q : Q fl m' H') :
    Post c g L s (PS Q) f { s with heap := h', toks := tk } := ⟨h', tk, m', H', rfl, R, fl, hf, q⟩
theorem WS.weaken {b : List Stmt} {m' : Loc} {H' : Sto} (h : WS c A env b m' H' Q) (hm : Sub m' m) (hH : HSub H' H) : WS c A env b m H Q := TR.weaken h hm hH
theorem WS.nil (h : Q .next m H) : WS c A env [] m H Q := fun g s R => wpAny_execs_nil ⟨s.heap, s.toks, m, H, rfl, R, .next, rfl, h⟩
theorem WS.cons {st : Stmt} (h : W1 c A env st m H (Thn c A env rest Q)) : WS c A env (st :: rest) m H Q := fun g s R =>
  wpAny_execs_cons (step_wp h R fun f h' tk m' H' R' ⟨fl, hf, q⟩ => by
    cases fl with
    | next => cases hf; exact again q R'
    | brk => cases hf; exact endS R' (fl := .brk) rfl q
    | cont => cases hf; exact endS R' (fl := .cont) rfl q
    | ret v => obtain ⟨cv, rfl, hv⟩ := hf; exact endS R' (fl := .ret v) ⟨cv, rfl, hv⟩ q)
theorem store_loc {x : Str} {v : V} {cv : Value} {E : Value → Shared → Prop} {f : Unit → Shared → Prop} (R : Rel c g env.locals m H s.heap) (hv : VR v cv) (hl : env.kindOf x = some .local) (hk : env.scope.kind = .function)
    (k : ∀ h' tk, Rel c g env.locals (setL m x v) H h' → f () { s with heap := h', toks := tk }) : wpAny (model c.prog c.w) A (storeName env x cv) f E s := by
  obtain ⟨m', hn, hr⟩ := R.loc
  exact wpAny_storeName_local hl hn (fun h' hn' hs => k h' _ (R.set hr hv hn' hs)) (by rw [hk]; rfl)
theorem W1.assign {x p e pos} (h : WE c A env e m H (fun v H₁ => Q .next (setL m x v) H₁)) (hl : env.kindOf x = some .local := by rfl) (hk : env.scope.kind = .function := by rfl)
    (hs : swapsWith e (some (.Name x p)) pos.line env = pure false := by rfl) : W1 c A env (.Assign [.Name x p] e pos) m H Q := fun g s R =>
  wpAny_Assign_Name (stepV h R fun v cv h₁ tk₁ H₁ R₁ hv q => store_loc R₁ hv hl hk fun h₂ tk₂ R₂ => endS R₂ (fl := .next) rfl q) hs
theorem W1.aug {x p op e pos} {v : V} (hm : m.lookup x = some v) (h : WE c A env e m H (fun w H₁ => OP2 c A env.locals (inplaceOp op) v w m H₁ (fun r H₂ => Q .next (setL m x r) H₂)))
    (hl : env.kindOf x = some .local := by rfl) (hk : env.scope.kind = .function := by rfl) : W1 c A env (.AugAssign (.Name x p) op e pos) m H Q := fun g s R => by
  obtain ⟨m', hn, hr⟩ := R.loc
  obtain ⟨cv, e, hv⟩ := hr x v hm
  exact wpAny_AugAssign_Name (wpAny_loadName_local hk hl hn e (stepV h R fun w cw h₁ tk₁ H₁ R₁ hw q => stepV (q cv cw hv hw) R₁ fun r cr h₂ tk₂ H₂ R₂ hr q₂ =>
    store_loc R₂ hr hl hk fun h₃ tk₃ R₃ => endS R₃ (fl := .next) rfl q₂))
theorem W1.ret {e pos} (h : WE c A env e m H (fun v H₁ => Q (.ret v) m H₁)) : W1 c A env (.Return (some e) pos) m H Q := fun g s R =>
  wpAny_Return_some (stepV h R fun v cv h₁ tk₁ H₁ R₁ hv q => endS R₁ (fl := .ret v) ⟨cv, rfl, hv⟩ q)
theorem W1.brk {pos} (h : Q .brk m H) : W1 c A env (.Break pos) m H Q := fun g s R => by
  rw [arm_exec_Break]
  exact wpAny_bind (wpAny_standAt (wpAny_pure ⟨s.heap, s.toks, m, H, rfl, R, .brk, rfl, h⟩))
theorem W1.cont {pos} (h : Q .cont m H) : W1 c A env (.Continue pos) m H Q := fun g s R => by
  rw [arm_exec_Continue]
  exact wpAny_bind (wpAny_standAt (wpAny_pure ⟨s.heap, s.toks, m, H, rfl, R, .cont, rfl, h⟩))
theorem W1.ite {t b o pos} (h : WT c A env t m H (fun x H₁ => if x then WS c A env b m H₁ Q else WS c A env o m H₁ Q)) : W1 c A env (.If t b o pos) m H Q := fun g s R =>
  wpAny_If (stepB h R fun x h₁ tk₁ H₁ R₁ q => by
    cases x
    · exact again q R₁
    · exact again q R₁)
theorem W1.expr {e pos} (h : WE c A env e m H (fun v H₁ => v = .none ∧ Q .next m H₁)) (hi : interactive env = false := by rfl) (hs : swapsWith e none pos.line env = pure false := by rfl) :
    W1 c A env (.Expr e pos) m H Q := fun g s R =>
  wpAny_Expr (stepV h R fun v cv h₁ tk₁ H₁ R₁ hv ⟨e, q⟩ => by subst e; cases hv; exact endS R₁ (fl := .next) rfl q) hi hs
theorem W1.setitem {o i p e pos} (h : WE c A env e m H (fun v H₁ => WE c A env o m H₁ (fun ov H₂ => WE c A env i m H₂ (fun iv H₃ =>
      ∀ cv co ci, VR v cv → VR ov co → VR iv ci → TR c A env.locals (setItem co ci cv) m H₃ (fun _ m' H₄ => Q .next m' H₄)))))
    (hs : swapsWith e (some (.Subscript o i p)) pos.line env = pure false := by rfl) : W1 c A env (.Assign [.Subscript o i p] e pos) m H Q := fun g s R =>
  wpAny_Assign_Subscript (stepV h R fun v cv h₁ tk₁ H₁ R₁ hv q => stepV q R₁ fun ov co h₂ tk₂ H₂ R₂ ho q => stepV q R₂ fun iv ci h₃ tk₃ H₃ R₃ hi q =>
    step_wp (q cv co ci hv ho hi) R₃ fun _ h₄ tk₄ m₄ H₄ R₄ q => endS R₄ (fl := .next) rfl q) hs
theorem W1.setattr {o x p e pos} (h : WE c A env e m H (fun v H₁ => WE c A env o m H₁ (fun ov H₂ =>
      ∀ cv co, VR v cv → VR ov co → TR c A env.locals (setAttr co x cv) m H₂ (fun _ m' H₄ => Q .next m' H₄))))
    (hs : swapsWith e (some (.Attribute o x p)) pos.line env = pure false := by rfl) : W1 c A env (.Assign [.Attribute o x p] e pos) m H Q := fun g s R =>
  wpAny_Assign_Attr (stepV h R fun v cv h₁ tk₁ H₁ R₁ hv q => stepV q R₁ fun ov co h₂ tk₂ H₂ R₂ ho q =>
    step_wp (q cv co hv ho) R₂ fun _ h₄ tk₄ m₄ H₄ R₄ q => endS R₄ (fl := .next) rfl q) hs
where wpAny_Assign_Attr := @plainObj_wpAny_Assign_Attribute (model c.prog c.w) A (fun _ _ => False)
theorem W1.augitem {o i p op e pos} (h : WE c A env o m H (fun ov H₁ => WE c A env i m H₁ (fun iv H₂ => OP2 c A env.locals getItem ov iv m H₂ (fun old H₃ => WE c A env e m H₃ (fun v H₄ =>
      OP2 c A env.locals (inplaceOp op) old v m H₄ (fun r H₅ => ∀ cr co ci, VR r cr → VR ov co → VR iv ci → TR c A env.locals (setItem co ci cr) m H₅ (fun _ m' H₆ => Q .next m' H₆)))))))
    (hi : ∀ ov iv new, augStore i ov iv new = (do holding [new, ov, iv] (setItem ov iv new); release [new, ov, iv] []; pure .next) := by intros; rfl) :
    W1 c A env (.AugAssign (.Subscript o i p) op e pos) m H Q := fun g s R =>
  wpAny_AugAssign_SubscriptAny (stepV h R fun ov co h₁ tk₁ H₁ R₁ ho q => stepV q R₁ fun iv ci h₂ tk₂ H₂ R₂ hi q => stepV (q co ci ho hi) R₂ fun old cold h₃ tk₃ H₃ R₃ hold q => stepV q R₃ fun v cv h₄ tk₄ H₄ R₄ hv q =>
    stepV (q cold cv hold hv) R₄ fun r cr h₅ tk₅ H₅ R₅ hr q => step_wp (q cr co ci hr ho hi) R₅ fun _ h₆ tk₆ m₆ H₆ R₆ q => endS R₆ (fl := .next) rfl q) hi
theorem WA.name {x p} {v : V} {Q : Loc → Sto → Prop} (h : Q (setL m x v) H) (hl : env.kindOf x = some .local := by rfl) (hk : env.scope.kind = .function := by rfl) : WA c A env (.Name x p) v m H Q := fun cv hv g s R =>
  wpAny_assign_Name (store_loc R hv hl hk fun h₂ tk₂ R₂ => ⟨h₂, tk₂, _, H, rfl, R₂, h⟩)
theorem W1.assign3 {t₁ t₂ t₃ e pos} (h : WE c A env e m H (fun v H₁ => WA c A env t₁ v m H₁ (fun m₁ H₂ => WA c A env t₂ v m₁ H₂ (fun m₂ H₃ => WA c A env t₃ v m₂ H₃ (fun m₃ H₄ => Q .next m₃ H₄)))))
    (he : (assignEach [t₁, t₂, t₃] env).map (·.2) = [PySem.assign t₁ env, PySem.assign t₂ env, PySem.assign t₃ env] := by rfl)
    (hw : swappedStores [t₁, t₂, t₃] e env = pure none := by rfl) : W1 c A env (.Assign [t₁, t₂, t₃] e pos) m H Q := fun g s R =>
  wpAny_Assign_three (stepV h R fun v cv h₁ tk₁ H₁ R₁ hv q => step_wp (q cv hv) R₁ fun _ h₂ tk₂ m₂ H₂ R₂ q => step_wp (q cv hv) R₂ fun _ h₃ tk₃ m₃ H₃ R₃ q => step_wp (q cv hv) R₃ fun _ h₄ tk₄ m₄ H₄ R₄ q =>
    endS R₄ (fl := .next) rfl q) he hw
inductive Wk (P : Loc → Sto → Prop) (m : Loc) (H : Sto) : Prop where
  | mk (m' : Loc) (H' : Sto) (e1 : Sub m' m) (e2 : HSub H' H) (q : P m' H') : Wk P m H
inductive WkN (I : Nat → Loc → Sto → Prop) (n : Nat) (m : Loc) (H : Sto) : Prop where
  | mk (k : Nat) (lt : k < n) (m' : Loc) (H' : Sto) (e1 : Sub m' m) (e2 : HSub H' H) (q : I k m' H') : WkN I n m H
theorem W1.while {t b pos} (I : Nat → Loc → Sto → Prop) (n : Nat) (hI : I n m H)
    (turn : ∀ n m H, I n m H → WT c A env t m H (fun x H₁ => if x then WS c A env b m H₁ (Turn (WkN I n) Q)
      else Q .next m H₁)) : W1 c A env (.While t b [] pos) m H Q := fun g s R => by
  refine wpAny_While ?_
  refine codeAny_whileLoop (A := A) (fun k s' => ∃ h' tk m' H', s' = { s with heap := h', toks := tk } ∧ Rel c g env.locals m' H' h' ∧ I k m' H') ?_ n ⟨s.heap, s.toks, m, H, rfl, R, hI⟩
  rintro k s' ⟨h', tk, m', H', rfl, R', hI'⟩
  refine stepB (s := { s with heap := h', toks := tk }) (turn k m' H' hI') R' fun x h₁ tk₁ H₁ R₁ q => ?_
  · cases x
    · exact wpAny_execs_nil (endS R₁ (fl := .next) rfl q)
    · refine step_wp q R₁ fun f h₂ tk₂ m₂ H₂ R₂ ⟨fl, hf, q⟩ => ?_
      cases fl with
      | next => cases hf; obtain ⟨k', hk, m₃, H₃, e1, e2, q⟩ := q; exact ⟨k', hk, h₂, tk₂, m₃, H₃, rfl, R₂.weaken e1 e2, q⟩
      | cont => cases hf; obtain ⟨k', hk, m₃, H₃, e1, e2, q⟩ := q; exact ⟨k', hk, h₂, tk₂, m₃, H₃, rfl, R₂.weaken e1 e2, q⟩
      | brk => cases hf; exact endS R₂ (fl := .next) rfl q
      | ret v => obtain ⟨cv, rfl, hv⟩ := hf; exact endS R₂ (fl := .ret v) ⟨cv, rfl, hv⟩ q
end
end Mine
end
section
open PySem PySem.W
set_option maxRecDepth 100000
set_option maxHeartbeats 8000000
set_option linter.all false
namespace Mine
structure Walker (c : Cx) (A : Around) (g : Fm) (L : Addr) (m : Loc) (H : Sto) (items : List V) (I : Addr) (h : Heap) : Prop where
  R : Rel c g L m H h
  free : g I = none ∧ I ≠ L ∧ H I = none
  walk : ∃ fp P St n, n = items.length ∧ Walks c.prog c.w A I fp [I] n P St ∧ St 0 h ∧ (∀ b ∈ fp, b = I ∨ ∃ o, g b = some (false, o)) ∧ (∀ i v, i < items.length → P i v → ∃ av, items[i]? = some av ∧ VR av v) ∧ (∀ i h, St i h → ∃ ob, h.get? I = some ob)
noncomputable def ITER (c : Cx) (A : Around) (L : Addr) (x : V) (m : Loc) (H : Sto) (items : List V) (H' : Sto) : Prop :=
  ∀ g s cx E (f : Value → Shared → Prop), VR x cx → Rel c g L m H s.heap → (∀ I h' tk, Walker c A g L m H' items I h' → f (.ref I) { s with heap := h', toks := tk }) →
    wpAny (model c.prog c.w) A (pyIter cx) f E s
noncomputable def forRest (env : Env) (target : Expr) (body : List Stmt) (ipos : Pos) (x : Value) : Sem Flow := do
  standAt ipos
  runOwn (.forLoop target (← holding [x] (pyIter x)) body [] env) env
noncomputable def WF (c : Cx) (A : Around) (env : Env) (target : Expr) (body : List Stmt) (ipos : Pos) (x : V) (m : Loc) (H : Sto) (Q : SPost) : Prop :=
  ∀ cx, VR x cx → TR c A env.locals (forRest env target body ipos cx) m H (PS Q)
section
variable {c : Cx} {A : Around} {L : Addr} {m : Loc} {H : Sto} {env : Env} {g : Fm} {s : Shared} {Q : SPost}
theorem W1.for {target iter body pos} (h : WE c A env iter m H (fun x H₁ => WF c A env target body iter.pos x m H₁ Q)) (hs : ∀ x, foldedSetIterable iter env x = pure x := by intro _; rfl) :
    W1 c A env (.For target iter body [] pos) m H Q := fun g s R => by
  rw [exec_For]
  exact wpAny_bind (wpAny_standAt (wpAny_bind (stepV h R fun v cv h₁ tk₁ H₁ R₁ hv q => wpAny_bind (wpAny_of_eq (hs cv) (again (t := forRest env target body iter.pos cv) (q cv hv) R₁)))))
theorem WF.ro {target body ipos} {x : V} {a : Addr} {b : Bool} {o : O} (ha : H a = some (b, o)) (h : WF c A env target body ipos x m (upd H a (false, o)) (fun fl m' H' => Q fl m' (upd H' a (b, o)))) :
    WF c A env target body ipos x m H Q := fun cx hx => TR.ro ha (TR.mono (h cx hx) fun _ _ _ ⟨fl, hf, q⟩ => ⟨fl, hf, q⟩)
theorem sub_none {H H' : Sto} {I : Addr} (h : HSub H H') (e : H' I = none) : H I = none := by
  cases q : H I with
  | none => rfl
  | some x => have := h _ _ q; rw [e] at this; cases this
inductive LoopI (c : Cx) (g : Fm) (L : Addr) (I : Addr) (St : Nat → Heap → Prop) (Inv : Nat → Loc → Sto → Prop) (n : Nat) (s : Shared) : Nat → Shared → Prop where
  | mk (i : Nat) (h : Heap) (tk : Nat) (m : Loc) (H : Sto) (R : Rel c g L m H h) (HI : H I = none) (st : St i h) (inv : Inv i m H) (le : i ≤ n) : LoopI c g L I St Inv n s (n + 1 - i) { s with heap := h, toks := tk }
theorem LoopI.next {c : Cx} {g : Fm} {L I : Addr} {St : Nat → Heap → Prop} {Inv : Nat → Loc → Sto → Prop} {n i : Nat} {s : Shared} {h : Heap} {tk : Nat} {m : Loc} {H : Sto} (R : Rel c g L m H h) (HI : H I = none) (st : St (i + 1) h) (lt : i < n) (q : Wk (Inv (i + 1)) m H) :
    ∃ k, k < n + 1 - i ∧ LoopI c g L I St Inv n s k { s with heap := h, toks := tk } :=
  let ⟨m', H', e1, e2, q⟩ := q
  ⟨n + 1 - (i + 1), by lia, .mk (i + 1) h tk m' H' (R.weaken e1 e2) (sub_none e2 HI) st q lt⟩
theorem holdAt {t : Sem Unit} {f : Unit → Shared → Prop} {E : Value → Shared → Prop} {L I : Addr} {ob : Obj} {m₁ : Loc} {H₁ : Sto} {g : Fm} {s : Shared} {c : Cx} {A : Around} {m : Loc} {H : Sto} (h : TR c A L t m H (fun _ m' H' => m' = m₁ ∧ H' = H₁)) (R : Rel c g L m H s.heap)
    (gI : g I = none) (hI : s.heap.get? I = some ob) (LI : I ≠ L) (HI : H I = none)
    (k : ∀ h' tk, Rel c g L m₁ H₁ h' → h'.get? I = some ob → H₁ I = none → f () { s with heap := h', toks := tk }) : wpAny (model c.prog c.w) A t f E s :=
  hold h R gI hI LI HI fun _ h' tk m' H' R' hob HI' e => by
    obtain ⟨rfl, rfl⟩ := e
    exact k h' tk R' hob HI'
noncomputable def Ends (f : Flow) (NX RB : Prop) (RR : Value → Prop) : Prop := match f with
  | .next | .cont => NX
  | .brk => RB
  | .ret v => RR v
theorem turned {f : Flow} {J : Loc → Sto → Prop} {m : Loc} {H : Sto} {Q : SPost} {NX RB : Prop} {RR : Value → Prop} (q : PS (Turn J Q) f m H)
    (nx : J m H → NX) (bk : Q .next m H → RB) (rt : ∀ v cv, VR v cv → Q (.ret v) m H → RR cv) : Ends f NX RB RR := by
  obtain ⟨fl, hf, q⟩ := q
  cases fl with
  | next => cases hf; exact nx q
  | cont => cases hf; exact nx q
  | brk => cases hf; exact bk q
  | ret v => obtain ⟨cv, rfl, hv⟩ := hf; exact rt v cv hv q
theorem WF.loop {y : Str} {p : Pos} {body ipos} {xv : V} {items : List V} {H₀ : Sto} (Inv : Nat → Loc → Sto → Prop) (hit : ITER c A env.locals xv m H items H₀) (h0 : Inv 0 m H₀)
    (turn : ∀ i v m H, items[i]? = some v → Inv i m H → WS c A env body (setL m y v) H (Turn (Wk (Inv (i + 1))) Q))
    (done : ∀ m H, Inv items.length m H → Q .next m H)
    (hl : env.kindOf y = some .local := by rfl) (hk : env.scope.kind = .function := by rfl) : WF c A env (.Name y p) body ipos xv m H Q := by
  intro cx hx g s R
  refine wpAny_bind (wpAny_standAt (wpAny_bind (wpAny_holding (hit g s cx _ _ hx R fun I h₁ tk₁ W => wpAny_runOwn ?_))))
  obtain ⟨R₁, ⟨gI, LI, HI⟩, fp, P, St, n, rfl, W, hst, hfp, hP, hob⟩ := W
  refine codeAny_forLoop (A := A) (LoopI c g env.locals I St Inv items.length s) ?_ (items.length + 1) (.mk 0 h₁ tk₁ m H₀ R₁ HI hst h0 (Nat.zero_le _))
  intro k s' hL
  cases hL with | mk i h' tk m' H' R' HI' hst' hI' hle => ?_
  by_cases hlt : i < items.length
  · refine W.item i _ _ _ hlt hst' fun v h₂ tk₂ hv hst₂ hk₂ => ?_
    obtain ⟨av, hav, hvr⟩ := hP i v hlt hv
    have R₂ : Rel c g env.locals m' H' h₂ := R'.but gI LI HI' fun b o hb e => hk₂ b o (by simpa using hb) e
    obtain ⟨ob, hob₂⟩ := hob _ _ hst₂
    refine holdAt (s := { s with heap := h₂, toks := tk₂ }) (WA.name (Q := fun m₁ H₁ => m₁ = setL m' y av ∧ H₁ = H') ⟨rfl, rfl⟩ hl hk v hvr) R₂ gI hob₂ LI HI' fun h₃ tk₃ R₃ hob₃ HI₃ => ?_
    refine hold (s := { s with heap := h₃, toks := tk₃ }) (turn i av m' H' hav hI') R₃ gI hob₃ LI HI₃ fun f h₄ tk₄ m₄ H₄ R₄ hob₄ HI₄ q => ?_
    have hst₄ : St (i + 1) h₄ := W.frame _ _ _ hst₂ fun b hb o e => by
      rcases hfp b hb with rfl | ⟨o', e'⟩
      · rw [hob₂] at e; cases e; exact hob₄
      · have := R₂.keep b _ o' e'
        rw [this] at e
        cases e
        exact R₄.keep b _ _ e'
    exact turned q (fun q => LoopI.next (s := s) (tk := tk₄) R₄ HI₄ hst₄ hlt (Inv := Inv) q) (fun q => endS (s := s) R₄ (fl := .next) rfl q) (fun v cv hv q => endS (s := s) R₄ (fl := .ret v) ⟨cv, rfl, hv⟩ q)
  · have hin : i = items.length := by lia
    subst hin
    refine W.done _ _ _ hst' fun h₂ tk₂ hk₂ => ?_
    have R₂ : Rel c g env.locals m' H' h₂ := R'.but gI LI HI' fun b o hb e => hk₂ b o (by simpa using hb) e
    exact wpAny_execs_nil (endS (s := s) R₂ (fl := .next) rfl (done m' H' hI'))
end
end Mine
end
section
open PySem PySem.W
set_option maxRecDepth 100000
set_option maxHeartbeats 8000000
set_option linter.all false
namespace Mine
theorem VRs.length {l : List V} {vs : List Value} (h : VRs l vs) : l.length = vs.length := by
  induction h with
  | nil => rfl
  | cons _ _ ih => simp [ih]
theorem VRs.get {l : List V} {vs : List Value} (h : VRs l vs) : ∀ {i : Nat} {cv : Value}, vs[i]? = some cv → ∃ v, l[i]? = some v ∧ VR v cv := by
  induction h with
  | nil => intro i cv e; simp at e
  | cons hv _ ih =>
    intro i cv e
    cases i with
    | zero => simp at e; subst e; exact ⟨_, by simp, hv⟩
    | succ i => simp at e; exact (ih e).imp fun v q => ⟨by simpa using q.1, q.2⟩
theorem VRs.get' {l : List V} {vs : List Value} (h : VRs l vs) : ∀ {i : Nat} {v : V}, l[i]? = some v → ∃ cv, vs[i]? = some cv ∧ VR v cv := by
  induction h with
  | nil => intro i v e; simp at e
  | cons hv _ ih =>
    intro i v e
    cases i with
    | zero => simp at e; subst e; exact ⟨_, by simp, hv⟩
    | succ i => simp at e; exact (ih e).imp fun v q => ⟨by simpa using q.1, q.2⟩
section
variable {c : Cx} {A : Around} {L : Addr} {m : Loc} {H : Sto} {env : Env} {g : Fm} {s : Shared}
theorem free_push (R : Rel c g L m H s.heap) : g s.heap.objs.size = none ∧ s.heap.objs.size ≠ L ∧ H s.heap.objs.size = none :=
  R.free (Heap.get?_none_of_le (Nat.le_refl _))
theorem old_ne {a : Addr} {o : Obj} (e : s.heap.get? a = some o) : a ≠ s.heap.objs.size := Nat.ne_of_lt (Heap.lt_size e)
theorem ITER.list {a : Addr} {l : List V} (hA : A.handled = none) (ha : H a = some (false, .list l)) : ITER c A L (.ref a) m H l H := by
  intro g s cx E f hx R k
  cases hx
  obtain ⟨⟨ob, e1, ⟨vs, n, rfl, hv⟩, e3⟩, _⟩ := R.ob a _ _ ha
  have hl : s.heap.IsList a vs := ⟨_, e1, rfl, n, rfl⟩
  have W := Walks.list (prog := c.prog) (w := c.w) hA s.heap.objs.size a (old_ne e1) vs
  refine wpAny_pyIter_list hl (k s.heap.objs.size _ s.toks ⟨R.ext fun _ _ e => Heap.get?_push_of_some _ e, free_push R, _, _, _, _, by simp [hv.length], W, ⟨⟨_, Heap.get?_push_size _ rfl, rfl, rfl⟩, hl.push _⟩, ?_, ?_, ?_⟩)
  · intro b hb
    rcases List.mem_cons.mp hb with rfl | hb
    · exact .inl rfl
    · rw [List.mem_singleton.mp hb]; exact .inr ⟨_, e3 rfl⟩
  · intro i v _ hi
    exact hv.get (by simpa using hi)
  · rintro i h ⟨⟨o, ho, _⟩, _⟩
    exact ⟨o, ho⟩
theorem ITER.keys {a : Addr} {l : List (Int × V)} (hA : A.handled = none) (ha : H a = some (false, .dict l)) : ITER c A L (.ref a) m H (l.map fun p => .int p.1) H := by
  intro g s cx E f hx R k
  cases hx
  obtain ⟨⟨ob, e1, ⟨kvs, hd, hk, hv⟩, e3⟩, _, _, hsys⟩ := R.ob a _ _ ha
  obtain ⟨es, ep, q⟩ := hd
  have hm : s.heap.DictAt (intKind c.prog c.w) a kvs ep := ⟨ob, es, e1, q⟩
  have W := Walks.dictKeys (knd := intKind c.prog c.w) hA s.heap.objs.size a (old_ne e1) kvs ep
  refine wpAny_pyIter_dict (knd := intKind c.prog c.w) (by simpa using hsys l rfl) hm (k s.heap.objs.size _ s.toks ⟨R.ext fun _ _ e => Heap.get?_push_of_some _ e, free_push R, _, _, _, _, by have := congrArg List.length hk; simpa using this.symm, W, ⟨⟨_, Heap.get?_push_size _ rfl, rfl, rfl⟩, hm.push _⟩, ?_, ?_, ?_⟩)
  · intro b hb
    rcases List.mem_cons.mp hb with rfl | hb
    · exact .inl rfl
    · rw [List.mem_singleton.mp hb]; exact .inr ⟨_, e3 rfl⟩
  · rintro i v _ ⟨ky, x, hi, hkey⟩
    obtain ⟨t, rfl⟩ := Value.isInt_shape hkey
    refine ⟨.int ky, ?_, ⟨t, rfl⟩⟩
    have e2 : (kvs.map (·.1))[i]? = some ky := by simp [hi]
    rw [← hk] at e2
    simp only [List.getElem?_map, Option.map_eq_some_iff] at e2 ⊢
    obtain ⟨p, hp, rfl⟩ := e2
    exact ⟨p, hp, rfl⟩
  · rintro i h ⟨⟨o, ho, _⟩, _⟩
    exact ⟨o, ho⟩
theorem ITER.vals {a d : Addr} {b : Bool} {l : List (Int × V)} (hA : A.handled = none) (ha : H a = some (b, .vals d)) (hd : H d = some (false, .dict l)) : ITER c A L (.ref a) m H (l.map (·.2)) H := by
  intro g s cx E f hx R k
  cases hx
  obtain ⟨⟨ov, hov, rfl, _⟩, _⟩ := R.ob a _ _ ha
  obtain ⟨⟨ob, e1, ⟨kvs, hdo, hk, hv⟩, e3⟩, _, _, hsys⟩ := R.ob d _ _ hd
  obtain ⟨es, ep, q⟩ := hdo
  have hm : s.heap.DictAt (intKind c.prog c.w) d kvs ep := ⟨ob, es, e1, q⟩
  have W := Walks.dictValues (knd := intKind c.prog c.w) hA s.heap.objs.size d (old_ne e1) kvs ep
  refine wpAny_pyIter_values (knd := intKind c.prog c.w) ⟨_, hov, rfl, rfl⟩ hm (k s.heap.objs.size _ s.toks ⟨R.ext fun _ _ e => Heap.get?_push_of_some _ e, free_push R, _, _, _, _, by have := congrArg List.length hk; simpa using this.symm, W, ⟨⟨_, Heap.get?_push_size _ rfl, rfl, rfl⟩, hm.push _⟩, ?_, ?_, ?_⟩)
  · intro b hb
    rcases List.mem_cons.mp hb with rfl | hb
    · exact .inl rfl
    · rw [List.mem_singleton.mp hb]; exact .inr ⟨_, e3 rfl⟩
  · rintro i v _ ⟨ky, hi⟩
    exact hv.get (by simp [hi])
  · rintro i h ⟨⟨o, ho, _⟩, _⟩
    exact ⟨o, ho⟩
theorem ITER.str {x : Str} (hA : A.handled = none) : ITER c A L (.str x) m H (x.cps.toList.map fun ch => .str ⟨#[ch]⟩) H := by
  intro g s cx E f hx R k
  obtain ⟨t, rfl⟩ := hx
  have hP : ∀ i v, i < (x.cps.toList.map fun ch => V.str ⟨#[ch]⟩).length → SignAt x i v → ∃ av, (x.cps.toList.map fun ch => V.str ⟨#[ch]⟩)[i]? = some av ∧ VR av v := by
    rintro i v _ ⟨ch, u, hc, rfl⟩
    exact ⟨.str ⟨#[ch]⟩, by simp [hc], ⟨u, rfl⟩⟩
  cases ha : x.cps.all (· < 128)
  · exact wpAny_pyIter_wide ha (k s.heap.objs.size _ s.toks ⟨R.ext fun _ _ e => Heap.get?_push_of_some _ e, free_push R, _, _, _, _, by simp, Walks.strWide hA s.heap.objs.size x t, ⟨_, Heap.get?_push_size _ rfl, rfl, rfl⟩,
      fun b hb => .inl (List.mem_singleton.mp hb), hP, fun i h ⟨o, ho, _⟩ => ⟨o, ho⟩⟩)
  · exact wpAny_pyIter_ascii ha (k s.heap.objs.size _ s.toks ⟨R.ext fun _ _ e => Heap.get?_push_of_some _ e, free_push R, _, _, _, _, by simp, Walks.strAscii hA s.heap.objs.size x t, ⟨_, Heap.get?_push_size _ rfl, rfl, rfl⟩,
      fun b hb => .inl (List.mem_singleton.mp hb), hP, fun i h ⟨o, ho, _⟩ => ⟨o, ho⟩⟩)
noncomputable def rangeItems (a b : Int) : List V := (List.range (b - a).toNat).map fun (i : Nat) => .int (a + (i : Int))
theorem ITER.rng {a : Addr} {b : Bool} {lo hi : Int} (hA : A.handled = none) (ha : H a = some (b, .rng lo hi)) (h1 : -(2 ^ 62) ≤ lo) (h2 : lo < 2 ^ 62) (h3 : -(2 ^ 62) ≤ hi) (h4 : hi < 2 ^ 62) :
    ITER c A L (.ref a) m H (rangeItems lo hi) H := by
  intro g s cx E f hx R k
  cases hx
  obtain ⟨⟨ob, e1, ⟨t, u, v, rfl⟩, e3⟩, _⟩ := R.ob a _ _ ha
  have hsz : Builtin.Range.rangeSize lo hi 1 = ((hi - lo).toNat : Int) := by rw [rangeSize_one]; split <;> lia
  refine wpAny_pyIter_range (t := t) (u := u) (v := v) e1 (small_one h1 h2 h3 h4) (k s.heap.objs.size _ s.toks ⟨R.ext fun _ _ e => Heap.get?_push_of_some _ e, free_push R, _, _, _, _, by simp [rangeItems], Walks.range hA s.heap.objs.size lo 1 (hi - lo).toNat, ?_, ?_, ?_, ?_⟩)
  · have e1 : (lo + ((0 : Nat) : Int) * 1) = lo := by simp
    have e2 : (((hi - lo).toNat : Int) - ((0 : Nat) : Int)) = Builtin.Range.rangeSize lo hi 1 := by rw [hsz]; simp
    show IsRangeIter _ _ _ _ _
    rw [e1, e2]
    exact Heap.get?_push_size _ rfl
  · intro b hb; exact .inl (List.mem_singleton.mp hb)
  · rintro i w hlt ⟨tk, rfl⟩
    have hi' : i < (hi - lo).toNat := by simpa [rangeItems] using hlt
    exact ⟨.int (lo + i), by simp [rangeItems, hi'], ⟨tk, by simp⟩⟩
  · intro i h e
    exact ⟨_, e⟩
theorem ITER.rit {a : Addr} {st k : Int} {n : Nat} (hA : A.handled = none) (ha : H a = some (true, .rit st k n)) :
    ITER c A L (.ref a) m H ((List.range n).map fun (i : Nat) => .int (st + (i : Int) * k)) (fun x => if x = a then none else H x) := by
  intro g s cx E f hx R kk
  cases hx
  obtain ⟨⟨ob, e1, rfl, _⟩, e4, e5, _⟩ := R.ob a _ _ ha
  refine wpAny_pyIter_rangeiter e1 (kk a s.heap s.toks ⟨R.weaken (Sub.refl _) (fun x y e => by by_cases hx : x = a <;> simp_all), ⟨e5 rfl, e4, by simp⟩, _, _, _, n, by simp, Walks.range hA a st k n, ?_, ?_, ?_, ?_⟩)
  · show IsRangeIter _ _ _ _ _
    simpa using e1
  · intro b hb; exact .inl (List.mem_singleton.mp hb)
  · rintro i w hlt ⟨tk, rfl⟩
    have hi' : i < n := by simpa using hlt
    exact ⟨.int (st + i * k), by simp [hi'], ⟨tk, rfl⟩⟩
  · intro i h e
    exact ⟨_, e⟩
end
end Mine
end
section
open PySem PySem.W
set_option maxRecDepth 100000
set_option maxHeartbeats 8000000
set_option linter.all false
namespace Mine
noncomputable def compRest (env : Env) (elt : Expr) (gens : List Comprehension) (scope : Scope) (pos : Pos) (x : Value) : Sem Value :=
  comprehension (.ListComp elt gens scope pos) scope env (firstIterPos gens pos) (newList []) false (pure x)
theorem eval_ListComp_rest {env : Env} {elt target iter : Expr} {ifs : List Expr} {rest : List Comprehension} {scope : Scope} {pos : Pos} :
    eval (.ListComp elt (⟨target, iter, ifs, 0⟩ :: rest) scope pos) env = eval iter env >>= fun x => compRest env elt (⟨target, iter, ifs, 0⟩ :: rest) scope pos x := rfl
noncomputable def WC (c : Cx) (A : Around) (env : Env) (elt : Expr) (gens : List Comprehension) (scope : Scope) (pos : Pos) (x : V) (m : Loc) (H : Sto) (Q : V → Sto → Prop) : Prop :=
  ∀ cx, VR x cx → TV c A env.locals (compRest env elt gens scope pos cx) m H Q
theorem compTurn_one (elt target iter : Expr) (scope : Scope) (pos : Pos) (it acc : Value) (env : Env) :
    compTurn (.ListComp elt [⟨target, iter, [], 0⟩] scope pos) 0 it acc env = (standAt iter.pos >>= fun _ => pyNext it >>= fun r => match r with
      | none => pure (.done .next)
      | some v => letOwnedTupleGo target it v >>= fun _ => assign target env v >>= fun _ =>
        (eval elt env >>= fun x => call (.builtin "list.append") [acc, x] >>= fun _ => pure ()) >>= fun _ =>
          PySem.again (.compLoop (.ListComp elt [⟨target, iter, [], 0⟩] scope pos) 0 it acc env)) := by rfl
theorem compTurn_two0 (elt t1 i1 t2 i2 : Expr) (scope : Scope) (pos : Pos) (it acc : Value) (env : Env) :
    compTurn (.ListComp elt [⟨t1, i1, [], 0⟩, ⟨t2, i2, [], 0⟩] scope pos) 0 it acc env = (standAt i1.pos >>= fun _ => pyNext it >>= fun r => match r with
      | none => pure (.done .next)
      | some v => letOwnedTupleGo t1 it v >>= fun _ => assign t1 env v >>= fun _ =>
        eval i2 env >>= fun x => standAt i2.pos >>= fun _ => foldedSetIterable i2 env x >>= fun x => holding [x] (pyIter x) >>= fun it2 =>
          runOwn (.compStart (.ListComp elt [⟨t1, i1, [], 0⟩, ⟨t2, i2, [], 0⟩] scope pos) 1 it2 acc env) env >>= fun _ =>
          PySem.again (.compLoop (.ListComp elt [⟨t1, i1, [], 0⟩, ⟨t2, i2, [], 0⟩] scope pos) 0 it acc env)) := by rfl
theorem compTurn_two1 (elt t1 i1 t2 i2 : Expr) (scope : Scope) (pos : Pos) (it acc : Value) (env : Env) :
    compTurn (.ListComp elt [⟨t1, i1, [], 0⟩, ⟨t2, i2, [], 0⟩] scope pos) 1 it acc env = (standAt i2.pos >>= fun _ => pyNext it >>= fun r => match r with
      | none => pure (.done .next)
      | some v => letOwnedTupleGo t2 it v >>= fun _ => assign t2 env v >>= fun _ =>
        (eval elt env >>= fun x => call (.builtin "list.append") [acc, x] >>= fun _ => pure ()) >>= fun _ =>
          PySem.again (.compLoop (.ListComp elt [⟨t1, i1, [], 0⟩, ⟨t2, i2, [], 0⟩] scope pos) 1 it acc env)) := by rfl
noncomputable def listObj (vs : Array Value) (n : Nat) : Obj := { cls := .type "list", data := .seq vs n }
noncomputable def EM {α : Type} (c : Cx) (A : Around) (env' : Env) (t : Sem α) (r : α) (D : Addr) (ys : List V) (m : Loc) (H : Sto) (Q : List V → Loc → Sto → Prop) : Prop :=
  ∀ g s vs n E (f : α → Shared → Prop), Rel c g env'.locals m H s.heap → H D = none → g D = none → D ≠ env'.locals → s.heap.get? D = some (listObj vs n) → VRs ys vs.toList →
    (∀ h' tk m' H' vs' n' ys', Rel c g env'.locals m' H' h' → H' D = none → h'.get? D = some (listObj vs' n') → VRs ys' vs'.toList → Q ys' m' H' → f r { s with heap := h', toks := tk }) →
    wpAny (model c.prog c.w) A t f E s
theorem VRs.snoc {l : List V} {vs : List Value} {v : V} {cv : Value} (h : VRs l vs) (h' : VR v cv) : VRs (l ++ [v]) (vs ++ [cv]) := by
  induction h with
  | nil => exact .cons h' .nil
  | cons a _ ih => exact .cons a ih
section
variable {c : Cx} {A : Around} {m : Loc} {H : Sto} {env env' : Env} {s : Shared}
theorem EM.emit {elt : Expr} {code : Code} {D : Addr} {ys : List V} {Q : List V → Loc → Sto → Prop} (h : WE c A env' elt m H (fun y H' => Q (ys ++ [y]) m H')) (hsz : ys.length ≤ sizeLine) :
    EM c A env' ((eval elt env' >>= fun x => call (.builtin "list.append") [.ref D, x] >>= fun _ => pure ()) >>= fun _ => PySem.again code) (.again code) D ys m H Q := by
  intro g s vs n E f R HD gD DL hD hv k
  have hsv : vs.size ≤ sizeLine := by
    have e1 : ys.length = vs.toList.length := hv.length
    have e2 : vs.toList.length = vs.size := by simp
    lia
  refine wpAny_bind (wpAny_bind (hold h R gD hD DL HD fun y h₁ tk₁ m₁ H₁ R₁ hD₁ HD₁ ⟨e, v, hy, q⟩ => ?_))
  subst e
  refine wpAny_bind (wpAny_list_append_plain (s := { s with heap := h₁, toks := tk₁ }) (items := vs) ⟨n, hD₁⟩ (fun h₂ hp hs => ?_) hsv)
  obtain ⟨n', hD₂⟩ := hp
  exact wpAny_pure (wpAny_pure (k h₂ tk₁ m₁ H₁ (vs.push y) n' (ys ++ [v]) (R₁.but gD DL HD₁ fun b o hb e => (hs.2 b hb).trans e) HD₁ hD₂ (by simpa using hv.snoc hy) q))
inductive CompI (c : Cx) (g : Fm) (L I D : Addr) (St : Nat → Heap → Prop) (J : Nat → List V → Loc → Sto → Prop) (n : Nat) (s : Shared) : Nat → Shared → Prop where
  | mk (i : Nat) (h : Heap) (tk : Nat) (m : Loc) (H : Sto) (ys : List V) (vs : Array Value) (nn : Nat) (R : Rel c g L m H h) (HI : H I = none) (HD : H D = none) (hD : h.get? D = some (listObj vs nn)) (hv : VRs ys vs.toList) (st : St i h) (inv : J i ys m H) (le : i ≤ n) :
      CompI c g L I D St J n s (n + 1 - i) { s with heap := h, toks := tk }
theorem comp_loop {e : Expr} {d : Nat} {I D : Addr} {x : Str} {px p : Pos} {tail : Sem Fin} {items : List V} {g : Fm} {R : Result → Shared → Prop} {vs : Array Value} {n₀ : Nat} {ys : List V} (J : Nat → List V → Loc → Sto → Prop)
    (heq : compTurn e d (.ref I) (.ref D) env' = (standAt p >>= fun _ => pyNext (.ref I) >>= fun r => match r with
      | none => pure (.done .next)
      | some v => letOwnedTupleGo (.Name x px) (.ref I) v >>= fun _ => assign (.Name x px) env' v >>= fun _ => tail))
    (hq : (Code.compLoop e d (.ref I) (.ref D) env').quiet = true) (hf : (Code.compLoop e d (.ref I) (.ref D) env').isFrame = false)
    (hw : A.under (.compLoop e d (.ref I) (.ref D) env') = A)
    (hl : env'.kindOf x = some .local) (hk : env'.scope.kind = .function)
    (W : Walker c A g env'.locals m H items I s.heap) (HD : H D = none) (gD : g D = none) (DL : D ≠ env'.locals) (DI : D ≠ I) (hD : s.heap.get? D = some (listObj vs n₀)) (hv : VRs ys vs.toList) (h0 : J 0 ys m H)
    (turn : ∀ i v ys m H, items[i]? = some v → J i ys m H → EM c A env' tail (.again (.compLoop e d (.ref I) (.ref D) env')) D ys (setL m x v) H (fun ys' m' H' => Wk (J (i + 1) ys') m' H'))
    (done : ∀ ys m' H' h' tk vs n, J items.length ys m' H' → Rel c g env'.locals m' H' h' → H' D = none → h'.get? D = some (listObj vs n) → VRs ys vs.toList → R (.ok .next) { s with heap := h', toks := tk }) :
    codeAny (model c.prog c.w) A (.compLoop e d (.ref I) (.ref D) env') R s := by
  obtain ⟨R₁, ⟨gI, LI, HI⟩, fp, P, St, n, rfl, W, hst, hfp, hP, hob⟩ := W
  refine codeAny_loop hq (CompI c g env'.locals I D St J items.length s) ?_ (items.length + 1) (.mk 0 s.heap s.toks m H ys vs n₀ R₁ HI HD hD hv hst h0 (Nat.zero_le _))
  intro k s' hL
  cases hL with | mk i h' tk m' H' ys vs n R' HI' HD' hD' hv' hst' hJ hle => ?_
  rw [hw]
  have hden : (model c.prog c.w).den (.compLoop e d (.ref I) (.ref D) env') = (compTurn e d (.ref I) (.ref D) env').onRaise (fun x => do noteFrame x env'; theTreesLotGoes x) := by
    show (if (Code.compLoop e d (.ref I) (.ref D) env').isFrame = true then _ else _) = _
    rw [hf]; rfl
  rw [hden]
  refine wpAny_noted ?_
  rw [heq]
  refine wpAny_bind (wpAny_standAt (wpAny_bind ?_))
  by_cases hlt : i < items.length
  · refine W.item i _ _ _ hlt hst' fun v h₂ tk₂ hv₂ hst₂ hk₂ => ?_
    obtain ⟨av, hav, hvr⟩ := hP i v hlt hv₂
    have R₂ : Rel c g env'.locals m' H' h₂ := R'.but gI LI HI' fun b o hb e => hk₂ b o (by simpa using hb) e
    have hD₂ : h₂.get? D = some (listObj vs n) := hk₂ D _ (by simpa using DI) hD'
    obtain ⟨ob, hob₂⟩ := hob _ _ hst₂
    have gD' : clo g I ob D = none := by simp [clo, DI, gD]
    refine wpAny_bind (wpAny_of_eq (a := ()) rfl ?_)
    have R₂c := R₂.close gI hob₂ LI HI'
    refine wpAny_bind (holdAt (s := { s with heap := h₂, toks := tk₂ }) (WA.name (Q := fun m₁ H₁ => m₁ = setL m' x av ∧ H₁ = H') ⟨rfl, rfl⟩ hl hk v hvr) R₂c gD' hD₂ DL HD' fun h₃ tk₃ R₃ hD₃ HD₃ => ?_)
    refine turn i av ys m' H' hav hJ _ { s with heap := h₃, toks := tk₃ } vs n _ _ R₃ HD₃ gD' DL hD₃ hv' fun h₄ tk₄ m₄ H₄ vs' n' ys' R₄ HD₄ hD₄ hv₄ q => ?_
    obtain ⟨R₄', hI₄, HI₄, _⟩ := R₄.open gI R₂.base
    have hst₄ : St (i + 1) h₄ := W.frame _ _ _ hst₂ fun b hb o e => by
      rcases hfp b hb with rfl | ⟨o', e'⟩
      · rw [hob₂] at e; cases e; exact hI₄
      · have := R₂.keep b _ o' e'
        rw [this] at e
        cases e
        exact R₄'.keep b _ _ e'
    obtain ⟨m₅, H₅, e1, e2, q⟩ := q
    exact ⟨rfl, items.length + 1 - (i + 1), by lia, .mk (i + 1) h₄ tk₄ m₅ H₅ ys' vs' n' (R₄'.weaken e1 e2) (sub_none e2 HI₄) (sub_none e2 HD₄) hD₄ hv₄ hst₄ q hlt⟩
  · have hin : i = items.length := by lia
    subst hin
    refine W.done _ _ _ hst' fun h₂ tk₂ hk₂ => ?_
    have R₂ : Rel c g env'.locals m' H' h₂ := R'.but gI LI HI' fun b o hb e => hk₂ b o (by simpa using hb) e
    exact wpAny_pure (done ys m' H' h₂ tk₂ vs n hJ R₂ HD' (hk₂ D _ (by simpa using DI) hD') hv')
theorem compStart_zero {elt t1 i1 : Expr} {rest : List Comprehension} {scope : Scope} {pos : Pos} {I D : Addr} {R : Result → Shared → Prop} (hself : ∀ Q E, Q (.ref I) s → wpAny (model c.prog c.w) A (pyIter (.ref I)) Q E s)
    (h : codeAny (model c.prog c.w) A (.compLoop (.ListComp elt (⟨t1, i1, [], 0⟩ :: rest) scope pos) 0 (.ref I) (.ref D) env') R s) :
    codeAny (model c.prog c.w) A (.compStart (.ListComp elt (⟨t1, i1, [], 0⟩ :: rest) scope pos) 0 (.ref I) (.ref D) env') R s :=
  codeAny_compStart_list h (hself _ _ h)
theorem compStart_one {elt t1 i1 t2 i2 : Expr} {scope : Scope} {pos : Pos} {I D : Addr} {R : Result → Shared → Prop} (hself : ∀ Q E, Q (.ref I) s → wpAny (model c.prog c.w) A (pyIter (.ref I)) Q E s)
    (h : codeAny (model c.prog c.w) A (.compLoop (.ListComp elt [⟨t1, i1, [], 0⟩, ⟨t2, i2, [], 0⟩] scope pos) 1 (.ref I) (.ref D) env') R s) :
    codeAny (model c.prog c.w) A (.compStart (.ListComp elt [⟨t1, i1, [], 0⟩, ⟨t2, i2, [], 0⟩] scope pos) 1 (.ref I) (.ref D) env') R s := by
  refine codeAny_of_tree ?_
  show wpAny _ _ ((compStart (.ListComp elt [⟨t1, i1, [], 0⟩, ⟨t2, i2, [], 0⟩] scope pos) 1 (.ref I) (.ref D) env').onRaise (fun x => do noteFrame x env'; standAt theWindowsPlace)) _ _ s
  refine wpAny_notedAt ?_
  unfold compStart
  show wpAny _ _ (ask >>= _) _ _ s
  refine wpAny_bind (wpAny_askSetting (wpAny_ite ?_))
  split
  · first
      | exact wpAny_bind (wpAny_pure (wpAny_pure (And.intro rfl h)))
      | exact wpAny_pure (And.intro rfl h)
  · refine wpAny_bind (wpAny_rule ?_)
    show wpAny _ _ (standAt i2.pos >>= _) _ _ s
    exact wpAny_bind (wpAny_standAt (wpAny_bind (hself _ _ (wpAny_pure (And.intro rfl h)))))
inductive NestP (c : Cx) (A : Around) (env' : Env) (elt : Expr) (y : Str) (m : Loc) (ys : List V) (Q : List V → Loc → Sto → Prop) (xv : V) (H₁ : Sto) : Prop where
  | mk (H₂ : Sto) (items : List V) (hit : ITER c A env'.locals xv m H₁ items H₂) (J : Nat → List V → Loc → Sto → Prop) (h0 : J 0 ys m H₂)
      (turn : ∀ i v ys m H, items[i]? = some v → J i ys m H → ys.length ≤ sizeLine ∧ WE c A env' elt (setL m y v) H (fun z H' => Wk (J (i + 1) (ys ++ [z])) (setL m y v) H'))
      (done : ∀ ys m H, J items.length ys m H → Q ys m H) : NestP c A env' elt y m ys Q xv H₁
theorem EM.nested {elt t1 i1 i2 : Expr} {y : Str} {py : Pos} {scope : Scope} {pos : Pos} {D : Addr} {ys : List V} {code : Code} {Q : List V → Loc → Sto → Prop}
    (h : WE c A env' i2 m H (NestP c A env' elt y m ys Q))
    (hl : env'.kindOf y = some .local) (hk : env'.scope.kind = .function) (hs : ∀ x, foldedSetIterable i2 env' x = pure x)
    (hw : ∀ I, A.under (.compLoop (.ListComp elt [⟨t1, i1, [], 0⟩, ⟨.Name y py, i2, [], 0⟩] scope pos) 1 (.ref I) (.ref D) env') = A) :
    EM c A env' (eval i2 env' >>= fun x => standAt i2.pos >>= fun _ => foldedSetIterable i2 env' x >>= fun x => holding [x] (pyIter x) >>= fun it2 =>
          runOwn (.compStart (.ListComp elt [⟨t1, i1, [], 0⟩, ⟨.Name y py, i2, [], 0⟩] scope pos) 1 it2 (.ref D) env') env' >>= fun _ => PySem.again code) (.again code) D ys m H Q := by
  intro g s vs n E f R HD gD DL hD hv k
  refine wpAny_bind (hold h R gD hD DL HD fun xv h₁ tk₁ m₁ H₁ R₁ hD₁ HD₁ ⟨e, v, hx, H₂, items, hit, J, h0, turn, done⟩ => ?_)
  subst e
  refine wpAny_bind (wpAny_standAt (wpAny_bind (wpAny_of_eq (hs xv) (wpAny_bind (wpAny_holding ?_)))))
  refine hit (clo g D (listObj vs n)) { s with heap := h₁, toks := tk₁ } xv _ _ hx (R₁.close gD hD₁ DL HD₁) fun I h₂ tk₂ W => ?_
  obtain ⟨R₂, hD₂, HD₂, _⟩ := W.R.open gD R₁.base
  have DI : D ≠ I := by
    have := W.free.1
    rintro rfl; simp [clo] at this
  have W' : Walker c A g env'.locals m₁ H₂ items I h₂ := by
    obtain ⟨_, ⟨gI, LI, HI⟩, fp, P, St, n', hn, W, hst, hfp, hP, hob⟩ := W
    refine ⟨R₂, ⟨by simpa [clo, Ne.symm DI] using gI, LI, HI⟩, fp, P, St, n', hn, W, hst, fun b hb => ?_, hP, hob⟩
    rcases hfp b hb with rfl | ⟨o, e⟩
    · exact .inl rfl
    · by_cases hb' : b = D
      · subst hb'; simp [clo] at e
      · exact .inr ⟨o, by simpa [clo, hb'] using e⟩
  refine wpAny_bind (wpAny_runOwn ?_)
  have hself : ∀ Q E, Q (.ref I) { s with heap := h₂, toks := tk₂ } → wpAny (model c.prog c.w) A (pyIter (.ref I)) Q E { s with heap := h₂, toks := tk₂ } := by
    obtain ⟨_, _, fp, P, St, n', hn, W, hst, _⟩ := W
    intro Q E hq
    exact W.self 0 _ _ _ hst hq
  refine compStart_one (A := A) hself ?_
  exact comp_loop (A := A) (items := items) (g := g) J (compTurn_two1 ..) rfl rfl (hw I) hl hk W' HD₂ gD DL DI hD₂ hv h0
    (fun i v ys m H hi hJ => EM.emit (TV.mono (turn i v ys m H hi hJ).2 fun z H' q => q) (turn i v ys m H hi hJ).1)
    fun ys' m' H' h' tk vs' n' hJ R' HD' hD' hv' => wpAny_pure (k h' tk m' H' vs' n' ys' R' HD' hD' hv' (done ys' m' H' hJ))
theorem WC.ro {elt gens scope pos} {x : V} {a : Addr} {b : Bool} {o : O} {Q : V → Sto → Prop} (ha : H a = some (b, o)) (h : WC c A env elt gens scope pos x m (upd H a (false, o)) (fun v H' => Q v (upd H' a (b, o)))) :
    WC c A env elt gens scope pos x m H Q := fun cx hx => TR.ro ha (TR.mono (h cx hx) fun _ _ _ ⟨e, v, hv, q⟩ => ⟨e, v, hv, q⟩)
theorem WE.comp {elt target iter : Expr} {ifs : List Expr} {rest : List Comprehension} {scope : Scope} {pos : Pos} {Q : V → Sto → Prop}
    (h : WE c A env iter m H (fun x H₁ => WC c A env elt (⟨target, iter, ifs, 0⟩ :: rest) scope pos x m H₁ Q)) : WE c A env (.ListComp elt (⟨target, iter, ifs, 0⟩ :: rest) scope pos) m H Q := fun g s R => by
  rw [eval_ListComp_rest]
  exact wpAny_bind (stepV h R fun v cv h₁ tk₁ H₁ R₁ hv q => again (q cv hv) R₁)
structure CompEnd (c : Cx) (g : Fm) (L : Addr) (m : Loc) (C D : Addr) (ys : List V) (H' : Sto) (h' : Heap) : Prop where
  ns : ∃ m', h'.Ns C m'
  DC : D ≠ C
  gC : g C = none
  CL : C ≠ L
  HC : H' C = none
  R : Rel c g L m H' h'
  gD : g D = none
  DL : D ≠ L
  HD : H' D = none
  list : ∃ vs n, h'.get? D = some (listObj vs n) ∧ VRs ys vs.toList
  sys : D ≠ sysModules
theorem CompEnd.out {g : Fm} {L C D : Addr} {ys : List V} {H' : Sto} {h' h'' : Heap} (K : CompEnd c g L m C D ys H' h') (hs : Heap.SameBut C h' h'') : Rel c g L m (upd H' D (true, .list ys)) h'' := by
  obtain ⟨vs, n, e, hv⟩ := K.list
  exact (K.R.but K.gC K.CL K.HC fun b o hb e => hs.extBut b o hb e).add (o := .list ys) K.gD K.DL (hs.extBut D _ K.DC e) ⟨vs, n, rfl, hv⟩ K.sys
theorem comp_core {elt iter : Expr} {x : Str} {px : Pos} {rest : List Comprehension} {scope : Scope} {pos : Pos} {xv : V} {cx : Value} {items : List V} {H₀ : Sto} {cl : List (Str × Addr)} {g : Fm} {E : Value → Shared → Prop}
    {RR : Value → Addr → Result → Shared → Prop} (J : Nat → List V → Loc → Sto → Prop)
    (tail : Addr → Addr → Addr → Sem Fin)
    (heq : ∀ C I D, compTurn (.ListComp elt (⟨.Name x px, iter, [], 0⟩ :: rest) scope pos) 0 (.ref I) (.ref D) (compEnvC scope cl C env) = (standAt iter.pos >>= fun _ => pyNext (.ref I) >>= fun r => match r with
      | none => pure (.done .next)
      | some v => letOwnedTupleGo (.Name x px) (.ref I) v >>= fun _ => assign (.Name x px) (compEnvC scope cl C env) v >>= fun _ => tail C I D))
    (hw : ∀ C I D, A.under (.compLoop (.ListComp elt (⟨.Name x px, iter, [], 0⟩ :: rest) scope pos) 0 (.ref I) (.ref D) (compEnvC scope cl C env)) = A)
    (hit : ITER c A env.locals xv m H items H₀) (h0 : J 0 [] [] H₀)
    (turn : ∀ C I D i v ys m H, items[i]? = some v → J i ys m H → EM c A (compEnvC scope cl C env) (tail C I D) (.again (.compLoop (.ListComp elt (⟨.Name x px, iter, [], 0⟩ :: rest) scope pos) 0 (.ref I) (.ref D) (compEnvC scope cl C env))) D ys (setL m x v) H (fun ys' m' H' => Wk (J (i + 1) ys') m' H'))
    (hcell : ∀ y ∈ scope.names, y.2 ≠ .cell) (hkind : scope.kind = .function) (hx : scope.names.lookup x = some .local)
    (hcx : VR xv cx) (R : Rel c g env.locals m H s.heap)
    (hRR : ∀ D C ys m' H' h' tk, J items.length ys m' H' → CompEnd c g env.locals m C D ys H' h' → RR (.ref D) C (.ok .next) { s with heap := h', toks := tk }) :
    wpAny (model c.prog c.w) A (pyIter cx) (fun it s₂ => wpAny (model c.prog c.w) A (newList []) (fun acc s₃ => wpAny (model c.prog c.w) A (newFunctionEnv scope env.globals cl [] env.qual none .none (some env)) (fun cenv s₄ =>
      codeAny (model c.prog c.w) A (.compStart (.ListComp elt (⟨.Name x px, iter, [], 0⟩ :: rest) scope pos) 0 it acc { cenv with scope := relabel scope env }) (RR acc cenv.locals) s₄) E s₃) E s₂) E s := by
  refine hit g s cx _ _ hcx R fun I h₁ tk₁ W => ?_
  refine wpAny_newObj_type ?_ (by size_fits)
  refine wpAny_newFunctionEnv hcell (by intro y hy; simp at hy) (fun h₂ hns₂ hsb₂ => ?_) hkind
  dsimp only at hns₂ hsb₂ ⊢
  generalize hD : h₁.objs.size = D at hns₂ hsb₂ ⊢
  generalize hP : h₁.push { cls := .type "list", dict := none, data := .seq ([] : List Value).toArray } = h₃ at hns₂ hsb₂ ⊢
  generalize hC : h₃.objs.size = C at hns₂ hsb₂ ⊢
  have hsz : C = D + 1 := by rw [← hC, ← hP, Heap.size_push, hD]
  have DC : D ≠ C := by rw [hsz]; exact Nat.ne_of_lt (Nat.lt_succ_self _)
  obtain ⟨R₁, ⟨gI, LI, HI⟩, fp, P, St, n, hn, W, hst, hfp, hP', hob⟩ := W
  obtain ⟨obI, hobI⟩ := hob _ _ hst
  have kp : ∀ b o, h₁.get? b = some o → h₂.get? b = some o := fun b o e => by
    have hb := Heap.lt_size e
    exact hsb₂.extBut b o (by rw [hsz, ← hD]; exact Nat.ne_of_lt (Nat.lt_succ_of_lt hb)) (Heap.get?_push_of_some _ (hP ▸ Heap.get?_push_of_some _ e))
  have fC : h₁.get? C = none := Heap.get?_none_of_le (by rw [hsz, ← hD]; exact Nat.le_succ _)
  have fD : h₁.get? D = none := Heap.get?_none_of_le (by rw [← hD]; exact Nat.le_refl _)
  have hD₂ : h₂.get? D = some (listObj #[] 0) := hsb₂.extBut _ _ DC (Heap.get?_push_of_some _ (hP ▸ hD ▸ Heap.get?_push_size _ rfl))
  obtain ⟨oL, hL⟩ := R₁.home
  have R₂ : Rel c (clo g env.locals oL) C [] H₀ h₂ := R₁.enter hL kp fC hns₂ (by intro x v e; simp at e)
  obtain ⟨gD, DL, HD⟩ := R₁.free fD
  obtain ⟨gC, CL, HC⟩ := R₁.free fC
  have IC : I ≠ C := by rintro rfl; rw [fC] at hobI; cases hobI
  have DI : D ≠ I := by rintro rfl; rw [fD] at hobI; cases hobI
  have hst₂ : St 0 h₂ := W.frame _ _ _ hst fun b _ o e => kp b o e
  have W' : Walker c A (clo g env.locals oL) C [] H₀ items I h₂ := ⟨R₂, ⟨by simp [clo, LI, gI], IC, HI⟩, fp, P, St, n, hn, W, hst₂, fun b hb => by
    rcases hfp b hb with rfl | ⟨o, e⟩
    · exact .inl rfl
    · by_cases hb' : b = env.locals
      · subst hb'; rw [R₁.gL] at e; cases e
      · exact .inr ⟨o, by simp [clo, hb', e]⟩, hP', hob⟩
  have hself : ∀ Q E, Q (.ref I) ({ s with heap := h₂, toks := tk₁ + ([] : List (Str × Value)).length } : Shared) → wpAny (model c.prog c.w) A (pyIter (.ref I)) Q E { s with heap := h₂, toks := tk₁ + ([] : List (Str × Value)).length } :=
    fun Q E hq => W.self 0 _ _ _ hst₂ hq
  refine compStart_zero (A := A) (env' := compEnvC scope cl C env) hself ?_
  refine comp_loop (A := A) (env' := compEnvC scope cl C env) (s := { s with heap := h₂, toks := tk₁ + ([] : List (Str × Value)).length }) (items := items) (g := clo g env.locals oL) J (heq C I D) rfl rfl (hw C I D) (lookup_relabel_local hx) (by simp [compEnvC, relabel, hkind]) W' HD
    (by simp [clo, DL, gD]) DC DI hD₂ .nil h0 (fun i v ys m H hi hJ => turn C I D i v ys m H hi hJ) ?_
  intro ys m' H' h' tk vs n' hJ R' HD' hD' hv'
  obtain ⟨m'', hn'', _⟩ := R'.loc
  obtain ⟨R₃, hL₃⟩ := R₁.leave hL R'
  have HC' : H' C = none := by
    cases e : H' C with
    | none => rfl
    | some x => obtain ⟨_, q, _⟩ := R'.ob C x.1 x.2 e; exact absurd rfl q
  exact hRR D C ys m' H' h' tk hJ ⟨⟨m'', hn''⟩, DC, gC, CL, HC', R₃, gD, DL, HD', ⟨vs, n', hD', hv'⟩, by rw [← hD]; exact Nat.ne_of_gt R₁.room⟩
theorem WC.core {elt iter : Expr} {x : Str} {px : Pos} {rest : List Comprehension} {scope : Scope} {pos : Pos} {xv : V} {items : List V} {H₀ : Sto} {cl : List (Str × Addr)} {Q : V → Sto → Prop} (J : Nat → List V → Loc → Sto → Prop)
    (tail : Addr → Addr → Addr → Sem Fin)
    (heq : ∀ C I D, compTurn (.ListComp elt (⟨.Name x px, iter, [], 0⟩ :: rest) scope pos) 0 (.ref I) (.ref D) (compEnvC scope cl C env) = (standAt iter.pos >>= fun _ => pyNext (.ref I) >>= fun r => match r with
      | none => pure (.done .next)
      | some v => letOwnedTupleGo (.Name x px) (.ref I) v >>= fun _ => assign (.Name x px) (compEnvC scope cl C env) v >>= fun _ => tail C I D))
    (hw : ∀ C I D, A.under (.compLoop (.ListComp elt (⟨.Name x px, iter, [], 0⟩ :: rest) scope pos) 0 (.ref I) (.ref D) (compEnvC scope cl C env)) = A)
    (hit : ITER c A env.locals xv m H items H₀) (h0 : J 0 [] [] H₀)
    (turn : ∀ C I D i v ys m H, items[i]? = some v → J i ys m H → EM c A (compEnvC scope cl C env) (tail C I D) (.again (.compLoop (.ListComp elt (⟨.Name x px, iter, [], 0⟩ :: rest) scope pos) 0 (.ref I) (.ref D) (compEnvC scope cl C env))) D ys (setL m x v) H (fun ys' m' H' => Wk (J (i + 1) ys') m' H'))
    (done : ∀ ys m' H', J items.length ys m' H' → ∀ D, H' D = none → Q (.ref D) (upd H' D (true, .list ys)))
    (hclos : closureFor scope env = pure cl) (hcell : ∀ y ∈ scope.names, y.2 ≠ .cell) (hkind : scope.kind = .function)
    (hnames : ∀ y ∈ scope.names, y.2 = .local → scope.names.lookup y.1 = some .local) (hx : scope.names.lookup x = some .local)
    (hs : ∀ v, foldedSetIterable iter env v = pure v) : WC c A env elt (⟨.Name x px, iter, [], 0⟩ :: rest) scope pos xv m H Q := by
  intro cx hcx g s R
  unfold compRest
  refine wpAny_comprehension_free (use := none) rfl hs hclos hkind hnames (wpAny_pure ?_)
  refine comp_core J tail heq hw hit h0 turn hcell hkind hx hcx R fun D C ys m' H' h' tk hJ K => ?_
  obtain ⟨m'', hn''⟩ := K.ns
  exact ⟨m'', hn'', fun h'' hs'' => ⟨h'', tk, m, _, rfl, K.out hs'', rfl, .ref D, rfl, done ys m' H' hJ D K.HD⟩⟩
theorem WC.one {elt iter : Expr} {x : Str} {px : Pos} {scope : Scope} {pos : Pos} {xv : V} {items : List V} {H₀ : Sto} {cl : List (Str × Addr)} {Q : V → Sto → Prop} (J : Nat → List V → Sto → Prop)
    (hit : ITER c A env.locals xv m H items H₀) (hlen : items.length ≤ 1000000) (h0 : J 0 [] H₀)
    (turn : ∀ C i v ys H, items[i]? = some v → ys.length = i → J i ys H → WE c A (compEnvC scope cl C env) elt [(x, v)] H (fun z => More (J (i + 1) (ys ++ [z]))))
    (done : ∀ ys H', ys.length = items.length → J items.length ys H' → ∀ D, H' D = none → Q (.ref D) (upd H' D (true, .list ys)))
    (hw : ∀ C I D, A.under (.compLoop (.ListComp elt [⟨.Name x px, iter, [], 0⟩] scope pos) 0 (.ref I) (.ref D) (compEnvC scope cl C env)) = A := by intros; rfl)
    (hclos : closureFor scope env = pure cl := by rfl) (hcell : ∀ y ∈ scope.names, y.2 ≠ .cell := by decide) (hkind : scope.kind = .function := by rfl)
    (hnames : ∀ y ∈ scope.names, y.2 = .local → scope.names.lookup y.1 = some .local := by decide) (hx : scope.names.lookup x = some .local := by rfl)
    (hs : ∀ v, foldedSetIterable iter env v = pure v := by intro _; rfl) : WC c A env elt [⟨.Name x px, iter, [], 0⟩] scope pos xv m H Q := by
  refine WC.core (fun i ys m H => ys.length = i ∧ m = [] ∧ J i ys H) _ (fun C I D => compTurn_one ..) hw hit ⟨rfl, rfl, h0⟩ ?_ ?_ hclos hcell hkind hnames hx hs
  · rintro C I D i v ys m H hi ⟨hl, rfl, hJ⟩
    have hlt : i < items.length := (List.getElem?_eq_some_iff.mp hi).1
    refine EM.emit (TV.mono (turn C i v ys H hi hl hJ) fun z H' ⟨H'', e, q⟩ => ⟨[], H'', (fun _ _ e => by simp at e), e, by simp [hl], rfl, q⟩) ?_
    have : sizeLine = 2 ^ 24 := rfl
    lia
  · rintro ys m' H' ⟨hl, _, hJ⟩ D hD
    exact done ys H' hl hJ D hD
inductive TwoP (c : Cx) (A : Around) (env : Env) (scope : Scope) (cl : List (Str × Addr)) (elt : Expr) (x y : Str) (v : V) (C : Addr) (ys : List V) (J : List V → Sto → Prop) (yv : V) (H₁ : Sto) : Prop where
  | mk (H₂ : Sto) (items2 : List V) (hit : ITER c A C yv [(x, v)] H₁ items2 H₂) (J2 : Nat → List V → Sto → Prop) (h0 : J2 0 ys H₂)
      (turn : ∀ i w ys H, items2[i]? = some w → J2 i ys H → ys.length ≤ 1000000 ∧ WE c A (compEnvC scope cl C env) elt [(y, w), (x, v)] H (fun z => More (J2 (i + 1) (ys ++ [z]))))
      (done : ∀ ys H, J2 items2.length ys H → More (J ys) H) : TwoP c A env scope cl elt x y v C ys J yv H₁
theorem WC.two {elt i1 i2 : Expr} {x y : Str} {px py : Pos} {scope : Scope} {pos : Pos} {xv : V} {items : List V} {H₀ : Sto} {cl : List (Str × Addr)} {Q : V → Sto → Prop} (J : Nat → List V → Sto → Prop)
    (hit : ITER c A env.locals xv m H items H₀) (h0 : J 0 [] H₀)
    (turn : ∀ C i v ys H, items[i]? = some v → J i ys H → WE c A (compEnvC scope cl C env) i2 [(x, v)] H (TwoP c A env scope cl elt x y v C ys (J (i + 1))))
    (done : ∀ ys H', J items.length ys H' → ∀ D, H' D = none → Q (.ref D) (upd H' D (true, .list ys)))
    (hxy : (x == y) = false := by decide)
    (hw : ∀ C I D d, A.under (.compLoop (.ListComp elt [⟨.Name x px, i1, [], 0⟩, ⟨.Name y py, i2, [], 0⟩] scope pos) d (.ref I) (.ref D) (compEnvC scope cl C env)) = A := by intros; rfl)
    (hclos : closureFor scope env = pure cl := by rfl) (hcell : ∀ y ∈ scope.names, y.2 ≠ .cell := by decide) (hkind : scope.kind = .function := by rfl)
    (hnames : ∀ y ∈ scope.names, y.2 = .local → scope.names.lookup y.1 = some .local := by decide) (hx : scope.names.lookup x = some .local := by rfl) (hy : scope.names.lookup y = some .local := by rfl)
    (hs : ∀ v, foldedSetIterable i1 env v = pure v := by intro _; rfl) (hs2 : ∀ C v, foldedSetIterable i2 (compEnvC scope cl C env) v = pure v := by intro _ _; rfl) :
    WC c A env elt [⟨.Name x px, i1, [], 0⟩, ⟨.Name y py, i2, [], 0⟩] scope pos xv m H Q := by
  refine WC.core (fun i ys m H => m = [] ∧ J i ys H) _ (fun C I D => compTurn_two0 ..) (fun C I D => hw C I D 0) hit ⟨rfl, h0⟩ ?_ ?_ hclos hcell hkind hnames hx hs
  · rintro C I D i v ys m H hi ⟨rfl, hJ⟩
    have hsl : sizeLine = 2 ^ 24 := rfl
    refine EM.nested (TV.mono (turn C i v ys H hi hJ) fun yv H₁ ⟨H₂, items2, hit2, J2, h02, turn2, done2⟩ => ⟨H₂, items2, hit2, fun j ys m H => m = [(x, v)] ∧ J2 j ys H, ⟨rfl, h02⟩, ?_, ?_⟩) (lookup_relabel_local hy) (by simp [compEnvC, relabel, hkind]) (hs2 C) (fun I => hw C I D 1)
    · rintro j w ys m H hj ⟨rfl, hJ2⟩
      obtain ⟨hl, ht⟩ := turn2 j w ys H hj hJ2
      have e : setL [(x, v)] y w = [(y, w), (x, v)] := by simp [setL, List.filter, hxy]
      rw [e]
      refine ⟨by lia, TV.mono ht fun z H' ⟨H'', e, q⟩ => ⟨[(x, v)], H'', ?_, e, rfl, q⟩⟩
      intro a b hab
      have hya : (a == y) = false ∨ a ≠ x := by
        by_cases hax : a = x
        · subst hax; exact .inl hxy
        · exact .inr hax
      rcases hya with hya | hya
      · simpa [List.lookup_cons, hya] using hab
      · have : (a == x) = false := by simpa using hya
        simp [List.lookup_cons, this] at hab
    · rintro ys m H ⟨rfl, hJ2⟩
      obtain ⟨H', e, q⟩ := done2 ys H hJ2
      exact ⟨[], H', (fun _ _ e => by simp at e), e, rfl, q⟩
  · rintro ys m' H' ⟨_, hJ⟩ D hD
    exact done ys H' hJ D hD
inductive OneP (c : Cx) (A : Around) (env : Env) (scope : Scope) (cl : List (Str × Addr)) (elt : Expr) (x : Str) (Q : V → Sto → Prop) (xv : V) (H₁ : Sto) : Prop where
  | mk (a : Addr) (b : Bool) (l : List V) (e : xv = .ref a) (ha : H₁ a = some (b, .list l)) (hl : l.length ≤ 1000000) (J : Nat → List V → Sto → Prop) (h0 : J 0 [] (upd H₁ a (false, .list l)))
      (turn : ∀ C i v ys H, l[i]? = some v → ys.length = i → J i ys H → WE c A (compEnvC scope cl C env) elt [(x, v)] H (fun z => More (J (i + 1) (ys ++ [z]))))
      (done : ∀ ys H', ys.length = l.length → J l.length ys H' → ∀ D, H' D = none → Q (.ref D) (upd (upd H' D (true, .list ys)) a (b, .list l))) : OneP c A env scope cl elt x Q xv H₁
theorem W1.assign_one {elt iter : Expr} {x y : Str} {px py : Pos} {scope : Scope} {pos spos : Pos} {items : List V} {cl : List (Str × Addr)} {Q : SPost}
    (h : WE c A env iter m H (OneP c A env scope cl elt x (fun D H' => Q .next (setL m y D) H')))
    (hA : A.handled = none)
    (hsw : swapsWith (.ListComp elt [⟨.Name x px, iter, [], 0⟩] scope pos) (some (.Name y py)) spos.line env = pure true := by rfl)
    (hw : ∀ C I D, A.under (.compLoop (.ListComp elt [⟨.Name x px, iter, [], 0⟩] scope pos) 0 (.ref I) (.ref D) (compEnvC scope cl C env)) = A := by intros; rfl)
    (hclos : closureFor scope env = pure cl := by rfl) (hcell : ∀ y ∈ scope.names, y.2 ≠ .cell := by decide) (hkind : scope.kind = .function := by rfl)
    (hnames : ∀ y ∈ scope.names, y.2 = .local → scope.names.lookup y.1 = some .local := by decide) (hx : scope.names.lookup x = some .local := by rfl)
    (hs : ∀ v, foldedSetIterable iter env v = pure v := by intro _; rfl) (hl : env.kindOf y = some .local := by rfl) (hk : env.scope.kind = .function := by rfl) :
    W1 c A env (.Assign [.Name y py] (.ListComp elt [⟨.Name x px, iter, [], 0⟩] scope pos) spos) m H Q := by
  intro g s R
  rw [exec_Assign_Name_used _ _ _ _ hsw]
  refine wpAny_bind (wpAny_standAt (wpAny_bind ?_))
  show wpAny _ A (do let _ ← comprehension (.ListComp elt [⟨.Name x px, iter, [], 0⟩] scope pos) scope env _ (newList []) false (eval iter env) (some (PySem.assign (.Name y py) env))) _ _ s
  refine wpAny_bind (wpAny_mono (wpAny_comprehension_free (E := fun _ _ => False) (Q := fun _ s' => Post c g env.locals s (fun fl m' H' => Q fl m' H') .next s') (use := some (PySem.assign (.Name y py) env)) rfl hs hclos hkind hnames
    (stepV h R fun xv cx h₁ tk₁ H₁ R₁ hcx ⟨a, b, l, e, ha, hlen, J, h0, turn, done⟩ => ?_)) (fun _ s' ⟨h', tk, m', H', e, R', q⟩ => ?_) fun _ _ e => e)
  · subst e
    obtain ⟨g', R', back⟩ := R₁.lend ha
    refine comp_core (s := { s with heap := h₁, toks := tk₁ }) (g := g') (fun i ys m H => ys.length = i ∧ m = [] ∧ J i ys H) _ (fun C I D => compTurn_one ..) hw (ITER.list hA (upd_same ..)) ⟨rfl, rfl, h0⟩ ?_ hcell hkind hx hcx R' ?_
    · rintro C I D i v ys m H hi ⟨hl, rfl, hJ⟩
      have hlt : i < l.length := (List.getElem?_eq_some_iff.mp hi).1
      refine EM.emit (TV.mono (turn C i v ys H hi hl hJ) fun z H' ⟨H'', e, q⟩ => ⟨[], H'', (fun _ _ e => by simp at e), e, by simp [hl], rfl, q⟩) ?_
      have : sizeLine = 2 ^ 24 := rfl
      lia
    · rintro D C ys m' H' h' tk ⟨hyl, _, hJ⟩ K
      have LC : env.locals ≠ C := Ne.symm K.CL
      show wpAny _ A (PySem.assign (.Name y py) env (.ref D)) _ _ _
      obtain ⟨mL, hnL, hrL⟩ := K.R.loc
      refine wpAny_assign_Name (wpAny_storeName_local hl hnL (fun h₂ hn₂ hs₂ => ?_) (by rw [hk]; rfl))
      obtain ⟨m'', hn''⟩ := K.ns
      refine ⟨m'', hn''.sameBut hs₂ K.CL, fun h₃ hs₃ => ?_⟩
      have K' : CompEnd c g' env.locals (setL m y (.ref D)) C D ys H' h₂ := ⟨⟨m'', hn''.sameBut hs₂ K.CL⟩, K.DC, K.gC, K.CL, K.HC, K.R.set hrL rfl hn₂ hs₂, K.gD, K.DL, K.HD, by
        obtain ⟨vs, n, e, hv⟩ := K.list
        exact ⟨vs, n, hs₂.extBut D _ K.DL e, hv⟩, K.sys⟩
      exact ⟨h₃, _, _, _, rfl, back _ _ _ (K'.out hs₃), done ys H' hyl hJ D K.HD⟩
  · subst e
    exact wpAny_pure (wpAny_pure (endS (s := s) R' (fl := .next) rfl q))
end
end Mine
end
section
open PySem PySem.W
set_option maxRecDepth 100000
set_option maxHeartbeats 8000000
set_option linter.all false
namespace Mine
noncomputable def WArgs (c : Cx) (A : Around) (env : Env) (pos : Pos) (args : List Expr) (m : Loc) (H : Sto) (Q : List V → Sto → Prop) : Prop :=
  TR c A env.locals (spliced (backTo pos (starEach args env))) m H (fun cvs m' H' => m' = m ∧ ∃ vs, VRs vs cvs ∧ Q vs H')
noncomputable def CALL (c : Cx) (A : Around) (L : Addr) (f : V) (vs : List V) (m : Loc) (H : Sto) (Q : V → Sto → Prop) : Prop :=
  ∀ cf cvs, VR f cf → VRs vs cvs → TV c A L (call cf cvs) m H Q
section
variable {c : Cx} {A : Around} {L : Addr} {m : Loc} {H : Sto} {env : Env} {s : Shared} {Q : V → Sto → Prop}
theorem WE.glob {x pos} {f : Addr} (e : nsIn c.K mainGlobals x = some (some (.ref f))) (h : Q (.ref f) H) (hg : env.globals = mainGlobals := by rfl) (hk : env.scope.kind = .function := by rfl) (hx : env.kindOf x = some .globalImplicit := by rfl)
    (hd : (x == ("__debug__" : Str)) = false := by decide) : WE c A env (.Name x pos) m H Q := fun g s R =>
  Calls.Name_function_global hk hx (Calls.loadGlobal_global (hg ▸ c.hg.keeps fun _ _ e => R.has e) (mg_of c.KIn c.hg e) ⟨s.heap, s.toks, m, H, rfl, R, rfl, _, VR.ref _, h⟩) hd
theorem WE.builtin {x pos} {v : V} {cv : Value} (e : nsIn c.K mainGlobals x = some none) (hv : bootBuiltins x = some cv) (hr : VR v cv) (h : Q v H) (hn : x ≠ "__name__" := by decide) (hg : env.globals = mainGlobals := by rfl) (hb : env.builtins = builtinsNs := by rfl)
    (hk : env.scope.kind = .function := by rfl) (hx : env.kindOf x = some .globalImplicit := by rfl) (hd : (x == ("__debug__" : Str)) = false := by decide) : WE c A env (.Name x pos) m H Q := fun g s R =>
  Calls.Name_function_global hk hx (Calls.loadGlobal_builtin (hg ▸ c.hg.keeps fun _ _ e => R.has e) (mg_none_of c.KIn c.hg e) (hb ▸ c.hb.keeps fun _ _ e => R.has e) ((c.hbt x hn).trans hv) ⟨s.heap, s.toks, m, H, rfl, R, rfl, _, hr, h⟩) hd
theorem WArgs.nil {pos} {Q : List V → Sto → Prop} (h : Q [] H) : WArgs c A env pos [] m H Q := fun g s R => wpAny_items_nil ⟨s.heap, s.toks, m, H, rfl, R, rfl, [], .nil, h⟩
theorem WArgs.cons {pos} {e : Expr} {rest : List Expr} {Q : List V → Sto → Prop} (h : WE c A env e m H (fun v H₁ => WArgs c A env pos rest m H₁ (fun vs H₂ => Q (v :: vs) H₂)))
    (he : starEach (e :: rest) env = (false, eval e env) :: starEach rest env := by rfl) : WArgs c A env pos (e :: rest) m H Q := fun g s R =>
  wpAny_items_cons (stepV h R fun v cv h₁ tk₁ H₁ R₁ hv q => step_wp q R₁ fun cvs h₂ tk₂ m₂ H₂ R₂ ⟨e, vs, hvs, q⟩ => ⟨h₂, tk₂, m₂, H₂, rfl, R₂, e, v :: vs, .cons hv hvs, q⟩) he
noncomputable def Keeps1 (c : Cx) (f : V) : Prop := match f with
  | .ref f => keepIn c.K (.ref f) = true
  | .bi _ => True
  | .ty _ => True
  | _ => False
theorem Keeps1.looks {f : V} {cf : Value} (hk : Keeps1 c f) (hf : VR f cf) (h : Heap) (X : c.K.In h) : ∃ k, (k = Keeper.frame ∨ k = Keeper.machine ∨ k = Keeper.boundFrame) ∧ Looks (model c.prog c.w) h (keeperOf cf) k := by
  cases f <;> simp only [VR] at hf <;> try (exact hk.elim)
  · subst hf; exact keeps_K hk h X
  · subst hf; exact ⟨.machine, .inr (.inl rfl), Looks.of_pure rfl⟩
  · subst hf; exact ⟨.machine, .inr (.inl rfl), Looks.of_pure rfl⟩
theorem VRs.append {l : List V} {cl : List Value} {r : List V} {cr : List Value} (h : VRs l cl) (h' : VRs r cr) : VRs (l ++ r) (cl ++ cr) := by
  induction h with
  | nil => exact h'
  | cons a _ ih => exact .cons a ih
theorem callW {pos : Pos} {f : V} {cf : Value} {first : List V} {cfirst : List Value} {e : Expr} {rest : List Expr} (hk : Keeps1 c f) (hf : VR f cf) (hfirst : VRs first cfirst)
    (h : WArgs c A env pos (e :: rest) m H (fun vs H₁ => CALL c A env.locals f (first ++ vs) m H₁ Q)) (he : starEach (e :: rest) env = (false, eval e env) :: starEach rest env)
    (hplain : (backTo pos (starEach rest env)).any (·.1) = false) :
    TV c A env.locals (callWith pos cf cfirst (backTo pos (starEach (e :: rest) env)) []) m H Q := by
  intro g s R
  have h' := h
  unfold WArgs at h'
  rw [he] at h' ⊢
  refine callWith_of (P := fun h => c.K.In h) (by show ((false || (backTo pos (starEach rest env)).any (·.1)) || false) = false; rw [hplain]; rfl) (fun h X => hk.looks hf h X) (Calls.evalArgs_plain (step_wp h' R fun cvs h₁ tk₁ m₁ H₁ R₁ ⟨e, vs, hvs, q⟩ => ?_))
  subst e
  refine ⟨c.KIn.keeps fun _ _ e => R₁.has e, ?_⟩
  exact again (q cf (cfirst ++ cvs) hf (hfirst.append hvs)) R₁
theorem callW0 {pos : Pos} {f : V} {cf : Value} {first : List V} {cfirst : List Value} (hk : Keeps1 c f) (hf : VR f cf) (hfirst : VRs first cfirst)
    (h : CALL c A env.locals f first m H Q) : TV c A env.locals (callWith pos cf cfirst (backTo pos (starEach [] env)) []) m H Q := by
  intro g s R
  refine callWith_of (P := fun h => c.K.In h) rfl (fun h X => hk.looks hf h X) (PyProof.Rows.evalArgs_nil3 ⟨c.KIn.keeps fun _ _ e => R.has e, ?_⟩)
  have := h cf cfirst hf hfirst g s R
  simpa using this
theorem WE.call {x : Str} {p pos : Pos} {e : Expr} {rest : List Expr} (h : WE c A env (.Name x p) m H (fun f H₁ => Keeps1 c f ∧ WArgs c A env pos (e :: rest) m H₁ (fun vs H₂ => CALL c A env.locals f vs m H₂ Q)))
    (he : starEach (e :: rest) env = (false, eval e env) :: starEach rest env := by rfl) (hplain : (backTo pos (starEach rest env)).any (·.1) = false := by rfl) : WE c A env (.Call (.Name x p) (e :: rest) [] pos) m H Q := fun g s R =>
  PyProof.Rows.Call_Name rfl (stepV h R fun f cf h₁ tk₁ H₁ R₁ hf ⟨hk, q⟩ => again (callW (first := []) hk hf .nil q he hplain) R₁)
noncomputable def IsT (c : Cx) (H : Sto) (v : V) (T : String) : Prop := ∀ g L m (s : Shared) cv, Rel c g L m H s.heap → VR v cv → s.TypeIs cv T ∧ ∀ a, cv = .ref a → ∃ ob, s.heap.get? a = some ob ∧ ob.dict = none
theorem IsT.list {a : Addr} {b : Bool} {l : List V} (h : H a = some (b, .list l)) : IsT c H (.ref a) "list" := by
  rintro g L m s cv R rfl
  obtain ⟨⟨ob, e1, ⟨vs, n, rfl, hv⟩, _⟩, _⟩ := R.ob a _ _ h
  exact ⟨⟨_, e1, rfl⟩, fun a' e => by cases e; exact ⟨_, e1, rfl⟩⟩
theorem IsT.dict {a : Addr} {b : Bool} {l : List (Int × V)} (h : H a = some (b, .dict l)) : IsT c H (.ref a) "dict" := by
  rintro g L m s cv R rfl
  obtain ⟨⟨ob, e1, ⟨kvs, ⟨es, ep, hx, _⟩, _⟩, _⟩, _⟩ := R.ob a _ _ h
  exact ⟨⟨_, e1, hx.1⟩, fun a' e => by cases e; exact ⟨_, e1, hx.2.1⟩⟩
theorem IsT.str {x : Str} : IsT c H (.str x) "str" := by
  rintro g L m s cv R ⟨t, rfl⟩
  exact ⟨rfl, fun a' e => by cases e⟩
theorem WE.meth {o : Expr} {name : Str} {apos pos : Pos} {T id : String} {e : Expr} {rest : List Expr} (pa : PlainAttrs T) (slot : Slot T name id) (hty : typeOf (.builtin id) = pure (.type "method_descriptor"))
    (h : WE c A env o m H (fun ov H₁ => IsT c H₁ ov T ∧ WArgs c A env pos (e :: rest) m H₁ (fun vs H₂ => CALL c A env.locals (.bi id) (ov :: vs) m H₂ Q)))
    (hbase : attributeBase o name env (eval o env) = eval o env := by rfl)
    (hfew : ((backTo pos (starEach (e :: rest) env)).all (fun x => !x.1) && (backToKw pos (keywordEach [] env)).all (fun x => x.1.isSome)
      && decide ((e :: rest).length + ([] : List Keyword).length + (if ([] : List Keyword).isEmpty then 0 else 1) < 30)) = true := by rfl)
    (hline : (apos.endLine == pos.line) = true := by rfl)
    (he : starEach (e :: rest) env = (false, eval e env) :: starEach rest env := by rfl) (hplain : (backTo pos (starEach rest env)).any (·.1) = false := by rfl) :
    WE c A env (.Call (.Attribute o name apos) (e :: rest) [] pos) m H Q := fun g s R =>
  wpAny_Call_method hbase hfew hline pa slot hty (stepV h R fun ov co h₁ tk₁ H₁ R₁ ho ⟨ht, q⟩ => by
    obtain ⟨t1, t2⟩ := ht g env.locals m { s with heap := h₁, toks := tk₁ } co R₁ ho
    exact ⟨t1, t2, again (callW (first := [ov]) (f := .bi id) trivial rfl (.cons ho .nil) q he hplain) R₁⟩)
theorem WE.meth0 {o : Expr} {name : Str} {apos pos : Pos} {T id : String} (pa : PlainAttrs T) (slot : Slot T name id) (hty : typeOf (.builtin id) = pure (.type "method_descriptor"))
    (h : WE c A env o m H (fun ov H₁ => IsT c H₁ ov T ∧ CALL c A env.locals (.bi id) [ov] m H₁ Q))
    (hbase : attributeBase o name env (eval o env) = eval o env := by rfl)
    (hfew : ((backTo pos (starEach [] env)).all (fun x => !x.1) && (backToKw pos (keywordEach [] env)).all (fun x => x.1.isSome)
      && decide (([] : List Expr).length + ([] : List Keyword).length + (if ([] : List Keyword).isEmpty then 0 else 1) < 30)) = true := by rfl)
    (hline : (apos.endLine == pos.line) = true := by rfl) : WE c A env (.Call (.Attribute o name apos) [] [] pos) m H Q := fun g s R =>
  wpAny_Call_method hbase hfew hline pa slot hty (stepV h R fun ov co h₁ tk₁ H₁ R₁ ho ⟨ht, q⟩ => by
    obtain ⟨t1, t2⟩ := ht g env.locals m { s with heap := h₁, toks := tk₁ } co R₁ ho
    exact ⟨t1, t2, again (callW0 (first := [ov]) (f := .bi id) trivial rfl (.cons ho .nil) q) R₁⟩)
theorem lookup_mem_nodup {α : Type} {l : List (Str × α)} {n : Str} {v : α} (hnd : (l.map (·.1)).Nodup) (hm : (n, v) ∈ l) : l.lookup n = some v := by
  induction l with
  | nil => cases hm
  | cons p l ih =>
    rw [List.map_cons, List.nodup_cons] at hnd
    rcases List.mem_cons.mp hm with e | hm
    · subst e; simp
    · have hne : n ≠ p.1 := fun e => hnd.1 (e ▸ List.mem_map.mpr ⟨(n, v), hm, rfl⟩)
      rw [show (p :: l).lookup n = ((p.1, p.2) :: l).lookup n from rfl, List.lookup_cons, beq_eq_false_iff_ne.mpr hne]
      exact ih hnd.2 hm
theorem zip_mem {names : List Str} : ∀ {vs : List V} {cvs : List Value}, VRs vs cvs → ∀ {x : Str} {v : V}, (names.zip vs).lookup x = some v → ∃ cv, (x, cv) ∈ names.zip cvs ∧ VR v cv := by
  induction names with
  | nil => intro vs cvs _ x v h; simp at h
  | cons n names ih =>
    intro vs cvs hvs x v h
    cases hvs with
    | nil => simp at h
    | cons hv hr =>
      rw [List.zip_cons_cons, List.lookup_cons] at h
      rw [List.zip_cons_cons]
      cases hx : x == n with
      | true => rw [hx] at h; cases h; rw [beq_iff_eq.mp hx]; exact ⟨_, List.mem_cons_self, hv⟩
      | false => rw [hx] at h; obtain ⟨cv, a, b⟩ := ih hr h; exact ⟨cv, List.mem_cons_of_mem _ a, b⟩
theorem zip_keys {names : List Str} {cvs : List Value} (h : names.length = cvs.length) : (names.zip cvs).map (·.1) = names := by
  rw [List.map_fst_zip]; lia
theorem zip_bound {names : List Str} {vs : List V} {cvs : List Value} (hvs : VRs vs cvs) (hlen : names.length = vs.length) (hnd : names.Nodup) {x : Str} {v : V} (h : (names.zip vs).lookup x = some v) :
    ∃ cv, (names.zip cvs).reverse.lookup x = some cv ∧ VR v cv := by
  obtain ⟨cv, hm, hv⟩ := zip_mem hvs h
  refine ⟨cv, lookup_mem_nodup ?_ (List.mem_reverse.mpr hm), hv⟩
  rw [List.map_reverse, zip_keys (hlen.trans hvs.length)]
  exact List.pairwise_reverse.mpr (hnd.imp fun h => Ne.symm h)
theorem CALL.fn {f : Addr} {name qual : Str} {params : Arguments} {body : List Stmt} {scope : Scope} {dV kV doc pm cdv ct oc : Value} {an od : Option Addr} {osl : Array (Option Value)} {vs : List V} {n : Nat}
    (ho : c.K.lookup f = some ⟨oc, od, .func (fnOf name qual params body scope dV kV doc pm an cdv ct), osl⟩) (hcd : codeIn c.K cdv qual = true) (names : List Str)
    (hbind : ∀ cvs, VRs vs cvs → bindArgs (fnOf name qual params body scope dV kV doc pm an cdv ct) ⟨cvs, []⟩ = pure (names.zip cvs)) (hR : Room (n + 1) A)
    (h : ∀ L', WS c (A.deeper (envX qual scope L' f cdv [])) (envX qual scope L' f cdv []) body (names.zip vs) H (Rets Q))
    (hnd : names.Nodup := by decide) (hlen : names.length = vs.length := by rfl) (hloc : ∀ x ∈ names, scope.names.lookup x = some .local := by decide)
    (hcell : ∀ x ∈ scope.names, x.2 ≠ .cell := by decide)
    (hco : scope.isCoroutine = false := by rfl) (hgen : scope.isGenerator = false := by rfl) (hk : scope.kind = .function := by rfl) : CALL c A L (.ref f) vs m H Q := by
  rintro cf cvs rfl hvs g s R
  refine wpAny_call (codeAny_call_def (fd := fnOf name qual params body scope dV kV doc pm an cdv ct) (body := body) (binds := names.zip cvs) (by have := hR.dp; show A.depth < 1000; lia) (R.has (c.KIn _ _ ho)) rfl R.lim (codeRec_of (c.KIn.keeps fun _ _ e => R.has e) hcd) rfl
    (BindsTo.of_eq (hbind cvs hvs)) hcell (fun x hx => hloc x.1 (List.of_mem_zip hx).1) (fun h₁ hns hk₁ => ?_) hco hgen hk)
  obtain ⟨oL, hL⟩ := R.home
  have R₁ : Rel c (clo g L oL) s.heap.objs.size (names.zip vs) H h₁ := R.enter hL hk₁ (Heap.get?_none_of_le (Nat.le_refl _)) hns ?_
  · refine step_wp (s := { s with heap := h₁, toks := s.toks + (names.zip cvs).length }) (h s.heap.objs.size) R₁ fun fl h' tk m' H' R' ⟨fl', hfl, q⟩ => ?_
    obtain ⟨R₂, _⟩ := R.leave hL R'
    cases fl' with
    | next => cases hfl; exact ⟨h', tk, m, H', rfl, R₂, rfl, .none, rfl, q⟩
    | ret v => obtain ⟨cv, rfl, hv⟩ := hfl; exact ⟨h', tk, m, H', rfl, R₂, rfl, v, hv, q⟩
    | brk => exact q.elim
    | cont => exact q.elim
  · exact fun x v e => zip_bound hvs hlen hnd e
theorem CALL.fnC {f : Addr} {name qual : Str} {params : Arguments} {body : List Stmt} {scope : Scope} {dV kV doc pm cdv ct oc : Value} {an od : Option Addr} {osl : Array (Option Value)} {vs : List V} {n : Nat}
    (ho : c.K.lookup f = some ⟨oc, od, .func (fnOf name qual params body scope dV kV doc pm an cdv ct), osl⟩) (hcd : codeIn c.K cdv qual = true) (names : List Str) (y : Str) (mc : Loc) (co : Option V)
    (hbind : ∀ cvs, VRs vs cvs → bindArgs (fnOf name qual params body scope dV kV doc pm an cdv ct) ⟨cvs, []⟩ = pure (names.zip cvs)) (hR : Room (n + 1) A)
    (hcells : ∀ L', cellsFrom (L' + 1) scope.names [] = [(y, L' + 1)])
    (hkind : ∀ cvs, VRs vs cvs → ∀ L', ∀ x ∈ names.zip cvs, scope.names.lookup x.1 = some .local ∨ (scope.names.lookup x.1 = some .cell ∧ ((cellsFrom (L' + 1) scope.names []).lookup x.1).isSome = true))
    (hmc : ∀ cvs, VRs vs cvs → ∀ x v, mc.lookup x = some v → ∃ cv, bindL (fun z => scope.names.lookup z) (names.zip cvs) (fun _ => none) x = some cv ∧ VR v cv)
    (hco' : ∀ cvs, VRs vs cvs → match co with | some v => ∃ cv, bindC (fun z => scope.names.lookup z) (names.zip cvs) (fun _ => none) y = some cv ∧ VR v cv | none => bindC (fun z => scope.names.lookup z) (names.zip cvs) (fun _ => none) y = none)
    (h : ∀ L' C, H C = none → WS c (A.deeper (envX qual scope L' f cdv [(y, C)])) (envX qual scope L' f cdv [(y, C)]) body mc (upd H C (true, .cell co)) (Rets Q))
    (hco : scope.isCoroutine = false := by rfl) (hgen : scope.isGenerator = false := by rfl) (hk : scope.kind = .function := by rfl) : CALL c A L (.ref f) vs m H Q := by
  rintro cf cvs rfl hvs g s R
  have hc0 := hcells s.heap.objs.size
  refine wpAny_call (codeAny_call_cells (fd := fnOf name qual params body scope dV kV doc pm an cdv ct) (body := body) (binds := names.zip cvs) (by have := hR.dp; show A.depth < 1000; lia) (R.has (c.KIn _ _ ho)) rfl R.lim (codeRec_of (c.KIn.keeps fun _ _ e => R.has e) hcd) rfl
    (hbind cvs hvs) rfl (hkind cvs hvs s.heap.objs.size) (fun s₁ X => ?_) hco hgen hk)
  have henv : callEnvC (fnOf name qual params body scope dV kV doc pm an cdv ct) s.heap.objs.size f = envX qual scope s.heap.objs.size f cdv [(y, s.heap.objs.size + 1)] := by
    show envX qual scope s.heap.objs.size f cdv (cellsFrom (s.heap.objs.size + 1) scope.names []) = _
    rw [hc0]
  rw [henv] at X ⊢
  obtain ⟨⟨⟨h₁, tk₁, rfl⟩, hns, hk₁, _⟩, hcell, _, habove⟩ := X
  obtain ⟨oL, hL⟩ := R.home
  have hCn : s.heap.get? (s.heap.objs.size + 1) = none := Heap.get?_none_of_le (Nat.le_succ _)
  obtain ⟨oC, hoC, hdC⟩ := hcell y (s.heap.objs.size + 1) (by simp)
  have R₁ : Rel c (clo g L oL) s.heap.objs.size mc H h₁ := R.enter hL hk₁ (Heap.get?_none_of_le (Nat.le_refl _)) hns (hmc cvs hvs)
  have fr := R.free hCn
  have R₂ : Rel c (clo g L oL) s.heap.objs.size mc (upd H (s.heap.objs.size + 1) (true, .cell co)) h₁ := R₁.add (by simp [clo, fr.2.1, fr.1]) (Nat.succ_ne_self _) hoC (by
    have := hco' cvs hvs
    cases co with
    | none => exact hdC.trans (congrArg _ this)
    | some v => obtain ⟨cv, e, hv⟩ := this; exact ⟨cv, hdC.trans (congrArg _ e), hv⟩) (Nat.ne_of_gt (Nat.lt_succ_of_lt R.room))
  refine step_wp (s := { s with heap := h₁, toks := tk₁ }) (h s.heap.objs.size (s.heap.objs.size + 1) fr.2.2) R₂ fun fl h' tk m' H' R' ⟨fl', hfl, q⟩ => ?_
  obtain ⟨R₃, _⟩ := R.leave hL R'
  cases fl' with
  | next => cases hfl; exact ⟨h', tk, m, H', rfl, R₃, rfl, .none, rfl, q⟩
  | ret v => obtain ⟨cv, rfl, hv⟩ := hfl; exact ⟨h', tk, m, H', rfl, R₃, rfl, v, hv, q⟩
  | brk => exact q.elim
  | cont => exact q.elim
end
end Mine
end
section
open PySem PySem.W
set_option maxRecDepth 100000
set_option maxHeartbeats 8000000
set_option linter.all false
namespace Mine
theorem VRs.inv0 {l : List Value} (h : VRs [] l) : l = [] := by cases h; rfl
theorem VRs.inv1 {a : V} {l : List Value} (h : VRs [a] l) : ∃ x, l = [x] ∧ VR a x := by
  cases h with
  | cons h1 h2 => cases h2; exact ⟨_, rfl, h1⟩
theorem VRs.inv2 {a b : V} {l : List Value} (h : VRs [a, b] l) : ∃ x y, l = [x, y] ∧ VR a x ∧ VR b y := by
  cases h with
  | cons h1 h2 => obtain ⟨y, rfl, h3⟩ := h2.inv1; exact ⟨_, y, rfl, h1, h3⟩
theorem VRs.inv3 {a b d : V} {l : List Value} (h : VRs [a, b, d] l) : ∃ x y z, l = [x, y, z] ∧ VR a x ∧ VR b y ∧ VR d z := by
  cases h with
  | cons h1 h2 => obtain ⟨y, z, rfl, h3⟩ := h2.inv2; exact ⟨_, y, z, rfl, h1, h3⟩
theorem VRs.set {l : List V} {vs : List Value} (i : Nat) {v : V} {cv : Value} (h : VRs l vs) (hv : VR v cv) : VRs (l.set i v) (vs.set i cv) := by
  induction h generalizing i with
  | nil => exact .nil
  | cons a h ih => cases i with
    | zero => exact .cons hv h
    | succ i => exact .cons a (ih i)
theorem VRs.take {l : List V} {vs : List Value} (i : Nat) (h : VRs l vs) : VRs (l.take i) (vs.take i) := by
  induction h generalizing i with
  | nil => simp; exact .nil
  | cons a h ih => cases i with
    | zero => exact .nil
    | succ i => exact .cons a (ih i)
section
variable {c : Cx} {A : Around} {L : Addr} {m : Loc} {H : Sto} {env : Env} {g : Fm} {s : Shared} {Q : V → Sto → Prop}
theorem sub_tail {value slice : Expr} {o i : Value} {T id : String} {Q : Value → Shared → Prop} {E : Value → Shared → Prop} (hT : s.TypeIs o T)
    (hl : typeLookup (.type T) "__getitem__" = pure (some (.builtin id))) (x y : Value) (hs : subscripted slice false o i = operate [x, y] (getItem o i)) (h : wpAny (model c.prog c.w) A (getItem o i) Q E s) :
    wpAny (model c.prog c.w) A (PyProof.Rows.subscriptTail value slice o i) Q E s := by
  have fin : wpAny (model c.prog c.w) A (subscripted slice false o i) (fun r s₃ => wpAny (model c.prog c.w) A (letTemporaryGo value o r >>= fun _ => pure r) Q E s₃) E s := by
    rw [hs]
    exact wpAny_operating (wpAny_mono h (fun r s₃ h₃ => wpAny_bind (wpAny_letTemporaryGo (wpAny_pure h₃))) fun _ _ x => x)
  unfold PyProof.Rows.subscriptTail
  refine wpAny_bind ?_
  rw [getitemInPython_of_ne hT.not_modules]
  refine wpAny_bind (wpAny_specialOf hT hl ?_)
  first
    | exact wpAny_pure (wpAny_bind fin)
    | exact wpAny_bind (wpAny_pure (wpAny_bind fin))
    | exact wpAny_bind fin
theorem WE.sub {value slice : Expr} {pos : Pos} {T id : String} (hl : typeLookup (.type T) "__getitem__" = pure (some (.builtin id)))
    (h : WE c A env value m H (fun ov H₁ => WE c A env slice m H₁ (fun iv H₂ => IsT c H₂ ov T ∧ OP2 c A env.locals getItem ov iv m H₂ Q)))
    (hs : ∀ o i, subscripted slice false o i = operate [o, i] (getItem o i) := by intros; rfl) : WE c A env (.Subscript value slice pos) m H Q := fun g s R =>
  PyProof.Rows.Subscript_ (stepV h R fun ov co h₁ tk₁ H₁ R₁ ho q => stepV q R₁ fun iv ci h₂ tk₂ H₂ R₂ hi ⟨ht, q⟩ => by
    obtain ⟨t1, t2⟩ := ht g env.locals m { s with heap := h₂, toks := tk₂ } co R₂ ho
    exact sub_tail t1 hl co ci (hs co ci) (again (q co ci ho hi) R₂))
theorem IsT.tup {a : Addr} {b : Bool} {l : List V} (h : H a = some (b, .tup l)) : IsT c H (.ref a) "tuple" := by
  rintro g L m s cv R rfl
  obtain ⟨⟨ob, e1, ⟨vs, n, rfl, hv⟩, _⟩, _⟩ := R.ob a _ _ h
  exact ⟨⟨_, e1, rfl⟩, fun a' e => by cases e; exact ⟨_, e1, rfl⟩⟩
theorem WE.sub_list {value slice : Expr} {pos : Pos} (h : WE c A env value m H (fun ov H₁ => WE c A env slice m H₁ (fun iv H₂ => IsT c H₂ ov "list" ∧ OP2 c A env.locals getItem ov iv m H₂ Q)))
    (hs : ∀ o i, subscripted slice false o i = operate [o, i] (getItem o i) := by intros; rfl) : WE c A env (.Subscript value slice pos) m H Q := WE.sub slot_list_getitem.lookup h hs
theorem WE.sub_dict {value slice : Expr} {pos : Pos} (h : WE c A env value m H (fun ov H₁ => WE c A env slice m H₁ (fun iv H₂ => IsT c H₂ ov "dict" ∧ OP2 c A env.locals getItem ov iv m H₂ Q)))
    (hs : ∀ o i, subscripted slice false o i = operate [o, i] (getItem o i) := by intros; rfl) : WE c A env (.Subscript value slice pos) m H Q := WE.sub slot_dict_getitem.lookup h hs
theorem WE.sub_tup {value slice : Expr} {pos : Pos} (h : WE c A env value m H (fun ov H₁ => WE c A env slice m H₁ (fun iv H₂ => IsT c H₂ ov "tuple" ∧ OP2 c A env.locals getItem ov iv m H₂ Q)))
    (hs : ∀ o i, subscripted slice false o i = operate [o, i] (getItem o i) := by intros; rfl) : WE c A env (.Subscript value slice pos) m H Q := WE.sub PySem.F.slot_tuple_getitem.lookup h hs
theorem Rel.isList {a : Addr} {b : Bool} {l : List V} {h : Heap} (R : Rel c g L m H h) (ha : H a = some (b, .list l)) : ∃ vs : Array Value, h.IsList a vs ∧ VRs l vs.toList ∧ vs.size = l.length := by
  obtain ⟨⟨ob, e1, ⟨vs, n, rfl, hv⟩, _⟩, _⟩ := R.ob a _ _ ha
  exact ⟨vs, ⟨_, e1, rfl, n, rfl⟩, hv, by simpa using hv.length.symm⟩
theorem op_item_list {a : Addr} {b : Bool} {l : List V} {k : Int} {v : V} (ha : H a = some (b, .list l)) (h0 : 0 ≤ k) (hfit : k < 2 ^ 63) (hx : l[k.toNat]? = some v) (h : Q v H) : OP2 c A L getItem (.ref a) (.int k) m H Q := by
  rintro ca cb rfl ⟨u, rfl⟩ g s R
  obtain ⟨vs, hl, hv, _⟩ := R.isList ha
  obtain ⟨cv, e, hr⟩ := hv.get' hx
  exact wpAny_getItem_list hl h0 hfit (by simpa using e) ⟨s.heap, s.toks, m, H, rfl, R, rfl, v, hr, h⟩
theorem op_item_neg {a : Addr} {b : Bool} {l : List V} {k : Int} {v : V} (ha : H a = some (b, .list l)) (h0 : k < 0) (h1 : -(l.length : Int) ≤ k) (hfit : -(2 ^ 63) ≤ k) (hx : l[(k + l.length).toNat]? = some v) (h : Q v H) : OP2 c A L getItem (.ref a) (.int k) m H Q := by
  rintro ca cb rfl ⟨u, rfl⟩ g s R
  obtain ⟨vs, hl, hv, hn⟩ := R.isList ha
  obtain ⟨cv, e, hr⟩ := hv.get' hx
  exact wpAny_getItem_list_neg hl h0 (by rw [hn]; exact h1) hfit (by rw [hn]; simpa using e) ⟨s.heap, s.toks, m, H, rfl, R, rfl, v, hr, h⟩
theorem op_item_tup {a : Addr} {b : Bool} {l : List V} {k : Int} {v : V} (ha : H a = some (b, .tup l)) (h0 : 0 ≤ k) (hfit : k < 2 ^ 63) (hx : l[k.toNat]? = some v) (h : Q v H) : OP2 c A L getItem (.ref a) (.int k) m H Q := by
  rintro ca cb rfl ⟨u, rfl⟩ g s R
  obtain ⟨⟨ob, e1, ⟨vs, n, rfl, hv⟩, _⟩, _⟩ := R.ob a _ _ ha
  obtain ⟨cv, e, hr⟩ := hv.get' hx
  have hlt : k.toNat < vs.size := by simpa using (List.getElem?_eq_some_iff.mp e).1
  have hj : seqIndex? k vs.size = some k.toNat := by
    unfold seqIndex?
    have : ¬ k < 0 := by lia
    simp only [this, if_false]
    rw [if_pos (by simp only [Bool.and_eq_true, decide_eq_true_eq]; lia)]
  exact PyProof.Rows.getItem_tuple (items := vs) ⟨_, e1, rfl, n, rfl⟩ (by lia) hfit hj (by simpa using e) ⟨s.heap, s.toks, m, H, rfl, R, rfl, v, hr, h⟩
theorem set_list {a : Addr} {l : List V} {k : Int} {v : V} {Q : Loc → Sto → Prop} (ha : H a = some (true, .list l)) (h0 : 0 ≤ k) (hn : k < l.length) (hl : l.length ≤ 1000000) (h : Q m (upd H a (true, .list (l.set k.toNat v)))) :
    ∀ cv co ci, VR v cv → VR (.ref a) co → VR (.int k) ci → TR c A L (setItem co ci cv) m H (fun _ m' H' => Q m' H') := by
  rintro cv co ci hv rfl ⟨t, rfl⟩ g s R
  obtain ⟨⟨ob, e1, ⟨vs, n, rfl, hvs⟩, _⟩, _⟩ := R.ob a _ _ ha
  have hz : vs.size = l.length := by simpa using hvs.length.symm
  refine ki_setAt e1 h0 (by lia) (by lia) ⟨_, s.toks, m, _, rfl, R.turn (o := .list (l.set k.toNat v)) ha (Heap.SameBut.update ..) (PySem.IsL.update e1 _) ⟨_, _, rfl, ?_⟩ (fun l e => by cases e), h⟩
  rw [Array.toList_setIfInBounds]
  exact hvs.set _ hv
noncomputable def PART (c : Cx) (A : Around) (env : Env) (e : Option Expr) (r : Option Int) (m : Loc) (H : Sto) : Prop := match e, r with
  | .none, .none => True
  | some e, some i => WE c A env e m H (fun v H' => v = .int i ∧ H' = H)
  | _, _ => False
theorem PART.run {e : Option Expr} {r : Option Int} (h : PART c A env e r m H) {E : Value → Shared → Prop} {f : Value → Shared → Prop} (R : Rel c g env.locals m H s.heap)
    (k : ∀ cv h' tk, IsPart cv r → Rel c g env.locals m H h' → f cv { s with heap := h', toks := tk }) : wpAny (model c.prog c.w) A (evalPart e env) f E s := by
  cases e with
  | none =>
    cases r with
    | none => exact wpAny_pure (k .none s.heap s.toks .none R)
    | some i => exact h.elim
  | some e =>
    cases r with
    | none => exact h.elim
    | some i => exact evalPart_some_step (stepV h R fun v cv h' tk H' R' hv q => by obtain ⟨rfl, rfl⟩ := q; obtain ⟨t, rfl⟩ := hv; exact k _ h' tk (.int i t) R')
theorem WE.list {elts : List Expr} {pos : Pos} (h : WArgs c A env pos elts m H (fun vs H₁ => vs.length ≤ 1000000 ∧ ∀ D, H₁ D = none → Q (.ref D) (upd H₁ D (true, .list vs)))) : WE c A env (.List elts pos) m H Q := fun g s R =>
  wpAny_List (step_wp h R fun cvs h₁ tk₁ m₁ H₁ R₁ ⟨e, vs, hvs, hlen, q⟩ => by
    subst e
    refine ⟨by have : sizeLine = 2 ^ 24 := rfl; have := hvs.length; lia, ?_⟩
    obtain ⟨R₆, hD⟩ := R₁.new (o := .list vs) (fun _ _ e => Heap.get?_push_of_some _ e) (Heap.get?_none_of_le (Nat.le_refl _)) (Heap.get?_push_size _ rfl) ⟨_, _, rfl, by simpa using hvs⟩ (Nat.ne_of_gt R₁.room)
    exact ⟨_, tk₁, _, _, rfl, R₆, rfl, _, VR.ref _, q _ hD⟩)
theorem WE.tup {elts : List Expr} {k : Nat} {pos : Pos} (h : WArgs c A env pos elts m H (fun vs H₁ => vs.length ≤ 1000000 ∧ ∀ D, H₁ D = none → Q (.ref D) (upd H₁ D (true, .tup vs)))) : WE c A env (.Tuple elts k pos) m H Q := fun g s R =>
  wpAny_Tuple (step_wp h R fun cvs h₁ tk₁ m₁ H₁ R₁ ⟨e, vs, hvs, hlen, q⟩ => by
    subst e
    refine ⟨by have : sizeLine = 2 ^ 24 := rfl; have := hvs.length; lia, ?_⟩
    obtain ⟨R₆, hD⟩ := R₁.new (o := .tup vs) (fun _ _ e => Heap.get?_push_of_some _ e) (Heap.get?_none_of_le (Nat.le_refl _)) (Heap.get?_push_size _ rfl) ⟨_, _, rfl, by simpa using hvs⟩ (Nat.ne_of_gt R₁.room)
    exact ⟨_, tk₁, _, _, rfl, R₆, rfl, _, VR.ref _, q _ hD⟩)
theorem call_len {a : Addr} {b : Bool} {l : List V} (ha : H a = some (b, .list l)) (hl : l.length ≤ 1000000) (h : Q (.int l.length) H) : CALL c A L (.bi "len") [.ref a] m H Q := by
  rintro cf cvs rfl hvs g s R
  obtain ⟨_, rfl, rfl⟩ := hvs.inv1
  obtain ⟨vs, hL, hv, hn⟩ := R.isList ha
  refine Calls.call_len_list hL (by lia) ⟨s.heap, _, m, H, rfl, R, rfl, .int l.length, ⟨_, by rw [hn]⟩, h⟩
theorem call_len_tup {a : Addr} {b : Bool} {l : List V} (ha : H a = some (b, .tup l)) (hl : l.length ≤ 1000000) (h : Q (.int l.length) H) : CALL c A L (.bi "len") [.ref a] m H Q := by
  rintro cf cvs rfl hvs g s R
  obtain ⟨_, rfl, rfl⟩ := hvs.inv1
  obtain ⟨⟨ob, e1, ⟨vs, n, rfl, hv⟩, _⟩, _⟩ := R.ob a _ _ ha
  have hn : vs.size = l.length := by simpa using hv.length.symm
  refine PyProof.Rows.len_tuple (items := vs) ⟨_, e1, rfl, n, rfl⟩ (by lia) ⟨s.heap, _, m, H, rfl, R, rfl, .int l.length, ⟨_, by rw [hn]⟩, h⟩
theorem truthy_list {a : Addr} {b : Bool} {l : List V} {Q : Bool → Sto → Prop} (ha : H a = some (b, .list l)) (hl : l.length ≤ 1000000) (h : Q (!l.isEmpty) H) : OPT c A L (.ref a) m H Q := by
  rintro cv rfl g s R
  obtain ⟨vs, hL, hv, hn⟩ := R.isList ha
  refine wpAny_truthy_list hL (by lia) ⟨s.heap, _, m, H, rfl, R, rfl, ?_⟩
  have : vs.isEmpty = l.isEmpty := by
    rw [Bool.eq_iff_iff, Array.isEmpty_iff_size_eq_zero, hn, List.isEmpty_iff_length_eq_zero]
  rw [this]; exact h
theorem call_append {a : Addr} {l : List V} {v : V} (ha : H a = some (true, .list l)) (hl : l.length ≤ 1000000) (h : Q .none (upd H a (true, .list (l ++ [v])))) : CALL c A L (.bi "list.append") [.ref a, v] m H Q := by
  rintro cf cvs rfl hvs g s R
  obtain ⟨_, _, rfl, rfl, h3⟩ := hvs.inv2
  obtain ⟨⟨ob, e1, ⟨vs, n, rfl, hv⟩, _⟩, _⟩ := R.ob a _ _ ha
  have hn : vs.size = l.length := by simpa using hv.length.symm
  refine wpAny_list_append_plain ⟨n, e1⟩ (fun h' ⟨n', e'⟩ hs' => ⟨h', s.toks, m, _, rfl, R.turn (o := .list (l ++ [v])) ha hs' e' ⟨_, _, rfl, ?_⟩ (fun l e => by cases e), rfl, .none, rfl, h⟩) (by have : sizeLine = 2 ^ 24 := rfl; lia)
  rw [Array.toList_push]
  exact hv.snoc h3
theorem call_pop {a : Addr} {l : List V} {v : V} (ha : H a = some (true, .list (l ++ [v]))) (hl : l.length ≤ 1000000) (h : Q v (upd H a (true, .list l))) : CALL c A L (.bi "list.pop") [.ref a] m H Q := by
  rintro cf cvs rfl hvs g s R
  obtain ⟨_, rfl, rfl⟩ := hvs.inv1
  obtain ⟨⟨ob, e1, ⟨vs, n, rfl, hv⟩, _⟩, _⟩ := R.ob a _ _ ha
  have hn : vs.size = l.length + 1 := by simpa using hv.length.symm
  obtain ⟨cv, e, hr⟩ := hv.get' (i := l.length) (v := v) (by simp)
  have hy : vs[vs.size - 1]? = some cv := by rw [hn]; simpa using e
  refine call_meets PySem.F.slot_list_pop ⟨_, e1, rfl⟩ PySem.F.entry_list_pop (PySem.F.args_list_pop_1 _) (PySem.MeetsSeq.list_pop_last a _ n cv hy (by have : sizeLine = 2 ^ 24 := rfl; lia)) ⟨e1, ?_⟩
  refine ⟨_, s.toks, m, _, rfl, R.turn (o := .list l) ha (Heap.SameBut.update ..) (PySem.IsL.update e1 _) ⟨_, _, rfl, ?_⟩ (fun l e => by cases e), rfl, v, hr, h⟩
  have : (vs.eraseIdxIfInBounds (vs.size - 1)).toList = vs.toList.take l.length := by
    unfold Array.eraseIdxIfInBounds
    rw [dif_pos (by lia), Array.toList_eraseIdx, hn]
    have : vs.toList.length = l.length + 1 := by simpa using hn
    rw [show l.length + 1 - 1 = l.length from rfl, List.eraseIdx_eq_take_drop_succ, List.drop_of_length_le (by lia), List.append_nil]
  rw [this]
  have := hv.take l.length
  simpa using this
end
end Mine
end
section
open PySem PySem.W
set_option maxRecDepth 100000
set_option maxHeartbeats 8000000
set_option linter.all false
namespace Mine
noncomputable def dget {α : Type} (l : List (Int × α)) (k : Int) : Option α := match l with
  | [] => none
  | p :: r => if p.1 = k then some p.2 else dget r k
noncomputable def dput {α : Type} (l : List (Int × α)) (k : Int) (v : α) : List (Int × α) := l.map fun p => if p.1 = k then (p.1, v) else p
noncomputable def dset {α : Type} (l : List (Int × α)) (k : Int) (v : α) : List (Int × α) := if l.any (fun p => p.1 = k) then dput l k v else l ++ [(k, v)]
noncomputable def DR (l : List (Int × V)) (kvs : List (Int × Value)) : Prop := l.map (·.1) = kvs.map (·.1) ∧ VRs (l.map (·.2)) (kvs.map (·.2))
theorem DR.nil : DR [] [] := ⟨rfl, .nil⟩
theorem DR.ind {P : List (Int × V) → List (Int × Value) → Prop} (h0 : P [] []) (h1 : ∀ k v cv l kvs, VR v cv → DR l kvs → P l kvs → P ((k, v) :: l) ((k, cv) :: kvs)) : ∀ {l : List (Int × V)} {kvs : List (Int × Value)}, DR l kvs → P l kvs
  | [], [], _ => h0
  | [], q :: kvs, ⟨e, _⟩ => by simp at e
  | p :: l, [], ⟨e, _⟩ => by simp at e
  | (k, v) :: l, (k', cv) :: kvs, ⟨e, h⟩ => by
    simp only [List.map_cons, List.cons.injEq] at e
    obtain ⟨rfl, e⟩ := e
    simp only [List.map_cons] at h
    cases h with
    | cons hv h => exact h1 k v cv l kvs hv ⟨e, h⟩ (DR.ind h0 h1 ⟨e, h⟩)
theorem DR.cons {k : Int} {v : V} {cv : Value} {l : List (Int × V)} {kvs : List (Int × Value)} (hv : VR v cv) (h : DR l kvs) : DR ((k, v) :: l) ((k, cv) :: kvs) := ⟨by simp [h.1], by simp only [List.map_cons]; exact .cons hv h.2⟩
theorem DR.length {l : List (Int × V)} {kvs : List (Int × Value)} (h : DR l kvs) : l.length = kvs.length := by have := congrArg List.length h.1; simpa using this
theorem DR.get {l : List (Int × V)} {kvs : List (Int × Value)} (h : DR l kvs) (k : Int) : match dget l k with | some v => ∃ cv, valueAt kvs k = some cv ∧ VR v cv | none => valueAt kvs k = none := by
  refine DR.ind (P := fun l kvs => match dget l k with | some v => ∃ cv, valueAt kvs k = some cv ∧ VR v cv | none => valueAt kvs k = none) ?_ ?_ h
  · simp [dget, valueAt]
  · intro k' v cv l kvs hv _ ih
    by_cases e : k' = k
    · simp only [dget, e, if_true, valueAt, List.find?_cons, decide_true, Option.map_some]
      exact ⟨cv, rfl, hv⟩
    · have : valueAt ((k', cv) :: kvs) k = valueAt kvs k := by simp [valueAt, List.find?_cons, e]
      simp only [dget, e, if_false]
      rw [this]; exact ih
theorem DR.any {l : List (Int × V)} {kvs : List (Int × Value)} (h : DR l kvs) (k : Int) : (l.any fun p => decide (p.1 = k)) = kvs.any fun p => decide (p.1 = k) :=
  DR.ind (P := fun l kvs => (l.any fun p => decide (p.1 = k)) = kvs.any fun p => decide (p.1 = k)) rfl (fun k' v cv l kvs _ _ ih => by simp [ih]) h
theorem DR.append {l : List (Int × V)} {kvs : List (Int × Value)} {l' : List (Int × V)} {kvs' : List (Int × Value)} (h : DR l kvs) (h' : DR l' kvs') : DR (l ++ l') (kvs ++ kvs') :=
  ⟨by simp [h.1, h'.1], by simp only [List.map_append]; exact h.2.append h'.2⟩
theorem DR.put {l : List (Int × V)} {kvs : List (Int × Value)} (h : DR l kvs) (k : Int) {v : V} {cv : Value} (hv : VR v cv) : DR (dput l k v) (kvs.map fun kv => if kv.1 = k then (kv.1, cv) else kv) := by
  refine DR.ind (P := fun l kvs => DR (dput l k v) (kvs.map fun kv => if kv.1 = k then (kv.1, cv) else kv)) DR.nil ?_ h
  intro k' v' cv' l kvs hv' _ ih
  simp only [dput, List.map_cons] at ih ⊢
  by_cases e : k' = k
  · simp only [e, if_true]; exact .cons hv ih
  · simp only [e, if_false]; exact .cons hv' ih
theorem DR.set {l : List (Int × V)} {kvs : List (Int × Value)} (h : DR l kvs) (k : Int) {v : V} {cv : Value} (hv : VR v cv) : DR (dset l k v) (stored kvs k cv) := by
  unfold dset stored
  rw [h.any k]
  split
  · exact h.put k hv
  · exact h.append (.cons hv .nil)
section
variable {c : Cx} {A : Around} {L : Addr} {m : Loc} {H : Sto} {env : Env} {g : Fm} {s : Shared} {Q : V → Sto → Prop}
theorem Rel.isDict {a : Addr} {b : Bool} {l : List (Int × V)} {h : Heap} (R : Rel c g L m H h) (ha : H a = some (b, .dict l)) : ∃ kvs, h.DictOf (intKind c.prog c.w) a kvs ∧ DR l kvs ∧ (a == sysModules) = false := by
  obtain ⟨⟨ob, e1, ⟨kvs, hd, h1, h2⟩, _⟩, _, _, hs⟩ := R.ob a _ _ ha
  exact ⟨kvs, Heap.dictOf_iff.mpr ⟨ob, e1, hd⟩, ⟨h1, h2⟩, by simpa using hs l rfl⟩
theorem isInt_refl (i : Int) (t : Tok) : (intKind c.prog c.w).is i (.int i t) = true := by show Value.isInt i (.int i t) = true; simp [Value.isInt]
theorem op_item_dict {a : Addr} {b : Bool} {l : List (Int × V)} {k : Int} {v : V} (ha : H a = some (b, .dict l)) (hx : dget l k = some v) (h : Q v H) : OP2 c A L getItem (.ref a) (.int k) m H Q := by
  rintro ca cb rfl ⟨u, rfl⟩ g s R
  obtain ⟨kvs, hd, hr, hs⟩ := R.isDict ha
  have := hr.get k
  rw [hx] at this
  obtain ⟨cv, e, hv⟩ := this
  exact wpAny_getItem_of (isInt_refl k u) hd.mapOf e ⟨s.heap, _, m, H, rfl, R, rfl, v, hv, h⟩
theorem op_in_dict {a : Addr} {b : Bool} {l : List (Int × V)} {k : Int} (ha : H a = some (b, .dict l)) (h : Q (.bool (dget l k).isSome) H) : OP2 c A L (compareOp .In) (.int k) (.ref a) m H Q := by
  rintro ca cb ⟨u, rfl⟩ rfl g s R
  obtain ⟨kvs, hd, hr, hs⟩ := R.isDict ha
  refine wpAny_in_of (isInt_refl k u) hs hd.mapOf ⟨s.heap, _, m, H, rfl, R, rfl, _, VR.bool _, ?_⟩
  have := hr.get k
  cases e : dget l k with
  | some v => rw [e] at this h; obtain ⟨cv, e', _⟩ := this; rw [e']; exact h
  | none => rw [e] at this h; rw [this]; exact h
theorem set_dict {a : Addr} {l : List (Int × V)} {k : Int} {v : V} {Q : Loc → Sto → Prop} (ha : H a = some (true, .dict l)) (hl : l.length ≤ 1000000) (h : Q m (upd H a (true, .dict (dset l k v)))) :
    ∀ cv co ci, VR v cv → VR (.ref a) co → VR (.int k) ci → TR c A L (setItem co ci cv) m H (fun _ m' H' => Q m' H') := by
  rintro cv co ci hv rfl ⟨t, rfl⟩ g s R
  obtain ⟨kvs, hd, hr, hs⟩ := R.isDict ha
  refine wpAny_setItem_pairs (isInt_refl k t) hd (fun h' hd' hs' => ?_) (by have : sizeLine = 2 ^ 24 := rfl; have := hr.length; lia)
  obtain ⟨ob, e, hdo⟩ := Heap.dictOf_iff.mp hd'
  exact ⟨h', _, m, _, rfl, R.turn (o := .dict (dset l k v)) ha hs' e ⟨_, hdo, (hr.set k hv).1, (hr.set k hv).2⟩ (fun _ _ => by simpa using hs), h⟩
theorem new_dict_OM : OM c { cls := .type "dict", data := .dict #[] } (.dict []) := by
  obtain ⟨o, ho, hd⟩ := Heap.dictOf_iff.mp (Heap.DictOf.new (knd := intKind c.prog c.w) {})
  rw [Heap.get?_push_size _ rfl] at ho
  exact ⟨[], (Option.some.inj ho) ▸ hd, rfl, .nil⟩
theorem WE.dict0 {pos : Pos} (h : ∀ D, H D = none → Q (.ref D) (upd H D (true, .dict []))) : WE c A env (.Dict [] [] pos) m H Q := fun g s R => by
  obtain ⟨R₁, hD⟩ := R.new (o := .dict []) (h' := s.heap.push { cls := .type "dict", data := .dict #[] }) (fun _ _ e => Heap.get?_push_of_some _ e) (Heap.get?_none_of_le (Nat.le_refl _)) (Heap.get?_push_size _ rfl) new_dict_OM (Nat.ne_of_gt R.room)
  exact wpAny_Dict_empty ⟨_, _, m, _, rfl, R₁, rfl, _, VR.ref _, h _ hD⟩
theorem WE.dict1 {ke ve : Expr} {pos : Pos} (h : ∀ D, H D = none → WE c A env ke m (upd H D (true, .dict [])) (fun kv H₁ => WE c A env ve m H₁ (fun vv H₂ => ∃ k, kv = .int k ∧ H₂ D = some (true, .dict []) ∧ Q (.ref D) (upd H₂ D (true, .dict [(k, vv)]))))) :
    WE c A env (.Dict [some ke] [ve] pos) m H Q := fun g s R => by
  obtain ⟨R₁, hD⟩ := R.new (o := .dict []) (h' := s.heap.push { cls := .type "dict", data := .dict #[] }) (fun _ _ e => Heap.get?_push_of_some _ e) (Heap.get?_none_of_le (Nat.le_refl _)) (Heap.get?_push_size _ rfl) new_dict_OM (Nat.ne_of_gt R.room)
  refine wpAny_Dict_walk (knd := intKind c.prog c.w) rfl rfl (by simp) (by simp) (pairTrees_cons_walk (stepV (h _ hD) R₁ fun kv ck h₁ tk₁ H₁ R₁ hk q => stepV (s := { s with heap := h₁, toks := tk₁ }) q R₁ fun vv cv h₂ tk₂ H₂ R₂ hv ⟨k, e, hd, q'⟩ => pairTrees_nil_walk ?_))
  subst e
  obtain ⟨t, rfl⟩ := hk
  obtain ⟨kvs, hdo, hr, hs⟩ := R₂.isDict hd
  have : kvs = [] := by have := hr.length; cases kvs with | nil => rfl | cons _ _ => simp at this
  subst this
  refine ⟨[(k, cv)], ⟨isInt_refl k t, rfl, trivial⟩, hdo, fun h' hd' hs' => ?_⟩
  obtain ⟨ob, e, hdo'⟩ := Heap.dictOf_iff.mp hd'
  exact ⟨h', _, m, _, rfl, R₂.turn (o := .dict [(k, vv)]) hd hs' e ⟨_, hdo', rfl, .cons hv .nil⟩ (fun _ _ => by simpa using hs), rfl, _, VR.ref _, q'⟩
theorem call_dget {a : Addr} {b : Bool} {l : List (Int × V)} {k : Int} {d : V} (ha : H a = some (b, .dict l)) (h : Q ((dget l k).getD d) H) : CALL c A L (.bi "dict.get") [.ref a, .int k, d] m H Q := by
  rintro cf cvs rfl hvs g s R
  obtain ⟨_, _, dv, rfl, rfl, ⟨t, rfl⟩, hd⟩ := hvs.inv3
  obtain ⟨kvs, hdo, hr, hs⟩ := R.isDict ha
  refine call_meetsIn PySem.F.slot_dict_get hdo.typeIs PySem.F.entry_dict_get (PySem.F.args_dict_get_3 _ _ _) (meets_dict_get_default (intKind c.prog c.w) a (isInt_refl k t) hs dv) ⟨_, hdo.mapOf, ?_⟩
  have := hr.get k
  cases e : dget l k with
  | some v => rw [e] at this h; obtain ⟨cv, e', hv⟩ := this; exact ⟨s.heap, _, m, H, rfl, R, rfl, v, by rw [e']; exact hv, h⟩
  | none => rw [e] at this h; exact ⟨s.heap, _, m, H, rfl, R, rfl, d, by rw [this]; exact hd, h⟩
theorem call_items {a : Addr} {b : Bool} {l : List (Int × V)} (ha : H a = some (b, .dict l)) (h : ∀ D, H D = none → Q (.ref D) (upd H D (true, .items a))) : CALL c A L (.bi "dict.items") [.ref a] m H Q := by
  rintro cf cvs rfl hvs g s R
  obtain ⟨_, rfl, rfl⟩ := hvs.inv1
  obtain ⟨kvs, hdo, hr, hs⟩ := R.isDict ha
  obtain ⟨R₁, hD⟩ := R.new (o := .items a) (h' := s.heap.push { cls := .type "dict_items", data := .fields #[.ref a] }) (fun _ _ e => Heap.get?_push_of_some _ e) (Heap.get?_none_of_le (Nat.le_refl _)) (Heap.get?_push_size _ rfl) rfl (Nat.ne_of_gt R.room)
  exact call_meetsIn PySem.F.slot_dict_items hdo.typeIs PySem.F.entry_dict_items (PySem.F.args_dict_items_1 _) (meets_dict_items (intKind c.prog c.w) a hs) ⟨⟨_, hdo⟩, ⟨_, s.toks, m, _, rfl, R₁, rfl, _, VR.ref _, h _ hD⟩⟩
theorem call_values {a : Addr} {b : Bool} {l : List (Int × V)} (ha : H a = some (b, .dict l)) (h : ∀ D, H D = none → Q (.ref D) (upd H D (true, .vals a))) : CALL c A L (.bi "dict.values") [.ref a] m H Q := by
  rintro cf cvs rfl hvs g s R
  obtain ⟨_, rfl, rfl⟩ := hvs.inv1
  obtain ⟨kvs, hdo, hr, hs⟩ := R.isDict ha
  obtain ⟨R₁, hD⟩ := R.new (o := .vals a) (h' := s.heap.push { cls := .type "dict_values", data := .fields #[.ref a] }) (fun _ _ e => Heap.get?_push_of_some _ e) (Heap.get?_none_of_le (Nat.le_refl _)) (Heap.get?_push_size _ rfl) rfl (Nat.ne_of_gt R.room)
  exact call_meetsIn PySem.F.slot_dict_values hdo.typeIs PySem.F.entry_dict_values (PySem.F.args_dict_values_1 _) (meets_dict_values (intKind c.prog c.w) a hs) ⟨⟨_, hdo⟩, ⟨_, s.toks, m, _, rfl, R₁, rfl, _, VR.ref _, h _ hD⟩⟩
theorem WA.pair {x y : Str} {px py : Pos} {k : Nat} {pos : Pos} {a : Addr} {b : Bool} {v w : V} {Q : Loc → Sto → Prop} (hA : A.handled = none) (ha : H a = some (b, .tup [v, w])) (h : Q (setL (setL m x v) y w) H)
    (hx : env.kindOf x = some .local := by rfl) (hy : env.kindOf y = some .local := by rfl) (hk : env.scope.kind = .function := by rfl) : WA c A env (.Tuple [.Name x px, .Name y py] k pos) (.ref a) m H Q := by
  rintro cv rfl g s R
  obtain ⟨⟨ob, e1, ⟨vs, n, rfl, hv⟩, _⟩, _⟩ := R.ob a _ _ ha
  obtain ⟨cv, cw, e, h1, h2⟩ := hv.inv2
  have hsz : vs.size = 2 := by simpa using congrArg List.length e
  refine wpAny_assign_Tuple hA (items := vs) ⟨_, e1, rfl, n, rfl⟩ (by rw [hsz]; rfl) rfl fun h' he => ?_
  rw [e]
  obtain ⟨f1, f2, f3⟩ := free_push R
  have R₁ : Rel c g env.locals m H h' := R.but f1 f2 f3 fun b o hb e => he b o hb e
  show wpAny _ _ (do holding [cw] (assign (.Name x px) env cv); do holding [] (assign (.Name y py) env cw); pure ()) _ _ _
  refine wpAny_bind (wpAny_holding (wpAny_assign_Name (store_loc (s := { s with heap := h' }) R₁ h1 hx hk fun h₂ tk₂ R₂ => ?_)))
  refine wpAny_bind (wpAny_holding (wpAny_assign_Name (store_loc (s := { s with heap := h₂, toks := tk₂ }) R₂ h2 hy hk fun h₃ tk₃ R₃ => ?_)))
  exact wpAny_pure ⟨h₃, tk₃, _, H, rfl, R₃, h⟩
theorem W1.assign_pair {x y : Str} {px py : Pos} {k : Nat} {p : Pos} {e : Expr} {pos : Pos} {Q : SPost} (h : WE c A env e m H (fun v H₁ => WA c A env (.Tuple [.Name x px, .Name y py] k p) v m H₁ (fun m' H' => Q .next m' H')))
    (hs : swapsWithSole [.Tuple [.Name x px, .Name y py] k p] e pos.line env = pure false := by rfl)
    (hw : swappedStores [.Tuple [.Name x px, .Name y py] k p] e env = pure none := by rfl) : W1 c A env (.Assign [.Tuple [.Name x px, .Name y py] k p] e pos) m H Q := fun g s R =>
  PyProof.Rows.Assign_Tuple (stepV h R fun v cv h₁ tk₁ H₁ R₁ hv q => step_wp (q cv hv) R₁ fun _ h₂ tk₂ m₂ H₂ R₂ q => endS R₂ (fl := .next) rfl q) hs hw
inductive PairP (Q : V → V → Sto → Prop) (v : V) (H₁ : Sto) : Prop where
  | mk (a : Addr) (b : Bool) (v₁ w₁ : V) (e : v = .ref a) (ha : H₁ a = some (b, .tup [v₁, w₁])) (q : Q v₁ w₁ H₁) : PairP Q v H₁
theorem W1.assign_pairS {x y : Str} {px py : Pos} {k : Nat} {p : Pos} {e : Expr} {pos : Pos} {Q : SPost} (hA : A.handled = none)
    (h : WE c A env e m H (PairP fun v₁ w₁ H₁ => Q .next (setL (setL m y w₁) x v₁) H₁))
    (hs : swapsWithSole [.Tuple [.Name x px, .Name y py] k p] e pos.line env = pure false := by rfl)
    (hw : swappedStores [.Tuple [.Name x px, .Name y py] k p] e env = pure (some [x, y]) := by rfl) 
    (hx : env.kindOf x = some .local := by rfl) (hy : env.kindOf y = some .local := by rfl) (hk : env.scope.kind = .function := by rfl) : W1 c A env (.Assign [.Tuple [.Name x px, .Name y py] k p] e pos) m H Q := fun g s R =>
  PyProof.Rows.Assign_Tuple_swapped (stepV h R fun v cv h₁ tk₁ H₁ R₁ hv ⟨a, b, v₁, w₁, e, ha, q⟩ => by
    subst e; cases hv
    obtain ⟨⟨ob, e1, ⟨vs, n, rfl, hv⟩, _⟩, _⟩ := R₁.ob a _ _ ha
    obtain ⟨cv, cw, e, h1, h2⟩ := hv.inv2
    have hsz : vs.size = 2 := by simpa using congrArg List.length e
    have hn2 : ([x, y] : List Str).length = vs.size := by rw [hsz]; rfl
    rw [hn2]
    refine wpAny_unpackItems_tuple hA (items := vs) ⟨_, e1, rfl, n, rfl⟩ fun h' he => ?_
    rw [e]
    obtain ⟨f1, f2, f3⟩ := free_push (s := { s with heap := h₁, toks := tk₁ }) R₁
    have R₂ : Rel c g env.locals m H₁ h' := R₁.but f1 f2 f3 fun b o hb e => he b o hb e
    show wpAny _ _ (do holding [cv] (bindName env y cw); do holding [] (bindName env x cv); pure ()) _ _ _
    refine wpAny_bind (wpAny_holding (wpAny_bindName (store_loc (s := { s with heap := h', toks := tk₁ }) R₂ h2 hy hk fun h₂ tk₂ R₂ => ?_)))
    refine wpAny_bind (wpAny_holding (wpAny_bindName (store_loc (s := { s with heap := h₂, toks := tk₂ }) R₂ h1 hx hk fun h₃ tk₃ R₃ => ?_)))
    exact wpAny_pure (endS (s := s) R₃ (fl := .next) rfl q)) hs hw
theorem DR.at {l : List (Int × V)} {kvs : List (Int × Value)} (h : DR l kvs) {i : Nat} {k : Int} {cv : Value} (e : kvs[i]? = some (k, cv)) : ∃ v, l[i]? = some (k, v) ∧ VR v cv := by
  obtain ⟨v, e1, hv⟩ := h.2.get (i := i) (cv := cv) (by simp [e])
  have e2 : (l.map (·.1))[i]? = some k := by rw [h.1]; simp [e]
  simp only [List.getElem?_map, Option.map_eq_some_iff] at e1 e2
  obtain ⟨p, hp, rfl⟩ := e1
  obtain ⟨q, hq, rfl⟩ := e2
  rw [hp] at hq; cases hq
  exact ⟨p.2, hp, hv⟩
theorem WF.items {x y : Str} {px py p : Pos} {k₀ : Nat} {body ipos} {vw d : Addr} {bv : Bool} {l : List (Int × V)} {Q : SPost} (hA : A.handled = none) (hv : H vw = some (bv, .items d)) (hd : H d = some (false, .dict l)) (Inv : Nat → Loc → Sto → Prop) (h0 : Inv 0 m H)
    (turn : ∀ i k v m H, l[i]? = some (k, v) → Inv i m H → WS c A env body (setL (setL m x (.int k)) y v) H (Turn (Wk (Inv (i + 1))) Q))
    (done : ∀ m H, Inv l.length m H → Q .next m H)
    (hx : env.kindOf x = some .local := by rfl) (hy : env.kindOf y = some .local := by rfl) (hk : env.scope.kind = .function := by rfl) : WF c A env (.Tuple [.Name x px, .Name y py] k₀ p) body ipos (.ref vw) m H Q := by
  rintro cx rfl g s R
  obtain ⟨⟨ov, hov, rfl, _⟩, _⟩ := R.ob vw _ _ hv
  obtain ⟨⟨ob, e1, ⟨kvs, hdo, hr1, hr2⟩, e3⟩, _, _, hsys⟩ := R.ob d _ _ hd
  have hr : DR l kvs := ⟨hr1, hr2⟩
  obtain ⟨es, ep, q⟩ := hdo
  have hm : s.heap.DictAt (intKind c.prog c.w) d kvs ep := ⟨ob, es, e1, q⟩
  refine wpAny_bind (wpAny_standAt (wpAny_bind (wpAny_holding (wpAny_pyIter_items (knd := intKind c.prog c.w) ⟨_, hov, rfl, rfl⟩ hm (wpAny_runOwn ?_)))))
  obtain ⟨gI, LI, HI⟩ := free_push R
  generalize hIe : s.heap.objs.size = I at gI LI HI ⊢
  have gd : g d = some (false, ob) := e3 rfl
  have dI : d ≠ I := by rintro rfl; rw [gI] at gd; cases gd
  have Rp : Rel c g env.locals m H (s.heap.push { cls := .type "dict_itemiterator", data := .fields #[.none, .bool false, .ref d, .int 0 0, .int kvs.length 0, .int ep 0, .none, .none] }) := R.ext fun _ _ e => Heap.get?_push_of_some _ e
  have hitp : IsItemIter (s.heap.push { cls := .type "dict_itemiterator", data := .fields #[.none, .bool false, .ref d, .int 0 0, .int kvs.length 0, .int ep 0, .none, .none] }) I d 0 kvs.length ep .none .none := by
    rw [← hIe]; exact Heap.get?_push_size _ rfl
  refine codeAny_forLoop_any (A := A) (LoopI c g env.locals I (fun i h => ∃ ok ov, IsItemIter h I d i kvs.length ep ok ov) Inv l.length s) ?_ (l.length + 1) (.mk 0 _ s.toks m H Rp HI ⟨_, _, hitp⟩ h0 (Nat.zero_le _))
  clear hov h0 hm Rp hitp
  intro n s' hL
  cases hL with | mk i h' tk m' H' R' HI' hst' hI' hle => ?_
  obtain ⟨ok, ov, hit'⟩ := hst'
  have hmd : h'.DictAt (intKind c.prog c.w) d kvs ep := ⟨ob, es, R'.keep d _ _ gd, q⟩
  cases hkv : kvs[i]? with
  | none =>
    have hin : i = l.length := by rw [hr.length] at hle ⊢; exact Nat.le_antisymm hle (by simpa using hkv)
    subst hin
    refine wpAny_pyNext_items_end hA hit' hmd hkv fun h₁ he₁ => wpAny_execs_nil ?_
    have R₁ : Rel c g env.locals m' H' h₁ := R'.but gI LI HI' fun b o hb e => he₁ b o hb e
    exact endS (s := s) R₁ (fl := .next) rfl (done m' H' hI')
  | some kv =>
    obtain ⟨k, cv⟩ := kv
    obtain ⟨v, hlv, hvr⟩ := hr.at hkv
    have hlt : i < l.length := (List.getElem?_eq_some_iff.mp hlv).1
    refine wpAny_pyNext_items_item hit' hmd hkv fun key h₁ hkey heo ht₁ hz₁ hk₁ => ?_
    refine wpAny_letOwnedTupleGo_items heo fun h₂ he₂ hs₂ => ?_
    have hiH : I < h'.objs.size := Heap.lt_size hit'
    replace hs₂ : Heap.SameBut I h₁ h₂ := hs₂
    have ht₂ : h₂.IsTuple h'.objs.size #[key, cv] := ⟨_, (hs₂.2 _ (Nat.ne_of_gt hiH)).trans ht₁, rfl, _, rfl⟩
    have hz₂ : h₂.objs.size = h'.objs.size + 1 := hs₂.1.trans hz₁
    have R₂ : Rel c g env.locals m' H' h₂ := R'.but gI LI HI' fun b o hb e => (hs₂.2 b hb).trans (hk₁ b o hb e)
    refine wpAny_assign_Tuple hA ht₂ rfl rfl fun h₃ hx₃ => ?_
    replace hx₃ : Heap.ExtBut h₂.objs.size h₂ h₃ := hx₃
    obtain ⟨f1, f2, f3⟩ := free_push (s := { s with heap := h₂ }) R₂
    have R₃ : Rel c g env.locals m' H' h₃ := R₂.but f1 f2 f3 fun b o hb e => hx₃ b o hb e
    have hI₃ : IsItemIter h₃ I d (i + 1) kvs.length ep key cv := hx₃ I _ (by rw [hz₂]; exact Nat.ne_of_lt (Nat.lt_succ_of_lt hiH)) he₂
    obtain ⟨t, rfl⟩ := Value.isInt_shape hkey
    have two : TR c A env.locals (do holding [cv] (assign (.Name x px) env (.int k t)); do holding [] (assign (.Name y py) env cv); pure ()) m' H' (fun _ m₂ H₂ => m₂ = setL (setL m' x (.int k)) y v ∧ H₂ = H') := by
      intro g s R
      refine wpAny_bind (wpAny_holding (wpAny_assign_Name (store_loc (s := s) R (VR.int k t) hx hk fun h₂ tk₂ R₂ => ?_)))
      refine wpAny_bind (wpAny_holding (wpAny_assign_Name (store_loc (s := { s with heap := h₂, toks := tk₂ }) R₂ hvr hy hk fun h₃ tk₃ R₃ => ?_)))
      exact wpAny_pure ⟨h₃, tk₃, _, H', rfl, R₃, rfl, rfl⟩
    show wpAny _ _ (do holding [cv] (assign (.Name x px) env (.int k t)); do holding [] (assign (.Name y py) env cv); pure ()) _ _ _
    refine holdAt (s := { s with heap := h₃, toks := tk }) two R₃ gI hI₃ LI HI' fun h₄ tk₄ R₄ hI₄ HI₄ => ?_
    refine hold (s := { s with heap := h₄, toks := tk₄ }) (turn i k v m' H' hlv hI') R₄ gI hI₄ LI HI₄ fun f h₅ tk₅ m₅ H₅ R₅ hI₅ HI₅ q => ?_
    exact turned q (fun q => LoopI.next (s := s) (tk := tk₅) R₅ HI₅ ⟨_, _, hI₅⟩ hlt (Inv := Inv) q) (fun q => endS (s := s) R₅ (fl := .next) rfl q) (fun v cv hv q => endS (s := s) R₅ (fl := .ret v) ⟨cv, rfl, hv⟩ q)
end
end Mine
end
section
open PySem PySem.W
set_option maxRecDepth 100000
set_option maxHeartbeats 8000000
set_option linter.all false
namespace Mine
theorem preSum_take (ns : List Int) : ∀ j, preSum (fun i => ns.getD i 0) j = (ns.take j).sum
  | 0 => by simp [preSum]
  | j + 1 => by rw [preSum, preSum_take ns j, sum_take_succ]
theorem sum_bound {ns : List Int} {B : Int} (hB : 0 ≤ B) (h : ∀ x ∈ ns, 0 ≤ x ∧ x ≤ B) : 0 ≤ ns.sum ∧ ns.sum ≤ ns.length * B := by
  induction ns with
  | nil => simp
  | cons a l ih =>
    obtain ⟨h1, h2⟩ := ih fun x hx => h x (List.mem_cons_of_mem _ hx)
    have := h a List.mem_cons_self
    simp only [List.sum_cons, List.length_cons]
    have e : ((l.length + 1 : Nat) : Int) * B = l.length * B + B := by rw [Int.natCast_add, Int.add_mul]; simp
    rw [e]; lia
theorem VRs.ints {ns : List Int} {vs : List Value} (h : VRs (ns.map .int) vs) {i : Nat} {v : Value} (e : vs[i]? = some v) : i < ns.length ∧ ∃ t, v = .int (ns.getD i 0) t := by
  obtain ⟨w, e1, hv⟩ := h.get e
  simp only [List.getElem?_map, Option.map_eq_some_iff] at e1
  obtain ⟨n, hn, rfl⟩ := e1
  obtain ⟨t, rfl⟩ := hv
  exact ⟨(List.getElem?_eq_some_iff.mp hn).1, t, by rw [List.getD_eq_getElem?_getD, hn]; rfl⟩
theorem VRs.intsAre : ∀ {ns : List Int} {vs : List Value}, VRs (ns.map .int) vs → PyProof.Rows.IntsAre vs ns := by
  intro ns
  induction ns with
  | nil => intro vs h; rw [h.inv0]; exact .nil
  | cons n ns ih =>
    intro vs h
    simp only [List.map_cons] at h
    cases h with
    | cons hv h => obtain ⟨t, rfl⟩ := hv; exact .cons _ _ (ih h)
theorem VRs.ofInts : ∀ {ns : List Int} {vs : List Value}, PyProof.Rows.IntsAre vs ns → VRs (ns.map .int) vs := by
  intro ns vs h
  induction h with
  | nil => exact .nil
  | cons _ _ _ ih => exact .cons ⟨_, rfl⟩ ih
section
variable {c : Cx} {A : Around} {L : Addr} {m : Loc} {H : Sto} {env : Env} {g : Fm} {s : Shared} {Q : V → Sto → Prop}
theorem call_sum {a : Addr} {b : Bool} {ns : List Int} (hA : A.handled = none) (ha : H a = some (b, .list (ns.map .int))) (hn : ns.length ≤ 1000000) (hb : ∀ x ∈ ns, 0 ≤ x ∧ x ≤ 1000000000) (h : Q (.int ns.sum) H) : CALL c A L (.bi "sum") [.ref a] m H Q := by
  rintro cf cvs rfl hvs g s R
  obtain ⟨_, rfl, rfl⟩ := hvs.inv1
  obtain ⟨vs, hL, hv, hz⟩ := R.isList ha
  rw [List.length_map] at hz
  refine call_sum_walk (wpAny_pyIter_list hL ?_)
  have hlt : a < s.heap.objs.size := let ⟨o, e, _⟩ := hL; Heap.lt_size e
  obtain ⟨f1, f2, f3⟩ := free_push R
  refine ⟨s.heap.objs.size, _, _, _, _, _, fun i => ns.getD i 0, rfl, Walks.list (prog := c.prog) (w := c.w) (by simpa using hA) s.heap.objs.size a (Nat.ne_of_lt hlt) vs, ⟨⟨_, Heap.get?_push_size _ rfl, rfl, rfl⟩, hL.push _⟩, ?_, fun i v e => (hv.ints (by simpa using e)).2, ?_, ?_⟩
  · intro b hb
    show b < (s.heap.push _).objs.size
    rw [Heap.size_push]
    rcases List.mem_cons.mp hb with rfl | hb
    · exact Nat.lt_succ_self _
    · rw [List.mem_singleton.mp hb]; exact Nat.lt_succ_of_lt hlt
  · intro j hj
    rw [hz] at hj
    have h1 := hb _ (getD_mem hj)
    have h2 := sum_bound (ns := ns.take (j + 1)) (B := 1000000000) (by lia) fun x hx => hb x (List.mem_of_mem_take hx)
    rw [preSum_take]
    have h3 : (ns.take (j + 1)).length ≤ 1000000 := Nat.le_trans (List.length_take_le' ..) hn
    have h4 : ((ns.take (j + 1)).length : Int) * 1000000000 ≤ 1000000 * 1000000000 := Int.mul_le_mul_of_nonneg_right (by lia) (by lia)
    show (-(2 ^ 63) ≤ ns.getD j 0 ∧ ns.getD j 0 < 2 ^ 63) ∧ (-(2 ^ 63) ≤ (ns.take (j + 1)).sum ∧ (ns.take (j + 1)).sum < 2 ^ 63)
    generalize ns.getD j 0 = x1 at h1 ⊢
    generalize (ns.take (j + 1)).sum = x2 at h2 ⊢
    refine ⟨⟨?_, ?_⟩, ?_, ?_⟩ <;> lia
  · intro h' tk t' hk
    refine ⟨h', tk, m, H, rfl, (R.ext fun _ _ e => Heap.get?_push_of_some _ e).but f1 f2 f3 fun b o hb e => hk b o (by simpa using hb) e, rfl, .int ns.sum, ⟨t', ?_⟩, h⟩
    rw [preSum_take, hz, List.take_length]
theorem cmp_ints {P₀ : Nat → Value → Prop} {num : Nat → Int} (hP : ∀ i v, P₀ i v → ∃ t, v = .int (num i) t) : CmpOf c.prog c.w A .Gt P₀ (fun i j => decide (num i > num j)) ∧ CmpOf c.prog c.w A .Lt P₀ (fun i j => decide (num i < num j)) := by
  constructor
  all_goals
    intro i j vi vj s Q E hi hj hQ
    obtain ⟨t, rfl⟩ := hP _ _ hi
    obtain ⟨u, rfl⟩ := hP _ _ hj
  · exact PySem.P.gt_int hQ
  · exact PySem.P.lt_int hQ
theorem call_max {a : Addr} {b : Bool} {ns : List Int} (hA : A.handled = none) (ha : H a = some (b, .list (ns.map .int))) (h0 : ns ≠ []) (h : ∀ x, x ∈ ns → (∀ y ∈ ns, y ≤ x) → Q (.int x) H) : CALL c A L (.bi "max") [.ref a] m H Q := by
  rintro cf cvs rfl hvs g s R
  obtain ⟨_, rfl, rfl⟩ := hvs.inv1
  obtain ⟨vs, hL, hv, hz⟩ := R.isList ha
  rw [List.length_map] at hz
  refine call_max_walk (wpAny_pyIter_list hL ?_)
  have hlt : a < s.heap.objs.size := let ⟨o, e, _⟩ := hL; Heap.lt_size e
  have hpos : 0 < ns.length := List.length_pos_iff.mpr h0
  obtain ⟨f1, f2, f3⟩ := free_push R
  have hP : ∀ i v, vs[i]? = some v → ∃ t, v = Value.int (ns.getD i 0) t := fun i v e => (hv.ints (by simpa using e)).2
  refine ⟨s.heap.objs.size, _, _, _, _, _, _, rfl, Walks.list (prog := c.prog) (w := c.w) (by simpa using hA) s.heap.objs.size a (Nat.ne_of_lt hlt) vs, ⟨⟨_, Heap.get?_push_size _ rfl, rfl, rfl⟩, hL.push _⟩, ?_, by lia, (cmp_ints (num := fun i => ns.getD i 0) hP).1, ?_⟩
  · intro b hb
    show b < (s.heap.push _).objs.size
    rw [Heap.size_push]
    rcases List.mem_cons.mp hb with rfl | hb
    · exact Nat.lt_succ_self _
    · rw [List.mem_singleton.mp hb]; exact Nat.lt_succ_of_lt hlt
  · intro v h' tk hv' hk
    obtain ⟨h1, h2⟩ := argBest_gt (fun i => ns.getD i 0) (vs.size - 1)
    obtain ⟨t, rfl⟩ := hP _ _ hv'
    refine ⟨h', tk, m, H, rfl, (R.ext fun _ _ e => Heap.get?_push_of_some _ e).but f1 f2 f3 fun b o hb e => hk b o (by simpa using hb) e, rfl, _, VR.int _ t, h _ (getD_mem (by lia)) fun y hy => ?_⟩
    obtain ⟨j, hj, rfl⟩ := mem_getD hy
    exact h2 j (by lia)
theorem call_min_vals {a d : Addr} {b b' : Bool} {D : List (Int × Int)} (hA : A.handled = none) (ha : H a = some (b, .vals d)) (hd : H d = some (b', .dict (D.map fun p => (p.1, .int p.2)))) (h0 : D ≠ []) (h : ∀ x, x ∈ D.map (·.2) → (∀ y ∈ D.map (·.2), x ≤ y) → Q (.int x) H) :
    CALL c A L (.bi "min") [.ref a] m H Q := by
  rintro cf cvs rfl hvs g s R
  obtain ⟨_, rfl, rfl⟩ := hvs.inv1
  obtain ⟨⟨ov, hov, rfl, _⟩, _⟩ := R.ob a _ _ ha
  obtain ⟨⟨ob, e1, ⟨kvs, hdo, hr1, hr2⟩, _⟩, _, _, _⟩ := R.ob d _ _ hd
  have hr : DR (D.map fun p => (p.1, V.int p.2)) kvs := ⟨hr1, hr2⟩
  have hz : kvs.length = D.length := by rw [← hr.length, List.length_map]
  obtain ⟨es, ep, q⟩ := hdo
  have hm : s.heap.DictAt (intKind c.prog c.w) d kvs ep := ⟨ob, es, e1, q⟩
  have hlt : d < s.heap.objs.size := Heap.lt_size e1
  have hpos : 0 < D.length := List.length_pos_iff.mpr h0
  obtain ⟨f1, f2, f3⟩ := free_push R
  have hP : ∀ i v, (∃ k, kvs[i]? = some (k, v)) → ∃ t, v = Value.int ((D.map (·.2)).getD i 0) t := by
    rintro i v ⟨k, e⟩
    obtain ⟨w, e2, hv⟩ := hr.at e
    simp only [List.getElem?_map, Option.map_eq_some_iff] at e2
    obtain ⟨p, hp, e3⟩ := e2
    cases e3
    obtain ⟨t, rfl⟩ := hv
    exact ⟨t, by simp [List.getD_eq_getElem?_getD, hp]⟩
  refine call_min_walk (wpAny_pyIter_values (knd := intKind c.prog c.w) ⟨_, hov, rfl, rfl⟩ hm ?_)
  refine ⟨s.heap.objs.size, _, _, _, _, _, _, rfl, Walks.dictValues (prog := c.prog) (w := c.w) (knd := intKind c.prog c.w) (by simpa using hA) s.heap.objs.size d (Nat.ne_of_lt hlt) kvs ep, ⟨⟨_, Heap.get?_push_size _ rfl, rfl, rfl⟩, hm.push _⟩, ?_, by lia, (cmp_ints (num := fun i => (D.map (·.2)).getD i 0) hP).2, ?_⟩
  · intro b hb
    show b < (s.heap.push _).objs.size
    rw [Heap.size_push]
    rcases List.mem_cons.mp hb with rfl | hb
    · exact Nat.lt_succ_self _
    · rw [List.mem_singleton.mp hb]; exact Nat.lt_succ_of_lt hlt
  · intro v h' tk hv' hk
    obtain ⟨h1, h2⟩ := argBest_lt (fun i => (D.map (·.2)).getD i 0) (kvs.length - 1)
    obtain ⟨t, rfl⟩ := hP _ _ hv'
    refine ⟨h', tk, m, H, rfl, (R.ext fun _ _ e => Heap.get?_push_of_some _ e).but f1 f2 f3 fun b o hb e => hk b o (by simpa using hb) e, rfl, _, VR.int _ t, h _ (getD_mem (by rw [List.length_map]; exact Nat.lt_of_le_of_lt h1 (by lia))) fun y hy => ?_⟩
    obtain ⟨j, hj, rfl⟩ := mem_getD hy
    exact h2 j (by simp at hj; lia)
theorem call_max2 {x y : Int} (hA : A.handled = none) (h : Q (.int (max x y)) H) : CALL c A L (.bi "max") [.int x, .int y] m H Q := by
  rintro cf cvs rfl hvs g s R
  obtain ⟨_, _, rfl, ⟨t, rfl⟩, ⟨u, rfl⟩⟩ := hvs.inv2
  have R₁ : Rel c g L m H (s.heap.push { cls := .type "tuple", data := .seq #[.int x t, .int y u] }) := R.ext fun _ _ e => Heap.get?_push_of_some _ e
  have ht : (s.heap.push { cls := .type "tuple", data := .seq #[.int x t, .int y u] }).IsTuple s.heap.objs.size #[.int x t, .int y u] := ⟨_, Heap.get?_push_size _ rfl, rfl, _, rfl⟩
  refine call_max_two (wpAny_pyIter_tuple ht ?_)
  have hsz : (s.heap.push { cls := .type "tuple", data := .seq #[.int x t, .int y u] }).objs.size = s.heap.objs.size + 1 := Heap.size_push ..
  obtain ⟨f1, f2, f3⟩ := free_push (s := { s with heap := s.heap.push { cls := .type "tuple", data := .seq #[.int x t, .int y u] } }) R₁
  have hP : ∀ i v, (#[.int x t, .int y u] : Array Value)[i]? = some v → ∃ t, v = Value.int ([x, y].getD i 0) t := by
    intro i v e
    match i, e with
    | 0, e => simp at e; subst e; exact ⟨t, rfl⟩
    | 1, e => simp at e; subst e; exact ⟨u, rfl⟩
    | i + 2, e => simp at e
  refine ⟨_, _, _, _, _, _, _, rfl, Walks.tuple (prog := c.prog) (w := c.w) (by simpa using hA) _ s.heap.objs.size (by show _ ≠ (s.heap.push _).objs.size; rw [hsz]; exact Nat.ne_of_lt (Nat.lt_succ_self _)) #[.int x t, .int y u], ⟨⟨_, Heap.get?_push_size _ rfl, rfl, rfl⟩, ht.push _⟩, ?_, by simp, (cmp_ints (num := fun i => [x, y].getD i 0) hP).1, ?_⟩
  · intro b hb
    show b < ((s.heap.push _).push _).objs.size
    rw [Heap.size_push, hsz]
    rcases List.mem_cons.mp hb with rfl | hb
    · show (s.heap.push _).objs.size < _; rw [hsz]; exact Nat.lt_succ_self _
    · rw [List.mem_singleton.mp hb]; exact Nat.lt_succ_of_lt (Nat.lt_succ_self _)
  · intro v h' tk hv' hk
    obtain ⟨h1, h2⟩ := argBest_gt (fun i => [x, y].getD i 0) 1
    obtain ⟨w, rfl⟩ := hP _ _ hv'
    refine ⟨h', tk, m, H, rfl, (R₁.ext fun _ _ e => Heap.get?_push_of_some _ e).but f1 f2 f3 fun b o hb e => hk b o (by simpa using hb) e, rfl, _, VR.int _ w, ?_⟩
    have : [x, y].getD (argBest (fun i j => decide ([x, y].getD i 0 > [x, y].getD j 0)) 1) 0 = max x y := by
      simp only [argBest]
      by_cases hc : y > x
      · simp [hc]; lia
      · simp [hc]; lia
    show Q (.int ([x, y].getD (argBest _ 1) 0)) H
    rw [this]; exact h
theorem call_abs {x : Int} (h : Q (.int (if x < 0 then -x else x)) H) : CALL c A L (.bi "abs") [.int x] m H Q := by
  rintro cf cvs rfl hvs g s R
  obtain ⟨_, rfl, ⟨t, rfl⟩⟩ := hvs.inv1
  exact PyProof.Rows.call_abs_int fun u tk => ⟨s.heap, tk, m, H, rfl, R, rfl, _, VR.int _ u, h⟩
theorem call_range1 {n : Int} (h : ∀ D, H D = none → Q (.ref D) (upd H D (true, .rng 0 n))) : CALL c A L (.ty "range") [.int n] m H Q := by
  rintro cf cvs rfl hvs g s R
  obtain ⟨_, rfl, ⟨t, rfl⟩⟩ := hvs.inv1
  obtain ⟨R₁, hD⟩ := R.new (o := .rng 0 n) (h' := s.heap.push { cls := .type "range", data := .fields #[.int 0 s.toks, .int n t, .int 1 (s.toks + 1)] }) (fun _ _ e => Heap.get?_push_of_some _ e) (Heap.get?_none_of_le (Nat.le_refl _)) (Heap.get?_push_size _ rfl) ⟨_, _, _, rfl⟩ (Nat.ne_of_gt R.room)
  exact call_range_1 ⟨_, _, m, _, rfl, R₁, rfl, _, VR.ref _, h _ hD⟩
theorem call_range2 {a n : Int} (h : ∀ D, H D = none → Q (.ref D) (upd H D (true, .rng a n))) : CALL c A L (.ty "range") [.int a, .int n] m H Q := by
  rintro cf cvs rfl hvs g s R
  obtain ⟨_, _, rfl, ⟨t, rfl⟩, ⟨u, rfl⟩⟩ := hvs.inv2
  obtain ⟨R₁, hD⟩ := R.new (o := .rng a n) (h' := s.heap.push { cls := .type "range", data := .fields #[.int a t, .int n u, .int 1 s.toks] }) (fun _ _ e => Heap.get?_push_of_some _ e) (Heap.get?_none_of_le (Nat.le_refl _)) (Heap.get?_push_size _ rfl) ⟨_, _, _, rfl⟩ (Nat.ne_of_gt R.room)
  exact call_range_2 ⟨_, _, m, _, rfl, R₁, rfl, _, VR.ref _, h _ hD⟩
theorem call_sorted {a : Addr} {b : Bool} {ns : List Int} (ha : H a = some (b, .list (ns.map .int))) (hn : ns.length < 64) (h : ∀ (ms : List Int) D, ms.Perm ns → ms.Pairwise (· ≤ ·) → H D = none → Q (.ref D) (upd H D (true, .list (ms.map .int)))) : CALL c A L (.bi "sorted") [.ref a] m H Q := by
  rintro cf cvs rfl hvs g s R
  obtain ⟨_, rfl, rfl⟩ := hvs.inv1
  obtain ⟨vs, hL, hv, hz⟩ := R.isList ha
  rw [List.length_map] at hz
  refine PyProof.Rows.sorted_ints (l := a) (vs := vs.toList) (by simpa using hL) hv.intsAre (by simpa using (by lia : vs.size < 64)) fun out ns' h1 h2 h3 => ?_
  obtain ⟨e, he⟩ := PyProof.Rows.sortedAll_at s.heap vs.toList out
  have hfree : s.heap.get? (s.heap.objs.size + 1) = none := Heap.get?_none_of_le (Nat.le_succ _)
  obtain ⟨R₁, hD⟩ := R.new (o := .list (ns'.map .int)) (fun _ _ e => PyProof.Rows.sortedAll_old e) hfree he ⟨_, _, rfl, VRs.ofInts h1⟩ (Nat.ne_of_gt (Nat.lt_succ_of_lt R.room))
  exact ⟨_, s.toks, m, _, rfl, R₁, rfl, _, VR.ref _, h _ _ h2 h3 hD⟩
end
end Mine
end
section
open PySem PySem.W PySem.SeqAt
set_option maxRecDepth 100000
set_option maxHeartbeats 8000000
set_option linter.all false
namespace Mine
inductive LI (H : Sto) (v : V) (ns : List Int) : Prop where
  | mk (a : Addr) (b : Bool) (e : v = .ref a) (ha : H a = some (b, .list (ns.map .int))) : LI H v ns
noncomputable def LLs (H : Sto) : List V → List (List Int) → Prop
  | [], [] => True
  | v :: vs, n :: ns => LI H v n ∧ LLs H vs ns
  | _, _ => False
inductive LL (H : Sto) (v : V) (nss : List (List Int)) : Prop where
  | mk (a : Addr) (b : Bool) (l : List V) (e : v = .ref a) (ha : H a = some (b, .list l)) (hl : LLs H l nss) : LL H v nss
theorem LLs.length {H : Sto} : ∀ {l : List V} {nss : List (List Int)}, LLs H l nss → l.length = nss.length
  | [], [], _ => rfl
  | v :: vs, n :: ns, h => by simp [LLs.length h.2]
  | [], _ :: _, h => h.elim
  | _ :: _, [], h => h.elim
theorem LLs.get {H : Sto} : ∀ {l : List V} {nss : List (List Int)}, LLs H l nss → ∀ {i : Nat} {v : V}, l[i]? = some v → ∃ ns, nss[i]? = some ns ∧ LI H v ns
  | [], [], _, i, v, e => by simp at e
  | v :: vs, n :: ns, h, 0, w, e => by simp at e; subst e; exact ⟨n, by simp, h.1⟩
  | v :: vs, n :: ns, h, i + 1, w, e => by simp at e; obtain ⟨x, a, b⟩ := h.2.get e; exact ⟨x, by simpa using a, b⟩
  | [], _ :: _, h, _, _, _ => h.elim
  | _ :: _, [], h, _, _, _ => h.elim
theorem LI.sub {H H' : Sto} {v : V} {ns : List Int} (h : LI H v ns) (hs : HSub H H') : LI H' v ns := let ⟨a, b, e, x⟩ := h; ⟨a, b, e, hs _ _ x⟩
theorem LLs.imp {H H' : Sto} (hi : ∀ v ns, LI H v ns → LI H' v ns) : ∀ {l : List V} {nss : List (List Int)}, LLs H l nss → LLs H' l nss
  | [], [], _ => trivial
  | v :: vs, n :: ns, h => ⟨hi _ _ h.1, LLs.imp hi h.2⟩
  | [], _ :: _, h => h.elim
  | _ :: _, [], h => h.elim
theorem LLs.snoc {H : Sto} : ∀ {l : List V} {nss : List (List Int)} {v : V} {ns : List Int}, LLs H l nss → LI H v ns → LLs H (l ++ [v]) (nss ++ [ns])
  | [], [], _, _, _, h => ⟨h, trivial⟩
  | v :: vs, n :: ns, _, _, h, h' => ⟨h.1, h.2.snoc h'⟩
  | [], _ :: _, _, _, h, _ => h.elim
  | _ :: _, [], _, _, h, _ => h.elim
theorem all_range {α : Type} [BEq α] [LawfulBEq α] {l l' : List α} (hl : l.length = l'.length) {n : Nat} (hn : n = l.length) {e : Nat → Bool} (he : ∀ j (h1 : j < l.length) (h2 : j < l'.length), e j = (l[j] == l'[j])) : (List.range n).all e = (l == l') := by
  subst hn
  rw [Bool.eq_iff_iff, List.all_eq_true, beq_iff_eq]
  constructor
  · intro h
    refine List.ext_getElem hl fun j h1 h2 => ?_
    have := h j (List.mem_range.mpr h1)
    rw [he j h1 h2] at this
    exact eq_of_beq this
  · rintro rfl j hj
    have := List.mem_range.mp hj
    rw [he j this this]; exact beq_self_eq_true _
theorem map_int_inj {ns ms : List Int} (h : ns.map V.int = ms.map V.int) : ns = ms := by
  induction ns generalizing ms with
  | nil => cases ms with | nil => rfl | cons _ _ => simp at h
  | cons n ns ih => cases ms with
    | nil => simp at h
    | cons k ms => simp only [List.map_cons, List.cons.injEq, V.int.injEq] at h; rw [h.1, ih h.2]
section
variable {c : Cx} {A : Around} {L : Addr} {m : Loc} {H : Sto} {env : Env} {g : Fm} {s : Shared} {Q : V → Sto → Prop}
theorem eqAt_items {ns ms : List Int} {vs ws : List Value} (hv : VRs (ns.map .int) vs) (hw : VRs (ms.map .int) ws) {j : Nat} {v w : Value} (h1 : vs[j]? = some v) (h2 : ws[j]? = some w) : EqAt A s v w (ns.getD j 0 == ms.getD j 0) := by
  obtain ⟨_, t, rfl⟩ := hv.ints h1
  obtain ⟨_, u, rfl⟩ := hw.ints h2
  exact EqAt.int_int _ _ _ _
theorem eqAt_ints {v w : V} {cv cw : Value} {ns ms : List Int} (hu : A.units + 1 < cLine) (R : Rel c g L m H s.heap) (h1 : LI H v ns) (h2 : LI H w ms) (hv : VR v cv) (hw : VR w cw) : EqAt A s cv cw (ns == ms) := by
  obtain ⟨a, b, rfl, ha⟩ := h1
  obtain ⟨a', b', rfl, ha'⟩ := h2
  cases hv; cases hw
  by_cases e : a = a'
  · subst e
    rw [ha] at ha'
    have : ns = ms := map_int_inj (by simpa using (Prod.mk.inj (Option.some.inj ha')).2)
    subst this
    rw [beq_self_eq_true]
    exact EqAt.same _
  · obtain ⟨vs, hL, hvs, hz⟩ := R.isList ha
    obtain ⟨ws, hL', hws, hz'⟩ := R.isList ha'
    rw [List.length_map] at hz hz'
    refine EqAt.of_refs e ?_
    by_cases hl : ns.length = ms.length
    · rw [← all_range hl (n := vs.size) (e := fun j => ns.getD j 0 == ms.getD j 0) hz fun j h1 h2 => by simp [List.getD_eq_getElem?_getD, h1, h2]]
      exact RcAt.lists hL hL' (by lia) (by lia) fun j h1 h2 => eqAt_items hvs hws (by simp) (by simp)
    · have : (ns == ms) = false := by rw [beq_eq_false_iff_ne]; rintro rfl; exact hl rfl
      rw [this]
      exact RcAt.lists_lengths hL hL' (by rw [bne_iff_ne]; lia) (by lia)
theorem ne_ints {v w : V} {ns ms : List Int} (hR : Room 0 A) (h1 : LI H v ns) (h2 : LI H w ms) (h : Q (.bool (ns != ms)) H) : OP2 c A L (compareOp .NotEq) v w m H Q := by
  intro cv cw hv hw g s R
  obtain ⟨a, b, rfl, ha⟩ := h1
  obtain ⟨a', b', rfl, ha'⟩ := h2
  cases hv; cases hw
  obtain ⟨vs, hL, hvs, hz⟩ := R.isList ha
  obtain ⟨ws, hL', hws, hz'⟩ := R.isList ha'
  rw [List.length_map] at hz hz'
  have hu : A.units < cLine := by have := hR.un; have : cLine = 9900 := rfl; lia
  by_cases hl : ns.length = ms.length
  · refine RcNeAt.lists (e := fun j => ns.getD j 0 == ms.getD j 0) hL hL' (by lia) hu (fun j h1 h2 => eqAt_items hvs hws (by simp) (by simp)) _ _ _ _ ?_
    rw [all_range hl hz fun j h1 h2 => by simp [List.getD_eq_getElem?_getD, h1, h2]]
    exact ⟨s.heap, s.toks, m, H, rfl, R, rfl, _, VR.bool _, h⟩
  · have e : (ns != ms) = true := by rw [bne_iff_ne]; rintro rfl; exact hl rfl
    rw [e] at h
    exact RcNeAt.lists_lengths hL hL' (by rw [bne_iff_ne]; lia) hu _ _ _ _ ⟨s.heap, s.toks, m, H, rfl, R, rfl, _, VR.bool _, h⟩
theorem eqAt_LLs (R : Rel c g L m H s.heap) (hu : A.units + 1 < cLine) {l l' : List V} {vs ws : List Value} {nss mss : List (List Int)} (h1 : LLs H l nss) (h2 : LLs H l' mss) (hv : VRs l vs) (hw : VRs l' ws) {j : Nat} {v w : Value} (e1 : vs[j]? = some v) (e2 : ws[j]? = some w) :
    EqAt A s v w (nss.getD j [] == mss.getD j []) := by
  obtain ⟨x, ex, hx⟩ := hv.get e1
  obtain ⟨y, ey, hy⟩ := hw.get e2
  obtain ⟨ns, en, hn⟩ := h1.get ex
  obtain ⟨ms, em, hm⟩ := h2.get ey
  rw [show nss.getD j [] = ns by simp [List.getD_eq_getElem?_getD, en], show mss.getD j [] = ms by simp [List.getD_eq_getElem?_getD, em]]
  exact eqAt_ints hu R hn hm hx hy
theorem ne_lists {v w : V} {nss mss : List (List Int)} (hR : Room 0 A) (h1 : LL H v nss) (h2 : LL H w mss) (h : Q (.bool (nss != mss)) H) : OP2 c A L (compareOp .NotEq) v w m H Q := by
  intro cv cw hv hw g s R
  obtain ⟨a, b, l, rfl, ha, hll⟩ := h1
  obtain ⟨a', b', l', rfl, ha', hll'⟩ := h2
  cases hv; cases hw
  obtain ⟨vs, hL, hvs, hz⟩ := R.isList ha
  obtain ⟨ws, hL', hws, hz'⟩ := R.isList ha'
  rw [hll.length] at hz
  rw [hll'.length] at hz'
  have hu : A.units + 2 < cLine := by have := hR.un; have : cLine = 9900 := rfl; lia
  by_cases hl : nss.length = mss.length
  · refine RcNeAt.lists (e := fun j => nss.getD j [] == mss.getD j []) hL hL' (by lia) (by lia) (fun j h1 h2 => eqAt_LLs R (by simp; lia) hll hll' hvs hws (by simp) (by simp)) _ _ _ _ ?_
    rw [all_range hl hz fun j h1 h2 => by simp [List.getD_eq_getElem?_getD, h1, h2]]
    exact ⟨s.heap, s.toks, m, H, rfl, R, rfl, _, VR.bool _, h⟩
  · have e : (nss != mss) = true := by rw [bne_iff_ne]; rintro rfl; exact hl rfl
    rw [e] at h
    exact RcNeAt.lists_lengths hL hL' (by rw [bne_iff_ne]; lia) (by lia) _ _ _ _ ⟨s.heap, s.toks, m, H, rfl, R, rfl, _, VR.bool _, h⟩
theorem LI.unique {v w : V} {cv : Value} {ns ms : List Int} (h1 : LI H v ns) (h2 : LI H w ms) (hv : VR v cv) (hw : VR w cv) : ns = ms := by
  obtain ⟨a, b, rfl, ha⟩ := h1
  obtain ⟨a', b', rfl, ha'⟩ := h2
  cases hv; cases hw
  rw [ha] at ha'
  exact map_int_inj (by simpa using (Prod.mk.inj (Option.some.inj ha')).2)
noncomputable def isLI (H : Sto) (ns : List Int) (y : Value) : Bool := @decide (∃ v, VR v y ∧ LI H v ns) (Classical.propDecidable _)
theorem isLI_eq {ns ms : List Int} {v : V} {y : Value} (hv : VR v y) (h : LI H v ms) : isLI H ns y = (ms == ns) := by
  classical
  unfold isLI
  rw [Bool.eq_iff_iff, decide_eq_true_iff, beq_iff_eq]
  constructor
  · rintro ⟨w, hw, h'⟩; exact h.unique h' hv hw
  · rintro rfl; exact ⟨v, hv, h⟩
theorem any_lists (ns : List Int) {l : List V} {vs : List Value} {nss : List (List Int)} (h : LLs H l nss) (hv : VRs l vs) : vs.any (isLI H ns) = nss.contains ns := by
  induction hv generalizing nss with
  | nil => cases nss with
    | nil => rfl
    | cons _ _ => exact h.elim
  | cons hv hr ih => cases nss with
    | nil => exact h.elim
    | cons ms nss =>
      rw [List.any_cons, isLI_eq hv h.1, ih h.2, List.contains_cons]
      congr 1
      rw [Bool.eq_iff_iff, beq_iff_eq, beq_iff_eq]; exact eq_comm
theorem eqAt_any (R : Rel c g L m H s.heap) (hu : A.units + 1 < cLine) {x : V} {cx : Value} {ns : List Int} {l : List V} {vs : List Value} {nss : List (List Int)} (hx : LI H x ns) (hcx : VR x cx) (h1 : LLs H l nss) (hv : VRs l vs) :
    ∀ y ∈ vs, EqAt A s y cx (isLI H ns y) := fun y hy => by
  obtain ⟨i, hi, e⟩ := List.getElem_of_mem hy
  obtain ⟨v, ev, hvr⟩ := hv.get (i := i) (cv := y) (by rw [List.getElem?_eq_getElem hi, e])
  obtain ⟨ms, em, hm⟩ := h1.get ev
  rw [isLI_eq hvr hm]
  exact eqAt_ints hu R hm hx hvr hcx
theorem in_lists {x w : V} {ns : List Int} {nss : List (List Int)} (hR : Room 0 A) (h1 : LI H x ns) (h2 : LL H w nss) (h : Q (.bool (nss.contains ns)) H) : OP2 c A L (compareOp .In) x w m H Q := by
  intro cv cw hv hw g s R
  obtain ⟨a', b', l', rfl, ha', hll'⟩ := h2
  cases hw
  obtain ⟨ws, hL', hws, hz'⟩ := R.isList ha'
  have hu : A.units + 2 < cLine := by have := hR.un; have : cLine = 9900 := rfl; lia
  refine in_listAt (isLI H ns) hL' (fun y hy => eqAt_any R (by simp; lia) h1 hv hll' hws y (by simpa using hy)) ?_
  rw [← Array.any_toList, any_lists ns hll' hws]
  exact ⟨s.heap, s.toks, m, H, rfl, R, rfl, _, VR.bool _, h⟩
theorem notin_lists {x w : V} {ns : List Int} {nss : List (List Int)} (hR : Room 0 A) (h1 : LI H x ns) (h2 : LL H w nss) (h : Q (.bool (!nss.contains ns)) H) : OP2 c A L (compareOp .NotIn) x w m H Q := by
  intro cv cw hv hw g s R
  obtain ⟨a', b', l', rfl, ha', hll'⟩ := h2
  cases hw
  obtain ⟨ws, hL', hws, hz'⟩ := R.isList ha'
  have hu : A.units + 2 < cLine := by have := hR.un; have : cLine = 9900 := rfl; lia
  refine notIn_listAt (isLI H ns) hL' (fun y hy => eqAt_any R (by simp; lia) h1 hv hll' hws y (by simpa using hy)) ?_
  rw [← Array.any_toList, any_lists ns hll' hws]
  exact ⟨s.heap, s.toks, m, H, rfl, R, rfl, _, VR.bool _, h⟩
theorem eq_empty {a a' : Addr} {b b' : Bool} {l : List V} (hR : Room 0 A) (h1 : H a = some (b, .list l)) (h2 : H a' = some (b', .list [])) (h : Q (.bool l.isEmpty) H) : OP2 c A L (compareOp .Eq) (.ref a) (.ref a') m H Q := by
  rintro cv cw rfl rfl g s R
  obtain ⟨vs, hL, hvs, hz⟩ := R.isList h1
  obtain ⟨ws, hL', hws, hz'⟩ := R.isList h2
  have hu : A.units < cLine := by have := hR.un; have : cLine = 9900 := rfl; lia
  have hz0 : ws.size = 0 := hz'
  cases l with
  | nil =>
    have hz1 : vs.size = 0 := hz
    refine eq_listAt (e := fun _ => true) hL hL' (by lia) hu (fun j h1 => by lia) ?_
    rw [hz1]
    exact ⟨s.heap, s.toks, m, H, rfl, R, rfl, _, VR.bool _, h⟩
  | cons x l =>
    refine eq_list_lengthsAt hL hL' (by rw [bne_iff_ne, hz, hz0]; simp) hu ⟨s.heap, s.toks, m, H, rfl, R, rfl, _, VR.bool _, h⟩
noncomputable def TI (H : Sto) (v : V) (ns : List Int) : Prop := ∃ a b, v = .ref a ∧ H a = some (b, .tup (ns.map .int))
inductive NORM (H : Sto) (v : V) (ns : List Int) (k : Int) : Prop where
  | mk (a : Addr) (b : Bool) (t : V) (e : v = .ref a) (ha : H a = some (b, .tup [t, .int k])) (ht : TI H t ns) : NORM H v ns k
theorem Rel.isTup {a : Addr} {b : Bool} {l : List V} {h : Heap} (R : Rel c g L m H h) (ha : H a = some (b, .tup l)) : ∃ vs : Array Value, h.IsTuple a vs ∧ VRs l vs.toList ∧ vs.size = l.length := by
  obtain ⟨⟨ob, e1, ⟨vs, n, rfl, hv⟩, _⟩, _⟩ := R.ob a _ _ ha
  exact ⟨vs, ⟨_, e1, rfl, n, rfl⟩, hv, by simpa using hv.length.symm⟩
theorem all_range_min {l l' : List Int} {n n' : Nat} (hn : n = l.length) (hn' : n' = l'.length) {e : Nat → Bool} (he : ∀ j (h1 : j < l.length) (h2 : j < l'.length), e j = (l[j] == l'[j])) : ((List.range (min n n')).all e && n == n') = (l == l') := by
  by_cases h : l.length = l'.length
  · have h' : (n == n') = true := by rw [beq_iff_eq]; lia
    rw [h', Bool.and_true]
    exact all_range h (by lia) he
  · have h' : (n == n') = false := by rw [beq_eq_false_iff_ne]; lia
    rw [h', Bool.and_false]
    symm; rw [beq_eq_false_iff_ne]; rintro rfl; exact h rfl
theorem eqAt_tup {v w : V} {cv cw : Value} {ns ms : List Int} (hu : A.units + 1 < cLine) (R : Rel c g L m H s.heap) (h1 : TI H v ns) (h2 : TI H w ms) (hv : VR v cv) (hw : VR w cw) : EqAt A s cv cw (ns == ms) := by
  obtain ⟨a, b, rfl, ha⟩ := h1
  obtain ⟨a', b', rfl, ha'⟩ := h2
  cases hv; cases hw
  by_cases e : a = a'
  · subst e
    rw [ha] at ha'
    have : ns = ms := map_int_inj (by simpa using (Prod.mk.inj (Option.some.inj ha')).2)
    subst this
    rw [beq_self_eq_true]
    exact EqAt.same _
  · obtain ⟨vs, hL, hvs, hz⟩ := R.isTup ha
    obtain ⟨ws, hL', hws, hz'⟩ := R.isTup ha'
    rw [List.length_map] at hz hz'
    refine EqAt.of_refs e ?_
    rw [← all_range_min (e := fun j => ns.getD j 0 == ms.getD j 0) hz hz' fun j h1 h2 => by simp [List.getD_eq_getElem?_getD, h1, h2]]
    exact RcAt.tuples hL hL' (by lia) fun j h1 h2 => eqAt_items hvs hws (by simp) (by simp)
theorem eq_norm {v w : V} {ns ms : List Int} {k k' : Int} (hR : Room 0 A) (h1 : NORM H v ns k) (h2 : NORM H w ms k') (h : Q (.bool (ns == ms && k == k')) H) : OP2 c A L (compareOp .Eq) v w m H Q := by
  intro cv cw hv hw g s R
  obtain ⟨a, b, t, rfl, ha, ht⟩ := h1
  obtain ⟨a', b', t', rfl, ha', ht'⟩ := h2
  cases hv; cases hw
  obtain ⟨vs, hL, hvs, hz⟩ := R.isTup ha
  obtain ⟨ws, hL', hws, hz'⟩ := R.isTup ha'
  have hu : A.units + 2 < cLine := by have := hR.un; have : cLine = 9900 := rfl; lia
  obtain ⟨x, y, e, hx, ⟨u, rfl⟩⟩ := hvs.inv2
  obtain ⟨x', y', e', hx', ⟨u', rfl⟩⟩ := hws.inv2
  have z : vs.size = 2 := hz
  have z' : ws.size = 2 := hz'
  have g1 : vs = #[x, .int k u] := by apply Array.toList_inj.mp; exact e
  have g2 : ws = #[x', .int k' u'] := by apply Array.toList_inj.mp; exact e'
  subst g1 g2
  refine eq_tupleAt (e := fun j => if j = 0 then ns == ms else k == k') hL hL' (by lia) (fun j h1 h2 => ?_) ?_
  · match j, h1 with
    | 0, _ => exact eqAt_tup (by simp; lia) R ht ht' hx hx'
    | 1, _ => exact EqAt.int_int _ _ _ _
    | j + 2, h1 => exact absurd (show j + 2 < 2 from h1) (by lia)
  · have : ((List.range (min (#[x, .int k u] : Array Value).size (#[x', .int k' u'] : Array Value).size)).all (fun j => if j = 0 then ns == ms else k == k') && (#[x, .int k u] : Array Value).size == (#[x', .int k' u'] : Array Value).size) = (ns == ms && k == k') := by
      show ((List.range 2).all _ && true) = _
      simp [List.range_succ, List.range_zero]
    rw [this]
    exact ⟨s.heap, s.toks, m, H, rfl, R, rfl, _, VR.bool _, h⟩
end
end Mine
end
section
open PySem PySem.W PySem.SeqAt
open AutoSeq1 (wpAny_loadPart')
open MeetsSeq MeetsSeq2 MeetsSeq3
set_option maxRecDepth 100000
set_option maxHeartbeats 8000000
set_option linter.all false
namespace Mine
noncomputable def ltL : List Int → List Int → Bool
  | [], [] => false
  | [], _ :: _ => true
  | _ :: _, [] => false
  | a :: l, b :: r => if a == b then ltL l r else decide (a < b)
theorem lt_loop (l b : Addr) (items items2 : Array Value) (n n2 : Nat) (ns ms : List Int) (hv : VRs (ns.map .int) items.toList) (hw : VRs (ms.map .int) items2.toList) (k : Nat) :
    ∀ i : Nat, items.size - i = k → i ≤ items.size → i ≤ items2.size → Meets (Builtin.«list.__eq__.loop» ⟨[.ref l, .ref b, rawInt i, rawInt 0], []⟩)
      (fun A R s => s.heap.get? l = some { cls := .type "list", dict := none, data := .seq items n, slots := #[] } ∧ s.heap.get? b = some { cls := .type "list", dict := none, data := .seq items2 n2, slots := #[] } ∧
        R (.ok (.ret (.bool (ltL (ns.drop i) (ms.drop i))))) s) := by
  have hz : items.size = ns.length := by simpa using hv.length.symm
  have hz2 : items2.size = ms.length := by simpa using hw.length.symm
  induction k with
  | zero =>
    intro i hk hi hi' prog w A R s h
    obtain ⟨hp, g, d, tk, os⟩ := s; obtain ⟨hl, hb, h⟩ := h
    wp_walk using wpAny_loadPart' hl, wpAny_loadPart' hb
    have e1 : items[((i : Nat) : Int).toNat]? = none := by simp; lia
    rw [e1]
    have e2 : ns.drop i = [] := by rw [List.drop_eq_nil_iff]; lia
    have e3 : ltL (ns.drop i) (ms.drop i) = decide (items.size < items2.size) := by
      rw [e2]
      cases e : ms.drop i with
      | nil => rw [List.drop_eq_nil_iff] at e; simp [ltL]; lia
      | cons x r =>
        have : ¬ ms.length ≤ i := fun h => by rw [List.drop_eq_nil_iff.mpr h] at e; cases e
        simp [ltL]; lia
    rw [e3] at h
    wp_walk using wpAny_loadPart' hl, wpAny_loadPart' hb
    exact h
  | succ k ih =>
    intro i hk hi hi' prog w A R s h
    obtain ⟨hp, g, d, tk, os⟩ := s; obtain ⟨hl, hb, h⟩ := h
    wp_walk using wpAny_loadPart' hl, wpAny_loadPart' hb
    have hlt : i < items.size := by lia
    have hi1 : items[((i : Nat) : Int).toNat]? = some items[i] := by simp [hlt]
    have d1 : ns.drop i = ns[i] :: ns.drop (i + 1) := List.drop_eq_getElem_cons (by lia)
    obtain ⟨_, t, ht⟩ := hv.ints (i := i) (v := items[i]) (by simp)
    have g1 : ns.getD i 0 = ns[i] := getD_at (by lia)
    rw [g1] at ht
    rcases Nat.lt_or_ge i items2.size with hlt2 | hge
    · have hi2 : items2[((i : Nat) : Int).toNat]? = some items2[i] := by simp [hlt2]
      have d2 : ms.drop i = ms[i] :: ms.drop (i + 1) := List.drop_eq_getElem_cons (by lia)
      obtain ⟨_, u, hu⟩ := hw.ints (i := i) (v := items2[i]) (by simp)
      have g2 : ms.getD i 0 = ms[i] := getD_at (by lia)
      rw [g2] at hu
      have hc : ((i : Int) + 1) = ((i + 1 : Nat) : Int) := by push_cast; rfl
      rw [d1, d2] at h
      rw [hi1, hi2, ht, hu]
      refine wpAny_bind (EqAt.int_int _ _ _ _ prog w _ _ ?_)
      cases hb' : ns[i] == ms[i] with
      | true =>
        simp only [ltL, hb', if_true] at h
        wp_walk
        rw [hc]
        exact ⟨plainId_quiet plain_eq_loop _, codeAny_builtin entry_eq_loop (by
          rw [Around.under_plainId plain_eq_loop _]
          exact ih (i + 1) (by lia) (by lia) (by lia) prog w A R _ ⟨hl, hb, h⟩)⟩
      | false =>
        simp only [ltL, hb', Bool.false_eq_true, if_false] at h
        wp_walk using wpAny_loadPart' hl, wpAny_loadPart' hb
        rw [hi1, hi2, ht, hu]
        refine wpAny_bind (PySem.P.lt_int ?_)
        wp_walk
        exact h
    · have hi2 : items2[((i : Nat) : Int).toNat]? = none := by simp; lia
      rw [hi1, hi2]
      have e2 : ms.drop i = [] := by rw [List.drop_eq_nil_iff]; lia
      have e3 : ltL (ns.drop i) (ms.drop i) = decide (items.size < items2.size) := by
        rw [d1, e2]; simp [ltL]; lia
      rw [e3] at h
      wp_walk using wpAny_loadPart' hl, wpAny_loadPart' hb
      exact h
end Mine
end
section
open PySem PySem.W PySem.SeqAt PyProof.Rows
open AutoSeq1 (wpAny_loadPart')
open MeetsSeq MeetsSeq2 MeetsSeq3
set_option maxRecDepth 100000
set_option maxHeartbeats 8000000
set_option linter.all false
namespace Mine
theorem lt_meets (l b : Addr) (items items2 : Array Value) (n n2 : Nat) (ns ms : List Int) (hv : VRs (ns.map .int) items.toList) (hw : VRs (ms.map .int) items2.toList) :
    Meets (Builtin.«list.__lt__» ⟨[.ref l, .ref b], []⟩)
      (fun A R s => s.heap.get? l = some { cls := .type "list", dict := none, data := .seq items n, slots := #[] } ∧ s.heap.get? b = some { cls := .type "list", dict := none, data := .seq items2 n2, slots := #[] } ∧
        R (.ok (.ret (.bool (ltL ns ms)))) s) := by
  intro prog w A R s h
  obtain ⟨hp, g, d, tk, os⟩ := s; obtain ⟨hl, hb, h⟩ := h
  have f3 := AutoSeq1.sub_list_list
  wp_walk using wpAny_loadPart' hl, wpAny_loadPart' hb
  exact ⟨plainId_quiet plain_eq_loop _, codeAny_builtin entry_eq_loop (by
    rw [Around.under_plainId plain_eq_loop _]
    exact lt_loop l b items items2 n n2 ns ms hv hw _ 0 rfl (Nat.zero_le _) (Nat.zero_le _) prog w A R _ ⟨hl, hb, by simpa using h⟩)⟩
theorem one_lt {prog : Program} {w : World} {A : Around} {E : Value → Shared → Prop} {s : Shared} {l b : Addr} {items items2 : Array Value} {n n2 : Nat} {ns ms : List Int} {Q : Bool → Shared → Prop} (hu : A.units < cLine)
    (hl : s.heap.get? l = some { cls := .type "list", dict := none, data := .seq items n, slots := #[] }) (hb : s.heap.get? b = some { cls := .type "list", dict := none, data := .seq items2 n2, slots := #[] })
    (hv : VRs (ns.map .int) items.toList) (hw : VRs (ms.map .int) items2.toList) (h : Q (ltL ns ms) s) : wpAny (model prog w) A (keyLt' oneType' (.ref l) (.ref b)) Q E s := by
  rw [keyLt'_oneType, oneLt'_eq]
  simp only [if_true]
  refine wpAny_bind (wpAny_cRoomFor hu ?_)
  refine wpAny_bind (wpAny_callSpecialIfBound?_slot (T := "list") ⟨_, hl, rfl⟩ F.slot_list_lt (call_meets F.slot_list_lt ⟨_, hl, rfl⟩ F.entry_list_lt (F.args_list_lt_2 _ _) (lt_meets l b items items2 n n2 ns ms hv hw) ⟨hl, hb, ?_⟩))
  exact wpAny_truthy_bool h
theorem sort_short {prog : Program} {w : World} {A : Around} {E : Value → Shared → Prop} {s : Shared} {a : Addr} {vs : List Value} {n : Nat} {P : PySem.Fin → Shared → Prop} (ho : s.heap.get? a = some (seqObj "list" vs.toArray n))
    (h2 : vs.length < 2) (h : P (.done (.ret .none)) { s with heap := sortedHeap s.heap a vs vs.toArray }) :
    wpAny (model prog w) A (Builtin.«list.sort» ⟨[.ref a], []⟩) P E s := by
  rw [list_sort_plain]
  have ha : a < s.heap.objs.size := Heap.lt_size ho
  have hz : sizeLine = 2 ^ 24 := rfl
  have hsz : vs.toArray.size = vs.length := by simp
  refine wpAny_bind (listItems_at ho rfl ?_)
  refine wpAny_bind (listUpdate_at ho rfl ?_ (by rw [hsz]; lia) (Nat.zero_le _))
  obtain ⟨e1, ho1⟩ : ∃ e1, (s.heap.update a (Obj.mapSeq fun _ => (#[] : Array Value))).get? a = some (seqObj "list" #[] e1) := ⟨_, get?_update_seq ho (fun _ => #[])⟩
  refine wpAny_bind (seqEpoch_at ho1 rfl ?_)
  refine wpAny_bind (wpAny_newTuple ?_ (by show vs.length ≤ _; lia))
  refine wpAny_bind (wpAny_newList ?_ (Nat.zero_le _))
  refine wpAny_holding ?_
  have ho6 : (((s.heap.update a (Obj.mapSeq fun _ => (#[] : Array Value))).push (seqObj "tuple" vs.toArray 0)).push (seqObj "list" #[] 0)).get? a = some (seqObj "list" #[] e1) := by
    rw [Heap.get?_push_ne _ _ _ (by rw [size_push', Heap.size_update]; exact Nat.ne_of_lt (Nat.lt_succ_of_lt ha)), Heap.get?_push_ne _ _ _ (by rw [Heap.size_update]; exact Nat.ne_of_lt ha)]
    exact ho1
  show wpAny (model prog w) A _ P E { s with heap := ((s.heap.update a (Obj.mapSeq fun _ => #[])).push (seqObj "tuple" vs.toArray 0)).push (seqObj "list" #[] 0) }
  dsimp only
  have hlt : vs.toArray.size < 2 := by rw [hsz]; exact h2
  rw [if_pos hlt, if_pos hlt]
  refine wpAny_bind (wpAny_pure ?_)
  rw [StateT.run_pure]
  refine wpAny_bind (wpAny_pure ?_)
  dsimp only
  have hout : (arrOf (SortSt.mk' general' (vs.toArray.zip vs.toArray) #[] 7 none)).map (·.2) = vs.toArray := by
    show (vs.toArray.zip vs.toArray).map (·.2) = vs.toArray
    rw [Array.map_snd_zip (Nat.le_refl _)]
  refine wpAny_bind (seqEpoch_at ho6 rfl ?_)
  rw [hout]
  refine wpAny_bind (listUpdate_at ho6 rfl ?_ (Nat.zero_le _) (by rw [hsz]; lia))
  simp only [bne_self_eq_false, Bool.false_eq_true, if_false]
  exact wpAny_pure h
theorem sorted_short {prog : Program} {w : World} {A : Around} {E : Value → Shared → Prop} {s : Shared} {l : Addr} {vs : List Value} {Q : Value → Shared → Prop} (hl : s.heap.IsList l vs.toArray) (h2 : vs.length < 2)
    (h : Q (.ref (s.heap.objs.size + 1)) { s with heap := sortedAll s.heap vs vs.toArray }) : wpAny (model prog w) A (call (.builtin "sorted") [.ref l]) Q E s := by
  have hz : sizeLine = 2 ^ 24 := rfl
  refine Calls.call_function_entry kind_sorted plain_sorted entry_sorted (args_sorted1 _) ?_
  unfold Builtin.«sorted»
  refine wpAny_bind (m := checkCount "sorted" 1 1 _) (wpAny_pure ?_)
  refine wpAny_bind (collect_list hl ?_ (by lia))
  refine wpAny_bind (wpAny_newList ?_ (by lia))
  have hsz : ((s.heap.push (seqObj "list" #[] 0)).update s.heap.objs.size (Obj.mapSeq (· ++ vs.toArray))).objs.size = s.heap.objs.size + 1 := by
    rw [Heap.size_update, size_push']
  have hoL : (((s.heap.push (seqObj "list" #[] 0)).update s.heap.objs.size (Obj.mapSeq (· ++ vs.toArray))).push (seqObj "list" vs.toArray 0)).get? (s.heap.objs.size + 1) = some (seqObj "list" vs.toArray 0) := by
    rw [← hsz]; exact Heap.get?_push_size _ rfl
  show wpAny _ _ _ _ _ { s with heap := ((s.heap.push (seqObj "list" #[] 0)).update s.heap.objs.size (Obj.mapSeq (· ++ vs.toArray))).push (seqObj "list" vs.toArray 0) }
  rw [hsz]
  refine wpAny_bind (wpAny_holding (wpAny_call_entry slot_list_sort ⟨_, hoL, rfl⟩ entry_list_sort (sort_short hoL h2 ⟨_, rfl, ?_⟩) (args_list_sort _)))
  exact wpAny_pure ⟨_, rfl, h⟩
theorem kas_two : kas_sort 2 = .ask 1 0 fun c => if c then .ret #[1, 0] else .ret #[0, 1] := by
  have e : kas_sort 2 = .ask 1 0 fun c => ((if c = true then KasT.ret 1 else kas_asc (List.toArray (List.range 2)) 0 2).bind fun n => if (n == 2) = true then .ret (n, List.toArray (List.range 2)) else if n > 1 then .ask ((List.toArray (List.range 2)).getD 0 0) ((List.toArray (List.range 2)).getD (n - 1) 0) fun c => if c = true then .ret (n, List.toArray (List.range 2)) else kas_descPart n 2 (kas_rev (List.toArray (List.range 2)) 0 n)
    else kas_descPart n 2 (List.toArray (List.range 2))).bind fun r => if r.1 < 2 then kas_bin (2 - max r.1 1) r.2 (max r.1 1) else .ret r.2 := by with_unfolding_all rfl
  rw [e]
  congr 1
  funext c
  cases c
  · with_unfolding_all rfl
  · with_unfolding_all rfl
theorem all_news (h : Heap) (L : Addr) : ∃ news : List (Addr × Obj), News {} L h news ∧ ∀ b o, b ≠ L → h.get? b = some o → (b, o) ∈ news := by
  refine ⟨(List.range h.objs.size).filterMap fun b => if b = L then none else (h.get? b).map fun o => (b, o), fun p hp => ?_, fun b o hb e => ?_⟩
  · obtain ⟨b, _, e⟩ := List.mem_filterMap.mp hp
    by_cases hb : b = L
    · simp [hb] at e
    · rw [if_neg hb] at e
      cases e' : h.get? b with
      | none => rw [e'] at e; simp at e
      | some o => rw [e'] at e; simp at e; subst e; exact ⟨e', hb, Heap.get?_none_of_le (Nat.zero_le _)⟩
  · exact List.mem_filterMap.mpr ⟨b, List.mem_range.mpr (Heap.lt_size e), by simp [hb, e]⟩
noncomputable def sort2 (ns ms : List Int) : List (List Int) := if ltL ms ns then [ms, ns] else [ns, ms]
section
variable {c : Cx} {A : Around} {L : Addr} {m : Loc} {H : Sto} {env : Env} {g : Fm} {s : Shared} {Q : V → Sto → Prop}
theorem call_sorted1 {v : V} {ns : List Int} (hv : LL H v [ns]) (h : ∀ D w, LI H w ns → H D = none → Q (.ref D) (upd H D (true, .list [w]))) : CALL c A L (.bi "sorted") [v] m H Q := by
  rintro cf cvs rfl hvs g s R
  obtain ⟨_, rfl, hvr⟩ := hvs.inv1
  obtain ⟨a, b, l, rfl, ha, hll⟩ := hv
  cases hvr
  obtain ⟨w, rfl⟩ : ∃ w, l = [w] := by
    match l, hll with
    | [w], _ => exact ⟨w, rfl⟩
    | _ :: _ :: _, h => exact h.2.elim
  obtain ⟨vs, hL, hv, hz⟩ := R.isList ha
  refine sorted_short (vs := vs.toList) (by simpa using hL) (by simp [hz]) ?_
  obtain ⟨e, he⟩ := sortedAll_at s.heap vs.toList vs.toList.toArray
  obtain ⟨R₁, hD⟩ := R.new (o := .list [w]) (fun _ _ e => sortedAll_old e) (Heap.get?_none_of_le (Nat.le_succ _)) he ⟨_, _, rfl, by simpa using hv⟩ (Nat.ne_of_gt (Nat.lt_succ_of_lt R.room))
  exact ⟨_, s.toks, m, _, rfl, R₁, rfl, _, VR.ref _, h _ w hll.1 hD⟩
theorem call_sorted2 {v : V} {ns ms : List Int} (hR : Room 0 A) (hv : LL H v [ns, ms]) (h : ∀ D l, LLs H l (sort2 ns ms) → H D = none → Q (.ref D) (upd H D (true, .list l))) : CALL c A L (.bi "sorted") [v] m H Q := by
  rintro cf cvs rfl hvs g s R
  obtain ⟨_, rfl, hvr⟩ := hvs.inv1
  obtain ⟨a, b, l, rfl, ha, hll⟩ := hv
  cases hvr
  obtain ⟨w, x, rfl, hw, hx⟩ : ∃ w x, l = [w, x] ∧ LI H w ns ∧ LI H x ms := by
    match l, hll with
    | [w, x], h => exact ⟨w, x, rfl, h.1, h.2.1⟩
    | [_], h => exact h.2.elim
    | _ :: _ :: _ :: _, h => exact h.2.2.elim
  obtain ⟨vs, hL, hv, hz⟩ := R.isList ha
  obtain ⟨cw, cx, e, hcw, hcx⟩ := hv.inv2
  obtain ⟨aw, bw, rfl, haw⟩ := hw
  obtain ⟨ax, bx, rfl, hax⟩ := hx
  cases hcw; cases hcx
  obtain ⟨mL, hn, hloc⟩ := R.loc
  obtain ⟨news, N, hall⟩ := all_news s.heap L
  have F : Fr {} L s.heap mL := ⟨hn, fun b o e => (by rw [Heap.get?_none_of_le (Nat.zero_le _)] at e; cases e), Nat.zero_le _⟩
  obtain ⟨⟨ow, ew, ⟨its, n, rfl, hvw⟩, _⟩, wL, _⟩ := R.ob aw _ _ haw
  obtain ⟨⟨ox, ex, ⟨its', n', rfl, hvx⟩, _⟩, xL, _⟩ := R.ob ax _ _ hax
  have mw := hall _ _ wL ew
  have mx := hall _ _ xL ex
  have back : ∀ h', Fr {} L h' mL → News {} L h' news → Rel c g L m H h' := fun h' F' N' => by
    refine ⟨⟨mL, F'.ns, hloc⟩, R.base, fun b x o e => ?_, R.gL, fun a b o e => ?_⟩
    · exact (N' _ (hall b o (by rintro rfl; rw [R.gL] at e; cases e) (R.keep b x o e))).1
    · obtain ⟨⟨ob, e1, e2, e3⟩, e4, e5, e6⟩ := R.ob a b o e
      exact ⟨⟨ob, (N' _ (hall a ob e4 e1)).1, e2, e3⟩, e4, e5, e6⟩
  have hu : A.units + 2 < cLine := by have := hR.un; have : cLine = 9900 := rfl; lia
  refine kas_sorted (T := .type "list") (vs := vs.toList) F N (by simpa using hL) (by rw [e]; simp) (by rw [e]; simp) (fun h' F' N' v hv => ?_) (by decide) fun D e1 h' F' N' hlt => ?_
  · rw [e] at hv
    have : ∃ a its n, h'.get? a = some { cls := .type "list", data := .seq its n } ∧ v = .ref a := by
      rcases List.mem_cons.mp hv with q | hv
      · exact ⟨_, _, _, (N' _ mw).1, q⟩
      · exact ⟨_, _, _, (N' _ mx).1, List.mem_singleton.mp hv⟩
    obtain ⟨a2, i2, n2, g1, rfl⟩ := this
    intro A' Q' E' s' k q
    exact wpAny_typeOf (T := "list") ⟨_, k _ _ g1, rfl⟩ q
  · have e2 : vs.toList.length = 2 := by rw [e]; rfl
    rw [e2, kas_two, e]
    have N0 : News {} L h' news := fun p hp => N' p (.tail _ hp)
    show wpAny _ _ (keyLt' oneType' (Value.ref ax) (Value.ref aw)) _ _ _
    refine one_lt (n := n') (n2 := n) (by simp; lia) (N0 _ mx).1 (N0 _ mw).1 hvx hvw ?_
    have fin : ∀ (l : List V) (out : List Value), VRs l out → LLs H l (sort2 ns ms) → KasFin {} L mL D e1 out (Post c g L s (PV m Q) (.ref D)) { s with heap := h' } := by
      intro l out hvr hls
      refine KasFin.intro (g := fun o => (D, o) :: news) F' N' (.head fun p hp => Nat.ne_of_lt (hlt p hp)) fun h'' c' F'' N'' => ?_
      have N1 : News {} L h'' news := fun p hp => N'' p (.tail _ hp)
      have R'' := back h'' F'' N1
      have nD := N'' _ (.head _)
      have hDs : s.heap.get? D = none := by
        cases e : s.heap.get? D with
        | none => rfl
        | some o =>
          by_cases hDL : D = L
          · exact absurd hDL nD.2.1
          · exact absurd (hlt _ (hall D o hDL e)) (Nat.lt_irrefl _)
      obtain ⟨f1, f2, f3⟩ := R.free hDs
      have R3 := R''.add (o := .list l) f1 f2 nD.1 ⟨_, _, rfl, by simpa using hvr⟩ (by
        obtain ⟨mc, ⟨o, _, _, eo, _⟩, _⟩ := c.lim
        have h1 := R.has eo
        have h2 : cStatics ≠ L := by
          rintro q
          obtain ⟨x, hx⟩ := R.base _ _ eo
          rw [q, R.gL] at hx; cases hx
        have h3 := hlt _ (hall _ _ h2 h1)
        exact Nat.ne_of_gt (Nat.lt_of_le_of_lt (show sysModules ≤ cStatics by decide) h3))
      exact ⟨h'', s.toks, m, _, rfl, R3, rfl, _, VR.ref _, h D l hls f3⟩
    cases hc : ltL ms ns
    · exact fin [.ref aw, .ref ax] _ (.cons (VR.ref _) (.cons (VR.ref _) .nil)) (by simp only [sort2, hc]; exact ⟨⟨_, _, rfl, haw⟩, ⟨_, _, rfl, hax⟩, trivial⟩)
    · exact fin [.ref ax, .ref aw] _ (.cons (VR.ref _) (.cons (VR.ref _) .nil)) (by simp only [sort2, hc]; exact ⟨⟨_, _, rfl, hax⟩, ⟨_, _, rfl, haw⟩, trivial⟩)
end
end Mine
end
section
open PySem PySem.W PySem.SeqAt
set_option maxRecDepth 100000
set_option maxHeartbeats 8000000
set_option linter.all false
namespace Mine
noncomputable def spaces (n : Nat) : Str := ⟨(List.replicate n 32).toArray⟩
theorem mul_space (n : Int) : Txt.mul ⟨#[32]⟩ n = spaces n.toNat := by
  unfold Txt.mul spaces
  by_cases h : n < 1
  · rw [if_pos h, show n.toNat = 0 by lia]; rfl
  · rw [if_neg h]
    by_cases h1 : n = 1
    · subst h1; rfl
    · have : (n == 1 || (⟨#[32]⟩ : Str).length == 0) = false := by
        have : (n == 1) = false := by simpa using h1
        rw [this]; rfl
      rw [this]
      simp only [Bool.false_eq_true, if_false]
      congr 1
      generalize n.toNat = k
      have key : ∀ (k : Nat) (acc : Array Nat), (List.replicate k (#[32] : Array Nat)).foldl (fun a b => a ++ b) acc = acc ++ (List.replicate k 32).toArray := by
        intro k
        induction k with
        | zero => intro acc; simp
        | succ k ih =>
          intro acc
          rw [List.replicate_succ, List.foldl_cons, ih, List.replicate_succ]
          apply Array.toList_inj.mp
          simp
      have := key k #[]
      simpa using this
section
variable {c : Cx} {A : Around} {L : Addr} {m : Loc} {H : Sto} {env : Env} {g : Fm} {s : Shared} {Q : V → Sto → Prop}
theorem op_space {n : Int} (h0 : 0 ≤ n) (h1 : n ≤ 1000000) (h : Q (.str (spaces n.toNat)) H) : OP2 c A L (binaryOp .Mult) (.str ⟨#[32]⟩) (.int n) m H Q := by
  rintro ca cb ⟨t, rfl⟩ ⟨u, rfl⟩ g s R
  refine SB.mul ⟨?_, ?_, ?_⟩ fun t' k => ⟨s.heap, k, m, H, rfl, R, rfl, .str (spaces n.toNat), ⟨t', by rw [mul_space]⟩, h⟩
  · simp only [Bool.or_eq_false_iff, decide_eq_false_iff_not]; lia
  · intro h1 h2
    have : ((⟨#[32]⟩ : Str).length : Int) = 1 := rfl
    rw [this]
    have : (2 ^ 63 - 1) / n ≥ 1 := by
      apply (Int.le_ediv_iff_mul_le (by lia)).mpr; lia
    lia
  · intro h1 h2
    have : (⟨#[32]⟩ : Str).length * n.toNat = n.toNat := by show 1 * _ = _; lia
    rw [this]
    have : n.toNat ≤ 1000000 := by lia
    unfold Builtin.Str.tooLong
    simp [sizeLine]; lia
theorem op_add_str {x y : Str} (hs : x.length + y.length ≤ 1000000) (h : Q (.str (x ++ y)) H) : OP2 c A L (binaryOp .Add) (.str x) (.str y) m H Q := by
  rintro ca cb ⟨t, rfl⟩ ⟨u, rfl⟩ g s R
  exact PyProof.Rows.add_str (fun t' tk => ⟨s.heap, tk, m, H, rfl, R, rfl, _, VR.str _ t', h⟩) (by have : sizeLine = 2 ^ 24 := rfl; lia)
theorem op_eq_str {x y : Str} (h : Q (.bool (x == y)) H) : OP2 c A L (compareOp .Eq) (.str x) (.str y) m H Q := by
  rintro ca cb ⟨t, rfl⟩ ⟨u, rfl⟩ g s R
  exact PyProof.Rows.eq_str ⟨s.heap, s.toks, m, H, rfl, R, rfl, _, VR.bool _, h⟩
theorem VRs.strs : ∀ {xs : List Str} {vs : List Value}, VRs (xs.map .str) vs → ∃ l : List (Str × Tok), l.map (·.1) = xs ∧ vs = strValues l
  | [], _, h => ⟨[], rfl, h.inv0⟩
  | x :: xs, _, h => by
    simp only [List.map_cons] at h
    cases h with
    | cons hv hr =>
      obtain ⟨t, rfl⟩ := hv
      obtain ⟨l, e1, e2⟩ := hr.strs
      exact ⟨(x, t) :: l, by simp [e1], by rw [e2]; rfl⟩
theorem call_join {x : Str} {a : Addr} {b : Bool} {xs : List Str} (ha : H a = some (b, .list (xs.map .str))) (hok : JoinOk x xs = true) (h : Q (.str (Txt.join x xs)) H) : CALL c A L (.bi "str.join") [.str x, .ref a] m H Q := by
  rintro cf cvs rfl hvs g s R
  obtain ⟨_, _, rfl, ⟨t, rfl⟩, rfl⟩ := hvs.inv2
  obtain ⟨vs, hL, hv, hz⟩ := R.isList ha
  obtain ⟨l, e1, e2⟩ := hv.strs
  refine SC.join (l := l) (texts := xs) (by rw [← e2]; simpa using hL) e1 hok fun t' k => ⟨s.heap, k, m, H, rfl, R, rfl, _, VR.str _ t', h⟩
theorem op_add_list {a a' : Addr} {b b' : Bool} {l l' : List V} (h1 : H a = some (b, .list l)) (h2 : H a' = some (b', .list l')) (hs : l.length + l'.length ≤ 1000000) (h : ∀ D, H D = none → Q (.ref D) (upd H D (true, .list (l ++ l')))) :
    OP2 c A L (binaryOp .Add) (.ref a) (.ref a') m H Q := by
  rintro ca cb rfl rfl g s R
  obtain ⟨⟨o1, e1, ⟨vs, n, rfl, hv⟩, _⟩, _⟩ := R.ob a _ _ h1
  obtain ⟨⟨o2, e2, ⟨ws, n', rfl, hw⟩, _⟩, _⟩ := R.ob a' _ _ h2
  have z1 : vs.size = l.length := by simpa using hv.length.symm
  have z2 : ws.size = l'.length := by simpa using hw.length.symm
  refine PySem.P.add_list e1 e2 ?_ (by have : sizeLine = 2 ^ 24 := rfl; lia)
  obtain ⟨R₁, hD⟩ := R.new (o := .list (l ++ l')) (h' := s.heap.push { cls := .type "list", data := .seq (vs ++ ws) }) (fun _ _ e => Heap.get?_push_of_some _ e) (Heap.get?_none_of_le (Nat.le_refl _)) (Heap.get?_push_size _ rfl) ⟨_, _, rfl, by rw [Array.toList_append]; exact hv.append hw⟩ (Nat.ne_of_gt R.room)
  exact ⟨_, _, m, _, rfl, R₁, rfl, _, VR.ref _, h _ hD⟩
theorem rep_one {v : Value} : ∀ (k : Nat) (acc : Array Value), (List.replicate k (#[v] : Array Value)).foldl (fun a b => a ++ b) acc = acc ++ (List.replicate k v).toArray
  | 0, acc => by simp
  | k + 1, acc => by
    rw [List.replicate_succ, List.foldl_cons, rep_one k, List.replicate_succ]
    apply Array.toList_inj.mp
    simp
theorem VRs.rep {v : V} {cv : Value} (h : VR v cv) : ∀ k, VRs (List.replicate k v) (List.replicate k cv)
  | 0 => .nil
  | k + 1 => .cons h (VRs.rep h k)
theorem op_mul_list {a : Addr} {b : Bool} {v : V} {n : Int} (h1 : H a = some (b, .list [v])) (h0 : 0 ≤ n) (hn : n ≤ 1000000) (h : ∀ D, H D = none → Q (.ref D) (upd H D (true, .list (List.replicate n.toNat v)))) :
    OP2 c A L (binaryOp .Mult) (.ref a) (.int n) m H Q := by
  rintro ca cb rfl ⟨u, rfl⟩ g s R
  obtain ⟨⟨o1, e1, ⟨vs, k, rfl, hv⟩, _⟩, _⟩ := R.ob a _ _ h1
  obtain ⟨cv, e, hcv⟩ := hv.inv1
  have : vs = #[cv] := by apply Array.toList_inj.mp; exact e
  subst this
  refine wpAny_binaryOp_repeat_ref (T := "list") (U := "int") (by decide) ⟨_, e1, rfl⟩ (fun s' => typeIs_int s' n u) noFill_list_mul F.fills_int_mul F.slot_int_rmul repeat_list F.slot_int_index.lookup
    (call_meets F.slot_int_rmul (typeIs_int s n u) F.entry_int_rmul (F.args_int_rmul_2 _ _) (int___rmul___int_list n u a #[cv] k)
      ⟨e1, rfl, ⟨_, e1, rfl⟩, call_meets F.slot_list_mul ⟨_, e1, rfl⟩ F.entry_list_mul (F.args_list_mul_2 _ _)
        (AutoListH.list___mul___list_int_3 a #[cv] k n u (by simp [Builtin.List.listFitsIndex]; lia) (by simp; lia) (by simp [Builtin.List.listTooLong, sizeLine]; lia)) ⟨e1, ?_⟩⟩)
  have e3 : (List.foldl (fun x1 x2 => x1 ++ x2) #[] (List.replicate (if (#[cv] : Array Value).isEmpty = true then 0 else n.toNat) #[cv])) = (List.replicate n.toNat cv).toArray := by
    have : (#[cv] : Array Value).isEmpty = false := rfl
    rw [this]
    have := rep_one (v := cv) n.toNat #[]
    simpa using this
  rw [e3]
  obtain ⟨R₁, hD⟩ := R.new (o := .list (List.replicate n.toNat v)) (h' := s.heap.push { cls := .type "list", data := .seq (List.replicate n.toNat cv).toArray }) (fun _ _ e => Heap.get?_push_of_some _ e) (Heap.get?_none_of_le (Nat.le_refl _)) (Heap.get?_push_size _ rfl) ⟨_, _, rfl, VRs.rep hcv _⟩ (Nat.ne_of_gt R.room)
  exact ⟨_, _, m, _, rfl, R₁, rfl, _, VR.ref _, h _ hD⟩
theorem call_tuple {a : Addr} {b : Bool} {l : List V} (h1 : H a = some (b, .list l)) (hl : l.length ≤ 1000000) (h : ∀ D, H D = none → Q (.ref D) (upd H D (true, .tup l))) : CALL c A L (.ty "tuple") [.ref a] m H Q := by
  rintro cf cvs rfl hvs g s R
  obtain ⟨_, rfl, rfl⟩ := hvs.inv1
  obtain ⟨vs, hL, hv, hz⟩ := R.isList h1
  refine call_tuple_list hL (fun h' hk => ?_) (by have : sizeLine = 2 ^ 24 := rfl; lia)
  have R' : Rel c g L m H h' := R.ext hk
  obtain ⟨R₁, hD⟩ := R'.new (o := .tup l) (h' := h'.push { cls := .type "tuple", data := .seq vs }) (fun _ _ e => Heap.get?_push_of_some _ e) (Heap.get?_none_of_le (Nat.le_refl _)) (Heap.get?_push_size _ rfl) ⟨_, _, rfl, hv⟩ (Nat.ne_of_gt R'.room)
  exact ⟨_, s.toks, m, _, rfl, R₁, rfl, _, VR.ref _, h _ hD⟩
theorem call_isinst {n : Int} (h : Q (.bool false) H) : CALL c A L (.bi "isinstance") [.int n, .ty "tuple"] m H Q := by
  rintro cf cvs rfl hvs g s R
  obtain ⟨_, _, rfl, ⟨t, rfl⟩, rfl⟩ := hvs.inv2
  exact IsiPair.int_tuple ⟨s.heap, _, m, H, rfl, R, rfl, _, VR.bool _, h⟩
theorem sub_range_reversed : isSubtype (.type "range_iterator") (.type "reversed") = pure false := by rw [isSubtype_type]; kernel_rfl
theorem code_reversed_rng {prog : Program} {w : World} {A : Around} {E : Value → Shared → Prop} {s : Shared} {r : Addr} {n : Nat} {t u v : Tok} {Q₁ : Value → Shared → Prop} (hn : n < 2 ^ 62) (hr : s.heap.get? r = some { cls := .type "range", data := .fields #[.int 0 t, .int n u, .int 1 v] })
    (h : Q₁ (.ref s.heap.objs.size) { s with heap := s.heap.push { cls := .type "range_iterator", data := .fields #[rawInt ((n : Int) - 1), rawInt n, rawInt (-1)] } }) :
    codeAny (model prog w) A (.call (.builtin "reversed.__new__") ⟨[.type "reversed", .ref r], []⟩) (wants Q₁ E) s := by
  have hT : s.TypeIs (.ref r) "range" := ⟨_, hr, rfl⟩
  refine codeAny_of_tree ?_
  show wpAny _ A.in1 (do checkBuiltinCall "reversed.__new__" ⟨[.type "reversed", .ref r], []⟩; PySem.again (.builtin "reversed.__new__" ⟨[.type "reversed", .ref r], []⟩)) _ _ s
  refine wpAny_bind (wpAny_of_eq (F.newCall_reversed_1 _) (wpAny_pure ⟨plainId_quiet F.plain_reversed_new _, codeAny_builtin F.entry_reversed_new ?_⟩))
  rw [Around.under_plainId F.plain_reversed_new _]
  unfold Builtin.«reversed.__new__»
  refine wpAny_bind (wpAny_of_eq (newClass_reversed _) ?_)
  try dsimp only
  refine wpAny_bind (wpAny_of_eq (a := ()) (by first | rfl | kernel_rfl) ?_)
  refine wpAny_bind (wpAny_of_eq (a := ()) (by first | rfl | kernel_rfl) ?_)
  try dsimp only
  refine wpAny_bind (wpAny_specialOf hT F.slot_range_reversed.lookup ?_)
  try dsimp only
  refine wpAny_bind (wpAny_of_eq (F.slot_range_reversed.bind _) ?_)
  try dsimp only
  rw [if_neg (show ¬ ((Value.builtin "range.__reversed__" == Value.none) = true) from Bool.false_ne_true)]
  refine wpAny_bind (wpAny_rule ?_)
  refine wpAny_bind (m := runValue (.call (.builtin "range.__reversed__") ⟨[.ref r], []⟩)) (show wpAny _ _ (call (.builtin "range.__reversed__") [.ref r]) _ _ _ from ?_)
  refine wpAny_call_entry F.slot_range_reversed hT F.entry_range_reversed ?_ (F.args_range_reversed_1 _)
  unfold Builtin.«range.__reversed__»
  refine wpAny_bind (wpAny_of_eq (a := Value.ref r) rfl ?_)
  refine wpAny_bind (m := Builtin.Range.rangeFields (.ref r)) ?_
  unfold Builtin.Range.rangeFields
  refine wpAny_bind (wpAny_field hr rfl (x := .int 0 t) rfl ?_)
  refine wpAny_bind (wpAny_of_eq (a := some (0 : Int)) rfl ?_)
  refine wpAny_bind (wpAny_field hr rfl (x := .int n u) rfl ?_)
  refine wpAny_bind (wpAny_of_eq (a := some (n : Int)) rfl ?_)
  refine wpAny_bind (wpAny_field hr rfl (x := .int 1 v) rfl ?_)
  have e9 : asInt? (.int 1 v) = pure (some (1 : Int)) := rfl
  rw [e9]
  simp only [pure_bind]
  have hsz : Builtin.Range.rangeSize 0 (n : Int) 1 = (n : Int) := by rw [rangeSize_one]; split <;> lia
  have hsmall : (Builtin.Range.rangeFitsLong 0 && Builtin.Range.rangeFitsLong (n : Int) && Builtin.Range.rangeFitsLong 1 && Builtin.Range.rangeFitsLong (-1) && Builtin.Range.rangeFitsLong (0 - 1) && Builtin.Range.rangeFitsLong (n : Int)) = true := by
    have : (n : Int) < 2 ^ 62 := by lia
    simp [Builtin.Range.rangeFitsLong]; lia
  generalize (n : Int) = N at hsz hsmall h ⊢
  refine wpAny_pure ?_
  dsimp only
  rw [hsz]
  have e1 : (0 : Int) + (N - 1) * 1 = N - 1 := by lia
  rw [e1]
  simp only [hsmall, Bool.not_true, Bool.false_eq_true, if_false, if_true]
  exact wpAny_bind (wpAny_newObj_type (wpAny_pure ⟨_, rfl, wpAny_pure h⟩))
theorem call_reversed_rng {a : Addr} {b : Bool} {n : Nat} (hn : n < 2 ^ 62) (ha : H a = some (b, .rng 0 n)) (h : ∀ D, H D = none → Q (.ref D) (upd H D (true, .rit ((n : Int) - 1) (-1) n))) : CALL c A L (.ty "reversed") [.ref a] m H Q := by
  rintro cf cvs rfl hvs g s R
  obtain ⟨_, rfl, rfl⟩ := hvs.inv1
  obtain ⟨⟨ob, e1, ⟨t, u, v, rfl⟩, _⟩, _⟩ := R.ob a _ _ ha
  refine callType_other (U := "range_iterator") (Q₁ := fun obj s₁ => obj = .ref s.heap.objs.size ∧ s₁ = { s with heap := s.heap.push { cls := .type "range_iterator", data := .fields #[rawInt ((n : Int) - 1), rawInt n, rawInt (-1)] } }) (by decide +kernel) F.create_reversed ⟨_, _, F.mro_reversed⟩ F.made_reversed sub_range_reversed (F.typeCall_reversed_1 _) (code_reversed_rng hn e1 ⟨rfl, rfl⟩) ?_
  rintro obj s₁ ⟨rfl, rfl⟩
  obtain ⟨R₁, hD⟩ := R.new (o := .rit ((n : Int) - 1) (-1) n) (h' := s.heap.push { cls := .type "range_iterator", data := .fields #[rawInt ((n : Int) - 1), rawInt n, rawInt (-1)] }) (fun _ _ e => Heap.get?_push_of_some _ e) (Heap.get?_none_of_le (Nat.le_refl _)) (Heap.get?_push_size _ rfl) rfl (Nat.ne_of_gt R.room)
  exact ⟨⟨_, Heap.get?_push_size _ rfl, rfl⟩, _, _, m, _, rfl, R₁, rfl, _, VR.ref _, h _ hD⟩
end
end Mine
end
section
open PySem PySem.W PyProof.Rows
set_option maxRecDepth 100000
set_option maxHeartbeats 8000000
set_option linter.all false
namespace Mine
theorem AttrsR.ind {P : List (Str × V) → List DictEntry → Prop} (h0 : P [] []) (h1 : ∀ x v l e es, (∃ t, e.key = .str x t) → VR v e.val → P l es → P ((x, v) :: l) (e :: es)) : ∀ {l es}, AttrsR l es → P l es := by
  intro l
  induction l with
  | nil =>
    intro es h
    cases es with
    | nil => exact h0
    | cons e es => exact False.elim h
  | cons p l ih =>
    intro es h
    cases es with
    | nil => exact False.elim h
    | cons e es => exact h1 p.1 p.2 l e es h.1 h.2.1 (ih h.2.2)
noncomputable def GetR (name : Str) (es : List DictEntry) : Option V → Prop
  | some v => ∃ cv, PySem.W.getL name es = some (some cv) ∧ VR v cv
  | none => PySem.W.getL name es = some none
theorem AttrsR.getR {l : List (Str × V)} {es : List DictEntry} (h : AttrsR l es) (name : Str) : GetR name es (l.lookup name) := by
  refine AttrsR.ind (P := fun l es => GetR name es (l.lookup name)) ?_ ?_ h
  · simp [GetR, PySem.W.getL]
  · rintro x v l e es ⟨t, hk⟩ hv ih
    have hs : e.key.isStr name = (x == name) := by rw [hk]; rfl
    have hr : e.refKey = false := by unfold DictEntry.refKey; rw [hk]
    rw [List.lookup_cons]
    by_cases hx : name = x
    · subst hx
      simp only [beq_self_eq_true]
      exact ⟨e.val, by simp [PySem.W.getL, List.find?_cons, hs], hv⟩
    · have h1 : (name == x) = false := by simpa using hx
      have h2 : (x == name) = false := by simpa using fun h => hx h.symm
      simp only [h1]
      have : PySem.W.getL name (e :: es) = PySem.W.getL name es := by simp [PySem.W.getL, List.find?_cons, hs, h2, hr]
      unfold GetR at ih ⊢
      rw [this]; exact ih
theorem AttrsR.put {l : List (Str × V)} {es : List DictEntry} (h : AttrsR l es) {name : Str} {hsh : Int} {t : Tok} {v : V} {cv : Value} (hl : l.lookup name = none) (hv : VR v cv) : AttrsR (l ++ [(name, v)]) (putL name hsh (.str name t) cv es) := by
  refine AttrsR.ind (P := fun l es => l.lookup name = none → AttrsR (l ++ [(name, v)]) (putL name hsh (.str name t) cv es)) (fun _ => ⟨⟨t, rfl⟩, hv, trivial⟩) ?_ h hl
  rintro x w l e es ⟨u, hk⟩ hw ih hl
  have hs : e.key.isStr name = (x == name) := by rw [hk]; rfl
  rw [List.lookup_cons] at hl
  by_cases hx : name = x
  · subst hx; simp at hl
  · have h1 : (name == x) = false := by simpa using hx
    have h2 : (x == name) = false := by simpa using fun h => hx h.symm
    rw [h1] at hl
    simp only [putL, hs, h2, Bool.false_eq_true, if_false]
    exact ⟨⟨u, hk⟩, hw, ih hl⟩
theorem AttrsR.len {l : List (Str × V)} {es : List DictEntry} (h : AttrsR l es) : es.length = l.length :=
  AttrsR.ind (P := fun l es => es.length = l.length) rfl (fun _ _ _ _ _ _ _ ih => by simp [ih]) h
section
variable {c : Cx} {A : Around} {L : Addr} {m : Loc} {H : Sto} {env : Env} {g : Fm} {s : Shared} {Q : V → Sto → Prop}
theorem VR.handed {v : V} {cv : Value} (hv : VR v cv) (h : ∀ i, v ≠ .bi i) : handedIn cv = true := by
  cases v <;> simp only [VR] at hv
  case bi i => exact absurd rfl (h i)
  all_goals first | (subst hv; rfl) | (obtain ⟨t, rfl⟩ := hv; rfl)
structure IsObj (H : Sto) (v : V) (C : Addr) (d : Addr) (l : List (Str × V)) : Prop where
  x : ∃ x b, v = .ref x ∧ H x = some (b, .obj C d)
  at_ : ∃ b, H d = some (b, .attrs l)
theorem Rel.inst {v : V} {cv : Value} {C d : Addr} {l : List (Str × V)} {h : Heap} (R : Rel c g L m H h) (ho : IsObj H v C d l) (hv : VR v cv) : ∃ x es n, cv = .ref x ∧ InstAt h x (instObj C d) C (some (dictOf es n)) ∧ AttrsR l es := by
  obtain ⟨⟨x, b, rfl, hx⟩, ⟨b', hd⟩⟩ := ho
  cases hv
  obtain ⟨⟨ox, ex, rfl, _⟩, _⟩ := R.ob _ _ _ hx
  obtain ⟨⟨od, ed, ⟨es, n, rfl, ha⟩, _⟩, _⟩ := R.ob _ _ _ hd
  exact ⟨x, es, n, rfl, ⟨ex, rfl, rfl, ed⟩, ha⟩
structure ClsOK (K : Frag) (C : Addr) : Prop where
  pg : plainGet K C "" = true
  hd : hasDictIn K C = true
  sa : findIn K (.ref C) "__setattr__" = some (some (.builtin "object.__setattr__"))
  po : plainOver K C = true
theorem getattr_own {ov : V} {co : Value} {C d : Addr} {l : List (Str × V)} {name : Str} {v : V} {attr : Option Value} (hC : ClsOK c.K C) (ho : IsObj H ov C d l) (hl : l.lookup name = some v) (hb : ∀ i, v ≠ .bi i)
    (ha : findIn c.K (.ref C) name = some attr) (hn : noGet c.K attr = true) (hv : VR ov co) (h : Q v H) : TV c A L (getAttr co name true) m H Q := fun g s R => by
  obtain ⟨x, es, n, rfl, I, hA⟩ := R.inst ho hv
  have := hA.getR name
  rw [hl] at this
  unfold GetR at this
  obtain ⟨cv, e, hvr⟩ := this
  exact get_value (c.KIn.keeps fun _ _ e => R.has e) I (plainGet_of hC.pg).1 (findObj_own hC.hd ha hn e) (hvr.handed hb) ⟨s.heap, _, m, H, rfl, R, rfl, v, hvr, h⟩
theorem WE.attr {o : Expr} {name : Str} {pos : Pos} (h : WE c A env o m H (fun ov H₁ => ∀ co, VR ov co → TV c A env.locals (getAttr co name true) m H₁ Q))
    (he : eval (.Attribute o name pos) env = (do
      let v ← eval o env
      standAt pos.atName
      let r ← holding [v] (getAttr v name true)
      letTemporaryGo o v r
      pure r) := by with_unfolding_all rfl) : WE c A env (.Attribute o name pos) m H Q := fun g s R =>
  Attribute_any_ (stepV h R fun ov co h₁ tk₁ H₁ R₁ ho q => again (q co ho) R₁) he
noncomputable def METH (c : Cx) (H : Sto) (ov : V) (name : Str) (f : Addr) : Prop := ∃ C d l, IsObj H ov C d l ∧ ClsOK c.K C ∧ l.lookup name = none ∧ findIn c.K (.ref C) name = some (some (.ref f)) ∧ isFn c.K (.ref f) = true ∧ keepIn c.K (.ref f) = true
theorem METH.get {ov : V} {co : Value} {name : Str} {f : Addr} {pl : Sem Bool} {E : Value → Shared → Prop} {P : Value × List Value → Shared → Prop} (M : METH c H ov name f) (hv : VR ov co) (R : Rel c g L m H s.heap) (h : P (.ref f, [co]) s) : wpAny (model c.prog c.w) A (getMethod co name pl) P E s := by
  obtain ⟨C, d, l, ho, hC, hl, hf, ht, _⟩ := M
  obtain ⟨x, es, n, rfl, I, hA⟩ := R.inst ho hv
  have := hA.getR name
  rw [hl] at this
  unfold GetR at this
  exact method_fn (c.KIn.keeps fun _ _ e => R.has e) I (plainGet_of hC.pg).1 (plainGet_of hC.pg).2 hf (beq_iff_eq.mp ht) (by show (lookIn name (dictOf es n)).map _ = _; rw [lookIn_dict, this]; rfl) h
theorem WE.mobj0 {o : Expr} {name : Str} {apos pos : Pos} {pl : Sem Bool} (h : WE c A env o m H (fun ov H₁ => ∃ f, METH c H₁ ov name f ∧ CALL c A env.locals (.ref f) [ov] m H₁ Q))
    (he : eval (.Call (.Attribute o name apos) [] [] pos) env = (do
      let ov ← eval o env
      standAt apos.atName
      let (f, first) ← holding [ov] (getMethod ov name pl)
      callWith pos f first (backTo pos (starEach [] env)) []) := by rfl) : WE c A env (.Call (.Attribute o name apos) [] [] pos) m H Q := fun g s R =>
  MethodCall_ (pl := pl) (stepV h R fun ov co h₁ tk₁ H₁ R₁ ho ⟨f, M, q⟩ => M.get ho R₁ (again (callW0 (first := [ov]) (f := .ref f) (by obtain ⟨_, _, _, _, _, _, _, _, hk⟩ := M; exact hk) rfl (.cons ho .nil) q) R₁)) he
theorem WE.mobj {o : Expr} {name : Str} {apos pos : Pos} {e : Expr} {rest : List Expr} {pl : Sem Bool} (h : WE c A env o m H (fun ov H₁ => ∃ f, METH c H₁ ov name f ∧ WArgs c A env pos (e :: rest) m H₁ (fun vs H₂ => CALL c A env.locals (.ref f) (ov :: vs) m H₂ Q)))
    (he : eval (.Call (.Attribute o name apos) (e :: rest) [] pos) env = (do
      let ov ← eval o env
      standAt apos.atName
      let (f, first) ← holding [ov] (getMethod ov name pl)
      callWith pos f first (backTo pos (starEach (e :: rest) env)) []) := by rfl)
    (hse : starEach (e :: rest) env = (false, eval e env) :: starEach rest env := by rfl) (hplain : (backTo pos (starEach rest env)).any (·.1) = false := by rfl) : WE c A env (.Call (.Attribute o name apos) (e :: rest) [] pos) m H Q := fun g s R =>
  MethodCall_ (pl := pl) (stepV h R fun ov co h₁ tk₁ H₁ R₁ ho ⟨f, M, q⟩ => M.get ho R₁ (again (callW (first := [ov]) (f := .ref f) (by obtain ⟨_, _, _, _, _, _, _, _, hk⟩ := M; exact hk) rfl (.cons ho .nil) q hse hplain) R₁)) he
theorem tcall_weight (C : Addr) (cvs : List Value) : (Code.builtin "type.__call__" ⟨.ref C :: cvs, []⟩).weight = 1 ∧ (Code.builtin "type.__call__" ⟨.ref C :: cvs, []⟩).cUnits = 1 := by
  have h1 : (Code.builtin "type.__call__" ⟨.ref C :: cvs, []⟩).frames = 0 := by rfl
  have h2 : (Code.builtin "type.__call__" ⟨.ref C :: cvs, []⟩).isGuard = false := by
    show guardIds.contains "type.__call__" = false
    decide +kernel
  constructor
  · unfold Code.weight; rw [h1, h2]; rfl
  · show 1 + 3 * (Code.builtin "type.__call__" ⟨.ref C :: cvs, []⟩).frames = 1; rw [h1]
theorem Room.tcall {n : Nat} (h : Room (n + 1) A) (C : Addr) (cvs : List Value) : Room n (A.under (.builtin "type.__call__" ⟨.ref C :: cvs, []⟩)) := by
  obtain ⟨w1, w2⟩ := tcall_weight C cvs
  refine ⟨h.hd, ?_, ?_⟩
  · show A.depth + (Code.builtin "type.__call__" ⟨.ref C :: cvs, []⟩).weight + n ≤ 900
    rw [w1]; have := h.dp; lia
  · show A.units + (Code.builtin "type.__call__" ⟨.ref C :: cvs, []⟩).cUnits + 16 * n ≤ 9000
    rw [w2]; have := h.un; lia
theorem Room.deep {n : Nat} (h : Room (n + 1) A) (env : Env) : Room n (A.deeper env) := by
  refine ⟨h.hd, ?_, ?_⟩
  · show A.depth + 1 + n ≤ 900; have := h.dp; lia
  · show A.units + 3 + 16 * n ≤ 9000; have := h.un; lia
theorem Room.le {n k : Nat} (h : Room n A) (hk : k ≤ n) : Room k A := ⟨h.hd, by have := h.dp; lia, by have := h.un; lia⟩
theorem getattr_cls {C : Addr} {name : Str} {v : V} {cv : Value} (hr : readsIn c.K C (.type "type") = true) (e : findCls c.K (.ref C) (.type "type") name = some (.val cv)) (hv : VR v cv) (hb : ∀ i, v ≠ .bi i) (h : Q v H) : TV c A L (getAttr (.ref C) name true) m H Q := fun g s R =>
  cls_value (c.KIn.keeps fun _ _ e => R.has e) hr e (hv.handed hb) ⟨s.heap, _, m, H, rfl, R, rfl, v, hv, h⟩
theorem all_news2 (h : Heap) (L d : Addr) (hdL : d ≠ L) (od : Obj) (e : h.get? d = some od) : ∃ news : List (Addr × Obj), News {} L h ((d, od) :: news) ∧ (∀ p ∈ news, p.1 ≠ d) ∧ ∀ b o, b ≠ L → b ≠ d → h.get? b = some o → (b, o) ∈ news := by
  obtain ⟨news, N, hall⟩ := all_news h L
  refine ⟨news.filter (fun p => p.1 ≠ d), fun p hp => ?_, fun p hp => by simpa using (List.mem_filter.mp hp).2, fun b o h1 h2 h3 => List.mem_filter.mpr ⟨hall b o h1 h3, by simpa using h2⟩⟩
  rcases List.mem_cons.mp hp with rfl | hp
  · exact ⟨e, hdL, Heap.get?_none_of_le (Nat.zero_le _)⟩
  · exact N p (List.mem_filter.mp hp).1
theorem setattr_own {x : Addr} {b : Bool} {C d : Addr} {l : List (Str × V)} {name : Str} {v : V} {Q : Loc → Sto → Prop} (hC : ClsOK c.K C) (hx : H x = some (b, .obj C d)) (hd : H d = some (true, .attrs l)) (hl : l.lookup name = none) (hz : l.length ≤ 100)
    (ht : takerIn c.K C name = some none) (h : Q m (upd H d (true, .attrs (l ++ [(name, v)])))) : ∀ cv co, VR v cv → VR (.ref x) co → TR c A L (setAttr co name cv) m H (fun _ m' H' => Q m' H') := by
  rintro cv co hv rfl g s R
  obtain ⟨⟨ox, ex, rfl, _⟩, _⟩ := R.ob _ _ _ hx
  obtain ⟨⟨od, ed, ⟨es, n, rfl, ha⟩, _⟩, dL, dg, dsys⟩ := R.ob _ _ _ hd
  have X := c.KIn.keeps fun _ _ e => R.has e
  have I : InstAt s.heap x (instObj C d) C (some (dictOf es n)) := ⟨ex, rfl, rfl, ed⟩
  obtain ⟨mL, hn, hloc⟩ := R.loc
  obtain ⟨news, N, hne, hall⟩ := all_news2 s.heap L d dL _ ed
  have F : Fr {} L s.heap mL := ⟨hn, fun b o e => (by rw [Heap.get?_none_of_le (Nat.zero_le _)] at e; cases e), Nat.zero_le _⟩
  have hg := ha.getR name
  rw [hl] at hg
  unfold GetR at hg
  refine set_plain X I hC.sa (osa_dict (s := { s with toks := s.toks + 1 }) (pre := []) (post := news) (od' := dictOf (putL name (PyData.keyHash c.w.params name) (.str name (s.toks + 1)) cv es) (putN name es n)) F N X I rfl hC.po ht hC.hd (by rw [lookIn_dict, hg]; rfl) (fun p hp => by cases hp) hne (by rw [putName_dict]) rfl ?_ fun h' F' N' => ?_)
  · have := (ha.put (hsh := PyData.keyHash c.w.params name) (t := s.toks + 1) hl hv).len
    rw [this]; simp; lia
  · have kept : ∀ b o, b ≠ L → b ≠ d → s.heap.get? b = some o → h'.get? b = some o := fun b o h1 h2 h3 => (N' _ (.tail _ (hall b o h1 h2 h3))).1
    have R' : Rel c g L m (upd H d (true, .attrs (l ++ [(name, v)]))) h' := by
      refine ⟨⟨mL, F'.ns, hloc⟩, R.base, fun b y o e => ?_, R.gL, fun a b' o e => ?_⟩
      · exact kept b o (by rintro rfl; rw [R.gL] at e; cases e) (by rintro rfl; rw [dg rfl] at e; cases e) (R.keep b y o e)
      · by_cases had : a = d
        · subst had
          rw [upd_same] at e
          cases e
          exact ⟨⟨_, (N' _ (.head _)).1, ⟨_, _, rfl, ha.put hl hv⟩, fun q => by cases q⟩, dL, dg, fun _ q => by cases q⟩
        · rw [upd_ne _ _ had] at e
          obtain ⟨⟨ob, e1, e2, e3⟩, e4, e5, e6⟩ := R.ob a b' o e
          exact ⟨⟨ob, kept a ob e4 had e1, e2, e3⟩, e4, e5, e6⟩
    exact ⟨h', _, m, _, rfl, R', h⟩
theorem code_fn {f : Addr} {name qual : Str} {params : Arguments} {body : List Stmt} {scope : Scope} {dV kV doc pm cdv ct oc : Value} {an od : Option Addr} {osl : Array (Option Value)} {vs : List V} {cvs : List Value} {n : Nat}
    (ho : c.K.lookup f = some ⟨oc, od, .func (fnOf name qual params body scope dV kV doc pm an cdv ct), osl⟩) (hcd : codeIn c.K cdv qual = true) (names : List Str)
    (hbind : ∀ cvs, VRs vs cvs → bindArgs (fnOf name qual params body scope dV kV doc pm an cdv ct) ⟨cvs, []⟩ = pure (names.zip cvs)) (hdp : A.depth < 1000)
    (h : ∀ L', WS c (A.deeper (envX qual scope L' f cdv [])) (envX qual scope L' f cdv []) body (names.zip vs) H (Rets Q))
    (hvs : VRs vs cvs) (R : Rel c g L m H s.heap)
    (hnd : names.Nodup := by decide) (hlen : names.length = vs.length := by rfl) (hloc : ∀ x ∈ names, scope.names.lookup x = some .local := by decide)
    (hcell : ∀ x ∈ scope.names, x.2 ≠ .cell := by decide)
    (hco : scope.isCoroutine = false := by rfl) (hgen : scope.isGenerator = false := by rfl) (hk : scope.kind = .function := by rfl) :
    codeAny (model c.prog c.w) A (.call (.ref f) ⟨cvs, []⟩) (fun r s' => match r with | .ok (.ret cv) => ∃ h' tk H', s' = { s with heap := h', toks := tk } ∧ Rel c g L m H' h' ∧ ∃ v, VR v cv ∧ Q v H' | _ => False) s := by
  refine codeAny_call_def (fd := fnOf name qual params body scope dV kV doc pm an cdv ct) (body := body) (binds := names.zip cvs) (by show A.depth < 1000; lia) (R.has (c.KIn _ _ ho)) rfl R.lim (codeRec_of (c.KIn.keeps fun _ _ e => R.has e) hcd) rfl
    (BindsTo.of_eq (hbind cvs hvs)) hcell (fun x hx => hloc x.1 (List.of_mem_zip hx).1) (fun h₁ hns hk₁ => ?_) hco hgen hk
  obtain ⟨oL, hL⟩ := R.home
  have R₁ : Rel c (clo g L oL) s.heap.objs.size (names.zip vs) H h₁ := R.enter hL hk₁ (Heap.get?_none_of_le (Nat.le_refl _)) hns ?_
  · refine step_wp (s := { s with heap := h₁, toks := s.toks + (names.zip cvs).length }) (h s.heap.objs.size) R₁ fun fl h' tk m' H' R' ⟨fl', hfl, q⟩ => ?_
    obtain ⟨R₂, _⟩ := R.leave hL R'
    cases fl' with
    | next => cases hfl; exact ⟨h', tk, H', rfl, R₂, .none, rfl, q⟩
    | ret v => obtain ⟨cv, rfl, hv⟩ := hfl; exact ⟨h', tk, H', rfl, R₂, v, hv, q⟩
    | brk => exact q.elim
    | cont => exact q.elim
  · exact fun x v e => zip_bound hvs hlen hnd e
theorem CALL.cls {C fI : Addr} {vs : List V} (hm : makesIn c.K C = true) (hi : findIn c.K (.ref C) "__init__" = some (some (.ref fI))) (hf : isFn c.K (.ref fI) = true)
    (h : ∀ x d cvs g s, H x = none → H d = none → x ≠ d → VRs vs cvs → Rel c g L m (upd (upd H d (true, .attrs [])) x (true, .obj C d)) s.heap →
      codeAny (model c.prog c.w) (A.under (.builtin "type.__call__" ⟨.ref C :: cvs, []⟩)) (.call (.ref fI) ⟨.ref x :: cvs, []⟩) (fun r s' => match r with | .ok (.ret cv) => ∃ h' tk H', s' = { s with heap := h', toks := tk } ∧ Rel c g L m H' h' ∧ ∃ v, VR v cv ∧ (v = .none ∧ Q (.ref x) H') | _ => False) s) :
    CALL c A L (.ref C) vs m H Q := by
  rintro cf cvs rfl hvs g s R
  have X := c.KIn.keeps fun _ _ e => R.has e
  obtain ⟨hh, gg, d, t, os⟩ := s
  refine wpAny_call (make_core (makes_of X hm) (looks_findIn X hi) (fun self => bind_fn X self (beq_iff_eq.mp hf)) (.inl rfl) ?_)
  obtain ⟨R₁, hd⟩ := R.new (o := .attrs []) (h' := hh.push emptyDict) (fun _ _ e => Heap.get?_push_of_some _ e) (Heap.get?_none_of_le (Nat.le_refl _)) (Heap.get?_push_size _ rfl) ⟨[], 0, rfl, trivial⟩ (Nat.ne_of_gt R.room)
  have hsz : (hh.push emptyDict).objs.size = hh.objs.size + 1 := Heap.size_push ..
  obtain ⟨R₂, hx⟩ := R₁.new (a := hh.objs.size + 1) (o := .obj C hh.objs.size) (h' := (hh.push emptyDict).push (instObj C hh.objs.size)) (fun _ _ e => Heap.get?_push_of_some _ e) (by rw [← hsz]; exact Heap.get?_none_of_le (Nat.le_refl _)) (by rw [← hsz]; exact Heap.get?_push_size _ rfl) rfl (Nat.ne_of_gt (Nat.lt_succ_of_lt R.room))
  have hx' : H (hh.objs.size + 1) = none := by rwa [upd_ne _ _ (Nat.succ_ne_self _)] at hx
  refine codeAny_mono (h (hh.objs.size + 1) hh.objs.size cvs g ⟨(hh.push emptyDict).push (instObj C hh.objs.size), gg, d, t, os⟩ hx' hd (Nat.succ_ne_self _) hvs R₂) fun r s' q => ?_
  rcases r with e | (v | _ | _ | _) <;> first | exact q.elim | skip
  obtain ⟨h', tk, H', rfl, R', v, hv, rfl, q⟩ := q
  cases hv
  exact ⟨rfl, h', tk, m, H', rfl, R', rfl, _, VR.ref _, q⟩
end
end Mine
end
section
open PySem PySem.W PyProof.Rows
set_option maxRecDepth 100000
set_option maxHeartbeats 8000000
section
local macro_rules | `(tactic| o_head $_) => `(tactic| assumption)
theorem Mine.hp (h : PySem.Challenge.rw_pg0220_01.row.Holds) : PySem.Challenge.rw_pg0220_01.row.Holds := by k_head
end
def Mine.Out (_ : Params → Frag) : Type := Params → Frag
noncomputable def Mine.lit {a : Params → Nat × Obj} {k : Params → Frag} (_ : PySem.Str.ofString "S" = PySem.Str.mk ⟨[83]⟩) : Mine.Out (fun P => a P :: k P) := fun P => a P :: k P
noncomputable def Mine.KF : Params → Frag := (Mine.lit (by kernel_rfl) : Mine.Out Mine.hp.heap_1)
noncomputable def Mine.KAs : List Nat := [2,3,15,17,18,20,21,22,24,25,27,28,29,31,32,34,35,36,38,39,41,42,43,45,46,48,49,50,52,53,55,56,57,59,60,62,63,74,76,77,79,80,81,83,84,86,87,88,90,91,93,94,95,97,98,100,101,102,104,105,107,108,109,111,112,114,115,116,118,119,121,122,123,124,125,126,127,130,133,134,135,138,139,140,143,144,145,147,148,150,151,152,155,156,157,160,161,162,164,165,167,168,169,171,172,174,175,176,178,179,181,182,183,186,187,188,191,192,193,196,197]
noncomputable abbrev Mine.hook := kHook Mine.KF Mine.KAs (fun _ => by kernel_rfl)
section
local macro_rules | `(tactic| k_head) => `(tactic| o_head Mine.hook)
open_top Mine.hd for PySem.Challenge.rw_pg0220_01
end
end
section
open PySem PySem.W
set_option maxRecDepth 100000
set_option maxHeartbeats 8000000
set_option linter.all false
namespace Mine
theorem Sub.nil {m : Loc} : Sub [] m := fun _ _ e => by simp at e
theorem Sub.cons {m l : Loc} {x : Str} {v : V} (h : m.lookup x = some v) (hs : Sub l m) : Sub ((x, v) :: l) m := fun y w e => by
  rw [List.lookup_cons] at e
  by_cases hy : y = x
  · subst hy; simp at e; subst e; exact h
  · have : (y == x) = false := by simpa using hy
    rw [this] at e; exact hs y w e
theorem HSub.new {H : Sto} {D : Addr} {x : Bool × O} (h : H D = none) : HSub H (upd H D x) := fun a y e => by
  rw [upd_ne _ _ (by rintro rfl; rw [h] at e; cases e)]; exact e
theorem HSub.trans {H H' H'' : Sto} (h : HSub H H') (h' : HSub H' H'') : HSub H H'' := fun a x e => h' a x (h a x e)
theorem HSub.up {H H' : Sto} {a : Addr} {x : Bool × O} (h : HSub H H') : HSub (upd H a x) (upd H' a x) := fun b y e => by
  by_cases hb : b = a
  · subst hb; rw [upd_same] at e ⊢; exact e
  · rw [upd_ne _ _ hb] at e ⊢; exact h b y e
theorem HSub.back {H H' : Sto} {a : Addr} {x y : Bool × O} (h : H a = some x) (h' : HSub (upd H a y) H') : HSub H (upd H' a x) := fun b z e => by
  by_cases hb : b = a
  · subst hb; rw [upd_same]; rw [h] at e; exact e
  · rw [upd_ne _ _ hb]; exact h' b z (by rw [upd_ne _ _ hb]; exact e)
theorem HSub.ne {H : Sto} {a D : Addr} {x : Bool × O} (h : H D = none) (ha : H a = some x) : a ≠ D := by rintro rfl; rw [h] at ha; cases ha
theorem off {H : Sto} {D N : Addr} {x : Bool × O} (h : upd H D x N = none) : N ≠ D ∧ H N = none := by
  have e : N ≠ D := by rintro rfl; rw [upd_same] at h; cases h
  exact ⟨e, by rwa [upd_ne _ _ e] at h⟩
theorem iteP {p a b : Prop} [Decidable p] (h : p) (k : a) : if decide p = true then a else b := by rw [decide_eq_true h]; exact k
theorem iteN {p a b : Prop} [Decidable p] (h : ¬p) (k : b) : if decide p = true then a else b := by rw [decide_eq_false h]; exact k
theorem itePF {p a b : Prop} [Decidable p] (h : p) (k : b) : if (!decide p) = true then a else b := by rw [decide_eq_true h]; exact k
theorem iteNT {p a b : Prop} [Decidable p] (h : ¬p) (k : a) : if (!decide p) = true then a else b := by rw [decide_eq_false h]; exact k
theorem iteT {a b : Prop} (h : a) : if true = true then a else b := h
theorem iteF {a b : Prop} (h : b) : if false = true then a else b := h
theorem upd_get {H : Sto} {a D : Addr} {x y : Bool × O} (h : H D = none) (ha : H a = some x) : upd H D y a = some x := by rw [upd_ne _ _ (HSub.ne h ha)]; exact ha
section
variable {c : Cx} {A : Around} {L : Addr} {m : Loc} {H : Sto} {env : Env} {Q : V → Sto → Prop} {f : V} {vs : List V}
theorem CALL.more (h : CALL c A L f vs m H (fun v => More (Q v))) : CALL c A L f vs m H Q := fun cf cvs hf hvs => TV.conseq (h cf cvs hf hvs) fun _ _ q => q
end
noncomputable abbrev tab (D : List (Int × Int)) : List (Int × V) := D.map fun p => (p.1, V.int p.2)
noncomputable abbrev zs (ns : List Int) : List V := ns.map V.int
theorem zs_get {ns : List Int} {i : Nat} (h : i < ns.length) : (zs ns)[i]? = some (.int (ns.getD i 0)) := by
  simp [List.getD_eq_getElem?_getD, h]
section
variable {c : Cx} {A : Around} {L : Addr} {m : Loc} {H : Sto} {Q : V → Sto → Prop}
theorem c_count (hK : c.K = KF c.w.params) {a : Addr} {b : Bool} {D : List (Int × Int)} (hR : Room 1 A) (ha : H a = some (b, .dict (tab D))) (h : Q (.int (D.map (·.2)).sum) H) : CALL c A L (.ref 63) [.ref a] m H Q := by
  refine CALL.more (CALL.fn (n := 0) (by rw [hK]; rfl) (by rw [hK]; rfl) ["callers"] (fun cvs hv => ?_) hR (fun L' => ?_))
  · obtain ⟨x, rfl, _⟩ := hv.inv1
    rfl
  · have hA : ∀ env, (A.deeper env).handled = none := fun _ => hR.hd
    refine WS.cons (W1.assign (WE.int ?_))
    refine WS.weaken (m' := [("callers", .ref a), ("nc", .int 0)]) ?_ (.cons rfl (.cons rfl .nil)) (HSub.refl _)
    refine WS.cons (W1.for (WE.meth0 PySem.F.plainAttrs_dict PySem.F.slot_dict_values PySem.F.type_dict_values (WE.loc rfl ⟨IsT.dict ha, call_values ha fun V hV => ?_⟩)))
    have ha' : upd H V (true, .vals a) a = some (b, .dict (tab D)) := upd_get hV ha
    refine WF.ro ha' (WF.loop (fun i m' H' => m' = ([("callers", .ref a), ("nc", .int ((D.take i).map (·.2)).sum)] : Loc) ∧ H' = upd (upd H V (true, .vals a)) a (false, .dict (tab D))) (ITER.vals (hA _) (b := true) (by rw [upd_ne _ _ (HSub.ne hV ha).symm, upd_same]) (upd_same ..)) ?_ ?_ ?_)
    · exact ⟨by simp, rfl⟩
    · rintro i v m' H' hi ⟨rfl, rfl⟩
      have hlt : i < D.length := by simpa using (List.getElem?_eq_some_iff.mp hi).1
      obtain rfl : v = .int (D[i].2) := by
        have : ((tab D).map (·.2))[i]? = some (.int (D[i].2)) := by simp [hlt]
        rw [this] at hi; exact (Option.some.inj hi).symm
      refine WS.cons (W1.aug (v := .int ((D.take i).map (·.2)).sum) rfl (WE.loc rfl (op_iadd (WS.nil ⟨_, _, .cons rfl (.cons ?_ .nil), HSub.refl _, rfl, rfl⟩))))
      rw [show ((D.take (i + 1)).map (·.2)).sum = ((D.take i).map (·.2)).sum + D[i].2 by rw [List.take_succ_eq_append_getElem hlt, List.map_append, List.sum_append]; simp only [List.map_cons, List.map_nil, List.sum_cons, List.sum_nil, Int.add_zero]]
      rfl
    · rintro m' H' ⟨rfl, rfl⟩
      refine WS.cons (W1.ret (WE.loc rfl ?_))
      refine ⟨H, ?_, by simpa using h⟩
      exact HSub.back ha (HSub.up (HSub.new hV))
end
section
variable {c : Cx}
theorem gk (hK : c.K = KF c.w.params) {x : Str} {f : Addr} (h : nsIn (KF c.w.params) mainGlobals x = some (some (.ref f)) := by rfl) : nsIn c.K mainGlobals x = some (some (.ref f)) := hK ▸ h
theorem gn (hK : c.K = KF c.w.params) {x : Str} (h : nsIn (KF c.w.params) mainGlobals x = some none := by rfl) : nsIn c.K mainGlobals x = some none := hK ▸ h
theorem kk (hK : c.K = KF c.w.params) {v : Value} (h : keepIn (KF c.w.params) v = true := by rfl) : keepIn c.K v = true := hK ▸ h
theorem ko (hK : c.K = KF c.w.params) {a : Addr} {o : Obj} (h : (KF c.w.params).lookup a = some o := by rfl) : c.K.lookup a = some o := hK ▸ h
theorem kc (hK : c.K = KF c.w.params) {v : Value} {q : Str} (h : codeIn (KF c.w.params) v q = true := by rfl) : codeIn c.K v q = true := hK ▸ h
end
end Mine
end
section
open PySem PySem.W
set_option maxRecDepth 100000
set_option maxHeartbeats 8000000
set_option linter.all false
namespace Mine
noncomputable def HeapFrom (s : Nat) (l : List Int) : Prop := ∀ k, 1 ≤ k → k < l.length → s ≤ (k - 1) / 2 → l.getD ((k - 1) / 2) 0 ≤ l.getD k 0
theorem getD_set {l : List Int} {p : Nat} {x : Int} (hp : p < l.length) (k : Nat) : (l.set p x).getD k 0 = if k = p then x else l.getD k 0 := by
  simp only [List.getD_eq_getElem?_getD, List.getElem?_set]
  by_cases h : p = k
  · subst h; simp [hp]
  · simp [h, Ne.symm h]
inductive Desc (s : Nat) : Nat → Prop
  | here : Desc s s
  | left {q} : Desc s q → Desc s (2 * q + 1)
  | right {q} : Desc s q → Desc s (2 * q + 2)
theorem Desc.ge {s p : Nat} (h : Desc s p) : s ≤ p := by
  induction h with
  | here => exact Nat.le_refl _
  | left _ ih => lia
  | right _ ih => lia
theorem Desc.up {s p : Nat} (h : Desc s p) (hp : s < p) : Desc s ((p - 1) / 2) := by
  cases h with
  | here => lia
  | @left q h => rw [show (2 * q + 1 - 1) / 2 = q by lia]; exact h
  | @right q h => rw [show (2 * q + 2 - 1) / 2 = q by lia]; exact h
structure Up (s : Nat) (l₀ l : List Int) (p : Nat) (x : Int) : Prop where
  hp : p < l.length
  perm : (l.set p x).Perm l₀
  desc : Desc s p
  heap : ∃ y, HeapFrom s (l.set p y)
  kids : ∀ k, 1 ≤ k → k < l.length → (k - 1) / 2 = p → x ≤ l.getD k 0
theorem Up.stop {s : Nat} {l₀ l : List Int} {p : Nat} {x : Int} (U : Up s l₀ l p x) (h : p ≤ s ∨ l.getD ((p - 1) / 2) 0 ≤ x) : HeapFrom s (l.set p x) := by
  obtain ⟨hp, _, hd, ⟨y, hy⟩, hk⟩ := U
  have hge := hd.ge
  intro k h1 h2 h3
  rw [List.length_set] at h2
  have e := hy k h1 (by rw [List.length_set]; exact h2) h3
  rw [getD_set hp, getD_set hp] at e ⊢
  by_cases a : (k - 1) / 2 = p
  · have b : k ≠ p := by lia
    simp only [a, if_true, b, if_false] at e ⊢
    exact hk k h1 h2 a
  · by_cases b : k = p
    · subst b
      simp only [a, if_false, if_true] at e ⊢
      rcases h with h | h
      · lia
      · exact h
    · simp only [a, b, if_false] at e ⊢; exact e
theorem Up.step {s : Nat} {l₀ l : List Int} {p : Nat} {x : Int} (U : Up s l₀ l p x) (hs : s < p) (h : x < l.getD ((p - 1) / 2) 0) : Up s l₀ (l.set p (l.getD ((p - 1) / 2) 0)) ((p - 1) / 2) x := by
  obtain ⟨hp, hpm, hd, ⟨y, hy⟩, hk⟩ := U
  have hq : (p - 1) / 2 < l.length := by lia
  have hqp : (p - 1) / 2 ≠ p := by lia
  have hd' := hd.up hs
  have hge := hd'.ge
  have z : (l.set p x)[(p - 1) / 2]'(by rw [List.length_set]; exact hq) = l.getD ((p - 1) / 2) 0 := by rw [List.getElem_set_ne (Ne.symm hqp), getD_at hq]
  have z2 : (l.set p x)[p]'(by rw [List.length_set]; exact hp) = x := by simp
  refine ⟨by rw [List.length_set]; exact hq, ?_, hd', ⟨l.getD ((p - 1) / 2) 0, ?_⟩, ?_⟩
  · have e := List.set_set_perm (as := l.set p x) (i := p) (j := (p - 1) / 2) (by rw [List.length_set]; exact hp) (by rw [List.length_set]; exact hq)
    rw [z, z2, List.set_set] at e
    exact e.trans hpm
  · intro k h1 h2 h3
    rw [List.length_set, List.length_set] at h2
    have e1 := hy k h1 (by rw [List.length_set]; exact h2) h3
    have e2 := hy p (by lia) (by rw [List.length_set]; exact hp) hge
    rw [getD_set hp, getD_set hp] at e1 e2
    have hq' : (p - 1) / 2 < (l.set p (l.getD ((p - 1) / 2) 0)).length := by rw [List.length_set]; exact hq
    simp only [getD_set hq', getD_set hp]
    simp only [hqp, if_false, if_true] at e2
    by_cases a : (k - 1) / 2 = p
    · have b : k ≠ p := by lia
      have c : k ≠ (p - 1) / 2 := by lia
      simp only [a, b, c, hqp.symm, if_true, if_false] at e1 ⊢
      lia
    · by_cases b : k = p
      · subst b; simp only [hqp, hqp.symm, if_true, if_false]; exact Int.le_refl _
      · by_cases c : (k - 1) / 2 = (p - 1) / 2
        · have d : k ≠ (p - 1) / 2 := by lia
          rw [c] at e1 ⊢
          simp only [hqp, b, d, if_true, if_false] at e1 ⊢
          exact e1
        · by_cases d : k = (p - 1) / 2
          · subst d; simp only [a, c, b, if_true, if_false] at e1 ⊢; exact e1
          · simp only [a, b, c, d, if_false] at e1 ⊢; exact e1
  · intro k h1 h2 h3
    rw [List.length_set] at h2
    rw [getD_set hp]
    by_cases b : k = p
    · simp only [b, if_true]; lia
    · have e1 := hy k h1 (by rw [List.length_set]; exact h2) (by lia)
      rw [getD_set hp, getD_set hp, h3] at e1
      simp only [hqp, b, if_false] at e1 ⊢
      lia
structure Dn (s : Nat) (l₀ l : List Int) (p : Nat) (x : Int) : Prop where
  hp : p < l.length
  perm : (l.set p x).Perm l₀
  desc : Desc s p
  heap : (p = s ∧ HeapFrom (s + 1) l) ∨ (s < p ∧ HeapFrom s l)
theorem Dn.step {s : Nat} {l₀ l : List Int} {p c : Nat} {x : Int} (U : Dn s l₀ l p x) (hc : c < l.length) (hcp : c = 2 * p + 1 ∨ c = 2 * p + 2) (hm : ∀ k, k < l.length → (k = 2 * p + 1 ∨ k = 2 * p + 2) → l.getD c 0 ≤ l.getD k 0) :
    Dn s l₀ (l.set p (l.getD c 0)) c x := by
  obtain ⟨hp, hpm, hd, hh⟩ := U
  have hpc : p ≠ c := by lia
  have hge := hd.ge
  have z : (l.set p x)[c]'(by rw [List.length_set]; exact hc) = l.getD c 0 := by rw [List.getElem_set_ne hpc, getD_at hc]
  have z2 : (l.set p x)[p]'(by rw [List.length_set]; exact hp) = x := by simp
  refine ⟨by rw [List.length_set]; exact hc, ?_, ?_, .inr ⟨by lia, ?_⟩⟩
  · have e := List.set_set_perm (as := l.set p x) (i := p) (j := c) (by rw [List.length_set]; exact hp) (by rw [List.length_set]; exact hc)
    rw [z, z2, List.set_set] at e
    exact e.trans hpm
  · rcases hcp with e | e
    · rw [e]; exact hd.left
    · rw [e]; exact hd.right
  · intro k h1 h2 h3
    rw [List.length_set] at h2
    rw [getD_set hp, getD_set hp]
    by_cases a : (k - 1) / 2 = p
    · have b : k ≠ p := by lia
      simp only [a, b, if_true, if_false]
      exact hm k h2 (by lia)
    · by_cases b : k = p
      · subst b
        simp only [a, if_true, if_false]
        rcases hh with ⟨e, _⟩ | ⟨_, hh⟩
        · lia
        · have e1 := hh k h1 h2 h3
          have e2 := hh c (by lia) hc (by lia)
          rw [show (c - 1) / 2 = k by lia] at e2
          lia
      · simp only [a, b, if_false]
        rcases hh with ⟨e, hh⟩ | ⟨_, hh⟩
        · exact hh k h1 h2 (by lia)
        · exact hh k h1 h2 h3
theorem Dn.up {s : Nat} {l₀ l : List Int} {p : Nat} {x : Int} (U : Dn s l₀ l p x) (hl : l.length ≤ 2 * p + 1) : Up s l₀ (l.set p x) p x := by
  obtain ⟨hp, hpm, hd, hh⟩ := U
  refine ⟨by rw [List.length_set]; exact hp, by rw [List.set_set]; exact hpm, hd, ⟨l.getD p 0, ?_⟩, fun k h1 h2 h3 => by rw [List.length_set] at h2; lia⟩
  have e : (l.set p x).set p (l.getD p 0) = l := by
    rw [List.set_set, getD_at hp, List.set_getElem_self]
  rw [e]
  rcases hh with ⟨e, hh⟩ | ⟨_, hh⟩
  · intro k h1 h2 h3
    by_cases a : (k - 1) / 2 = s
    · lia
    · exact hh k h1 h2 (by lia)
  · exact hh
theorem HeapFrom.min {l : List Int} (h : HeapFrom 0 l) : ∀ k, k < l.length → l.getD 0 0 ≤ l.getD k 0 := by
  intro k
  induction k using Nat.strongRecOn with
  | _ k ih =>
    intro hk
    rcases Nat.eq_zero_or_pos k with rfl | hpos
    · exact Int.le_refl _
    · have h1 := ih ((k - 1) / 2) (by lia) (by lia)
      have h2 := h k hpos hk (Nat.zero_le _)
      lia
theorem HeapFrom.half (l : List Int) : HeapFrom (l.length / 2) l := fun k h1 h2 h3 => by lia
end Mine
end
section
open PySem PySem.W
set_option maxRecDepth 100000
set_option maxHeartbeats 8000000
set_option linter.all false
namespace Mine
section
variable {c : Cx} {A : Around} {L : Addr} {m : Loc} {H : Sto} {Q : V → Sto → Prop}
theorem getZ {a : Addr} {b : Bool} {l : List Int} {k : Nat} (ha : H a = some (b, .list (zs l))) (hk : k < l.length) (hl : l.length ≤ 1000000) (h : Q (.int (l.getD k 0)) H) : OP2 c A L getItem (.ref a) (.int (k : Int)) m H Q :=
  op_item_list ha (by lia) (by lia) (by rw [Int.toNat_natCast]; exact zs_get hk) h
theorem setZ {a : Addr} {l : List Int} {k : Nat} {x : Int} {Q : Loc → Sto → Prop} (ha : H a = some (true, .list (zs l))) (hk : k < l.length) (hl : l.length ≤ 1000000) (h : Q m (upd H a (true, .list (zs (l.set k x))))) :
    ∀ cv co ci, VR (.int x) cv → VR (.ref a) co → VR (.int (k : Int)) ci → TR c A L (setItem co ci cv) m H (fun _ m' H' => Q m' H') :=
  set_list ha (by lia) (by simpa using hk) (by simpa using hl) (by rw [Int.toNat_natCast, ← List.map_set]; exact h)
@[reducible] noncomputable def dnM (a : Addr) (s : Nat) (x : Int) (p : Nat) : Loc := [("heap", .ref a), ("startpos", .int s), ("newitem", .int x), ("pos", .int p)]
inductive UpI (H : Sto) (a : Addr) (l₀ l : List Int) (s : Nat) (x : Int) (n : Nat) (m' : Loc) (H' : Sto) : Prop where
  | mk (l' : List Int) (e : m' = dnM a s x n) (e2 : H' = upd H a (true, .list (zs l'))) (hlen : l'.length = l.length) (U : Up s l₀ l' n x) : UpI H a l₀ l s x n m' H'
theorem c_siftdown (hK : c.K = KF c.w.params) {a : Addr} {l₀ l : List Int} {s p : Nat} (hR : Room 1 A) (ha : H a = some (true, .list (zs l))) (hl : l.length ≤ 1000000) (U : Up s l₀ l p (l.getD p 0))
    (h : ∀ l', l'.Perm l₀ → l'.length = l.length → HeapFrom s l' → Q .none (upd H a (true, .list (zs l')))) : CALL c A L (.ref 42) [.ref a, .int s, .int p] m H Q := by
  refine CALL.fn (n := 0) (ko hK) (kc hK) ["heap", "startpos", "pos"] (fun cvs hv => ?_) hR (fun L' => ?_)
  · obtain ⟨x, y, z, rfl, _⟩ := hv.inv3
    rfl
  · refine WS.cons (W1.assign (WE.sub_list (WE.loc rfl (WE.loc rfl ⟨IsT.list ha, getZ ha U.hp hl ?_⟩))))
    generalize hx : l.getD p 0 = x at U ⊢
    refine WS.weaken (m' := dnM a s x p) ?_ (.cons rfl (.cons rfl (.cons rfl (.cons rfl .nil)))) (HSub.refl _)
    refine WS.cons (W1.while (UpI H a l₀ l s x) p ?_ ?_)
    · exact ⟨l, rfl, (upd_self H ha).symm, rfl, U⟩
    · rintro p' m' H' ⟨l', rfl, rfl, hlen, U'⟩
      have ha' : upd H a (true, .list (zs l')) a = some (true, .list (zs l')) := upd_same ..
      have hp' := U'.hp
      have last : HeapFrom s (l'.set p' x) → Q .none (upd H a (true, .list (zs (l'.set p' x)))) := fun hh => h _ U'.perm (by rw [List.length_set]; exact hlen) hh
      refine WT.cmp (WE.loc rfl (WE.loc rfl (op_gt (OPT.bool ?_))))
      by_cases hgt : s < p'
      · refine iteP (by simpa using hgt) ?_
        have hq : (p' - 1) / 2 < l'.length := by lia
        refine WS.cons (W1.assign (WE.binop (WE.binop (WE.loc rfl (WE.int (op_sub (WE.int (op_shr1 (by lia) ?_))))))))
        rw [show ((p' : Int) - 1) / 2 = (((p' - 1) / 2 : Nat) : Int) by lia]
        refine WS.cons (W1.assign (WE.sub_list (WE.loc rfl (WE.loc rfl ⟨IsT.list ha', getZ ha' hq (by lia) ?_⟩))))
        refine WS.cons (W1.ite (WT.cmp (WE.loc rfl (WE.loc rfl (op_lt (OPT.bool ?_))))))
        by_cases hlt : x < l'.getD ((p' - 1) / 2) 0
        · refine iteP (by simpa using hlt) ?_
          refine WS.cons (W1.setitem (WE.loc rfl (WE.loc rfl (WE.loc rfl (setZ ha' hp' (by lia) ?_)))))
          rw [upd_upd]
          refine WS.cons (W1.assign (WE.loc rfl ?_))
          refine WS.cons (W1.cont ?_)
          exact ⟨(p' - 1) / 2, by lia, _, _, .cons rfl (.cons rfl (.cons rfl (.cons rfl .nil))), HSub.refl _, _, rfl, rfl, by rw [List.length_set]; exact hlen, U'.step hgt hlt⟩
        · refine iteN (by simpa using hlt) ?_
          refine WS.nil (WS.cons (W1.brk ?_))
          refine WS.cons (W1.setitem (WE.loc rfl (WE.loc rfl (WE.loc rfl (setZ ha' hp' (by lia) ?_)))))
          rw [upd_upd]
          exact WS.nil (last (U'.stop (.inr (by lia))))
      · refine iteN (by simpa using hgt) ?_
        refine WS.cons (W1.setitem (WE.loc rfl (WE.loc rfl (WE.loc rfl (setZ ha' hp' (by lia) ?_)))))
        rw [upd_upd]
        exact WS.nil (last (U'.stop (.inl (by lia))))
end
end Mine
end
section
open PySem PySem.W
set_option maxRecDepth 100000
set_option maxHeartbeats 8000000
set_option linter.all false
namespace Mine
section
variable {c : Cx} {A : Around} {L : Addr} {m : Loc} {H : Sto} {env : Env} {Q : V → Sto → Prop}
theorem lenZ {a : Addr} {b : Bool} {l : List Int} (ha : H a = some (b, .list (zs l))) (hl : l.length ≤ 1000000) (h : Q (.int l.length) H) : CALL c A L (.bi "len") [.ref a] m H Q :=
  call_len ha (by simpa using hl) (by simpa using h)
theorem WE.bcall1 {x : Str} {p pos : Pos} {e : Expr} {v : V} {cv : Value} (hn : nsIn c.K mainGlobals x = some none) (hv : bootBuiltins x = some cv) (hr : VR v cv) (hk : Keeps1 c v)
    (h : WE c A env e m H (fun w H₁ => CALL c A env.locals v [w] m H₁ Q)) (hne : x ≠ "__name__" := by decide) (hg : env.globals = mainGlobals := by rfl) (hb : env.builtins = builtinsNs := by rfl)
    (hkf : env.scope.kind = .function := by rfl) (hx : env.kindOf x = some .globalImplicit := by rfl) (hd : (x == ("__debug__" : Str)) = false := by decide)
    (he : starEach [e] env = (false, eval e env) :: starEach [] env := by rfl) : WE c A env (.Call (.Name x p) [e] [] pos) m H Q :=
  WE.call (WE.builtin hn hv hr ⟨hk, WArgs.cons (TV.mono h fun _ _ q => WArgs.nil q) he⟩ hne hg hb hkf hx hd) he rfl
theorem WE.bcall2 {x : Str} {p pos : Pos} {e e' : Expr} {v : V} {cv : Value} (hn : nsIn c.K mainGlobals x = some none) (hv : bootBuiltins x = some cv) (hr : VR v cv) (hk : Keeps1 c v)
    (h : WE c A env e m H (fun w H₁ => WE c A env e' m H₁ (fun w' H₂ => CALL c A env.locals v [w, w'] m H₂ Q))) (hne : x ≠ "__name__" := by decide) (hg : env.globals = mainGlobals := by rfl) (hb : env.builtins = builtinsNs := by rfl)
    (hkf : env.scope.kind = .function := by rfl) (hx : env.kindOf x = some .globalImplicit := by rfl) (hd : (x == ("__debug__" : Str)) = false := by decide)
    (he : starEach [e, e'] env = (false, eval e env) :: starEach [e'] env := by rfl) (he' : starEach [e'] env = (false, eval e' env) :: starEach [] env := by rfl) (hpl : (backTo pos (starEach [e'] env)).any (·.1) = false := by rfl) : WE c A env (.Call (.Name x p) [e, e'] [] pos) m H Q :=
  WE.call (WE.builtin hn hv hr ⟨hk, WArgs.cons (TV.mono h fun _ _ q => WArgs.cons (TV.mono q fun _ _ q => WArgs.nil q) he') he⟩ hne hg hb hkf hx hd) he hpl
theorem WE.gcall1 {x : Str} {p pos : Pos} {e : Expr} {f : Addr} (hn : nsIn c.K mainGlobals x = some (some (.ref f))) (hk : keepIn c.K (.ref f) = true)
    (h : WE c A env e m H (fun w H₁ => CALL c A env.locals (.ref f) [w] m H₁ Q)) (hg : env.globals = mainGlobals := by rfl) (hkf : env.scope.kind = .function := by rfl) (hx : env.kindOf x = some .globalImplicit := by rfl)
    (hd : (x == ("__debug__" : Str)) = false := by decide) (he : starEach [e] env = (false, eval e env) :: starEach [] env := by rfl) : WE c A env (.Call (.Name x p) [e] [] pos) m H Q :=
  WE.call (WE.glob hn ⟨hk, WArgs.cons (TV.mono h fun _ _ q => WArgs.nil q) he⟩ hg hkf hx hd) he rfl
theorem WE.gcall2 {x : Str} {p pos : Pos} {e e' : Expr} {f : Addr} (hn : nsIn c.K mainGlobals x = some (some (.ref f))) (hk : keepIn c.K (.ref f) = true)
    (h : WE c A env e m H (fun w H₁ => WE c A env e' m H₁ (fun w' H₂ => CALL c A env.locals (.ref f) [w, w'] m H₂ Q))) (hg : env.globals = mainGlobals := by rfl) (hkf : env.scope.kind = .function := by rfl) (hx : env.kindOf x = some .globalImplicit := by rfl)
    (hd : (x == ("__debug__" : Str)) = false := by decide) (he : starEach [e, e'] env = (false, eval e env) :: starEach [e'] env := by rfl) (he' : starEach [e'] env = (false, eval e' env) :: starEach [] env := by rfl) (hpl : (backTo pos (starEach [e'] env)).any (·.1) = false := by rfl) : WE c A env (.Call (.Name x p) [e, e'] [] pos) m H Q :=
  WE.call (WE.glob hn ⟨hk, WArgs.cons (TV.mono h fun _ _ q => WArgs.cons (TV.mono q fun _ _ q => WArgs.nil q) he') he⟩ hg hkf hx hd) he hpl
theorem WE.gcall3 {x : Str} {p pos : Pos} {e e' e'' : Expr} {f : Addr} (hn : nsIn c.K mainGlobals x = some (some (.ref f))) (hk : keepIn c.K (.ref f) = true)
    (h : WE c A env e m H (fun w H₁ => WE c A env e' m H₁ (fun w' H₂ => WE c A env e'' m H₂ (fun w'' H₃ => CALL c A env.locals (.ref f) [w, w', w''] m H₃ Q)))) (hg : env.globals = mainGlobals := by rfl) (hkf : env.scope.kind = .function := by rfl) (hx : env.kindOf x = some .globalImplicit := by rfl)
    (hd : (x == ("__debug__" : Str)) = false := by decide) (he : starEach [e, e', e''] env = (false, eval e env) :: starEach [e', e''] env := by rfl) (he' : starEach [e', e''] env = (false, eval e' env) :: starEach [e''] env := by rfl) (he'' : starEach [e''] env = (false, eval e'' env) :: starEach [] env := by rfl)
    (hpl : (backTo pos (starEach [e', e''] env)).any (·.1) = false := by rfl) : WE c A env (.Call (.Name x p) [e, e', e''] [] pos) m H Q :=
  WE.call (WE.glob hn ⟨hk, WArgs.cons (TV.mono h fun _ _ q => WArgs.cons (TV.mono q fun _ _ q => WArgs.cons (TV.mono q fun _ _ q => WArgs.nil q) he'') he') he⟩ hg hkf hx hd) he hpl
theorem W1.via {st : Stmt} {rest : List Stmt} {Q : SPost} (Q₀ : Loc → Sto → Prop) (h : W1 c A env st m H (fun fl m' H' => fl = .next ∧ Q₀ m' H')) (hq : ∀ m' H', Q₀ m' H' → WS c A env rest m' H' Q) : W1 c A env st m H (Thn c A env rest Q) :=
  TR.mono h fun f m' H' ⟨fl, a, e, q⟩ => ⟨fl, a, by subst e; exact hq m' H' q⟩
theorem mul2 (b : Int) : IntMulOk 2 b := IntMulOk.of_left (by decide)
@[reducible] noncomputable def upM (a : Addr) (l : List Int) (s : Nat) (x : Int) (p c : Nat) : Loc := [("heap", .ref a), ("endpos", .int l.length), ("startpos", .int s), ("newitem", .int x), ("pos", .int p), ("childpos", .int c)]
inductive DownI (H : Sto) (a : Addr) (l : List Int) (s : Nat) (x : Int) : Nat → Loc → Sto → Prop where
  | mk (l' : List Int) (p' : Nat) (hlen : l'.length = l.length) (U : Dn s l l' p' x) : DownI H a l s x (l.length - p') (upM a l s x p' (2 * p' + 1 : Nat)) (upd H a (true, .list (zs l')))
inductive ChildI (H : Sto) (a : Addr) (l l' : List Int) (s p' : Nat) (x : Int) (m' : Loc) (H' : Sto) : Prop where
  | mk (cp : Nat) (hsub : Sub (upM a l s x p' cp) m') (e : H' = upd H a (true, .list (zs l'))) (hlt' : cp < l'.length) (hcp' : cp = 2 * p' + 1 ∨ cp = 2 * p' + 2)
      (hmin : ∀ k, k < l'.length → (k = 2 * p' + 1 ∨ k = 2 * p' + 2) → l'.getD cp 0 ≤ l'.getD k 0) : ChildI H a l l' s p' x m' H'
theorem c_siftup (hK : c.K = KF c.w.params) {a : Addr} {l : List Int} {s : Nat} (hR : Room 2 A) (ha : H a = some (true, .list (zs l))) (hl : l.length ≤ 1000000) (hs : s < l.length) (hh : HeapFrom (s + 1) l)
    (h : ∀ l', l'.Perm l → l'.length = l.length → HeapFrom s l' → Q .none (upd H a (true, .list (zs l')))) : CALL c A L (.ref 49) [.ref a, .int s] m H Q := by
  refine CALL.fn (n := 1) (ko hK) (kc hK) ["heap", "pos"] (fun cvs hv => ?_) hR (fun L' => ?_)
  · obtain ⟨x, y, rfl, _⟩ := hv.inv2
    rfl
  · refine WS.cons (W1.assign (WE.bcall1 (gn hK) PyProof.Rows.Boot.len (v := .bi "len") rfl trivial (WE.loc rfl (lenZ ha hl ?_))))
    refine WS.cons (W1.assign (WE.loc rfl ?_))
    refine WS.cons (W1.assign (WE.sub_list (WE.loc rfl (WE.loc rfl ⟨IsT.list ha, getZ ha hs hl ?_⟩))))
    generalize hx : l.getD s 0 = x
    refine WS.cons (W1.assign (WE.binop (WE.binop (WE.int (WE.loc rfl (op_mul (mul2 _) (WE.int (op_add ?_))))))))
    rw [show (2 * (s : Int) + 1) = ((2 * s + 1 : Nat) : Int) by lia]
    refine WS.weaken (m' := (upM a l s x s (2 * s + 1 : Nat))) ?_ (.cons rfl (.cons rfl (.cons rfl (.cons rfl (.cons rfl (.cons rfl .nil)))))) (HSub.refl _)
    refine WS.cons (W1.while (DownI H a l s x) (l.length - s) ?_ ?_)
    · have D : DownI H a l s x (l.length - s) (upM a l s x s (2 * s + 1 : Nat)) (upd H a (true, .list (zs l))) := .mk l s rfl ⟨hs, by rw [← hx, getD_at hs, List.set_getElem_self], .here, .inl ⟨rfl, hh⟩⟩
      rwa [upd_self H ha] at D
    · intro n m' H' hI
      cases hI with | mk l' p' hlen U => ?_
      have ha' : upd H a (true, .list (zs l')) a = some (true, .list (zs l')) := upd_same ..
      have hp' := U.hp
      refine WT.cmp (WE.loc rfl (WE.loc rfl (op_lt (OPT.bool ?_))))
      by_cases hlt : 2 * p' + 1 < l.length
      · refine iteP (by lia) ?_
        refine WS.cons (W1.assign (WE.binop (WE.loc rfl (WE.int (op_add ?_)))))
        rw [show ((2 * p' + 1 : Nat) : Int) + 1 = ((2 * p' + 2 : Nat) : Int) by lia]
        refine WS.cons (W1.via (ChildI H a l l' s p' x) (W1.ite (WT.and2 (WT.cmp (WE.loc rfl (WE.loc rfl (op_lt (OPT.bool ?_))))))) ?_)
        · by_cases hr : 2 * p' + 2 < l.length
          · refine iteP (by lia) ?_
            refine WT.not (WT.cmp (WE.sub_list (WE.loc rfl (WE.loc rfl ⟨IsT.list ha', getZ ha' (by lia) (by lia) (WE.sub_list (WE.loc rfl (WE.loc rfl ⟨IsT.list ha', getZ ha' (by lia) (by lia) (op_lt (OPT.bool ?_))⟩)))⟩))))
            by_cases hc : l'.getD (2 * p' + 1) 0 < l'.getD (2 * p' + 2) 0
            · refine itePF (by simpa using hc) ?_
              refine WS.nil ⟨rfl, 2 * p' + 1, .cons rfl (.cons rfl (.cons rfl (.cons rfl (.cons rfl (.cons rfl .nil))))), rfl, by lia, .inl rfl, ?_⟩
              rintro k hk (rfl | rfl) <;> lia
            · refine iteNT (by simpa using hc) ?_
              refine WS.cons (W1.assign (WE.loc rfl (WS.nil ⟨rfl, 2 * p' + 2, .cons rfl (.cons rfl (.cons rfl (.cons rfl (.cons rfl (.cons rfl .nil))))), rfl, by lia, .inr rfl, ?_⟩)))
              rintro k hk (rfl | rfl) <;> lia
          · refine iteN (by lia) ?_
            refine WS.nil ⟨rfl, 2 * p' + 1, .cons rfl (.cons rfl (.cons rfl (.cons rfl (.cons rfl (.cons rfl .nil))))), rfl, by lia, .inl rfl, ?_⟩
            rintro k hk (rfl | rfl) <;> lia
        · rintro m' H' ⟨cp, hsub, rfl, hlt', hcp', hmin⟩
          refine WS.weaken (m' := (upM a l s x p' cp)) ?_ hsub (HSub.refl _)
          refine WS.cons (W1.setitem (WE.sub_list (WE.loc rfl (WE.loc rfl ⟨IsT.list ha', getZ ha' hlt' (by lia) (WE.loc rfl (WE.loc rfl (setZ ha' hp' (by lia) ?_)))⟩))))
          rw [upd_upd]
          refine WS.cons (W1.assign (WE.loc rfl ?_))
          refine WS.cons (W1.assign (WE.binop (WE.binop (WE.int (WE.loc rfl (op_mul (mul2 _) (WE.int (op_add ?_))))))))
          rw [show (2 * (cp : Int) + 1) = ((2 * cp + 1 : Nat) : Int) by lia]
          refine WS.nil ⟨l.length - cp, by lia, _, _, .cons rfl (.cons rfl (.cons rfl (.cons rfl (.cons rfl (.cons rfl .nil))))), HSub.refl _, .mk _ _ (by rw [List.length_set]; exact hlen) (U.step hlt' hcp' hmin)⟩
      · refine iteN (by lia) ?_
        refine WS.cons (W1.setitem (WE.loc rfl (WE.loc rfl (WE.loc rfl (setZ ha' hp' (by lia) ?_)))))
        rw [upd_upd]
        refine WS.cons (W1.expr (WE.gcall3 (gk hK) (kk hK) (WE.loc rfl (WE.loc rfl (WE.loc rfl (c_siftdown hK (l₀ := l) (l := l'.set p' x) (hR.deep _) (upd_same ..) (by rw [List.length_set]; lia) ?_ ?_))))))
        · have := U.up (by lia)
          rw [getD_set hp', if_pos rfl]; exact this
        · intro l'' q1 q2 q3
          rw [upd_upd]
          exact ⟨rfl, WS.nil (h l'' q1 (by rw [q2, List.length_set]; exact hlen) q3)⟩
end
end Mine
end
section
open PySem PySem.W
set_option maxRecDepth 100000
set_option maxHeartbeats 8000000
set_option linter.all false
namespace Mine
section
variable {c : Cx} {A : Around} {L : Addr} {m : Loc} {H : Sto} {env : Env} {Q : V → Sto → Prop}
theorem fdiv_nat (n k : Nat) (hk : 0 < k) : ((n : Int)).fdiv (k : Int) = ((n / k : Nat) : Int) := by
  rw [Int.fdiv_eq_ediv_of_nonneg _ (by lia)]; exact (Int.natCast_ediv n k).symm
inductive HeapI (E : Sto) (a : Addr) (l : List Int) (i : Nat) (m' : Loc) (H' : Sto) : Prop where
  | mk (e : m' = ([("x", .ref a), ("n", .int l.length)] : Loc)) (l' : List Int) (e2 : H' = upd E a (true, .list (zs l'))) (hp : l'.Perm l) (hh : HeapFrom (l.length / 2 - i) l') : HeapI E a l i m' H'
theorem c_heapify (hK : c.K = KF c.w.params) {a : Addr} {l : List Int} (hR : Room 3 A) (ha : H a = some (true, .list (zs l))) (hl : l.length ≤ 1000000)
    (h : ∀ l', l'.Perm l → HeapFrom 0 l' → Q .none (upd H a (true, .list (zs l')))) : CALL c A L (.ref 35) [.ref a] m H Q := by
  refine CALL.more (CALL.fn (n := 2) (ko hK) (kc hK) ["x"] (fun cvs hv => ?_) hR (fun L' => ?_))
  · obtain ⟨x, rfl, _⟩ := hv.inv1
    rfl
  · have hA : ∀ env, (A.deeper env).handled = none := fun _ => hR.hd
    refine WS.cons (W1.assign (WE.bcall1 (gn hK) PyProof.Rows.Boot.len (v := .bi "len") rfl trivial (WE.loc rfl (lenZ ha hl ?_))))
    refine WS.weaken (m' := [("x", .ref a), ("n", .int l.length)]) ?_ (.cons rfl (.cons rfl .nil)) (HSub.refl _)
    refine WS.cons (W1.for (WE.bcall1 (gn hK) PyProof.Rows.Boot.reversed (v := .ty "reversed") rfl trivial (WE.bcall1 (gn hK) PyProof.Rows.Boot.range (v := .ty "range") rfl trivial
      (WE.binop (WE.loc rfl (WE.int (op_fdiv (by decide) (by decide) ?_)))))))
    rw [show ((l.length : Int)).fdiv 2 = ((l.length / 2 : Nat) : Int) from fdiv_nat _ 2 (by decide)]
    refine call_range1 fun D hD => call_reversed_rng (b := true) (by lia) (upd_same ..) fun I hI => ?_
    have hID := (off hI).1
    have hHI : H I = none := by rwa [upd_ne _ _ hID] at hI
    have haD := HSub.ne hD ha
    have haI := HSub.ne hHI ha
    refine WF.loop (HeapI (fun x => if x = I then none else (upd (upd H D (true, .rng 0 (l.length / 2 : Nat))) I (true, .rit (((l.length / 2 : Nat) : Int) - 1) (-1) (l.length / 2))) x) a l)
      (ITER.rit (hA _) (upd_same ..)) ?_ ?_ ?_
    · refine ⟨rfl, l, (upd_self _ ?_).symm, .refl _, HeapFrom.half l⟩
      simp only [haI, if_false]
      rw [upd_ne _ _ haI, upd_ne _ _ haD]; exact ha
    · rintro i v m' H' hi ⟨rfl, l', rfl, hp, hh⟩
      have hlt : i < l.length / 2 := by simpa using (List.getElem?_eq_some_iff.mp hi).1
      have hlen := hp.length_eq
      obtain rfl : v = .int ((l.length / 2 - 1 - i : Nat) : Int) := by
        have : ((List.range (l.length / 2)).map fun (i : Nat) => V.int ((((l.length / 2 : Nat) : Int) - 1) + (i : Int) * (-1)))[i]? = some (.int ((l.length / 2 - 1 - i : Nat) : Int)) := by
          simp [hlt]; lia
        rw [this] at hi; exact (Option.some.inj hi).symm
      refine WS.cons (W1.expr (WE.gcall2 (gk hK) (kk hK) (WE.loc rfl (WE.loc rfl (c_siftup hK (hR.deep _) (upd_same ..) (by lia) (by lia) (by rw [show l.length / 2 - 1 - i + 1 = l.length / 2 - i by lia]; exact hh) ?_)))))
      intro l'' q1 q2 q3
      rw [upd_upd]
      exact ⟨rfl, WS.nil ⟨_, _, .cons rfl (.cons rfl .nil), HSub.refl _, rfl, l'', rfl, q1.trans hp, by rw [show l.length / 2 - (i + 1) = l.length / 2 - 1 - i by lia]; exact q3⟩⟩
    · rintro m' H' ⟨rfl, l', rfl, hp, hh⟩
      rw [List.length_map, List.length_range, Nat.sub_self] at hh
      refine WS.nil ⟨_, HSub.up (fun b x e => ?_), h l' hp hh⟩
      have h1 : b ≠ I := by rintro rfl; rw [hHI] at e; cases e
      have h2 : b ≠ D := by rintro rfl; rw [hD] at e; cases e
      simp only [h1, if_false]
      rw [upd_ne _ _ h1, upd_ne _ _ h2]; exact e
theorem c_heappop (hK : c.K = KF c.w.params) {a : Addr} {l : List Int} (hR : Room 3 A) (ha : H a = some (true, .list (zs l))) (hl : l.length ≤ 1000000) (h0 : l ≠ []) (hh : HeapFrom 0 l)
    (h : ∀ v l', l.Perm (v :: l') → (∀ y ∈ l, v ≤ y) → HeapFrom 0 l' → Q (.int v) (upd H a (true, .list (zs l')))) : CALL c A L (.ref 28) [.ref a] m H Q := by
  refine CALL.fn (n := 2) (ko hK) (kc hK) ["heap"] (fun cvs hv => ?_) hR (fun L' => ?_)
  · obtain ⟨x, rfl, _⟩ := hv.inv1
    rfl
  · obtain ⟨d, x, rfl⟩ : ∃ d x, l = d ++ [x] := ⟨l.dropLast, l.getLast h0, (List.dropLast_concat_getLast h0).symm⟩
    have hz : zs (d ++ [x]) = zs d ++ [.int x] := by simp
    rw [hz] at ha
    have hld : d.length ≤ 1000000 := by simp at hl; lia
    have hmin : ∀ y ∈ d ++ [x], (d ++ [x]).getD 0 0 ≤ y := fun y hy => by
      obtain ⟨j, hj, rfl⟩ := mem_getD hy
      exact hh.min j hj
    refine WS.cons (W1.assign (WE.meth0 PySem.F.plainAttrs_list PySem.F.slot_list_pop PySem.F.type_list_pop (WE.loc rfl ⟨IsT.list ha, call_pop ha (by simpa using hld) ?_⟩)))
    have ha' : upd H a (true, .list (zs d)) a = some (true, .list (zs d)) := upd_same ..
    refine WS.cons (W1.ite (WT.plain (WE.loc rfl (truthy_list ha' (by simpa using hld) ?_))))
    cases d with
    | nil =>
      refine WS.nil (WS.cons (W1.ret (WE.loc rfl ?_)))
      exact h x [] (.refl _) hmin (fun k h1 h2 => by simp at h2)
    | cons v t =>
      simp only [List.map_cons, List.isEmpty_cons, Bool.not_false, if_true]
      refine WS.cons (W1.assign (WE.sub_list (WE.loc rfl (WE.int ⟨IsT.list ha', getZ (k := 0) ha' (by simp) hld ?_⟩))))
      refine WS.cons (W1.setitem (WE.loc rfl (WE.loc rfl (WE.int (setZ (k := 0) (l := v :: t) ha' (by simp) hld ?_)))))
      rw [upd_upd]
      refine WS.cons (W1.expr (WE.gcall2 (gk hK) (kk hK) (WE.loc rfl (WE.int (c_siftup hK (s := 0) (l := (v :: t).set 0 x) (hR.deep _) (upd_same ..) (by simpa using hld) (by simp) ?_ ?_)))))
      · intro k h1 h2 h3
        have := hh k h1 (by simp at h2 ⊢; lia) (Nat.zero_le _)
        rw [getD_set (by simp), getD_set (by simp), if_neg (by lia), if_neg (by lia)]
        simp only [List.length_set] at h2
        have ap : ∀ j, j < (v :: t).length → ((v :: t) ++ [x]).getD j 0 = (v :: t).getD j 0 := fun j hj => by
          rw [List.getD_eq_getElem?_getD, List.getD_eq_getElem?_getD, List.getElem?_append_left hj]
        rw [ap _ (by lia), ap _ h2] at this
        exact this
      · intro l' q1 q2 q3
        rw [upd_upd]
        refine ⟨rfl, WS.cons (W1.ret (WE.loc rfl ?_))⟩
        refine h v l' ?_ (by simpa using hmin) q3
        have : l'.Perm (x :: t) := by simpa using q1
        exact ((List.perm_append_singleton x (v :: t)).trans (List.Perm.swap v x t)).trans (this.symm.cons v)
end
end Mine
end
section
open PySem PySem.W
set_option maxRecDepth 100000
set_option maxHeartbeats 8000000
set_option linter.all false
namespace Mine
noncomputable def bumpD (T : List (Int × Int)) (k v : Int) : List (Int × Int) := dset T k ((dget T k).getD 0 + v)
noncomputable def addc (T S : List (Int × Int)) : List (Int × Int) := S.foldl (fun T p => bumpD T p.1 p.2) T
theorem dget_tab (T : List (Int × Int)) (k : Int) : dget (tab T) k = (dget T k).map V.int := by
  induction T with
  | nil => rfl
  | cons p T ih => simp only [tab, List.map_cons, dget] at ih ⊢; split <;> simp_all
theorem dset_tab (T : List (Int × Int)) (k v : Int) : dset (tab T) k (.int v) = tab (dset T k v) := by
  unfold dset dput tab
  have e : ((T.map fun p => (p.1, V.int p.2)).any fun p => decide (p.1 = k)) = T.any fun p => decide (p.1 = k) := by simp [List.any_map, Function.comp_def]
  rw [e]
  split
  · simp only [List.map_map]
    congr 1; funext p; simp only [Function.comp]; split <;> rfl
  · simp
theorem dget_none {T : List (Int × Int)} {k : Int} : dget T k = none ↔ ∀ p ∈ T, p.1 ≠ k := by
  induction T with
  | nil => simp [dget]
  | cons p T ih =>
    simp only [dget, List.forall_mem_cons]
    split
    · rename_i h; simp [h]
    · rename_i h; simp [h, ih]
theorem any_key {T : List (Int × Int)} {k : Int} : (T.any fun p => decide (p.1 = k)) = (dget T k).isSome := by
  cases h : dget T k with
  | none => rw [dget_none] at h; simpa using h
  | some v =>
    simp only [Option.isSome_some, List.any_eq_true, decide_eq_true_eq]
    by_cases hh : ∀ p ∈ T, p.1 ≠ k
    · rw [dget_none.mpr hh] at h; cases h
    · simpa using hh
theorem dset_new {T : List (Int × Int)} {k v : Int} (h : dget T k = none) : dset T k v = T ++ [(k, v)] := by
  unfold dset; rw [any_key, h]; rfl
theorem dset_old {T : List (Int × Int)} {k v u : Int} (h : dget T k = some u) : dset T k v = dput T k v := by
  unfold dset; rw [any_key, h]; rfl
theorem dset_keys {T : List (Int × Int)} {k v u : Int} (h : dget T k = some u) : (dset T k v).map (·.1) = T.map (·.1) := by
  rw [dset_old h]; unfold dput; simp only [List.map_map]; congr 1; funext p; simp only [Function.comp]; split <;> rfl
theorem dset_length (T : List (Int × Int)) (k v : Int) : (dset T k v).length ≤ T.length + 1 := by
  unfold dset; split
  · unfold dput; simp
  · simp
theorem addc_length (T : List (Int × Int)) : ∀ S : List (Int × Int), (addc T S).length ≤ T.length + S.length := by
  intro S
  induction S generalizing T with
  | nil => simp [addc]
  | cons p S ih =>
    have h1 := ih (bumpD T p.1 p.2)
    have h2 := dset_length T p.1 ((dget T p.1).getD 0 + p.2)
    simp only [List.length_cons]
    show (addc (bumpD T p.1 p.2) S).length ≤ _
    unfold bumpD at h1 ⊢
    lia
theorem dset_nodup {T : List (Int × Int)} {k v : Int} (h : (T.map (·.1)).Nodup) : ((dset T k v).map (·.1)).Nodup := by
  cases e : dget T k with
  | some u => rw [dset_keys e]; exact h
  | none =>
    rw [dset_new e, List.map_append, List.nodup_append]
    refine ⟨h, by simp, ?_⟩
    intro a ha b hb
    simp at hb; subst hb
    obtain ⟨p, hp, rfl⟩ := List.mem_map.mp ha
    exact dget_none.mp e p hp
theorem addc_nodup {T : List (Int × Int)} : ∀ {S : List (Int × Int)}, (T.map (·.1)).Nodup → ((addc T S).map (·.1)).Nodup := by
  intro S
  induction S generalizing T with
  | nil => exact fun h => h
  | cons p S ih => exact fun h => ih (T := bumpD T p.1 p.2) (dset_nodup h)
section
variable {c : Cx} {A : Around} {L : Addr} {m : Loc} {H : Sto} {env : Env} {Q : V → Sto → Prop}
theorem op_itemD {a : Addr} {b : Bool} {T : List (Int × Int)} {k v : Int} (ha : H a = some (b, .dict (tab T))) (hx : dget T k = some v) (h : Q (.int v) H) : OP2 c A L getItem (.ref a) (.int k) m H Q := op_item_dict ha (by rw [dget_tab, hx]; rfl) h
theorem op_inD {a : Addr} {b : Bool} {T : List (Int × Int)} {k : Int} (ha : H a = some (b, .dict (tab T))) (h : Q (.bool (dget T k).isSome) H) : OP2 c A L (compareOp .In) (.int k) (.ref a) m H Q := op_in_dict ha (by rw [dget_tab, Option.isSome_map]; exact h)
theorem setD {a : Addr} {T : List (Int × Int)} {k v : Int} {Q : Loc → Sto → Prop} (ha : H a = some (true, .dict (tab T))) (hl : T.length ≤ 1000000) (h : Q m (upd H a (true, .dict (tab (dset T k v))))) :
    ∀ cv co ci, VR (.int v) cv → VR (.ref a) co → VR (.int k) ci → TR c A L (setItem co ci cv) m H (fun _ m' H' => Q m' H') := set_dict ha (by simpa using hl) (by rw [dset_tab]; exact h)
theorem tab_at {T : List (Int × Int)} {i : Nat} {k : Int} {v : V} (h : (tab T)[i]? = some (k, v)) : ∃ u, T[i]? = some (k, u) ∧ v = .int u := by
  simp only [tab, List.getElem?_map, Option.map_eq_some_iff] at h
  obtain ⟨p, hp, e⟩ := h
  cases e
  exact ⟨p.2, hp, rfl⟩
theorem take_free {T : List (Int × Int)} (hn : (T.map (·.1)).Nodup) {i : Nat} {k u : Int} (h : T[i]? = some (k, u)) : dget (T.take i) k = none := by
  obtain ⟨hi, e⟩ := List.getElem?_eq_some_iff.mp h
  rw [dget_none]
  intro p hp
  obtain ⟨j, hj, rfl⟩ := List.getElem_of_mem hp
  have hj' : j < i := by rw [List.length_take] at hj; lia
  rw [List.getElem_take]
  have := (List.pairwise_iff_getElem.mp hn) j i (by simp; lia) (by simpa using hi) hj'
  simp only [List.getElem_map, e] at this
  exact this
theorem c_add (hK : c.K = KF c.w.params) {a a' : Addr} {b b' : Bool} {T S : List (Int × Int)} (hR : Room 1 A) (ha : H a = some (b, .dict (tab T))) (ha' : H a' = some (b', .dict (tab S))) (hn : (T.map (·.1)).Nodup) (hT : T.length ≤ 1000) (hS : S.length ≤ 1000)
    (h : ∀ D, H D = none → Q (.ref D) (upd H D (true, .dict (tab (addc T S))))) : CALL c A L (.ref 56) [.ref a, .ref a'] m H Q := by
  refine CALL.more (CALL.fn (n := 0) (ko hK) (kc hK) ["target", "source"] (fun cvs hv => ?_) hR (fun L' => ?_))
  · obtain ⟨x, y, rfl, _⟩ := hv.inv2
    rfl
  · have hA : ∀ env, (A.deeper env).handled = none := fun _ => hR.hd
    refine WS.cons (W1.assign (WE.dict0 fun D hD => ?_))
    have haD := HSub.ne hD ha
    have haD' := HSub.ne hD ha'
    refine WS.weaken (m' := [("target", .ref a), ("source", .ref a'), ("new_callers", .ref D)]) ?_ (.cons rfl (.cons rfl (.cons rfl .nil))) (HSub.refl _)
    have h1 : upd H D (true, .dict []) a = some (b, .dict (tab T)) := upd_get hD ha
    refine WS.cons (W1.for (WE.meth0 PySem.F.plainAttrs_dict PySem.F.slot_dict_items PySem.F.type_dict_items (WE.loc rfl ⟨IsT.dict h1, call_items h1 fun V hV => ?_⟩)))
    have hVD := (off hV).1
    have hVa : a ≠ V := HSub.ne hV h1
    have h2 : upd (upd H D (true, .dict [])) V (true, .items a) a = some (b, .dict (tab T)) := upd_get hV h1
    refine WF.ro h2 (WF.items (bv := true) (hA _) (by rw [upd_ne _ _ hVa.symm, upd_same]) (upd_same ..)
      (fun i m' H' => m' = ([("target", .ref a), ("source", .ref a'), ("new_callers", .ref D)] : Loc) ∧ H' = upd (upd (upd (upd H D (true, .dict [])) V (true, .items a)) a (false, .dict (tab T))) D (true, .dict (tab (T.take i)))) ?_ ?_ ?_)
    · refine ⟨rfl, (upd_self _ ?_).symm⟩
      rw [upd_ne _ _ haD.symm, upd_ne _ _ hVD.symm, upd_same]; rfl
    · rintro i k v m' H' hi ⟨rfl, rfl⟩
      obtain ⟨u, hu, rfl⟩ := tab_at hi
      have hlt : i < T.length := (List.getElem?_eq_some_iff.mp hu).1
      refine WS.cons (W1.setitem (WE.loc rfl (WE.loc rfl (WE.loc rfl (setD (upd_same ..) (by rw [List.length_take]; lia) ?_)))))
      rw [upd_upd, dset_new (take_free hn hu)]
      refine WS.nil ⟨_, _, .cons rfl (.cons rfl (.cons rfl .nil)), HSub.refl _, rfl, ?_⟩
      rw [List.take_add_one, hu]; rfl
    · rintro m' H' ⟨rfl, rfl⟩
      rw [List.length_map, List.take_length]
      refine WS.weaken (H' := upd H D (true, .dict (tab T))) ?_ (Sub.refl _) (fun y z e => by
        by_cases e1 : y = a
        · subst e1; rw [upd_same]; rw [upd_ne _ _ haD, ha] at e; exact e
        · rw [upd_ne _ _ e1]
          by_cases e2 : y = D
          · subst e2; rw [upd_same] at e ⊢; exact e
          · rw [upd_ne _ _ e2] at e ⊢
            rw [upd_ne _ _ e1, upd_ne _ _ (by rintro rfl; rw [upd_ne _ _ e2, e] at hV; cases hV), upd_ne _ _ e2]; exact e)
      have h1 : upd H D (true, .dict (tab T)) a' = some (b', .dict (tab S)) := upd_get hD ha'
      refine WS.cons (W1.for (WE.meth0 PySem.F.plainAttrs_dict PySem.F.slot_dict_items PySem.F.type_dict_items (WE.loc rfl ⟨IsT.dict h1, call_items h1 fun W hW => ?_⟩)))
      have hWD := (off hW).1
      have hWa : a' ≠ W := HSub.ne hW h1
      have h2 : upd (upd H D (true, .dict (tab T))) W (true, .items a') a' = some (b', .dict (tab S)) := upd_get hW h1
      refine WF.ro h2 (WF.items (bv := true) (hA _) (by rw [upd_ne _ _ hWa.symm, upd_same]) (upd_same ..)
        (fun i m' H' => m' = ([("target", .ref a), ("source", .ref a'), ("new_callers", .ref D)] : Loc) ∧ H' = upd (upd (upd (upd H D (true, .dict (tab T))) W (true, .items a')) a' (false, .dict (tab S))) D (true, .dict (tab (addc T (S.take i))))) ?_ ?_ ?_)
      · refine ⟨rfl, (upd_self _ ?_).symm⟩
        rw [upd_ne _ _ haD'.symm, upd_ne _ _ hWD.symm, upd_same]; rfl
      · rintro i k v m' H' hi ⟨rfl, rfl⟩
        obtain ⟨u, hu, rfl⟩ := tab_at hi
        have hlt : i < S.length := (List.getElem?_eq_some_iff.mp hu).1
        have hlen : (addc T (S.take i)).length ≤ 1000000 := by have := addc_length T (S.take i); rw [List.length_take] at this; lia
        have hstep : addc T (S.take (i + 1)) = bumpD (addc T (S.take i)) k u := by
          rw [List.take_add_one, hu]; simp [addc, List.foldl_append]
        refine WS.cons (W1.ite (WT.cmp (WE.loc rfl (WE.loc rfl (op_inD (upd_same ..) (OPT.bool ?_))))))
        cases hg : dget (addc T (S.take i)) k with
        | none =>
          simp only [Option.isSome_none, Bool.false_eq_true, if_false]
          refine WS.cons (W1.setitem (WE.loc rfl (WE.loc rfl (WE.loc rfl (setD (upd_same ..) hlen ?_)))))
          rw [upd_upd]
          refine WS.nil (WS.nil ⟨_, _, .cons rfl (.cons rfl (.cons rfl .nil)), HSub.refl _, rfl, ?_⟩)
          rw [hstep, bumpD, hg, Option.getD_none, Int.zero_add]
        | some w =>
          simp only [Option.isSome_some, if_true]
          refine WS.cons (W1.ite (WT.plain (WE.bcall2 (gn hK) PyProof.Rows.Boot.isinstance (v := .bi "isinstance") rfl trivial (WE.loc rfl (WE.builtin (by rw [hK]; rfl) PyProof.Rows.Boot.tuple (v := .ty "tuple") rfl (call_isinst (OPT.bool ?_)))))))
          refine iteF ?_
          refine WS.cons (W1.augitem (WE.loc rfl (WE.loc rfl (op_itemD (upd_same ..) hg (WE.loc rfl (op_iadd (setD (upd_same ..) hlen ?_)))))))
          rw [upd_upd]
          refine WS.nil (WS.nil (WS.nil ⟨_, _, .cons rfl (.cons rfl (.cons rfl .nil)), HSub.refl _, rfl, ?_⟩))
          rw [hstep, bumpD, hg, Option.getD_some]
      · rintro m' H' ⟨rfl, rfl⟩
        rw [List.length_map, List.take_length]
        refine WS.cons (W1.ret (WE.loc rfl ⟨_, fun y z e => ?_, h D hD⟩))
        by_cases e1 : y = a'
        · subst e1; rw [upd_same]; rw [upd_ne _ _ haD', ha'] at e; exact e
        · rw [upd_ne _ _ e1]
          by_cases e2 : y = D
          · subst e2; rw [upd_same] at e ⊢; exact e
          · rw [upd_ne _ _ e2] at e ⊢
            rw [upd_ne _ _ e1, upd_ne _ _ (by rintro rfl; rw [upd_ne _ _ e2, e] at hW; cases hW), upd_ne _ _ e2]; exact e
end
end Mine
end
section
open PySem PySem.W
set_option maxRecDepth 100000
set_option maxHeartbeats 8000000
set_option linter.all false
namespace Mine
noncomputable def gonef (ns : List Int) (f : Int) : List (Int × Int) := ns.foldl (fun g x => bumpD g (f + x) (-1)) []
noncomputable def leftOf (T : List (Int × Int)) (ns : List Int) (f : Int) : List (Int × Int) := addc T (gonef ns f)
noncomputable def tabStep (cs : List Int) (T : List (Int × Int)) (i : Nat) : List (Int × Int) := if cs.getD i 0 > 0 then addc T [((i : Int), cs.getD i 0)] else T
noncomputable def tableUpto (cs : List Int) (k : Nat) : List (Int × Int) := (List.range k).foldl (tabStep cs) []
noncomputable def tableOf (cs : List Int) : List (Int × Int) := tableUpto cs cs.length
theorem gonef_length (ns : List Int) (f : Int) : (gonef ns f).length ≤ ns.length := by
  have key : ∀ (l : List Int) (g : List (Int × Int)), (l.foldl (fun g x => bumpD g (f + x) (-1)) g).length ≤ g.length + l.length := by
    intro l
    induction l with
    | nil => intro g; simp
    | cons x l ih =>
      intro g
      have h1 := ih (bumpD g (f + x) (-1))
      have h2 := dset_length g (f + x) ((dget g (f + x)).getD 0 + -1)
      simp only [List.foldl_cons, List.length_cons]
      unfold bumpD at h1 ⊢
      lia
  have := key ns []
  simpa [gonef] using this
theorem tableUpto_succ (cs : List Int) (k : Nat) : tableUpto cs (k + 1) = tabStep cs (tableUpto cs k) k := by
  unfold tableUpto; rw [List.range_succ, List.foldl_append]; rfl
theorem tableUpto_ok (cs : List Int) : ∀ k, (tableUpto cs k).length ≤ k ∧ ((tableUpto cs k).map (·.1)).Nodup
  | 0 => by simp [tableUpto]
  | k + 1 => by
    obtain ⟨h1, h2⟩ := tableUpto_ok cs k
    rw [tableUpto_succ]
    unfold tabStep
    split
    · have := addc_length (tableUpto cs k) [((k : Int), cs.getD k 0)]
      exact ⟨by simp only [List.length_cons, List.length_nil] at this; lia, addc_nodup h2⟩
    · exact ⟨by lia, h2⟩
section
variable {c : Cx} {A : Around} {L : Addr} {m : Loc} {H : Sto} {env : Env} {Q : V → Sto → Prop}
theorem ITER.less {x : V} {items : List V} {H' H'' : Sto} (h : ITER c A L x m H items H') (hs : HSub H'' H') : ITER c A L x m H items H'' := fun g s cx E f hx R k =>
  h g s cx E f hx R fun I h' tk W => k I h' tk ⟨W.R.weaken (Sub.refl _) hs, ⟨W.free.1, W.free.2.1, by
    cases e : H'' I with
    | none => rfl
    | some x => have := hs _ _ e; rw [W.free.2.2] at this; cases this⟩, W.walk⟩
theorem c_left (hK : c.K = KF c.w.params) {a a' : Addr} {b b' : Bool} {T : List (Int × Int)} {ns : List Int} {f : Int} (hR : Room 2 A) (ha : H a = some (b, .dict (tab T))) (ha' : H a' = some (b', .list (zs ns))) (hn : (T.map (·.1)).Nodup) (hT : T.length ≤ 1000) (hS : ns.length ≤ 1000)
    (h : ∀ D, H D = none → Q (.ref D) (upd H D (true, .dict (tab (leftOf T ns f))))) : CALL c A L (.ref 168) [.ref a, .ref a', .int f] m H Q := by
  refine CALL.more (CALL.fn (n := 1) (ko hK) (kc hK) ["left", "numbers", "fresh"] (fun cvs hv => ?_) hR (fun L' => ?_))
  · obtain ⟨x, y, z, rfl, _⟩ := hv.inv3
    rfl
  · have hA : ∀ env, (A.deeper env).handled = none := fun _ => hR.hd
    refine WS.cons (W1.assign (WE.dict0 fun D hD => ?_))
    have haD := HSub.ne hD ha
    have haD' := HSub.ne hD ha'
    refine WS.weaken (m' := [("left", .ref a), ("numbers", .ref a'), ("fresh", .int f), ("gone", .ref D)]) ?_ (.cons rfl (.cons rfl (.cons rfl (.cons rfl .nil)))) (HSub.refl _)
    have h1 : upd H D (true, .dict []) a' = some (b', .list (zs ns)) := upd_get hD ha'
    refine WS.cons (W1.for (WE.loc rfl (WF.ro h1 (WF.loop (fun i m' H' => m' = ([("left", .ref a), ("numbers", .ref a'), ("fresh", .int f), ("gone", .ref D)] : Loc) ∧ H' = upd (upd (upd H D (true, .dict [])) a' (false, .list (zs ns))) D (true, .dict (tab (gonef (ns.take i) f)))) (ITER.list (hA _) (upd_same ..)) ?_ ?_ ?_))))
    · refine ⟨rfl, (upd_self _ ?_).symm⟩
      rw [upd_ne _ _ haD'.symm, upd_same]; rfl
    · rintro i v m' H' hi ⟨rfl, rfl⟩
      have hlt : i < ns.length := by simpa using (List.getElem?_eq_some_iff.mp hi).1
      obtain rfl : v = .int (ns.getD i 0) := by rw [zs_get hlt] at hi; exact (Option.some.inj hi).symm
      have hlen : (gonef (ns.take i) f).length ≤ 1000000 := by have := gonef_length (ns.take i) f; rw [List.length_take] at this; lia
      have hstep : gonef (ns.take (i + 1)) f = bumpD (gonef (ns.take i) f) (f + ns.getD i 0) (-1) := by
        rw [List.take_succ_eq_append_getElem hlt, getD_at hlt]; unfold gonef; rw [List.foldl_append]; rfl
      refine WS.cons (W1.setitem (WE.binop (WE.meth PySem.F.plainAttrs_dict PySem.F.slot_dict_get PySem.F.type_dict_get (WE.loc rfl ⟨IsT.dict (upd_same ..), WArgs.cons (WE.binop (WE.loc rfl (WE.loc rfl (op_add (WArgs.cons (WE.int (WArgs.nil (call_dget (upd_same ..) ?_)))))))) ⟩))))
      rw [dget_tab]
      obtain ⟨u, hu⟩ : ∃ u, ((dget (gonef (ns.take i) f) (f + ns.getD i 0)).map V.int).getD (V.int 0) = V.int u ∧ u = (dget (gonef (ns.take i) f) (f + ns.getD i 0)).getD 0 := by
        cases dget (gonef (ns.take i) f) (f + ns.getD i 0) with
        | none => exact ⟨0, rfl, rfl⟩
        | some w => exact ⟨w, rfl, rfl⟩
      rw [hu.1]
      refine WE.int (op_sub (WE.loc rfl (WE.binop (WE.loc rfl (WE.loc rfl (op_add (setD (upd_same ..) hlen ?_)))))))
      rw [upd_upd]
      refine WS.nil ⟨_, _, .cons rfl (.cons rfl (.cons rfl (.cons rfl .nil))), HSub.refl _, rfl, ?_⟩
      rw [hstep, bumpD, hu.2, Int.sub_eq_add_neg]
    · rintro m' H' ⟨rfl, rfl⟩
      rw [List.length_map, List.take_length]
      have e1 : upd (upd (upd (upd H D (true, .dict [])) a' (false, .list (zs ns))) D (true, .dict (tab (gonef ns f)))) a' (b', .list (zs ns)) = upd H D (true, .dict (tab (gonef ns f))) := by
        funext y
        simp only [upd]
        by_cases e1 : y = a' <;> by_cases e2 : y = D <;> simp_all
      rw [e1]
      refine WS.cons (W1.ret (WE.gcall2 (gk hK) (kk hK) (WE.loc rfl (WE.loc rfl (c_add hK (hR.deep _) (upd_get hD ha) (upd_same ..) hn hT (by have := gonef_length ns f; lia) fun E hE => ?_)))))
      have hED := (off hE).1
      replace hE := (off hE).2
      exact ⟨_, HSub.up (HSub.new hD), h E hE⟩
inductive TabI (H : Sto) (a : Addr) (cs : List Int) (i : Nat) (m' : Loc) (H' : Sto) : Prop where
  | mk (E : Addr) (e : m' = ([("counts", .ref a), ("table", .ref E)] : Loc)) (hE : H E = none) (e2 : H' = upd H E (true, .dict (tab (tableUpto cs i)))) : TabI H a cs i m' H'
theorem c_table (hK : c.K = KF c.w.params) {a : Addr} {b : Bool} {cs : List Int} (hR : Room 2 A) (ha : H a = some (b, .tup (zs cs))) (hl : cs.length ≤ 900)
    (h : ∀ D, H D = none → Q (.ref D) (upd H D (true, .dict (tab (tableOf cs))))) : CALL c A L (.ref 151) [.ref a] m H Q := by
  refine CALL.more (CALL.fn (n := 1) (ko hK) (kc hK) ["counts"] (fun cvs hv => ?_) hR (fun L' => ?_))
  · obtain ⟨x, rfl, _⟩ := hv.inv1
    rfl
  · have hA : ∀ env, (A.deeper env).handled = none := fun _ => hR.hd
    refine WS.cons (W1.assign (WE.dict0 fun D hD => ?_))
    refine WS.weaken (m' := [("counts", .ref a), ("table", .ref D)]) ?_ (.cons rfl (.cons rfl .nil)) (HSub.refl _)
    refine WS.cons (W1.for (WE.bcall1 (gn hK) PyProof.Rows.Boot.range (v := .ty "range") rfl trivial (WE.bcall1 (gn hK) PyProof.Rows.Boot.len (v := .bi "len") rfl trivial (WE.loc rfl (call_len_tup (upd_get hD ha) (by simpa using (by lia : cs.length ≤ 1000000)) (call_range1 fun R hRn => ?_))))))
    rw [List.length_map]
    refine WF.loop (H₀ := upd H D (true, .dict [])) (TabI H a cs) ((ITER.rng (hA _) (upd_same ..) (by lia) (by lia) (by lia) (by lia)).less (HSub.new hRn)) ⟨D, rfl, hD, rfl⟩ ?_ ?_
    · rintro i v m' H' hi ⟨E, rfl, hE, rfl⟩
      have hlt : i < cs.length := by simpa [rangeItems] using (List.getElem?_eq_some_iff.mp hi).1
      obtain rfl : v = .int (i : Int) := by
        have : (rangeItems 0 (cs.length : Int))[i]? = some (.int (i : Int)) := by simp [rangeItems, hlt]
        rw [this] at hi; exact (Option.some.inj hi).symm
      have haE : upd H E (true, .dict (tab (tableUpto cs i))) a = some (b, .tup (zs cs)) := upd_get hE ha
      have hget : (zs cs)[((i : Nat) : Int).toNat]? = some (.int (cs.getD i 0)) := by rw [Int.toNat_natCast]; exact zs_get hlt
      refine WS.cons (W1.ite (WT.cmp (WE.sub_tup (WE.loc rfl (WE.loc rfl ⟨IsT.tup haE, op_item_tup haE (by lia) (by lia) hget (WE.int (op_gt (OPT.bool ?_)))⟩)))))
      obtain ⟨k1, k2⟩ := tableUpto_ok cs i
      by_cases hc : cs.getD i 0 > 0
      · refine iteP (by simpa using hc) ?_
        refine WS.cons (W1.assign (WE.gcall2 (gk hK) (kk hK) (WE.loc rfl (WE.dict1 fun F hF => WE.loc rfl (WE.sub_tup (WE.loc rfl (WE.loc rfl ⟨IsT.tup (upd_get hF haE), op_item_tup (upd_get hF haE) (by lia) (by lia) hget ⟨(i : Int), rfl, upd_same .., ?_⟩⟩)))))))
        rw [upd_upd]
        have hFE := (off hF).1
        refine c_add hK (hR.deep _) (T := tableUpto cs i) (S := [((i : Int), cs.getD i 0)]) (by rw [upd_ne _ _ hFE.symm, upd_same]) (upd_same ..) k2 (by lia) (by simp) fun G hG => ?_
        have hGF := (off hG).1
        replace hG := (off hG).2
        have hGE := (off hG).1
        replace hG := (off hG).2
        refine WS.nil (WS.nil ⟨_, _, .cons rfl (.cons rfl .nil), HSub.up ((HSub.new hE).trans (HSub.new hF)), G, rfl, hG, ?_⟩)
        rw [tableUpto_succ, tabStep, if_pos hc]
      · refine iteN (by simpa using hc) ?_
        refine WS.nil (WS.nil ⟨_, _, .cons rfl (.cons rfl .nil), HSub.refl _, E, rfl, hE, ?_⟩)
        rw [tableUpto_succ, tabStep, if_neg hc]
    · rintro m' H' ⟨E, rfl, hE, rfl⟩
      have : (rangeItems 0 (cs.length : Int)).length = cs.length := by simp [rangeItems]
      rw [this]
      exact WS.cons (W1.ret (WE.loc rfl ⟨_, HSub.refl _, h E hE⟩))
end
end Mine
end
section
open PySem PySem.W
set_option maxRecDepth 100000
set_option maxHeartbeats 8000000
set_option linter.all false
namespace Mine
noncomputable def sumsAt (row : List Int) (k : Nat) : List Int := (List.range k).map fun j => row.getD j 0 + row.getD k 0
noncomputable def sumsUpto (row : List Int) (n : Nat) : List Int := (List.range n).flatMap (sumsAt row)
noncomputable def sums (row : List Int) : List Int := sumsUpto row row.length
theorem sumsUpto_succ (row : List Int) (n : Nat) : sumsUpto row (n + 1) = sumsUpto row n ++ sumsAt row n := by
  unfold sumsUpto; rw [List.range_succ, List.flatMap_append]; simp
theorem sumsUpto_length (row : List Int) : ∀ n, (sumsUpto row n).length ≤ n * n
  | 0 => by simp [sumsUpto]
  | n + 1 => by
    have := sumsUpto_length row n
    rw [sumsUpto_succ, List.length_append]
    simp only [sumsAt, List.length_map, List.length_range]
    have e : (n + 1) * (n + 1) = n * n + n + n + 1 := by rw [Nat.add_mul, Nat.mul_add]; lia
    lia
section
variable {c : Cx} {A : Around} {L : Addr} {m : Loc} {H : Sto} {env : Env} {Q : V → Sto → Prop}
theorem rangeItems_get {n i : Nat} (h : i < n) : (rangeItems 0 (n : Int))[i]? = some (.int (i : Int)) := by simp [rangeItems, h]
theorem rangeItems_len (n : Nat) : (rangeItems 0 (n : Int)).length = n := by simp [rangeItems]
theorem c_sums (hK : c.K = KF c.w.params) {a : Addr} {b : Bool} {row : List Int} (hR : Room 1 A) (ha : H a = some (b, .list (zs row))) (hl : row.length ≤ 900)
    (h : ∀ D, H D = none → Q (.ref D) (upd H D (true, .list (zs (sums row))))) : CALL c A L (.ref 139) [.ref a] m H Q := by
  refine CALL.more (CALL.fnC (n := 0) (ko hK) (kc hK) ["row"] "row" [] (some (.ref a)) (fun cvs hv => ?_) hR (fun L' => rfl) (fun cvs hv L' => ?_) (fun cvs hv x v e => by simp at e) (fun cvs hv => ?_) (fun L' C hC => ?_))
  · obtain ⟨x, rfl, _⟩ := hv.inv1
    rfl
  · obtain ⟨x, rfl, _⟩ := hv.inv1
    simp only [List.zip_cons_cons, List.zip_nil_right, List.mem_singleton, forall_eq]
    exact .inr ⟨rfl, rfl⟩
  · obtain ⟨x, rfl, hx⟩ := hv.inv1
    exact ⟨x, rfl, hx⟩
  · have hA : ∀ env, (A.deeper env).handled = none := fun _ => hR.hd
    have haC : upd H C (true, .cell (some (.ref a))) a = some (b, .list (zs row)) := upd_get hC ha
    refine WS.cons (W1.ret (WE.comp (WE.bcall1 (gn hK) PyProof.Rows.Boot.range (v := .ty "range") rfl trivial (WE.bcall1 (gn hK) PyProof.Rows.Boot.len (v := .bi "len") rfl trivial (WE.cell rfl (upd_same ..) (lenZ haC (by lia) (call_range1 fun R hRn => ?_)))))))
    refine WC.two (H₀ := upd H C (true, .cell (some (.ref a)))) (fun i ys H' => ys = zs (sumsUpto row i) ∧ H' = upd H C (true, .cell (some (.ref a)))) ((ITER.rng (hA _) (upd_same ..) (by lia) (by lia) (by lia) (by lia)).less (HSub.new hRn)) ⟨rfl, rfl⟩ ?_ ?_
    · rintro C' i v ys H' hi ⟨rfl, rfl⟩
      have hlt : i < row.length := by simpa [rangeItems] using (List.getElem?_eq_some_iff.mp hi).1
      obtain rfl : v = .int (i : Int) := by rw [rangeItems_get hlt] at hi; exact (Option.some.inj hi).symm
      refine WE.bcall1 (gn hK) PyProof.Rows.Boot.range (v := .ty "range") rfl trivial (WE.loc rfl (call_range1 fun R' hR' => ?_))
      refine ⟨_, _, (ITER.rng (hA _) (upd_same ..) (by lia) (by lia) (by lia) (by lia)).less (HSub.new hR'), fun j ys H' => ys = zs (sumsUpto row i ++ (sumsAt row i).take j) ∧ H' = upd H C (true, .cell (some (.ref a))), ⟨by simp, rfl⟩, ?_, ?_⟩
      · rintro j w ys H' hj ⟨rfl, rfl⟩
        have hjt : j < i := by simpa [rangeItems] using (List.getElem?_eq_some_iff.mp hj).1
        obtain rfl : w = .int (j : Int) := by rw [rangeItems_get hjt] at hj; exact (Option.some.inj hj).symm
        have h1 := sumsUpto_length row i
        have h2 : i * i ≤ 900 * 900 := Nat.mul_le_mul (by lia) (by lia)
        refine ⟨?_, ?_⟩
        · simp only [zs, List.length_map, List.length_append, List.length_take]; lia
        refine WE.binop (WE.sub_list (WE.cell rfl (upd_same ..) (WE.loc rfl ⟨IsT.list haC, getZ haC (by lia) (by lia) (WE.sub_list (WE.cell rfl (upd_same ..) (WE.loc rfl ⟨IsT.list haC, getZ haC hlt (by lia) (op_add ?_)⟩)))⟩)))
        refine ⟨_, HSub.refl _, ?_, rfl⟩
        have : (sumsAt row i).take (j + 1) = (sumsAt row i).take j ++ [row.getD j 0 + row.getD i 0] := by
          rw [List.take_succ_eq_append_getElem (by simpa [sumsAt] using hjt)]; simp [sumsAt]
        rw [this, ← List.append_assoc]
        simp [zs]
      · rintro ys H' ⟨rfl, rfl⟩
        refine ⟨_, HSub.refl _, ?_, rfl⟩
        rw [rangeItems_len, List.take_of_length_le (by simp [sumsAt]), sumsUpto_succ]
    · rintro ys H' ⟨rfl, rfl⟩ D hD
      rw [rangeItems_len]
      have hDC := (off hD).1
      replace hD := (off hD).2
      exact ⟨_, HSub.up (HSub.new hC), h D hD⟩
end
end Mine
end
section
open PySem PySem.W
set_option maxRecDepth 100000
set_option maxHeartbeats 8000000
set_option linter.all false
namespace Mine
noncomputable def segS (t : Int) : Str := spaces t.toNat ++ (⟨#[9]⟩ : Str)
noncomputable def lineOf (ss : List Int) : Str := Txt.join ⟨#[]⟩ (ss.map segS) ++ (⟨#[120, 32, 9]⟩ : Str)
noncomputable def segL (t : Int) : List Nat := List.replicate t.toNat 32 ++ [9]
noncomputable def lineL (ss : List Int) : List Nat := ss.flatMap segL ++ [120, 32, 9]
theorem str_append (x y : Str) : x ++ y = (⟨x.cps ++ y.cps⟩ : Str) := rfl
theorem segS_cps (t : Int) : (segS t).cps.toList = segL t := by simp [segS, segL, spaces, str_append]
theorem glued_nil (xs : List Str) : (Builtin.Str.glued ⟨#[]⟩ xs).cps.toList = xs.flatMap (·.cps.toList) := by
  cases xs with
  | nil => rfl
  | cons x xs =>
    have key : ∀ (l : List Str) (acc : Array Nat), (l.foldl (fun acc p => acc ++ (#[] : Array Nat) ++ p.cps) acc).toList = acc.toList ++ l.flatMap (·.cps.toList) := by
      intro l
      induction l with
      | nil => intro acc; simp
      | cons y l ih => intro acc; rw [List.foldl_cons, ih]; simp
    have := key xs x.cps
    simpa [Builtin.Str.glued] using this
theorem line_cps (ss : List Int) : (lineOf ss).cps.toList = lineL ss := by
  unfold lineOf lineL Txt.join
  rw [str_append]
  simp only [Array.toList_append]
  rw [glued_nil, List.flatMap_map]
  congr 1
  congr 1
  funext t
  exact segS_cps t
theorem seg_len (t : Int) : (segS t).length = t.toNat + 1 := by
  show (segS t).cps.size = _
  rw [← Array.length_toList, segS_cps]; simp [segL]
theorem join_ok {ss : List Int} (hl : ss.length ≤ 1000) (hs : ∀ t ∈ ss, t ≤ 900) : JoinOk ⟨#[]⟩ (ss.map segS) = true := by
  unfold JoinOk
  rw [StrLaws.joinFits (B := 901)]
  · rfl
  · intro y hy
    obtain ⟨t, ht, rfl⟩ := List.mem_map.mp hy
    rw [seg_len]
    have := hs t ht
    lia
  · have : (⟨#[]⟩ : Str).length = 0 := rfl
    rw [this, List.length_map]; lia
theorem lineL_len {ss : List Int} (hl : ss.length ≤ 1000) (hs : ∀ t ∈ ss, t ≤ 900) : (ss.flatMap segL).length ≤ 901000 := by
  have key : ∀ l : List Int, (∀ t ∈ l, t ≤ 900) → (l.flatMap segL).length ≤ l.length * 901 := by
    intro l
    induction l with
    | nil => intro _; simp
    | cons t l ih =>
      intro h
      have h1 := ih fun x hx => h x (List.mem_cons_of_mem _ hx)
      have h2 := h t List.mem_cons_self
      rw [List.flatMap_cons, List.length_append]
      have : (segL t).length = t.toNat + 1 := by simp [segL]
      rw [this, List.length_cons, Nat.add_mul]; lia
  have := key ss hs
  have : ss.length * 901 ≤ 1000 * 901 := Nat.mul_le_mul_right _ hl
  lia
theorem join_len {ss : List Int} (hl : ss.length ≤ 1000) (hs : ∀ t ∈ ss, t ≤ 900) : (Txt.join ⟨#[]⟩ (ss.map segS)).length ≤ 901000 := by
  show (Builtin.Str.glued ⟨#[]⟩ (ss.map segS)).cps.size ≤ _
  rw [← Array.length_toList, glued_nil, List.flatMap_map]
  have : (ss.flatMap fun a => (segS a).cps.toList) = ss.flatMap segL := by congr 1; funext t; exact segS_cps t
  rw [this]; exact lineL_len hl hs
section
variable {c : Cx} {A : Around} {L : Addr} {m : Loc} {H : Sto} {env : Env} {Q : V → Sto → Prop}
theorem c_line (hK : c.K = KF c.w.params) {a : Addr} {b : Bool} {row : List Int} (hR : Room 2 A) (ha : H a = some (b, .list (zs row))) (hl : row.length ≤ 30) (hb : ∀ t ∈ sums row, 0 ≤ t ∧ t ≤ 900)
    (h : Q (.str (lineOf (sums row))) H) : CALL c A L (.ref 144) [.ref a] m H Q := by
  have hlen : (sums row).length ≤ 900 := by
    have h1 := sumsUpto_length row row.length
    have h2 : row.length * row.length ≤ 30 * 30 := Nat.mul_le_mul hl hl
    show (sumsUpto row row.length).length ≤ 900
    lia
  refine CALL.more (CALL.fn (n := 1) (ko hK) (kc hK) ["row"] (fun cvs hv => ?_) hR (fun L' => ?_))
  · obtain ⟨x, rfl, _⟩ := hv.inv1
    rfl
  · have hA : ∀ env, (A.deeper env).handled = none := fun _ => hR.hd
    refine WS.cons (W1.ret (WE.binop (WE.meth PySem.F.plainAttrs_str PySem.F.slot_str_join PySem.F.type_str_join (WE.str ⟨IsT.str, WArgs.cons (WE.comp (WE.gcall1 (gk hK) (kk hK) (WE.loc rfl (c_sums hK (hR.deep _) ha (by lia) fun S hS => ?_)))) ⟩))))
    refine WC.ro (upd_same ..) (WC.one (fun i ys H' => ys = ((sums row).take i).map (fun t => V.str (segS t)) ∧ H' = upd (upd H S (true, .list (zs (sums row)))) S (false, .list (zs (sums row)))) (ITER.list (hA _) (upd_same ..)) (by simpa using (by lia : (sums row).length ≤ 1000000)) ⟨rfl, rfl⟩ ?_ ?_)
    · rintro C i v ys H' hi hyl ⟨rfl, rfl⟩
      have hlt : i < (sums row).length := by simpa using (List.getElem?_eq_some_iff.mp hi).1
      obtain rfl : v = .int ((sums row).getD i 0) := by rw [zs_get hlt] at hi; exact (Option.some.inj hi).symm
      have ht := hb _ (getD_mem hlt)
      refine WE.binop (WE.binop (WE.str (WE.loc rfl (op_space (n := (sums row).getD i 0) ht.1 (by lia) (WE.str (op_add_str ?_ ?_))))))
      · have : (spaces ((sums row).getD i 0).toNat).length = ((sums row).getD i 0).toNat := by show (List.replicate _ _).toArray.size = _; simp
        rw [this]
        show _ + 1 ≤ _
        lia
      · refine ⟨_, HSub.refl _, ?_, rfl⟩
        rw [List.take_succ_eq_append_getElem hlt, List.map_append, getD_at hlt]; rfl
    · rintro ys H' hyl ⟨rfl, rfl⟩ D hD
      rw [List.length_map, List.take_length]
      have hDS := (off hD).1
      refine WArgs.nil ?_
      have e : ((sums row).map fun t => V.str (segS t)) = ((sums row).map segS).map V.str := by simp
      rw [e]
      refine call_join (by rw [upd_ne _ _ hDS, upd_same]) (join_ok (by lia) fun t ht => (hb t ht).2) (WE.str (op_add_str ?_ ?_))
      · have := join_len (ss := sums row) (by lia) fun t ht => (hb t ht).2
        show (Txt.join ⟨#[]⟩ ((sums row).map segS)).length + 3 ≤ _
        lia
      · refine ⟨H, ?_, h⟩
        intro y z e
        have h1 : y ≠ S := by rintro rfl; rw [hS] at e; cases e
        have h2 : y ≠ D := by rintro rfl; rw [upd_ne _ _ h1, upd_ne _ _ h1, e] at hD; cases hD
        rw [upd_ne _ _ h1, upd_ne _ _ h2, upd_ne _ _ h1, upd_ne _ _ h1]; exact e
end
end Mine
end
section
open PySem PySem.W
set_option maxRecDepth 100000
set_option maxHeartbeats 8000000
set_option linter.all false
namespace Mine
theorem k_cls {c : Cx} (hK : c.K = KF c.w.params) : ClsOK c.K 125 := by
  rw [hK]
  exact ⟨by kernel_rfl, by kernel_rfl, by kernel_rfl, by kernel_rfl⟩
theorem k_raw {c : Cx} (hK : c.K = KF c.w.params) : findIn c.K (.ref 125) "raw" = some none ∧ takerIn c.K 125 "raw" = some none := by
  rw [hK]
  exact ⟨by kernel_rfl, by kernel_rfl⟩
theorem k_n {c : Cx} (hK : c.K = KF c.w.params) : findIn c.K (.ref 125) "n" = some none ∧ takerIn c.K 125 "n" = some none := by
  rw [hK]
  exact ⟨by kernel_rfl, by kernel_rfl⟩
theorem k_nt {c : Cx} (hK : c.K = KF c.w.params) : findIn c.K (.ref 125) "nt" = some none ∧ takerIn c.K 125 "nt" = some none := by
  rw [hK]
  exact ⟨by kernel_rfl, by kernel_rfl⟩
theorem k_norm {c : Cx} (hK : c.K = KF c.w.params) : findIn c.K (.ref 125) "norm" = some none ∧ takerIn c.K 125 "norm" = some none := by
  rw [hK]
  exact ⟨by kernel_rfl, by kernel_rfl⟩
theorem k_simple {c : Cx} (hK : c.K = KF c.w.params) : findIn c.K (.ref 125) "is_simple" = some none ∧ takerIn c.K 125 "is_simple" = some none := by
  rw [hK]
  exact ⟨by kernel_rfl, by kernel_rfl⟩
theorem k_make {c : Cx} (hK : c.K = KF c.w.params) : makesIn c.K 125 = true ∧ findIn c.K (.ref 125) "__init__" = some (some (.ref 80)) ∧ isFn c.K (.ref 80) = true ∧ keepIn c.K (.ref 125) = true ∧ readsIn c.K 125 (.type "type") = true := by
  rw [hK]
  exact ⟨by kernel_rfl, by kernel_rfl, by kernel_rfl, by kernel_rfl, by kernel_rfl⟩
theorem k_ST {c : Cx} (hK : c.K = KF c.w.params) : findCls c.K (.ref 125) (.type "type") "S" = some (.val (.str (Str.ofString " ") 276)) ∧ findCls c.K (.ref 125) (.type "type") "T" = some (.val (.str (Str.ofString "\t") 277)) := by
  rw [hK]
  exact ⟨by kernel_rfl, by kernel_rfl⟩
theorem k_meth {c : Cx} (hK : c.K = KF c.w.params) : (findIn c.K (.ref 125) "longest_run_of_spaces" = some (some (.ref 87)) ∧ isFn c.K (.ref 87) = true ∧ keepIn c.K (.ref 87) = true) ∧ (findIn c.K (.ref 125) "indent_level" = some (some (.ref 94)) ∧ isFn c.K (.ref 94) = true ∧ keepIn c.K (.ref 94) = true) ∧
    (findIn c.K (.ref 125) "equal" = some (some (.ref 101)) ∧ isFn c.K (.ref 101) = true ∧ keepIn c.K (.ref 101) = true) ∧ (findIn c.K (.ref 125) "not_equal_witness" = some (some (.ref 108)) ∧ isFn c.K (.ref 108) = true ∧ keepIn c.K (.ref 108) = true) := by
  rw [hK]
  exact ⟨⟨by kernel_rfl, by kernel_rfl, by kernel_rfl⟩, ⟨by kernel_rfl, by kernel_rfl, by kernel_rfl⟩, ⟨by kernel_rfl, by kernel_rfl, by kernel_rfl⟩, ⟨by kernel_rfl, by kernel_rfl, by kernel_rfl⟩⟩
end Mine
end
section
open PySem PySem.W
set_option maxRecDepth 100000
set_option maxHeartbeats 8000000
set_option linter.all false
namespace Mine
noncomputable def bump (cs : List Int) (b : Nat) : List Int :=
  let cs' := if cs.length ≤ b then cs ++ List.replicate (b - cs.length + 1) 0 else cs
  cs'.set b (cs'.getD b 0 + 1)
structure St where
  n : Nat
  b : Nat
  nt : Nat
  cs : List Int
noncomputable def St.step (s : St) (ch : Nat) : St := if ch = 32 then ⟨s.n + 1, s.b + 1, s.nt, s.cs⟩ else ⟨s.n + 1, 0, s.nt + 1, bump s.cs s.b⟩
noncomputable def St.run (l : List Nat) : St := l.foldl St.step ⟨0, 0, 0, []⟩
theorem bump_length (cs : List Int) (b : Nat) : (bump cs b).length ≤ cs.length + b + 1 := by
  unfold bump
  simp only [List.length_set]
  split
  · simp only [List.length_append, List.length_replicate]; lia
  · lia
theorem run_bound (l : List Nat) : (St.run l).n = l.length ∧ (St.run l).b + (St.run l).nt ≤ l.length ∧ (St.run l).cs.length + (St.run l).b ≤ l.length := by
  have key : ∀ (l : List Nat) (s : St), s.b + s.nt ≤ s.n → s.cs.length + s.b ≤ s.n → ((l.foldl St.step s).n = s.n + l.length ∧ (l.foldl St.step s).b + (l.foldl St.step s).nt ≤ s.n + l.length ∧ (l.foldl St.step s).cs.length + (l.foldl St.step s).b ≤ s.n + l.length) := by
    intro l
    induction l with
    | nil => intro s h1 h2; exact ⟨rfl, h1, h2⟩
    | cons ch l ih =>
      intro s h1 h2
      have hb := bump_length s.cs s.b
      have : (s.step ch).n = s.n + 1 ∧ (s.step ch).b + (s.step ch).nt ≤ s.n + 1 ∧ (s.step ch).cs.length + (s.step ch).b ≤ s.n + 1 := by
        unfold St.step; split
        · exact ⟨rfl, by simp only; lia, by simp only; lia⟩
        · exact ⟨rfl, by simp only; lia, by simp only; lia⟩
      obtain ⟨e1, e2, e3⟩ := this
      have := ih (s.step ch) (by lia) (by lia)
      simp only [List.foldl_cons, List.length_cons]
      rw [e1] at this
      lia
  have := key l ⟨0, 0, 0, []⟩ (by simp) (by simp)
  simpa [St.run] using this
theorem run_succ {l : List Nat} {i : Nat} (h : i < l.length) : St.run (l.take (i + 1)) = (St.run (l.take i)).step l[i] := by
  unfold St.run; rw [List.take_succ_eq_append_getElem h, List.foldl_append]; rfl
section
variable {c : Cx} {A : Around} {L : Addr} {m : Loc} {H : Sto} {env : Env} {Q : V → Sto → Prop}
theorem chr_beq (a b : Nat) : ((⟨#[a]⟩ : Str) == ⟨#[b]⟩) = (a == b) := by
  rw [Bool.eq_iff_iff, beq_iff_eq, beq_iff_eq]; simp
theorem WE.cattr {o : Expr} {name : Str} {pos : Pos} {C : Addr} {v : V} {cv : Value} (hr : readsIn c.K C (.type "type") = true) (e : findCls c.K (.ref C) (.type "type") name = some (.val cv)) (hv : VR v cv) (hb : ∀ i, v ≠ .bi i)
    (h : WE c A env o m H (fun ov H₁ => ov = .ref C ∧ Q v H₁))
    (he : eval (.Attribute o name pos) env = (do
      let v ← eval o env
      standAt pos.atName
      let r ← holding [v] (getAttr v name true)
      letTemporaryGo o v r
      pure r) := by with_unfolding_all rfl) : WE c A env (.Attribute o name pos) m H Q :=
  WE.attr (TV.mono h fun ov H₁ ⟨q, h⟩ co hco => by subst q; cases hco; exact getattr_cls hr e hv hb h) he
structure WSO (H : Sto) (v : V) (nt : Int) (cs : List Int) (b : Int) : Prop where
  o : ∃ d nv rv sv nm, IsObj H v 125 d [("raw", rv), ("n", nv), ("nt", .int nt), ("norm", nm), ("is_simple", sv)] ∧ NORM H nm cs b
theorem WSO.sub {H H' : Sto} {v : V} {nt b : Int} {cs : List Int} (h : WSO H v nt cs b) (hs : HSub H H') : WSO H' v nt cs b := by
  obtain ⟨d, nv, rv, sv, nm, ⟨⟨x, bx, e1, e2⟩, ⟨bd, e3⟩⟩, ⟨na, nb, t, e4, e5, ⟨ta, tb, e6, e7⟩⟩⟩ := h.o
  exact ⟨d, nv, rv, sv, nm, ⟨⟨x, bx, e1, hs _ _ e2⟩, ⟨bd, hs _ _ e3⟩⟩, ⟨na, nb, t, e4, hs _ _ e5, ⟨ta, tb, e6, hs _ _ e7⟩⟩⟩
@[reducible] noncomputable def wsM (x F : Addr) (b n nt : Int) : Loc := [("self", .ref x), ("S", .str ⟨#[32]⟩), ("T", .str ⟨#[9]⟩), ("count", .ref F), ("b", .int b), ("n", .int n), ("nt", .int nt)]
inductive SignI (H₁ : Sto) (x : Addr) (pre : List Nat) (i : Nat) (m' : Loc) (H' : Sto) : Prop where
  | mk (F : Addr) (e : m' = wsM x F (St.run (pre.take i)).b (St.run (pre.take i)).n (St.run (pre.take i)).nt) (hF : H₁ F = none) (e2 : H' = upd H₁ F (true, .list (zs (St.run (pre.take i)).cs))) (hle : i ≤ pre.length) : SignI H₁ x pre i m' H'
inductive LongI (H₁ : Sto) (x : Addr) (st : St) (m' : Loc) (H' : Sto) : Prop where
  | mk (G : Addr) (cs' : List Int) (hsub : Sub (wsM x G st.b ((st.n : Int) + 1) ((st.nt : Int) + 1)) m') (hG : H₁ G = none) (hH' : HSub (upd H₁ G (true, .list (zs cs'))) H') (hcs : cs' = (if st.cs.length ≤ st.b then st.cs ++ List.replicate (st.b - st.cs.length + 1) 0 else st.cs)) : LongI H₁ x st m' H'
theorem c_init (hK : c.K = KF c.w.params) {line : Str} {pre : List Nat} {post : List Nat} (hline : line.cps.toList = pre ++ 120 :: post) (hpre : ∀ ch ∈ pre, ch = 32 ∨ ch = 9) (hlen : pre.length ≤ 950000) (hR : Room 2 A)
    (h : ∀ x H', HSub H H' → WSO H' (.ref x) (St.run pre).nt (St.run pre).cs (St.run pre).b → Q (.ref x) H') : CALL c A L (.ref 125) [.str line] m H Q := by
  obtain ⟨k1, k2, k3, k4, k5⟩ := k_make hK
  refine CALL.cls k1 k2 k3 fun x d cvs g s hx hd0 hxd hvs R => ?_
  refine code_fn (n := 0) (vs := [.ref x, .str line]) (by rw [hK]; rfl) (by rw [hK]; rfl) ["self", "ws"] (fun cvs hv => ?_) (by have := (hR.tcall 125 cvs).dp; lia) (fun L' => ?_) (.cons (VR.ref x) hvs) R
  · obtain ⟨x, y, rfl, _⟩ := hv.inv2
    rfl
  · have hA : ∀ env, ((A.under (.builtin "type.__call__" ⟨.ref 125 :: cvs, []⟩)).deeper env).handled = none := fun _ => hR.hd
    have hCl := k_cls hK
    have hxH : upd (upd H d (true, .attrs [])) x (true, .obj 125 d) x = some (true, .obj 125 d) := upd_same ..
    have hdH : upd (upd H d (true, .attrs [])) x (true, .obj 125 d) d = some (true, .attrs []) := by rw [upd_ne _ _ hxd.symm, upd_same]
    refine WS.cons (W1.setattr (WE.loc rfl (WE.loc rfl (setattr_own hCl hxH hdH rfl (by simp) (k_raw hK).2 ?_))))
    rw [upd_comm _ _ _ hxd, upd_upd]
    have s1 : HSub H (upd (upd H d (true, .attrs ([] ++ [((Str.ofString "raw", V.str line) : Str × V)]))) x (true, .obj 125 d)) := (HSub.new hd0).trans (HSub.new (by rw [upd_ne _ _ hxd]; exact hx))
    have f1 : (upd (upd H d (true, .attrs ([] ++ [((Str.ofString "raw", V.str line) : Str × V)]))) x (true, .obj 125 d)) x = some (true, .obj 125 d) := upd_same ..
    have f2 : (upd (upd H d (true, .attrs ([] ++ [((Str.ofString "raw", V.str line) : Str × V)]))) x (true, .obj 125 d)) d = some (true, .attrs [("raw", V.str line)]) := by rw [upd_ne _ _ hxd.symm, upd_same]; rfl
    generalize upd (upd H d (true, .attrs ([] ++ [((Str.ofString "raw", V.str line) : Str × V)]))) x (true, .obj 125 d) = H₁ at s1 f1 f2 ⊢
    clear hxH hdH
    refine WS.cons (W1.assign_pairS (hA _) (WE.tup (WArgs.cons (WE.cattr (v := .str ⟨#[32]⟩) k5 (k_ST hK).1 ⟨276, by rfl⟩ (fun i e => by cases e) (WE.glob (by rw [hK]; rfl) ⟨rfl, WArgs.cons (WE.cattr (v := .str ⟨#[9]⟩) k5 (k_ST hK).2 ⟨277, by rfl⟩ (fun i e => by cases e) (WE.glob (by rw [hK]; rfl) ⟨rfl, WArgs.nil ⟨by simp, fun D hD => ?_⟩⟩))⟩)))))
    refine ⟨D, true, _, _, rfl, upd_same .., ?_⟩
    refine WS.weaken (H' := H₁) ?_ (Sub.refl _) (HSub.new hD)
    refine WS.cons (W1.assign (WE.list (WArgs.nil ⟨by simp, fun E hE => ?_⟩)))
    refine WS.cons (W1.assign3 (WE.int (WA.name (WA.name (WA.name ?_)))))
    refine WS.weaken (m' := (wsM x E 0 0 0)) ?_ (.cons rfl (.cons rfl (.cons rfl (.cons rfl (.cons rfl (.cons rfl (.cons rfl .nil))))))) (HSub.refl _)
    have o1 : ∀ {H' : Sto}, HSub H₁ H' → IsObj H' (.ref x) 125 d [("raw", V.str line)] := fun hs => ⟨⟨x, true, rfl, hs _ _ f1⟩, ⟨true, hs _ _ f2⟩⟩
    refine WS.cons (W1.for (WE.attr (WE.loc rfl fun co hco => getattr_own hCl (o1 (HSub.new hE)) rfl (fun i e => by cases e) (k_raw hK).1 rfl hco ?_)))
    refine WF.loop (H₀ := upd H₁ E (true, .list [])) (SignI H₁ x pre)
      (ITER.str (hA _)) ⟨E, rfl, hE, rfl, Nat.zero_le _⟩ ?_ ?_
    · rintro i v m' H' hi ⟨F, rfl, hF, rfl, hle⟩
      rw [hline] at hi
      rcases Nat.lt_or_ge i pre.length with hlt | hge
      · have : ((pre ++ 120 :: post).map fun ch => V.str ⟨#[ch]⟩)[i]? = some (.str ⟨#[pre[i]]⟩) := by
          rw [List.getElem?_map, List.getElem?_append_left hlt]; simp [hlt]
        rw [this] at hi
        obtain rfl := Option.some.inj hi
        have hch := hpre _ (List.getElem_mem hlt)
        obtain ⟨bn1, bn2, bn3⟩ := run_bound (pre.take i)
        rw [List.length_take] at bn1 bn2 bn3
        have hstep := run_succ hlt
        generalize hst : St.run (pre.take i) = st at bn1 bn2 bn3 hstep ⊢
        refine WS.cons (W1.ite (WT.cmp (WE.loc rfl (WE.loc rfl (op_eq_str (OPT.bool ?_))))))
        rw [chr_beq]
        rcases hch with e | e
        · rw [e]
          simp only [beq_self_eq_true, if_true]
          refine WS.cons (W1.assign (WE.binop (WE.loc rfl (WE.int (op_add ?_)))))
          refine WS.cons (W1.assign (WE.binop (WE.loc rfl (WE.int (op_add ?_)))))
          refine WS.nil (WS.nil ⟨(wsM x F ((st.b : Int) + 1) ((st.n : Int) + 1) (st.nt)), _, .cons rfl (.cons rfl (.cons rfl (.cons rfl (.cons rfl (.cons rfl (.cons rfl .nil)))))), HSub.refl _, F, ?_, hF, ?_, hlt⟩)
          · rw [hstep, e]; rfl
          · rw [hstep, e]; rfl
        · rw [e]
          rw [show ((9 : Nat) == 32) = false from rfl]
          refine iteF ?_
          refine WS.cons (W1.ite (WT.cmp (WE.loc rfl (WE.loc rfl (op_eq_str (OPT.bool ?_))))))
          rw [chr_beq, beq_self_eq_true]
          refine iteT ?_
          refine WS.cons (W1.assign (WE.binop (WE.loc rfl (WE.int (op_add ?_)))))
          refine WS.cons (W1.assign (WE.binop (WE.loc rfl (WE.int (op_add ?_)))))
          have hFl : upd H₁ F (true, .list (zs st.cs)) F = some (true, .list (zs st.cs)) := upd_same ..
          refine WS.cons (W1.via (LongI H₁ x st)
            (W1.ite (WT.cmp (WE.loc rfl (WE.bcall1 (gn hK) PyProof.Rows.Boot.len (v := .bi "len") rfl trivial (WE.loc rfl (lenZ hFl (by lia) (op_ge (OPT.bool ?_)))))))) ?_)
          · by_cases hb : st.cs.length ≤ st.b
            · refine iteP (by simpa using hb) ?_
              refine WS.cons (W1.assign (WE.binop (WE.loc rfl (WE.binop (WE.list (WArgs.cons (WE.int (WArgs.nil ⟨by simp, fun Z hZ => ?_⟩))))))))
              have hZF := (off hZ).1
              refine WE.binop (WE.binop (WE.loc rfl (WE.bcall1 (gn hK) PyProof.Rows.Boot.len (v := .bi "len") rfl trivial (WE.loc rfl (lenZ (upd_get hZ hFl) (by lia) (op_sub (WE.int (op_add ?_))))))))
              refine op_mul_list (upd_same ..) (by lia) (by lia) fun W hW => ?_
              have hWZ := (off hW).1
              have hW2 := hW
              rw [upd_ne _ _ hWZ] at hW2
              have hWF := (off hW2).1
              replace hW2 := (off hW2).2
              refine op_add_list (upd_get hW (upd_get hZ hFl)) (upd_same ..) (by simp; lia) fun G hG => ?_
              have hGW := (off hG).1
              replace hG := (off hG).2
              have hGZ := (off hG).1
              replace hG := (off hG).2
              have hGF := (off hG).1
              replace hG := (off hG).2
              refine WS.nil ⟨rfl, G, _, .cons rfl (.cons rfl (.cons rfl (.cons rfl (.cons rfl (.cons rfl (.cons rfl .nil)))))), hG, ?_, rfl⟩
              rw [if_pos hb, show ((st.b : Int) - (st.cs.length : Int) + 1).toNat = st.b - st.cs.length + 1 by lia]
              have e2 : zs (st.cs ++ List.replicate (st.b - st.cs.length + 1) 0) = zs st.cs ++ List.replicate (st.b - st.cs.length + 1) (V.int 0) := by simp [zs]
              rw [e2]
              refine HSub.up ((HSub.new hF).trans ((HSub.new hZ).trans (HSub.new hW)))
            · refine iteN (by simpa using hb) ?_
              refine WS.nil ⟨rfl, F, _, .cons rfl (.cons rfl (.cons rfl (.cons rfl (.cons rfl (.cons rfl (.cons rfl .nil)))))), hF, ?_, rfl⟩
              rw [if_neg hb]; exact HSub.refl _
          · rintro m' H' ⟨G, cs', hsub, hG, hH', hcs⟩
            have hlen' : st.b < cs'.length ∧ cs'.length ≤ 960000 := by
              rw [hcs]; split
              · simp only [List.length_append, List.length_replicate]; lia
              · lia
            refine WS.weaken ?_ hsub hH'
            have hGl : upd H₁ G (true, .list (zs cs')) G = some (true, .list (zs cs')) := upd_same ..
            refine WS.cons (W1.setitem (WE.binop (WE.sub_list (WE.loc rfl (WE.loc rfl ⟨IsT.list hGl, getZ hGl hlen'.1 (by lia) (WE.int (op_add (WE.loc rfl (WE.loc rfl (setZ hGl hlen'.1 (by lia) ?_)))))⟩)))))
            rw [upd_upd]
            refine WS.cons (W1.assign (WE.int ?_))
            refine WS.nil (WS.nil (WS.nil ⟨(wsM x G 0 ((st.n : Int) + 1) ((st.nt : Int) + 1)), _, .cons rfl (.cons rfl (.cons rfl (.cons rfl (.cons rfl (.cons rfl (.cons rfl .nil)))))), HSub.refl _, G, ?_, hG, ?_, hlt⟩))
            · rw [hstep, e]; rfl
            · rw [hstep, e, hcs]; rfl
      · have hip : i = pre.length := Nat.le_antisymm hle hge
        subst hip
        have : ((pre ++ 120 :: post).map fun ch => V.str ⟨#[ch]⟩)[pre.length]? = some (.str ⟨#[120]⟩) := by simp
        rw [this] at hi
        obtain rfl := Option.some.inj hi
        rw [List.take_length]
        obtain ⟨bn1, bn2, bn3⟩ := run_bound pre
        generalize hst : St.run pre = st at h bn1 bn2 bn3 ⊢
        refine WS.cons (W1.ite (WT.cmp (WE.loc rfl (WE.loc rfl (op_eq_str (OPT.bool ?_))))))
        rw [chr_beq, show ((120 : Nat) == 32) = false from rfl]
        refine iteF ?_
        refine WS.cons (W1.ite (WT.cmp (WE.loc rfl (WE.loc rfl (op_eq_str (OPT.bool ?_))))))
        rw [chr_beq, show ((120 : Nat) == 9) = false from rfl]
        refine iteF ?_
        refine WS.cons (W1.brk ?_)
        have hdF : d ≠ F := HSub.ne hF f2
        have hxF : x ≠ F := HSub.ne hF f1
        have g1 : upd H₁ F (true, .list (zs st.cs)) x = some (true, .obj 125 d) := upd_get hF f1
        have g2 : upd H₁ F (true, .list (zs st.cs)) d = some (true, .attrs [("raw", V.str line)]) := upd_get hF f2
        have g3 : upd H₁ F (true, .list (zs st.cs)) F = some (true, .list (zs st.cs)) := upd_same ..
        have sub : HSub H (upd H₁ F (true, .list (zs st.cs))) := s1.trans (HSub.new hF)
        generalize upd H₁ F (true, .list (zs st.cs)) = H₂ at g1 g2 g3 sub ⊢
        refine WS.weaken (m' := (wsM x F (st.b) (st.n) (st.nt))) ?_ (.cons rfl (.cons rfl (.cons rfl (.cons rfl (.cons rfl (.cons rfl (.cons rfl .nil))))))) (HSub.refl _)
        refine WS.cons (W1.setattr (WE.loc rfl (WE.loc rfl (setattr_own hCl g1 g2 rfl (by simp) (k_n hK).2 ?_))))
        refine WS.cons (W1.setattr (WE.loc rfl (WE.loc rfl (setattr_own hCl (b := true) (by rw [upd_ne _ _ hxd]; exact g1) (upd_same ..) rfl (by simp) (k_nt hK).2 ?_))))
        rw [upd_upd]
        have gF : ∀ (o : Bool × O), upd H₂ d o F = some (true, .list (zs st.cs)) := fun o => by rw [upd_ne _ _ hdF.symm]; exact g3
        refine WS.cons (W1.setattr (WE.tup (WArgs.cons (WE.bcall1 (gn hK) PyProof.Rows.Boot.tuple (v := .ty "tuple") rfl trivial (WE.loc rfl (call_tuple (gF _) (by simp; lia) fun T₁ hT₁ => WArgs.cons (WE.loc rfl (WArgs.nil ⟨by simp, fun T₂ hT₂ => WE.loc rfl ?_⟩))))))))
        have n1 := (off hT₁).1.symm
        have n2 := (off hT₂).1
        replace hT₂ := (off hT₂).2
        have n3 := (off hT₂).1.symm
        rw [upd_ne _ _ n3.symm] at hT₂
        rw [upd_ne _ _ n1.symm] at hT₁
        have n4 : x ≠ T₁ := HSub.ne hT₁ g1
        have n5 : x ≠ T₂ := HSub.ne hT₂ g1
        have n6 : F ≠ T₁ := HSub.ne hT₁ g3
        have n7 : F ≠ T₂ := HSub.ne hT₂ g3
        refine setattr_own hCl (b := true) (by rw [upd_ne _ _ n5, upd_ne _ _ n4, upd_ne _ _ hxd]; exact g1) (by rw [upd_ne _ _ n3, upd_ne _ _ n1, upd_same]) rfl (by simp) (k_norm hK).2 ?_
        refine WS.cons (W1.setattr (WE.cmp (WE.bcall1 (gn hK) PyProof.Rows.Boot.len (v := .bi "len") rfl trivial (WE.loc rfl (lenZ (b := true) (by rw [upd_ne _ _ hdF.symm, upd_ne _ _ n7, upd_ne _ _ n6, upd_ne _ _ hdF.symm]; exact g3) (by lia) (WE.int (op_le (WE.loc rfl (setattr_own hCl (b := true) (by rw [upd_ne _ _ hxd, upd_ne _ _ n5, upd_ne _ _ n4, upd_ne _ _ hxd]; exact g1) (upd_same ..) rfl (by simp) (k_simple hK).2 ?_)))))))))
        rw [upd_upd]
        refine WS.nil ⟨by trivial, h x _ ?_ ?_⟩
        · intro y z e
          have e2 := sub _ _ e
          have h1 : y ≠ d := by rintro rfl; rw [hd0] at e; cases e
          have h2 : y ≠ T₁ := by rintro rfl; rw [hT₁] at e2; cases e2
          have h3 : y ≠ T₂ := by rintro rfl; rw [hT₂] at e2; cases e2
          rw [upd_ne _ _ h1, upd_ne _ _ h3, upd_ne _ _ h2, upd_ne _ _ h1]; exact e2
        · refine ⟨d, .int st.n, .str line, .bool (decide ((st.cs.length : Int) ≤ 1)), .ref T₂, ⟨⟨x, true, rfl, ?_⟩, ⟨true, ?_⟩⟩, ⟨T₂, true, .ref T₁, rfl, ?_, ⟨T₁, true, rfl, ?_⟩⟩⟩
          · rw [upd_ne _ _ hxd, upd_ne _ _ n5, upd_ne _ _ n4, upd_ne _ _ hxd]; exact g1
          · rw [upd_same]; rfl
          · rw [upd_ne _ _ n3.symm, upd_same]
          · rw [upd_ne _ _ n1.symm, upd_ne _ _ n2.symm, upd_same]
    · rintro m' H' ⟨F, rfl, hF, rfl, hle⟩
      rw [hline, List.length_map, List.length_append, List.length_cons] at hle
      lia
end
end Mine
end
section
open PySem PySem.W
set_option maxRecDepth 100000
set_option maxHeartbeats 8000000
set_option linter.all false
namespace Mine
noncomputable def lvlSum (ts : Nat) (cs : List Int) (k : Nat) : Int := ((List.range k).map fun j => (((ts + j) / ts : Nat) : Int) * cs.getD (ts + j) 0).sum
noncomputable def level (ts : Nat) (cs : List Int) (nt b : Int) : Int := b + ts * (lvlSum ts cs (cs.length - ts) + nt)
theorem lvlSum_succ (ts : Nat) (cs : List Int) (k : Nat) : lvlSum ts cs (k + 1) = lvlSum ts cs k + (((ts + k) / ts : Nat) : Int) * cs.getD (ts + k) 0 := by
  unfold lvlSum; rw [List.range_succ, List.map_append, List.sum_append]; simp
section
variable {c : Cx} {A : Around} {L : Addr} {m : Loc} {H : Sto} {env : Env} {Q : V → Sto → Prop}
theorem mul_small {a b : Int} (h : a.natAbs < 2 ^ 40) : IntMulOk a b := IntMulOk.of_left (intBits_le_iff.mpr (by lia))
theorem WSO.meth1 (hK : c.K = KF c.w.params) {v : V} {nt b : Int} {cs : List Int} (h : WSO H v nt cs b) : METH c H v "longest_run_of_spaces" 87 ∧ METH c H v "indent_level" 94 ∧ METH c H v "equal" 101 ∧ METH c H v "not_equal_witness" 108 := by
  obtain ⟨d, nv, rv, sv, nm, ho, _⟩ := h.o
  obtain ⟨⟨a1, a2, a3⟩, ⟨b1, b2, b3⟩, ⟨c1, c2, c3⟩, ⟨d1, d2, d3⟩⟩ := k_meth hK
  exact ⟨⟨125, d, _, ho, k_cls hK, rfl, a1, a2, a3⟩, ⟨125, d, _, ho, k_cls hK, rfl, b1, b2, b3⟩, ⟨125, d, _, ho, k_cls hK, rfl, c1, c2, c3⟩, ⟨125, d, _, ho, k_cls hK, rfl, d1, d2, d3⟩⟩
inductive NormP (Q : V → Sto → Prop) (ov : V) (H₁ : Sto) : Prop where
  | mk (nt : Int) (cs : List Int) (b : Int) (w : WSO H₁ ov nt cs b) (q : ∀ nm, NORM H₁ nm cs b → Q nm H₁) : NormP Q ov H₁
inductive NtP (Q : V → Sto → Prop) (ov : V) (H₁ : Sto) : Prop where
  | mk (nt : Int) (cs : List Int) (b : Int) (w : WSO H₁ ov nt cs b) (q : Q (.int nt) H₁) : NtP Q ov H₁
theorem WE.norm (hK : c.K = KF c.w.params) {o : Expr} {pos : Pos} (h : WE c A env o m H (NormP Q))
    (he : eval (.Attribute o "norm" pos) env = (do
      let v ← eval o env
      standAt pos.atName
      let r ← holding [v] (getAttr v "norm" true)
      letTemporaryGo o v r
      pure r) := by with_unfolding_all rfl) : WE c A env (.Attribute o "norm" pos) m H Q :=
  WE.attr (TV.mono h fun ov H₁ ⟨nt, cs, b, w, q⟩ co hco => by
    obtain ⟨d, nv, rv, sv, nm, ho, hn⟩ := w.o
    have := hn
    obtain ⟨na, nb, t, rfl, _⟩ := this
    exact getattr_own (k_cls hK) ho rfl (fun i e => by cases e) (k_norm hK).1 rfl hco (q _ hn)) he
theorem WE.nt (hK : c.K = KF c.w.params) {o : Expr} {pos : Pos} (h : WE c A env o m H (NtP Q))
    (he : eval (.Attribute o "nt" pos) env = (do
      let v ← eval o env
      standAt pos.atName
      let r ← holding [v] (getAttr v "nt" true)
      letTemporaryGo o v r
      pure r) := by with_unfolding_all rfl) : WE c A env (.Attribute o "nt" pos) m H Q :=
  WE.attr (TV.mono h fun ov H₁ ⟨nt, cs, b, w, q⟩ co hco => by
    obtain ⟨d, nv, rv, sv, nm, ho, hn⟩ := w.o
    exact getattr_own (k_cls hK) ho rfl (fun i e => by cases e) (k_nt hK).1 rfl hco q) he
theorem c_longest (hK : c.K = KF c.w.params) {v : V} {nt b : Int} {cs : List Int} (hR : Room 1 A) (hv : WSO H v nt cs b) (hl : cs.length ≤ 1000000) (h : Q (.int (max ((cs.length : Int) - 1) b)) H) : CALL c A L (.ref 87) [v] m H Q := by
  refine CALL.fn (n := 0) (ko hK) (kc hK) ["self"] (fun cvs hv => ?_) hR (fun L' => ?_)
  · obtain ⟨x, rfl, _⟩ := hv.inv1
    rfl
  · have hA : ∀ env, (A.deeper env).handled = none := fun _ => hR.hd
    refine WS.cons (W1.assign_pair (WE.norm hK (WE.loc rfl ⟨nt, cs, b, hv, fun nm hn => ?_⟩)))
    obtain ⟨na, nb, t, rfl, hna, ⟨ta, tb, rfl, hta⟩⟩ := hn
    refine WA.pair (hA _) hna ?_
    exact WS.cons (W1.ret (WE.bcall2 (gn hK) PyProof.Rows.Boot.max (v := .bi "max") rfl trivial (WE.binop (WE.bcall1 (gn hK) PyProof.Rows.Boot.len (v := .bi "len") rfl trivial (WE.loc rfl (call_len_tup hta (by simpa using hl) (WE.int (op_sub (WE.loc rfl (call_max2 (hA _) (by rw [List.length_map]; exact h)))))))))))
theorem c_level (hK : c.K = KF c.w.params) {v : V} {nt b : Int} {cs : List Int} {ts : Nat} (hR : Room 1 A) (hv : WSO H v nt cs b) (hl : cs.length ≤ 1000000) (h1 : 1 ≤ ts) (h2 : ts ≤ 1000000) (h : Q (.int (level ts cs nt b)) H) : CALL c A L (.ref 94) [v, .int ts] m H Q := by
  refine CALL.more (CALL.fn (n := 0) (ko hK) (kc hK) ["self", "tabsize"] (fun cvs hv => ?_) hR (fun L' => ?_))
  · obtain ⟨x, y, rfl, _⟩ := hv.inv2
    rfl
  · have hA : ∀ env, (A.deeper env).handled = none := fun _ => hR.hd
    refine WS.cons (W1.assign_pair (WE.norm hK (WE.loc rfl ⟨nt, cs, b, hv, fun nm hn => ?_⟩)))
    obtain ⟨na, nb, t, rfl, hna, ⟨ta, tb, rfl, hta⟩⟩ := hn
    refine WA.pair (hA _) hna ?_
    refine WS.cons (W1.assign (WE.int ?_))
    refine WS.weaken (m' := [("self", v), ("tabsize", .int ts), ("count", .ref ta), ("trailing", .int b), ("il", .int 0)]) ?_ (.cons rfl (.cons rfl (.cons rfl (.cons rfl (.cons rfl .nil))))) (HSub.refl _)
    refine WS.cons (W1.for (WE.bcall2 (gn hK) PyProof.Rows.Boot.range (v := .ty "range") rfl trivial (WE.loc rfl (WE.bcall1 (gn hK) PyProof.Rows.Boot.len (v := .bi "len") rfl trivial (WE.loc rfl (call_len_tup hta (by simpa using hl) (call_range2 fun R hRn => ?_)))))))
    rw [List.length_map]
    have hlen : (rangeItems (ts : Int) (cs.length : Int)).length = cs.length - ts := by simp [rangeItems]
    refine WF.loop (H₀ := H) (fun i m' H' => m' = ([("self", v), ("tabsize", .int ts), ("count", .ref ta), ("trailing", .int b), ("il", .int (lvlSum ts cs i))] : Loc) ∧ H' = H) ((ITER.rng (hA _) (upd_same ..) (by lia) (by lia) (by lia) (by lia)).less (HSub.new hRn)) ⟨rfl, rfl⟩ ?_ ?_
    · rintro i w m' H' hi ⟨rfl, rfl⟩
      have hlt : i < cs.length - ts := by rw [← hlen]; exact (List.getElem?_eq_some_iff.mp hi).1
      obtain rfl : w = .int ((ts + i : Nat) : Int) := by
        have : (rangeItems (ts : Int) (cs.length : Int))[i]? = some (.int ((ts + i : Nat) : Int)) := by
          have h3 : i < ((cs.length : Int) - (ts : Int)).toNat := by lia
          rw [rangeItems, List.getElem?_map, List.getElem?_range h3]; simp
        rw [this] at hi; exact (Option.some.inj hi).symm
      have hget : (zs cs)[((ts + i : Nat) : Int).toNat]? = some (.int (cs.getD (ts + i) 0)) := by rw [Int.toNat_natCast]; exact zs_get (by lia)
      refine WS.cons (W1.assign (WE.binop (WE.loc rfl (WE.binop (WE.binop (WE.loc rfl (WE.loc rfl (op_fdiv (by lia) (by lia) ?_))))))))
      rw [fdiv_nat _ _ (by lia)]
      refine WE.sub_tup (WE.loc rfl (WE.loc rfl ⟨IsT.tup hta, op_item_tup hta (by lia) (by lia) hget ?_⟩))
      refine op_mul (mul_small ?_) (op_add ?_)
      · have : (ts + i) / ts ≤ ts + i := Nat.div_le_self _ _
        rw [Int.natAbs_natCast]; lia
      · refine WS.nil ⟨_, _, .cons rfl (.cons rfl (.cons rfl (.cons rfl (.cons ?_ .nil)))), HSub.refl _, rfl, rfl⟩
        rw [lvlSum_succ]; rfl
    · rintro m' H' ⟨rfl, rfl⟩
      rw [hlen]
      refine WS.cons (W1.ret (WE.binop (WE.loc rfl (WE.binop (WE.loc rfl (WE.binop (WE.loc rfl (WE.nt hK (WE.loc rfl ⟨nt, cs, b, hv, op_add (op_mul (mul_small (by lia)) (op_add ⟨_, HSub.refl _, h⟩))⟩)))))))))
theorem c_equal (hK : c.K = KF c.w.params) {v w : V} {nt nt' b b' : Int} {cs cs' : List Int} (hR : Room 1 A) (hv : WSO H v nt cs b) (hw : WSO H w nt' cs' b') (h : Q (.bool (cs == cs' && b == b')) H) : CALL c A L (.ref 101) [v, w] m H Q := by
  refine CALL.fn (n := 0) (ko hK) (kc hK) ["self", "other"] (fun cvs hv => ?_) hR (fun L' => ?_)
  · obtain ⟨x, y, rfl, _⟩ := hv.inv2
    rfl
  · exact WS.cons (W1.ret (WE.cmp (WE.norm hK (WE.loc rfl ⟨nt, cs, b, hv, fun nm hn => WE.norm hK (WE.loc rfl ⟨nt', cs', b', hw, fun nm' hn' => eq_norm (hR.deep _) hn hn' h⟩)⟩))))
noncomputable def wmax (cs cs' : List Int) (b b' : Int) : Int := max (max ((cs.length : Int) - 1) b) (max ((cs'.length : Int) - 1) b') + 1
@[reducible] noncomputable def witM (v w : V) (N : Nat) (D : Addr) : Loc := [("self", v), ("other", w), ("n", .int N), ("a", .ref D)]
inductive WitI (H : Sto) (v w : V) (nt nt' b b' : Int) (cs cs' : List Int) (N : Nat) (D : Addr) (i : Nat) (m' : Loc) (H' : Sto) : Prop where
  | mk (l : List V) (e : m' = witM v w N D) (e2 : H' = upd H D (true, .list l)) (hll : l.length ≤ i) (hle : l.isEmpty = (List.range i).all (fun k => level (k + 1) cs nt b == level (k + 1) cs' nt' b')) : WitI H v w nt nt' b b' cs cs' N D i m' H'
theorem c_witness (hK : c.K = KF c.w.params) {v w : V} {nt nt' b b' : Int} {cs cs' : List Int} {N : Nat} (hR : Room 2 A) (hv : WSO H v nt cs b) (hw : WSO H w nt' cs' b') (hl : cs.length ≤ 100000) (hl' : cs'.length ≤ 100000) (hN : wmax cs cs' b b' = N) (hNl : N ≤ 100000)
    (h : ∀ D l, H D = none → l.length ≤ 1000000 → l.isEmpty = (List.range N).all (fun k => level (k + 1) cs nt b == level (k + 1) cs' nt' b') → Q (.ref D) (upd H D (true, .list l))) : CALL c A L (.ref 108) [v, w] m H Q := by
  refine CALL.more (CALL.fn (n := 1) (ko hK) (kc hK) ["self", "other"] (fun cvs hv => ?_) hR (fun L' => ?_))
  · obtain ⟨x, y, rfl, _⟩ := hv.inv2
    rfl
  · have hA : ∀ env, (A.deeper env).handled = none := fun _ => hR.hd
    refine WS.cons (W1.assign (WE.binop (WE.bcall2 (gn hK) PyProof.Rows.Boot.max (v := .bi "max") rfl trivial (WE.mobj0 (WE.loc rfl ⟨87, (hv.meth1 hK).1, c_longest hK (hR.deep _) hv (by lia) (WE.mobj0 (WE.loc rfl ⟨87, (hw.meth1 hK).1, c_longest hK (hR.deep _) hw (by lia) (call_max2 (hA _) (WE.int (op_add ?_)))⟩))⟩)))))
    rw [show max (max ((cs.length : Int) - 1) b) (max ((cs'.length : Int) - 1) b') + 1 = (N : Int) from hN]
    refine WS.cons (W1.assign (WE.list (WArgs.nil ⟨by simp, fun D hD => ?_⟩)))
    refine WS.weaken (m' := witM v w N D) ?_ (.cons rfl (.cons rfl (.cons rfl (.cons rfl .nil)))) (HSub.refl _)
    refine WS.cons (W1.for (WE.bcall2 (gn hK) PyProof.Rows.Boot.range (v := .ty "range") rfl trivial (WE.int (WE.binop (WE.loc rfl (WE.int (op_add (call_range2 fun R hRn => ?_))))))))
    have hlen : (rangeItems 1 ((N : Int) + 1)).length = N := by simp [rangeItems]
    refine WF.loop (H₀ := upd H D (true, .list [])) (WitI H v w nt nt' b b' cs cs' N D)
      ((ITER.rng (hA _) (upd_same ..) (by lia) (by lia) (by lia) (by lia)).less (HSub.new hRn)) ⟨[], rfl, rfl, Nat.le_refl _, rfl⟩ ?_ ?_
    · rintro i x m' H' hi ⟨l, rfl, rfl, hll, hle⟩
      have hlt : i < N := by rw [← hlen]; exact (List.getElem?_eq_some_iff.mp hi).1
      obtain rfl : x = .int ((i + 1 : Nat) : Int) := by
        have : (rangeItems 1 ((N : Int) + 1))[i]? = some (.int ((i + 1 : Nat) : Int)) := by
          have h3 : i < ((N : Int) + 1 - 1).toNat := by lia
          rw [rangeItems, List.getElem?_map, List.getElem?_range h3]; simp; lia
        rw [this] at hi; exact (Option.some.inj hi).symm
      have hv' : WSO (upd H D (true, .list l)) v nt cs b := hv.sub (HSub.new hD)
      have hw' : WSO (upd H D (true, .list l)) w nt' cs' b' := hw.sub (HSub.new hD)
      have hsucc : (List.range (i + 1)).all (fun k => level (k + 1) cs nt b == level (k + 1) cs' nt' b') = (l.isEmpty && (level (i + 1) cs nt b == level (i + 1) cs' nt' b')) := by
        rw [hle, List.range_succ, List.all_append]; simp
      refine WS.cons (W1.ite (WT.cmp (WE.mobj (WE.loc rfl ⟨94, (hv'.meth1 hK).2.1, WArgs.cons (WE.loc rfl (WArgs.nil (c_level hK (hR.deep _) hv' (by lia) (by lia) (by lia) (WE.mobj (WE.loc rfl ⟨94, (hw'.meth1 hK).2.1, WArgs.cons (WE.loc rfl (WArgs.nil (c_level hK (hR.deep _) hw' (by lia) (by lia) (by lia) (op_ne (OPT.bool ?_)))))⟩)))))⟩))))
      cases hc : level (i + 1) cs nt b == level (i + 1) cs' nt' b' with
      | true =>
        rw [show (level (i + 1) cs nt b != level (i + 1) cs' nt' b') = false by rw [bne, hc]; rfl]
        refine iteF ?_
        refine WS.nil (WS.nil ⟨_, _, .cons rfl (.cons rfl (.cons rfl (.cons rfl .nil))), HSub.refl _, l, rfl, rfl, by lia, ?_⟩)
        rw [hsucc, hc, Bool.and_true]
      | false =>
        rw [show (level (i + 1) cs nt b != level (i + 1) cs' nt' b') = true by rw [bne, hc]; rfl]
        refine iteT ?_
        refine WS.cons (W1.expr (WE.meth PySem.F.plainAttrs_list slot_list_append PySem.F.type_list_append (WE.loc rfl ⟨IsT.list (upd_same ..), WArgs.cons (WE.tup (WArgs.cons (WE.loc rfl (WArgs.cons ?_)))) ⟩)))
        refine WE.mobj (WE.loc rfl ⟨94, (hv'.meth1 hK).2.1, WArgs.cons (WE.loc rfl (WArgs.nil (c_level hK (hR.deep _) hv' (by lia) (by lia) (by lia) (WArgs.cons ?_))))⟩)
        refine WE.mobj (WE.loc rfl ⟨94, (hw'.meth1 hK).2.1, WArgs.cons (WE.loc rfl (WArgs.nil (c_level hK (hR.deep _) hw' (by lia) (by lia) (by lia) (WArgs.nil ⟨by simp, fun T hT => WArgs.nil ?_⟩))))⟩)
        have hTD := (off hT).1
        refine call_append (by rw [upd_ne _ _ hTD.symm, upd_same]) (by lia) ⟨rfl, WS.nil (WS.nil ⟨_, upd H D (true, .list (l ++ [V.ref T])), .cons rfl (.cons rfl (.cons rfl (.cons rfl .nil))), ?_, l ++ [V.ref T], rfl, rfl, ?_, ?_⟩)⟩
        · rw [upd_comm _ _ _ hTD, upd_upd]
          rw [upd_ne _ _ hTD] at hT
          exact HSub.new (by rw [upd_ne _ _ hTD]; exact hT)
        · simp; lia
        · rw [hsucc, hc, Bool.and_false]; simp
    · rintro m' H' ⟨l, rfl, rfl, hll, hle⟩
      rw [hlen] at hll hle
      exact WS.cons (W1.ret (WE.loc rfl ⟨_, HSub.refl _, h D l hD (by lia) hle⟩))
end
end Mine
end
section
open PySem PySem.W
set_option maxRecDepth 100000
set_option maxHeartbeats 8000000
set_option linter.all false
namespace Mine
open PyProof.Rows (IntsAre pickNums)
theorem intsAre_map (ns : List Int) : IntsAre (ns.map fun n => Value.int n 0) ns := by
  induction ns with
  | nil => exact .nil
  | cons n ns ih => exact .cons _ _ ih
theorem intsAre_unique {vs : List Value} {ns ms : List Int} (h : IntsAre vs ns) (h' : IntsAre vs ms) : ns = ms := by
  induction h generalizing ms with
  | nil => cases h'; rfl
  | cons n t _ ih => cases h' with
    | cons _ _ h' => rw [ih h']
theorem pick_eq {ns ms : List Int} {lo hi st : Option Int} (h : (slicePick (ns.map fun n => Value.int n 0).toArray lo hi st).toList = ms.map fun n => Value.int n 0) : pickNums ns lo hi st = ms :=
  intsAre_unique ((intsAre_map ns).pick lo hi st) (h ▸ intsAre_map ms)
theorem pick_rev (ns : List Int) : pickNums ns none none (some (-1)) = ns.reverse := pick_eq (by rw [krv_pick]; simp)
theorem pick_upto (ns : List Int) (b : Nat) : pickNums ns none (some (b : Int)) none = ns.take b := pick_eq (by rw [slicePick_upto']; simp)
theorem pick_from (ns : List Int) (a : Nat) : pickNums ns (some (a : Int)) none none = ns.drop a := pick_eq (by rw [slicePick_from']; simp)
theorem pick_mid (ns : List Int) : pickNums ns (some 1) (some (-1)) none = (ns.drop 1).take (ns.length - 2) := pick_eq (by
  have e1 : clipAt ns.length 1 = min 1 ns.length := clipAt_nat _ 1
  have e2 : clipAt ns.length (-1) = ns.length - 1 := clipAt_neg _ 1 (by decide)
  rw [slicePick_plain]
  simp only [Option.elim, List.size_toArray, List.length_map]
  rw [e1, e2]
  rcases Nat.eq_zero_or_pos ns.length with h | h
  · rw [List.length_eq_zero_iff] at h; subst h; rfl
  · rw [Nat.min_eq_left h, show ns.length - 1 - 1 = ns.length - 2 by lia]; simp)
theorem pick_len (ns : List Int) (lo hi st : Option Int) : (pickNums ns lo hi st).length ≤ ns.length := PyProof.Rows.length_pickNums_le (intsAre_map ns) lo hi st
section
variable {c : Cx} {A : Around} {L : Addr} {m : Loc} {H : Sto} {env : Env} {Q : V → Sto → Prop}
theorem WE.neg1 {k pos pos'} (h : Q (.int (-1)) H) : WE c A env (.UnaryOp .USub (.Constant (.int 1) k pos) pos') m H Q := fun g s R =>
  PyProof.Rows.UnaryOp_ (wpAny_Constant_int (PySem.P.neg_int (endV (s := s) R (VR.int _ _) h)))
inductive SliceZ (c : Cx) (A : Around) (env : Env) (lo hi st : Option Expr) (il ih is : Option Int) (m : Loc) (Q : V → Sto → Prop) (v : V) (H₁ : Sto) : Prop where
  | mk (a : Addr) (b : Bool) (ns : List Int) (e : v = .ref a) (ha : H₁ a = some (b, .list (zs ns))) (hn : ns.length ≤ 1000000) (p1 : PART c A env lo il m H₁) (p2 : PART c A env hi ih m H₁) (p3 : PART c A env st is m H₁)
      (q : ∀ D, H₁ D = none → Q (.ref D) (upd H₁ D (true, .list (zs (pickNums ns il ih is))))) : SliceZ c A env lo hi st il ih is m Q v H₁
theorem WE.sliceZ {value : Expr} {lo hi st : Option Expr} {p pos : Pos} (il ih is : Option Int) (h0 : is ≠ some 0)
    (h : WE c A env value m H (SliceZ c A env lo hi st il ih is m Q))
    (hs : ∀ o i, ∃ x y, subscripted (.Slice lo hi st p) false o i = operate [x, y] (getItem o i) := by intros; exact ⟨_, _, rfl⟩) :
    WE c A env (.Subscript value (.Slice lo hi st p) pos) m H Q := fun g s R =>
  PyProof.Rows.Subscript_ (stepV h R fun ov co h₁ tk₁ H₁ R₁ ho ⟨a, b, ns, e, ha, hlen, p1, p2, p3, q⟩ => by
    subst e; cases ho
    refine wpAny_Slice (p1.run (s := { s with heap := h₁, toks := tk₁ }) R₁ fun vl h₂ tk₂ pl R₂ => p2.run (s := { s with heap := h₂, toks := tk₂ }) R₂ fun vu h₃ tk₃ pu R₃ => p3.run (s := { s with heap := h₃, toks := tk₃ }) R₃ fun vs h₄ tk₄ ps R₄ => ?_)
    obtain ⟨x, y, e⟩ := hs (.ref a) (.ref h₄.objs.size)
    have R₅ : Rel c g env.locals m H₁ (h₄.push { cls := .type "slice", data := .fields #[vl, vu, vs] }) := R₄.ext fun _ _ e => Heap.get?_push_of_some _ e
    obtain ⟨its, hL, hv, hn⟩ := R₅.isList ha
    rw [List.length_map] at hn
    refine sub_tail hL.typeIs slot_list_getitem.lookup x y e ?_
    refine wpAny_getItem_list_slice hL (Heap.IsSliceOf.new ..) pl pu ps h0 ?_ (by have : sizeLine = 2 ^ 24 := rfl; lia)
    have hp : VRs (zs (pickNums ns il ih is)) (slicePick its il ih is).toList := VRs.ofInts (by have := hv.intsAre.pick il ih is; simpa using this)
    obtain ⟨R₆, hD⟩ := R₅.new (o := .list (zs (pickNums ns il ih is))) (fun _ _ e => Heap.get?_push_of_some _ e) (Heap.get?_none_of_le (Nat.le_refl _)) (Heap.get?_push_size _ rfl) ⟨_, _, rfl, hp⟩ (Nat.ne_of_gt R₅.room)
    exact ⟨_, tk₄, m, _, rfl, R₆, rfl, _, VR.ref _, q _ hD⟩)
end
end Mine
end
section
open PySem PySem.W
set_option maxRecDepth 100000
set_option maxHeartbeats 8000000
set_option linter.all false
namespace Mine
open PyProof.Rows (IntsAre pickNums)
noncomputable def expand (T : List (Int × Int)) : List Int := T.flatMap fun p => List.replicate p.2.toNat p.1
theorem dget_at {T : List (Int × Int)} (hn : (T.map (·.1)).Nodup) {i : Nat} {k u : Int} (h : T[i]? = some (k, u)) : dget T k = some u := by
  induction T generalizing i with
  | nil => simp at h
  | cons p T ih =>
    rw [List.map_cons, List.nodup_cons] at hn
    cases i with
    | zero => simp at h; subst h; simp [dget]
    | succ i =>
      simp at h
      have hk : k ∈ T.map (·.1) := List.mem_map.mpr ⟨_, List.mem_of_getElem? h, rfl⟩
      have : p.1 ≠ k := by rintro rfl; exact hn.1 hk
      simp only [dget, this, if_false]; exact ih hn.2 h
theorem expand_take {T : List (Int × Int)} {i : Nat} (h : i < T.length) : expand (T.take (i + 1)) = expand (T.take i) ++ List.replicate (T[i].2).toNat T[i].1 := by
  rw [List.take_succ_eq_append_getElem h]; unfold expand; rw [List.flatMap_append]; simp
theorem expand_len {T : List (Int × Int)} (h : ∀ p ∈ T, p.2 ≤ 100) : ∀ i, (expand (T.take i)).length ≤ i * 100
  | 0 => by simp [expand]
  | i + 1 => by
    have := expand_len h i
    rcases Nat.lt_or_ge i T.length with hi | hi
    · rw [expand_take hi, List.length_append, List.length_replicate]
      have h2 := h _ (List.getElem_mem hi)
      rw [Nat.add_mul]; lia
    · rw [List.take_of_length_le (Nat.le_succ_of_le hi), ← List.take_of_length_le hi]; lia
section
variable {c : Cx} {A : Around} {L : Addr} {m : Loc} {H : Sto} {env : Env} {Q : V → Sto → Prop}
theorem c_heap (hK : c.K = KF c.w.params) {a : Addr} {b : Bool} {T : List (Int × Int)} (hR : Room 4 A) (ha : H a = some (b, .dict (tab T))) (hn : (T.map (·.1)).Nodup) (hT : T.length ≤ 1000) (hb : ∀ p ∈ T, 0 ≤ p.2 ∧ p.2 ≤ 100)
    (h : ∀ D l, H D = none → l.Perm (expand T) → HeapFrom 0 l → Q (.ref D) (upd H D (true, .list (zs l)))) : CALL c A L (.ref 156) [.ref a] m H Q := by
  refine CALL.more (CALL.fnC (n := 3) (ko hK) (kc hK) ["table"] "table" [] (some (.ref a)) (fun cvs hv => ?_) hR (fun L' => rfl) (fun cvs hv L' => ?_) (fun cvs hv x v e => by simp at e) (fun cvs hv => ?_) (fun L' C hC => ?_))
  · obtain ⟨x, rfl, _⟩ := hv.inv1
    rfl
  · obtain ⟨x, rfl, _⟩ := hv.inv1
    simp only [List.zip_cons_cons, List.zip_nil_right, List.mem_singleton, forall_eq]
    exact .inr ⟨rfl, rfl⟩
  · obtain ⟨x, rfl, hx⟩ := hv.inv1
    exact ⟨x, rfl, hx⟩
  · have hA : ∀ env, (A.deeper env).handled = none := fun _ => hR.hd
    have haC : upd H C (true, .cell (some (.ref a))) a = some (b, .dict (tab T)) := upd_get hC ha
    have hCa : C ≠ a := (HSub.ne hC ha).symm
    refine WS.cons (W1.assign (WE.sliceZ none none (some (-1)) (by decide) (WE.comp (WE.cell rfl (upd_same ..) (WC.ro haC ?_)))))
    generalize hH1 : upd (upd H C (true, .cell (some (.ref a)))) a (false, .dict (tab T)) = H₁
    have c1 : H₁ C = some (true, .cell (some (.ref a))) := by rw [← hH1, upd_ne _ _ hCa, upd_same]
    have c2 : H₁ a = some (false, .dict (tab T)) := by rw [← hH1, upd_same]
    refine WC.two (H₀ := H₁) (fun i ys H' => ys = zs (expand (T.take i)) ∧ H₁ = H') (ITER.keys (hA _) c2) ⟨rfl, rfl⟩ ?_ ?_
    · rintro C' i v ys H' hi ⟨rfl, rfl⟩
      have hlt : i < T.length := by simpa using (List.getElem?_eq_some_iff.mp hi).1
      obtain rfl : v = .int (T[i].1) := by
        have : ((tab T).map fun p => V.int p.1)[i]? = some (.int (T[i].1)) := by simp [hlt]
        rw [this] at hi; exact (Option.some.inj hi).symm
      have hg : dget T T[i].1 = some T[i].2 := dget_at hn (i := i) (by simp [hlt])
      have hb2 := hb _ (List.getElem_mem hlt)
      refine WE.bcall1 (gn hK) PyProof.Rows.Boot.range (v := .ty "range") rfl trivial (WE.sub_dict (WE.cell rfl c1 (WE.loc rfl ⟨IsT.dict c2, op_itemD c2 hg (call_range1 fun R' hR' => ?_)⟩)))
      refine ⟨_, _, (ITER.rng (hA _) (upd_same ..) (by lia) (by lia) (by lia) (by lia)).less (HSub.new hR'), fun j ys H' => ys = zs (expand (T.take i) ++ List.replicate j T[i].1) ∧ H₁ = H', ⟨by simp, rfl⟩, ?_, ?_⟩
      · rintro j w ys H' hj ⟨rfl, rfl⟩
        have hjt : j < (T[i].2).toNat := by simpa [rangeItems] using (List.getElem?_eq_some_iff.mp hj).1
        have h1 := expand_len (fun p hp => (hb p hp).2) i
        refine ⟨?_, WE.loc rfl ⟨_, HSub.refl _, ?_, rfl⟩⟩
        · simp only [zs, List.length_map, List.length_append, List.length_replicate]; lia
        · rw [List.replicate_succ', ← List.append_assoc]; simp [zs]
      · rintro ys H' ⟨rfl, rfl⟩
        refine ⟨_, HSub.refl _, ?_, rfl⟩
        rw [expand_take hlt]
        have : (rangeItems 0 T[i].2).length = T[i].2.toNat := by simp [rangeItems]
        rw [this]
    · rintro ys H' ⟨rfl, rfl⟩ D hD
      have hlen : (List.map (fun p => V.int p.1) (tab T)).length = T.length := by simp
      rw [hlen, List.take_length]
      have hl : (expand T).length ≤ 100000 := by have := expand_len (fun p hp => (hb p hp).2) T.length; rw [List.take_length] at this; lia
      have hDa : D ≠ a := by rintro rfl; rw [c2] at hD; cases hD
      have hDC : D ≠ C := by rintro rfl; rw [c1] at hD; cases hD
      have hHD : H D = none := by rwa [← hH1, upd_ne _ _ hDa, upd_ne _ _ hDC] at hD
      have e1 : upd (upd H₁ D (true, .list (zs (expand T)))) a (b, .dict (tab T)) = upd (upd H C (true, .cell (some (.ref a)))) D (true, .list (zs (expand T))) := by
        rw [← hH1]; funext y; simp only [upd]; by_cases q1 : y = a <;> by_cases q2 : y = D <;> by_cases q3 : y = C <;> simp_all
      rw [e1]
      refine ⟨D, true, expand T, rfl, upd_same .., by lia, trivial, trivial, WE.neg1 ⟨rfl, rfl⟩, fun E hE => ?_⟩
      rw [pick_rev]
      have hED := (off hE).1
      replace hE := (off hE).2
      have hEC := (off hE).1
      replace hE := (off hE).2
      refine WS.cons (W1.expr (WE.gcall1 (gk hK) (kk hK) (WE.loc rfl (c_heapify hK (hR.deep _) (upd_same ..) (by simpa using (by lia : (expand T).length ≤ 1000000)) fun l' hp hh => ⟨rfl, ?_⟩))))
      rw [upd_upd]
      refine WS.cons (W1.ret (WE.loc rfl ⟨_, ?_, h E l' hE (hp.trans (List.reverse_perm _)) hh⟩))
      exact HSub.up ((HSub.new hC).trans (HSub.new (by rw [upd_ne _ _ hDC]; exact hHD)))
end
end Mine
end
section
open PySem PySem.W
set_option maxRecDepth 100000
set_option maxHeartbeats 8000000
set_option linter.all false
namespace Mine
open PyProof.Rows (IntsAre pickNums)
noncomputable def ins (x : Int) : List Int → List Int
  | [] => [x]
  | y :: l => if x ≤ y then x :: y :: l else y :: ins x l
noncomputable def isort (l : List Int) : List Int := l.foldr ins []
theorem ins_perm (x : Int) : ∀ l, (ins x l).Perm (x :: l)
  | [] => .refl _
  | y :: l => by
    unfold ins; split
    · exact .refl _
    · exact ((ins_perm x l).cons y).trans (.swap x y l)
theorem isort_perm : ∀ l, (isort l).Perm l
  | [] => .refl _
  | x :: l => (ins_perm x (isort l)).trans ((isort_perm l).cons x)
theorem ins_sorted (x : Int) : ∀ l, l.Pairwise (· ≤ ·) → (ins x l).Pairwise (· ≤ ·)
  | [], _ => by simp [ins]
  | y :: l, h => by
    rw [List.pairwise_cons] at h
    unfold ins; split
    · rename_i hxy
      refine List.pairwise_cons.mpr ⟨fun z hz => ?_, List.pairwise_cons.mpr h⟩
      rcases List.mem_cons.mp hz with rfl | hz
      · exact hxy
      · have := h.1 z hz; lia
    · rename_i hxy
      refine List.pairwise_cons.mpr ⟨fun z hz => ?_, ins_sorted x l h.2⟩
      rcases List.mem_cons.mp ((ins_perm x l).mem_iff.mp hz) with rfl | hz
      · lia
      · exact h.1 z hz
theorem isort_sorted : ∀ l, (isort l).Pairwise (· ≤ ·)
  | [] => List.Pairwise.nil
  | x :: l => ins_sorted x _ (isort_sorted l)
theorem isort_eq {l m : List Int} (hp : m.Perm l) (hs : m.Pairwise (· ≤ ·)) : m = isort l := ksm_same (hp.trans (isort_perm l).symm) hs (isort_sorted l)
theorem isort_congr {l m : List Int} (hp : m.Perm l) : isort m = isort l := isort_eq ((isort_perm m).trans hp) (isort_sorted m)
theorem call_isort {c : Cx} {A : Around} {L : Addr} {m : Loc} {H : Sto} {Q : V → Sto → Prop} {a : Addr} {b : Bool} {ns : List Int} (ha : H a = some (b, .list (zs ns))) (hn : ns.length < 64) (h : ∀ D, H D = none → Q (.ref D) (upd H D (true, .list (zs (isort ns))))) : CALL c A L (.bi "sorted") [.ref a] m H Q :=
  call_sorted ha hn fun ms D hp hs hD => by rw [isort_eq hp hs]; exact h D hD
theorem pop_sorted {S l l' : List Int} {v : Int} {i : Nat} (hS : S.Pairwise (· ≤ ·)) (hi : i < S.length) (hl : l.Perm (S.drop i)) (hv : l.Perm (v :: l')) (hm : ∀ y ∈ l, v ≤ y) : v = S[i] ∧ l'.Perm (S.drop (i + 1)) := by
  have hd : S.drop i = S[i] :: S.drop (i + 1) := List.drop_eq_getElem_cons hi
  have h1 : v ≤ S[i] := hm _ (hl.mem_iff.mpr (by rw [hd]; exact List.mem_cons_self))
  have h2 : v ∈ S.drop i := hl.mem_iff.mp (hv.mem_iff.mpr List.mem_cons_self)
  have h3 : S[i] ≤ v := by
    have hp : (S.drop i).Pairwise (· ≤ ·) := hS.sublist (List.drop_sublist _ _)
    rw [hd] at h2 hp
    rcases List.mem_cons.mp h2 with e | e
    · lia
    · exact (List.pairwise_cons.mp hp).1 v e
  have e : v = S[i] := Int.le_antisymm h1 h3
  refine ⟨e, ?_⟩
  have := (hv.symm.trans hl)
  rw [hd, ← e] at this
  exact List.Perm.cons_inv this
section
variable {c : Cx} {A : Around} {L : Addr} {m : Loc} {H : Sto} {env : Env} {Q : V → Sto → Prop}
theorem W1.assign_cell {x : Str} {p : Pos} {e : Expr} {pos : Pos} {C : Addr} {Q : SPost} (hc : env.cells.lookup x = some C) (h : WE c A env e m H (fun v H₁ => ∃ v₀, H₁ C = some (true, .cell v₀) ∧ Q .next m (upd H₁ C (true, .cell (some v))))) (hl : env.kindOf x = some .cell := by rfl) (hk : env.scope.kind = .function := by rfl)
    (hs : swapsWith e (some (.Name x p)) pos.line env = pure false := by rfl) : W1 c A env (.Assign [.Name x p] e pos) m H Q := fun g s R =>
  wpAny_Assign_Name (stepV h R fun v cv h₁ tk₁ H₁ R₁ hv ⟨v₀, hC, q⟩ => by
    obtain ⟨⟨ob, e1, hm, _⟩, _⟩ := R₁.ob _ _ _ hC
    obtain ⟨w₀, hcell⟩ : ∃ w₀, ({ s with heap := h₁, toks := tk₁ } : Shared).heap.IsCell C w₀ := by
      cases v₀ with
      | none => exact ⟨none, ob, e1, hm⟩
      | some v => obtain ⟨cv, e2, _⟩ := hm; exact ⟨some cv, ob, e1, e2⟩
    refine wpAny_storeName_cell hk hl hc hcell fun h' hc' hs' => ?_
    obtain ⟨ob', e2, e3⟩ := hc'
    exact endS (s := s) (R₁.turn (o := .cell (some v)) hC hs' e2 ⟨cv, e3, hv⟩ (fun _ e => by cases e)) (fl := .next) rfl q) hs
inductive FirstI (H₀ : Sto) (P : Addr) (S : List Int) (i : Nat) (ys : List V) (H' : Sto) : Prop where
  | mk (l' : List Int) (e : ys = zs (S.take i)) (e2 : H' = upd H₀ P (true, .list (zs l'))) (hp : l'.Perm (S.drop i)) (hh : HeapFrom 0 l') : FirstI H₀ P S i ys H'
theorem c_firsts (hK : c.K = KF c.w.params) {a : Addr} {b : Bool} {T : List (Int × Int)} {k : Nat} (hR : Room 5 A) (ha : H a = some (b, .dict (tab T))) (hn : (T.map (·.1)).Nodup) (hT : T.length ≤ 1000) (hb : ∀ p ∈ T, 0 ≤ p.2 ∧ p.2 ≤ 100) (hk : k ≤ (expand T).length)
    (h : ∀ D, H D = none → Q (.ref D) (upd H D (true, .list (zs ((isort (expand T)).take k))))) : CALL c A L (.ref 161) [.ref a, .int k] m H Q := by
  refine CALL.more (CALL.fnC (n := 4) (ko hK) (kc hK) ["table", "size"] "heap" [("table", .ref a), ("size", .int k)] none (fun cvs hv => ?_) hR (fun L' => rfl) (fun cvs hv L' => ?_) (fun cvs hv x v e => ?_) (fun cvs hv => ?_) (fun L' C hC => ?_))
  · obtain ⟨x, y, rfl, _⟩ := hv.inv2
    rfl
  · obtain ⟨x, y, rfl, _⟩ := hv.inv2
    simp only [List.zip_cons_cons, List.zip_nil_right, List.forall_mem_cons]
    exact ⟨.inl rfl, .inl rfl, fun _ h => by cases h⟩
  · obtain ⟨p, q, rfl, hp, hq⟩ := hv.inv2
    rw [List.lookup_cons] at e
    by_cases h1 : x = "table"
    · subst h1; simp at e; subst e; exact ⟨p, rfl, hp⟩
    · have : (x == ("table" : Str)) = false := by simpa using h1
      rw [this, List.lookup_cons] at e
      by_cases h2 : x = "size"
      · subst h2; simp at e; subst e; exact ⟨q, rfl, hq⟩
      · have : (x == ("size" : Str)) = false := by simpa using h2
        rw [this] at e; simp at e
  · obtain ⟨x, y, rfl, _⟩ := hv.inv2
    rfl
  · have hA : ∀ env, (A.deeper env).handled = none := fun _ => hR.hd
    have haC : upd H C (true, .cell none) a = some (b, .dict (tab T)) := upd_get hC ha
    refine WS.cons (W1.assign_cell rfl (WE.gcall1 (gk hK) (kk hK) (WE.loc rfl (c_heap hK (hR.deep _) haC hn hT hb fun P l hP hl hh => ?_))))
    have hPC := (off hP).1
    replace hP := (off hP).2
    refine ⟨none, by rw [upd_ne _ _ hPC.symm, upd_same], ?_⟩
    have e1 : upd (upd (upd H C (true, .cell none)) P (true, .list (zs l))) C (true, .cell (some (.ref P))) = upd (upd H C (true, .cell (some (.ref P)))) P (true, .list (zs l)) := by
      rw [upd_comm _ _ _ hPC.symm, upd_comm _ _ _ hPC.symm, upd_upd]
    rw [e1]
    refine WS.cons (W1.ret (WE.comp (WE.bcall1 (gn hK) PyProof.Rows.Boot.range (v := .ty "range") rfl trivial (WE.loc rfl (call_range1 fun R hRn => ?_)))))
    have hS := isort_sorted (expand T)
    have hSl : (isort (expand T)).length = (expand T).length := (isort_perm _).length_eq
    generalize hSe : isort (expand T) = S at h hS hSl ⊢
    have hexl : (expand T).length ≤ 100000 := by have := expand_len (fun p hp => (hb p hp).2) T.length; rw [List.take_length] at this; lia
    refine WC.one (H₀ := upd (upd H C (true, .cell (some (.ref P)))) P (true, .list (zs l))) (FirstI (upd H C (true, .cell (some (.ref P)))) P S)
      ((ITER.rng (hA _) (upd_same ..) (by lia) (by lia) (by lia) (by lia)).less (HSub.new hRn)) (by rw [rangeItems_len]; lia) ⟨l, by simp, rfl, by rw [List.drop_zero, ← hSe]; exact hl.trans (isort_perm _).symm, hh⟩ ?_ ?_
    · rintro C' i v ys H' hi hyl ⟨l', rfl, rfl, hp, hh'⟩
      have hik : i < k := by rw [← rangeItems_len k]; exact (List.getElem?_eq_some_iff.mp hi).1
      have hiS : i < S.length := by lia
      have hl' : l'.length = S.length - i := by rw [hp.length_eq, List.length_drop]
      refine WE.gcall1 (gk hK) (kk hK) (WE.cell rfl (by rw [upd_ne _ _ hPC.symm, upd_same]) (c_heappop hK ((hR.deep _).le (by lia)) (upd_same ..) (by lia) (by rintro rfl; simp at hl'; lia) hh' fun v' l'' q1 q2 q3 => ?_))
      rw [upd_upd]
      obtain ⟨rfl, q4⟩ := pop_sorted hS hiS hp q1 q2
      refine ⟨_, HSub.refl _, l'', ?_, rfl, q4, q3⟩
      rw [List.take_succ_eq_append_getElem hiS]; show _ = List.map V.int _; rw [List.map_append]; rfl
    · rintro ys H' hyl ⟨l', rfl, rfl, hp, hh'⟩ D hD
      rw [rangeItems_len]
      have hDP := (off hD).1
      replace hD := (off hD).2
      have hDC := (off hD).1
      replace hD := (off hD).2
      exact ⟨_, HSub.up ((HSub.new hC).trans (HSub.new (by rw [upd_ne _ _ hPC]; exact hP))), h D hD⟩
end
end Mine
end
section
open PySem PySem.W
set_option maxRecDepth 100000
set_option maxHeartbeats 8000000
set_option linter.all false
namespace Mine
noncomputable def allNN (T : List (Int × Int)) : Bool := T.all fun p => decide (0 ≤ p.2)
noncomputable def tot (T : List (Int × Int)) : Int := (T.map (·.2)).sum
noncomputable def triedGo (size : Nat) (first : Int) : List Int → List (Int × Int) → List Int → Option (List (Int × Int) × List Int)
  | [], left, ns => if decide (ns.length < size) && allNN left then none else some (left, ns)
  | t :: rest, left, ns => if decide (ns.length < size) && allNN left then
      (match dget left t with
        | none => none
        | some u => if 0 < u then triedGo size first rest (leftOf left ns (t - first)) (ns ++ [t - first]) else triedGo size first rest left ns)
    else some (left, ns)
noncomputable def triedEnd (r : List (Int × Int) × List Int) : List Int := if !allNN r.1 || tot r.1 != 0 then [] else isort r.2
noncomputable def tried (T : List (Int × Int)) (asc : List Int) (size : Nat) (least second third : Int) : Option (List Int) :=
  if (least + second - third).fmod 2 == 1 then some [] else
    (triedGo size ((least + second - third).fdiv 2) asc (leftOf (leftOf T [(least + second - third).fdiv 2] (least - (least + second - third).fdiv 2)) [(least + second - third).fdiv 2, least - (least + second - third).fdiv 2] (second - (least + second - third).fdiv 2))
      [(least + second - third).fdiv 2, least - (least + second - third).fdiv 2, second - (least + second - third).fdiv 2]).map triedEnd
theorem dset_ne {T : List (Int × Int)} (k v : Int) : dset T k v ≠ [] := by
  unfold dset; split
  · rename_i h; unfold dput; intro e; rw [List.map_eq_nil_iff] at e; subst e; simp at h
  · simp
theorem addc_ne {T : List (Int × Int)} (h : T ≠ []) : ∀ S, addc T S ≠ [] := by
  intro S
  induction S generalizing T with
  | nil => exact h
  | cons p S ih => exact ih (T := bumpD T p.1 p.2) (dset_ne _ _)
theorem leftOf_ok {T : List (Int × Int)} {ns : List Int} {f : Int} (h1 : (T.map (·.1)).Nodup) (h2 : T ≠ []) : ((leftOf T ns f).map (·.1)).Nodup ∧ leftOf T ns f ≠ [] ∧ (leftOf T ns f).length ≤ T.length + ns.length := by
  refine ⟨addc_nodup h1, addc_ne h2 _, ?_⟩
  have a := addc_length T (gonef ns f)
  have b := gonef_length ns f
  show (addc T (gonef ns f)).length ≤ _
  lia
section
variable {c : Cx} {A : Around} {L : Addr} {m : Loc} {H : Sto} {env : Env} {Q : V → Sto → Prop}
theorem ITER.tup {a : Addr} {l : List V} (hA : A.handled = none) (ha : H a = some (false, .tup l)) : ITER c A L (.ref a) m H l H := by
  intro g s cx E f hx R k
  cases hx
  obtain ⟨⟨ob, e1, ⟨vs, n, rfl, hv⟩, e3⟩, _⟩ := R.ob a _ _ ha
  have hl : s.heap.IsTuple a vs := ⟨_, e1, rfl, n, rfl⟩
  have W := Walks.tuple (prog := c.prog) (w := c.w) hA s.heap.objs.size a (old_ne e1) vs
  refine wpAny_pyIter_tuple hl (k s.heap.objs.size _ s.toks ⟨R.ext fun _ _ e => Heap.get?_push_of_some _ e, free_push R, _, _, _, _, by simp [hv.length], W, ⟨⟨_, Heap.get?_push_size _ rfl, rfl, rfl⟩, hl.push _⟩, ?_, ?_, ?_⟩)
  · intro b hb
    rcases List.mem_cons.mp hb with rfl | hb
    · exact .inl rfl
    · rw [List.mem_singleton.mp hb]; exact .inr ⟨_, e3 rfl⟩
  · intro i v _ hi
    exact hv.get (by simpa using hi)
  · rintro i h ⟨⟨o, ho, _⟩, _⟩
    exact ⟨o, ho⟩
theorem WE.minv (hK : c.K = KF c.w.params) {x : Str} {p p2 p3 p4 pos : Pos} {a : Addr} {b : Bool} {T : List (Int × Int)} (hA : A.handled = none) (hm : m.lookup x = some (.ref a)) (ha : H a = some (b, .dict (tab T))) (h0 : T ≠ [])
    (h : ∀ y H', HSub H H' → (decide (y ≥ 0) = allNN T) → (decide (y < 0) = !allNN T) → Q (.int y) H')
    (hg : env.globals = mainGlobals := by rfl) (hb : env.builtins = builtinsNs := by rfl)
    (hkf : env.scope.kind = .function := by rfl) (hx : env.kindOf "min" = some .globalImplicit := by rfl) (hl : env.kindOf x = some .local := by rfl) (hd : (x == ("__debug__" : Str)) = false := by decide)
    (he : starEach [(.Call (.Attribute (.Name x p) "values" p2) [] [] p3 : Expr)] env = (false, eval (.Call (.Attribute (.Name x p) "values" p2) [] [] p3) env) :: starEach [] env := by rfl)
    (hbase : attributeBase (.Name x p) "values" env (eval (.Name x p) env) = eval (.Name x p) env := by rfl)
    (hfew : ((backTo p3 (starEach [] env)).all (fun x => !x.1) && (backToKw p3 (keywordEach [] env)).all (fun x => x.1.isSome)
      && decide (([] : List Expr).length + ([] : List Keyword).length + (if ([] : List Keyword).isEmpty then 0 else 1) < 30)) = true := by rfl)
    (hline : (p2.endLine == p3.line) = true := by rfl) : WE c A env (.Call (.Name "min" p4) [.Call (.Attribute (.Name x p) "values" p2) [] [] p3] [] pos) m H Q := by
  refine WE.bcall1 (gn hK) PyProof.Rows.Boot.min (v := .bi "min") rfl trivial (WE.meth0 PySem.F.plainAttrs_dict PySem.F.slot_dict_values PySem.F.type_dict_values (WE.loc hm ⟨IsT.dict ha, call_values ha fun V hV => call_min_vals hA (upd_same ..) (upd_get hV ha) h0 fun y hy hmin => h y _ (HSub.new hV) ?_ ?_⟩ hkf hl hd) hbase hfew hline) (by decide) hg hb hkf hx (by decide) he
  · rw [Bool.eq_iff_iff, decide_eq_true_iff, allNN, List.all_eq_true]
    constructor
    · intro h1 q hq
      have := hmin q.2 (List.mem_map.mpr ⟨q, hq, rfl⟩)
      rw [decide_eq_true_iff]; lia
    · intro h1
      obtain ⟨q, hq, rfl⟩ := List.mem_map.mp hy
      have := h1 q hq
      rw [decide_eq_true_iff] at this; exact this
  · cases hn : allNN T with
    | true =>
      obtain ⟨q, hq, rfl⟩ := List.mem_map.mp hy
      have := List.all_eq_true.mp hn q hq
      rw [decide_eq_true_iff] at this
      rw [Bool.not_true, decide_eq_false_iff_not]; lia
    | false =>
      rw [Bool.not_false, decide_eq_true_iff]
      obtain ⟨q, hq, h2⟩ := List.all_eq_false.mp hn
      rw [decide_eq_true_iff] at h2
      have := hmin q.2 (List.mem_map.mpr ⟨q, hq, rfl⟩)
      lia
end
end Mine
end
section
open PySem PySem.W
set_option maxRecDepth 100000
set_option maxHeartbeats 8000000
set_option linter.all false
namespace Mine
theorem VRs.inv5 {a b d e f : V} {l : List Value} (h : VRs [a, b, d, e, f] l) : ∃ x y z u w, l = [x, y, z, u, w] ∧ VR a x ∧ VR b y ∧ VR d z ∧ VR e u ∧ VR f w := by
  cases h with
  | cons h1 h2 => cases h2 with
    | cons h3 h4 => obtain ⟨z, u, w, rfl, h5⟩ := h4.inv3; exact ⟨_, _, z, u, w, rfl, h1, h3, h5⟩
section
variable {c : Cx} {A : Around} {L : Addr} {m : Loc} {H : Sto} {env : Env} {Q : V → Sto → Prop}
theorem WT.cond {e : Expr} {Q : Bool → Sto → Prop} (x0 : Bool) (h : WT c A env e m H (fun x H' => x = x0 ∧ HSub H H')) (k : Q x0 H) : WT c A env e m H Q :=
  TR.conseq h fun b m' H' ⟨e, q1, q2⟩ => ⟨m', H, Sub.refl _, q2, e, q1 ▸ k⟩
theorem go_stop {size : Nat} {first : Int} {rest left ns res} (hc : (decide (ns.length < size) && allNN left) = false) (h : triedGo size first rest left ns = some res) : res = (left, ns) := by
  cases rest with
  | nil => unfold triedGo at h; rw [hc] at h; simpa using h.symm
  | cons t rest => unfold triedGo at h; rw [hc] at h; simpa using h.symm
@[reducible] noncomputable def tryM (a : Addr) (size : Nat) (least second first : Int) (N E : Addr) : Loc := [("table", .ref a), ("size", .int size), ("least", .int least), ("second", .int second), ("first", .int first), ("numbers", .ref N), ("left", .ref E)]
@[reducible] noncomputable def tryN (size : Nat) (first : Int) (N F Z : Addr) : Loc := [("size", .int size), ("first", .int first), ("numbers", .ref N), ("left", .ref F), ("heap", .ref Z)]
inductive TwoI (H : Sto) (a N : Addr) (T : List (Int × Int)) (size : Nat) (least second first : Int) : Nat → Loc → Sto → Prop where
  | zero : TwoI H a N T size least second first 0 (tryM a size least second first N a) (upd H N (true, .list (zs [first])))
  | one (E : Addr) (hE : H E = none) (hEN : E ≠ N) : TwoI H a N T size least second first 1 (tryM a size least second first N E) (upd (upd H N (true, .list (zs [first, least - first]))) E (true, .dict (tab (leftOf T [first] (least - first)))))
  | two (E : Addr) (hE : H E = none) (hEN : E ≠ N) : TwoI H a N T size least second first 2 (tryM a size least second first N E) (upd (upd H N (true, .list (zs [first, least - first, second - first]))) E (true, .dict (tab (leftOf (leftOf T [first] (least - first)) [first, least - first] (second - first)))))
inductive TryI (H : Sto) (N Z : Addr) (size : Nat) (first : Int) (res : List (Int × Int) × List Int) : Nat → Loc → Sto → Prop where
  | mk (left : List (Int × Int)) (ns rest l : List Int) (F : Addr) (hF : H F = none) (hFN : F ≠ N) (hFZ : F ≠ Z) (hgo : triedGo size first rest left ns = some res) (hl : l.Perm rest) (hh : HeapFrom 0 l) (hsort : rest.Pairwise (· ≤ ·)) (hrl : rest.length ≤ 10000)
      (hnd : (left.map (·.1)).Nodup) (hne : left ≠ []) (hll : left.length ≤ 100 + 10 * ns.length) (hn3 : 3 ≤ ns.length) (hns : ns.length ≤ size) :
      TryI H N Z size first res rest.length (tryN size first N F Z) (upd (upd (upd H N (true, .list (zs ns))) Z (true, .list (zs l))) F (true, .dict (tab left)))
theorem c_tried (hK : c.K = KF c.w.params) {a : Addr} {b : Bool} {T : List (Int × Int)} {size : Nat} {least second third : Int} {r : List Int} (hR : Room 5 A) (ha : H a = some (b, .dict (tab T))) (hn : (T.map (·.1)).Nodup) (hT0 : T ≠ []) (hT : T.length ≤ 100) (hb : ∀ p ∈ T, 0 ≤ p.2 ∧ p.2 ≤ 100)
    (hs3 : 3 ≤ size) (hs : size ≤ 10) (hr : tried T (isort (expand T)) size least second third = some r)
    (h : ∀ D, H D = none → Q (.ref D) (upd H D (true, .list (zs r)))) : CALL c A L (.ref 175) [.ref a, .int size, .int least, .int second, .int third] m H Q := by
  refine CALL.more (CALL.fn (n := 4) (ko hK) (kc hK) ["table", "size", "least", "second", "third"] (fun cvs hv => ?_) hR (fun L' => ?_))
  · obtain ⟨x, y, z, u, w, rfl, _⟩ := hv.inv5
    rfl
  · have hA : ∀ env, (A.deeper env).handled = none := fun _ => hR.hd
    unfold tried at hr
    refine WS.cons (W1.ite (WT.cmp (WE.binop (WE.binop (WE.binop (WE.loc rfl (WE.loc rfl (op_add (WE.loc rfl (op_sub (WE.int (op_fmod (by decide) (WE.int (op_eq (OPT.bool ?_)))))))))))))))
    cases hodd : ((least + second - third).fmod 2 == 1) with
    | true =>
      rw [hodd] at hr
      simp only [if_true, Option.some.injEq] at hr
      refine iteT ?_
      subst hr
      refine WS.cons (W1.ret (WE.list (WArgs.nil ⟨by simp, fun D hD => ⟨_, HSub.refl _, h D hD⟩⟩)))
    | false =>
      rw [hodd] at hr
      simp only [Bool.false_eq_true, if_false] at hr
      refine iteF ?_
      refine WS.nil ?_
      generalize hfe : (least + second - third).fdiv 2 = first at hr
      refine WS.cons (W1.assign (WE.binop (WE.binop (WE.binop (WE.loc rfl (WE.loc rfl (op_add (WE.loc rfl (op_sub (WE.int (op_fdiv (by decide) (by decide) ?_)))))))))))
      rw [hfe]
      refine WS.cons (W1.assign (WE.list (WArgs.cons (WE.loc rfl (WArgs.nil ⟨by simp, fun N hN => ?_⟩)))))
      refine WS.cons (W1.assign (WE.loc rfl ?_))
      refine WS.weaken (m' := (tryM a size least second first N a)) ?_ (.cons rfl (.cons rfl (.cons rfl (.cons rfl (.cons rfl (.cons rfl (.cons rfl .nil))))))) (HSub.refl _)
      have haN := HSub.ne hN ha
      refine WS.cons (W1.for (WE.tup (WArgs.cons (WE.loc rfl (WArgs.cons (WE.loc rfl (WArgs.nil ⟨by simp, fun P hP => ?_⟩)))))))
      have hPN := (off hP).1
      replace hP := (off hP).2
      have haP := HSub.ne hP ha
      obtain ⟨HP, hHP⟩ : ∃ HP, HP = upd H P (false, .tup [V.int least, V.int second]) := ⟨_, rfl⟩
      have haHP : HP a = some (b, .dict (tab T)) := by rw [hHP, upd_ne _ _ haP]; exact ha
      have hNP : HP N = none := by rw [hHP, upd_ne _ _ hPN.symm]; exact hN
      refine WF.ro (upd_same ..) (WF.loop (TwoI HP a N T size least second first)
        (ITER.tup (hA _) (upd_same ..)) (by
          have e : upd (upd (upd H N (true, .list [V.int first])) P (true, .tup [V.int least, V.int second])) P (false, .tup [V.int least, V.int second]) = upd HP N (true, .list (zs [first])) := by rw [hHP, upd_upd, upd_comm _ _ _ hPN]; rfl
          rw [e]
          exact .zero) ?_ ?_)
      · intro i v m' H' hi hI
        cases hI with
        | zero =>
          obtain rfl : v = .int least := by simpa using hi.symm
          obtain ⟨l1, l2, l3⟩ := leftOf_ok (ns := [first]) (f := least - first) hn hT0
          refine WS.cons (W1.assign (WE.gcall3 (gk hK) (kk hK) (WE.loc rfl (WE.loc rfl (WE.binop (WE.loc rfl (WE.loc rfl (op_sub (c_left hK (hR.deep _ |>.le (by lia)) (ns := [first]) (upd_get hNP haHP) (upd_same ..) hn (by lia) (by simp) fun E hE => ?_)))))))))
          have hEN := (off hE).1
          replace hE := (off hE).2
          refine WS.cons (W1.expr (WE.meth PySem.F.plainAttrs_list slot_list_append PySem.F.type_list_append (WE.loc rfl ⟨IsT.list (l := zs [first]) (b := true) (by rw [upd_ne _ _ hEN.symm, upd_same]), WArgs.cons (WE.binop (WE.loc rfl (WE.loc rfl (op_sub (WArgs.nil ?_))))) ⟩)))
          refine call_append (l := zs [first]) (by rw [upd_ne _ _ hEN.symm, upd_same]) (by simp) ⟨rfl, WS.nil ?_⟩
          refine ⟨(tryM a size least second first N E), _, .cons rfl (.cons rfl (.cons rfl (.cons rfl (.cons rfl (.cons rfl (.cons rfl .nil)))))), HSub.refl _, ?_⟩
          have e : upd (upd (upd HP N (true, .list (zs [first]))) E (true, .dict (tab (leftOf T [first] (least - first))))) N (true, .list (zs [first] ++ [V.int (least - first)])) = upd (upd HP N (true, .list (zs [first, least - first]))) E (true, .dict (tab (leftOf T [first] (least - first)))) := by rw [upd_comm _ _ _ hEN, upd_upd]; rfl
          exact e ▸ .one E hE hEN
        | one E hE hEN =>
          obtain rfl : v = .int second := by simpa using hi.symm
          obtain ⟨l1, l2, l3⟩ := leftOf_ok (ns := [first]) (f := least - first) hn hT0
          refine WS.cons (W1.assign (WE.gcall3 (gk hK) (kk hK) (WE.loc rfl (WE.loc rfl (WE.binop (WE.loc rfl (WE.loc rfl (op_sub (c_left hK (hR.deep _ |>.le (by lia)) (ns := [first, least - first]) (upd_same ..) (by rw [upd_ne _ _ hEN.symm, upd_same]) l1 (by simp at l3; lia) (by simp) fun F hF => ?_)))))))))
          have hFE := (off hF).1
          replace hF := (off hF).2
          have hFN := (off hF).1
          replace hF := (off hF).2
          refine WS.cons (W1.expr (WE.meth PySem.F.plainAttrs_list slot_list_append PySem.F.type_list_append (WE.loc rfl ⟨IsT.list (l := zs [first, least - first]) (b := true) (by rw [upd_ne _ _ hFN.symm, upd_ne _ _ hEN.symm, upd_same]), WArgs.cons (WE.binop (WE.loc rfl (WE.loc rfl (op_sub (WArgs.nil ?_))))) ⟩)))
          refine call_append (l := zs [first, least - first]) (by rw [upd_ne _ _ hFN.symm, upd_ne _ _ hEN.symm, upd_same]) (by simp) ⟨rfl, WS.nil ?_⟩
          refine ⟨(tryM a size least second first N F), upd (upd HP N (true, .list (zs [first, least - first, second - first]))) F (true, .dict (tab (leftOf (leftOf T [first] (least - first)) [first, least - first] (second - first)))), .cons rfl (.cons rfl (.cons rfl (.cons rfl (.cons rfl (.cons rfl (.cons rfl .nil)))))), ?_, .two F hF hFN⟩
          intro y z e
          simp only [upd] at e ⊢
          by_cases q1 : y = N <;> by_cases q2 : y = E <;> by_cases q3 : y = F <;> simp_all
        | two E hE hEN => simp at hi
      · intro m' H' hI
        cases hI with
        | two E hE hEN =>
          obtain ⟨l1, l2, l3⟩ := leftOf_ok (ns := [first]) (f := least - first) hn hT0
          obtain ⟨l4, l5, l6⟩ := leftOf_ok (ns := [first, least - first]) (f := second - first) l1 l2
          have hEP : E ≠ P := by rintro rfl; rw [hHP, upd_same] at hE; cases hE
          rw [hHP, upd_ne _ _ hEP] at hE
          have hlen : (leftOf (leftOf T [first] (least - first)) [first, least - first] (second - first)).length ≤ 103 := by simp at l3 l6; lia
          generalize leftOf (leftOf T [first] (least - first)) [first, least - first] (second - first) = left₀ at hr l4 l5 hlen
          refine WS.weaken (m' := [("table", .ref a), ("size", .int size), ("first", .int first), ("numbers", .ref N), ("left", .ref E)]) (H' := upd (upd H N (true, .list (zs [first, least - first, second - first]))) E (true, .dict (tab left₀))) ?_ (.cons rfl (.cons rfl (.cons rfl (.cons rfl (.cons rfl .nil))))) (fun y z e => by
            rw [hHP]; simp only [upd] at e ⊢
            by_cases q1 : y = N <;> by_cases q2 : y = E <;> by_cases q3 : y = P <;> simp_all)
          refine WS.cons (W1.assign (WE.gcall1 (gk hK) (kk hK) (WE.loc rfl (c_heap hK (hR.deep _) (upd_get (by rw [upd_ne _ _ hEN]; exact hE) (upd_get hN ha)) hn (by lia) hb fun Z l hZ hl hh => ?_))))
          have hZE := (off hZ).1
          replace hZ := (off hZ).2
          have hZN := (off hZ).1
          replace hZ := (off hZ).2
          obtain ⟨res, hgo, hres⟩ : ∃ res, triedGo size first (isort (expand T)) left₀ [first, least - first, second - first] = some res ∧ triedEnd res = r := by
            cases e : triedGo size first (isort (expand T)) left₀ [first, least - first, second - first] with
            | none => rw [e] at hr; cases hr
            | some res => rw [e] at hr; exact ⟨res, rfl, by simpa using hr⟩
          refine WS.weaken (m' := (tryN size first N E Z)) (H' := upd (upd (upd H N (true, .list (zs [first, least - first, second - first]))) Z (true, .list (zs l))) E (true, .dict (tab left₀))) ?_ (.cons rfl (.cons rfl (.cons rfl (.cons rfl (.cons rfl .nil))))) (by rw [upd_comm _ _ _ hZE]; exact HSub.refl _)
          have hlT : (expand T).length ≤ 10000 := by have := expand_len (fun p hp => (hb p hp).2) T.length; rw [List.take_length] at this; lia
          refine WS.cons (W1.while (TryI H N Z size first res) (expand T).length ?_ ?_)
          · rw [← (isort_perm (expand T)).length_eq]
            exact .mk left₀ _ _ l E hE hEN hZE.symm hgo (hl.trans (isort_perm _).symm) hh (isort_sorted _) (by rw [(isort_perm _).length_eq]; exact hlT) l4 l5 (by simp; lia) (by simp) (by simpa using hs3)
          · intro n m' H' hI
            cases hI with | mk left ns rest l F hF hFN hFZ hgo hl hh hsort hrl hnd hne hll hn3 hns => ?_
            have gN : upd (upd (upd H N (true, .list (zs ns))) Z (true, .list (zs l))) F (true, .dict (tab left)) N = some (true, .list (zs ns)) := by rw [upd_ne _ _ hFN.symm, upd_ne _ _ hZN.symm, upd_same]
            have gZ : upd (upd (upd H N (true, .list (zs ns))) Z (true, .list (zs l))) F (true, .dict (tab left)) Z = some (true, .list (zs l)) := by rw [upd_ne _ _ hFZ.symm, upd_same]
            have gF : upd (upd (upd H N (true, .list (zs ns))) Z (true, .list (zs l))) F (true, .dict (tab left)) F = some (true, .dict (tab left)) := upd_same ..
            refine WT.cond (decide (ns.length < size) && allNN left) (WT.and2 (WT.cmp (WE.bcall1 (gn hK) PyProof.Rows.Boot.len (v := .bi "len") rfl trivial (WE.loc rfl (lenZ gN (by lia) (WE.loc rfl (op_lt (OPT.bool ?_)))))))) ?_
            · by_cases hlt : ns.length < size
              · refine iteP (by simpa using hlt) ?_
                refine WT.cmp (WE.minv hK (hA _) rfl gF hne fun y H' hs' e1 e2 => WE.int (op_ge (OPT.bool ⟨?_, hs'⟩)))
                rw [e1]; simp [hlt]
              · refine iteN (by simpa using hlt) ?_
                exact ⟨by simp [hlt], HSub.refl _⟩
            cases hc : (decide (ns.length < size) && allNN left) with
            | true =>
              refine iteT ?_
              have hlt : ns.length < size := by
                rw [Bool.and_eq_true] at hc; simpa using hc.1
              cases rest with
              | nil => unfold triedGo at hgo; rw [hc] at hgo; simp at hgo
              | cons x rest =>
                unfold triedGo at hgo
                rw [hc] at hgo
                simp only [if_true] at hgo
                cases hg : dget left x with
                | none => rw [hg] at hgo; simp at hgo
                | some u =>
                  rw [hg] at hgo
                  dsimp only at hgo
                  have hl0 : l ≠ [] := by rintro rfl; have := hl.length_eq; simp at this
                  refine WS.cons (W1.assign (WE.gcall1 (gk hK) (kk hK) (WE.loc rfl (c_heappop hK ((hR.deep _).le (by lia)) gZ (by have := hl.length_eq; lia) hl0 hh fun v l' q1 q2 q3 => ?_))))
                  obtain ⟨hvx, q4⟩ := pop_sorted (i := 0) hsort (by simp) (by simpa using hl) q1 q2
                  obtain rfl : x = v := hvx.symm
                  simp only [Nat.zero_add, List.drop_succ_cons, List.drop_zero] at q4
                  have hsort' := (List.pairwise_cons.mp hsort).2
                  have eZ : upd (upd (upd (upd H N (true, .list (zs ns))) Z (true, .list (zs l))) F (true, .dict (tab left))) Z (true, .list (zs l')) = upd (upd (upd H N (true, .list (zs ns))) Z (true, .list (zs l'))) F (true, .dict (tab left)) := by
                    rw [upd_comm _ _ _ hFZ, upd_upd]
                  rw [eZ]
                  clear eZ gN gZ gF
                  have gN : upd (upd (upd H N (true, .list (zs ns))) Z (true, .list (zs l'))) F (true, .dict (tab left)) N = some (true, .list (zs ns)) := by rw [upd_ne _ _ hFN.symm, upd_ne _ _ hZN.symm, upd_same]
                  have gF : upd (upd (upd H N (true, .list (zs ns))) Z (true, .list (zs l'))) F (true, .dict (tab left)) F = some (true, .dict (tab left)) := upd_same ..
                  refine WS.cons (W1.ite (WT.cmp (WE.sub_dict (WE.loc rfl (WE.loc rfl ⟨IsT.dict gF, op_itemD gF hg (WE.int (op_gt (OPT.bool ?_)))⟩)))))
                  by_cases hu : 0 < u
                  · rw [show decide (u > 0) = true by simpa using hu]
                    rw [if_pos hu] at hgo
                    refine iteT ?_
                    obtain ⟨k1, k2, k3⟩ := leftOf_ok (ns := ns) (f := x - first) hnd hne
                    refine WS.cons (W1.assign (WE.gcall3 (gk hK) (kk hK) (WE.loc rfl (WE.loc rfl (WE.binop (WE.loc rfl (WE.loc rfl (op_sub (c_left hK (hR.deep _ |>.le (by lia)) (ns := ns) gF gN hnd (by lia) (by lia) fun G hG => ?_)))))))))
                    have hGF := (off hG).1
                    replace hG := (off hG).2
                    have hGZ := (off hG).1
                    replace hG := (off hG).2
                    have hGN := (off hG).1
                    replace hG := (off hG).2
                    refine WS.cons (W1.expr (WE.meth PySem.F.plainAttrs_list slot_list_append PySem.F.type_list_append (WE.loc rfl ⟨IsT.list (l := zs ns) (b := true) (by rw [upd_ne _ _ hGN.symm]; exact gN), WArgs.cons (WE.binop (WE.loc rfl (WE.loc rfl (op_sub (WArgs.nil ?_))))) ⟩)))
                    refine call_append (l := zs ns) (by rw [upd_ne _ _ hGN.symm]; exact gN) (by simp; lia) ⟨rfl, WS.nil (WS.nil ?_)⟩
                    refine ⟨rest.length, by simp, (tryN size first N G Z), upd (upd (upd H N (true, .list (zs (ns ++ [x - first])))) Z (true, .list (zs l'))) G (true, .dict (tab (leftOf left ns (x - first)))), .cons rfl (.cons rfl (.cons rfl (.cons rfl (.cons rfl .nil)))), ?_, .mk (leftOf left ns (x - first)) (ns ++ [x - first]) rest l' G hG hGN hGZ hgo q4 q3 hsort' (by simp at hrl; lia) k1 k2 (by simp only [List.length_append, List.length_cons, List.length_nil]; lia) (by simp only [List.length_append, List.length_cons, List.length_nil]; lia) (by simp only [List.length_append, List.length_cons, List.length_nil]; lia)⟩
                    intro y z e
                    by_cases q1 : y = N
                    · subst q1
                      rw [upd_same]
                      rw [upd_ne _ _ hGN.symm, upd_ne _ _ hZN.symm, upd_same] at e
                      rw [← e]; show some (true, O.list (List.map V.int ns ++ [V.int (x - first)])) = some (true, O.list (List.map V.int (ns ++ [x - first]))); rw [List.map_append]; rfl
                    · rw [upd_ne _ _ q1]
                      by_cases q2 : y = G
                      · subst q2; rw [upd_same] at e ⊢; exact e
                      · rw [upd_ne _ _ q2] at e ⊢
                        by_cases q3 : y = F
                        · subst q3; rw [upd_ne _ _ hFZ, upd_ne _ _ hFN, hF] at e; cases e
                        · rw [upd_ne _ _ q3]
                          by_cases q4 : y = Z
                          · subst q4; rw [upd_same] at e ⊢; exact e
                          · rw [upd_ne _ _ q4, upd_ne _ _ q1] at e ⊢; exact e
                  · rw [show decide (u > 0) = false by simpa using hu]
                    rw [if_neg hu] at hgo
                    refine iteF ?_
                    exact WS.nil (WS.nil ⟨rest.length, by simp, _, _, .cons rfl (.cons rfl (.cons rfl (.cons rfl (.cons rfl .nil)))), HSub.refl _, .mk left ns rest l' F hF hFN hFZ hgo q4 q3 hsort' (by simp at hrl; lia) hnd hne hll hn3 hns⟩)
            | false =>
              refine iteF ?_
              obtain rfl := go_stop hc hgo
              unfold triedEnd at hres
              refine WS.cons (W1.ite (WT.cond (!allNN left || tot left != 0) (WT.or2 (WT.cmp (WE.minv hK (hA _) rfl gF hne fun y H' hs' e1 e2 => WE.int (op_lt (OPT.bool ?_))))) ?_))
              · rw [e2]
                cases hnn : allNN left with
                | false => exact ⟨rfl, hs'⟩
                | true =>
                  refine iteF ?_
                  refine WT.cmp (WE.gcall1 (gk hK) (kk hK) (WE.loc rfl (c_count hK ((hR.deep _).le (by lia)) (hs' _ _ gF) (WE.int (op_ne (OPT.bool ⟨?_, hs'⟩))))))
                  rfl
              cases hfin : (!allNN left || tot left != 0) with
              | true =>
                rw [hfin] at hres
                simp only [if_true] at hres
                refine iteT ?_
                subst hres
                refine WS.cons (W1.ret (WE.list (WArgs.nil ⟨by simp, fun D hD => ?_⟩)))
                have d1 : D ≠ F := by rintro rfl; rw [gF] at hD; cases hD
                rw [upd_ne _ _ d1] at hD
                have d2 := (off hD).1
                replace hD := (off hD).2
                have d3 := (off hD).1
                replace hD := (off hD).2
                exact ⟨_, HSub.up ((HSub.new hN).trans ((HSub.new (by rw [upd_ne _ _ hZN]; exact hZ)).trans (HSub.new (by rw [upd_ne _ _ hFZ, upd_ne _ _ hFN]; exact hF)))), h D hD⟩
              | false =>
                rw [hfin] at hres
                simp only [Bool.false_eq_true, if_false] at hres
                refine iteF ?_
                refine WS.nil (WS.cons (W1.ret (WE.bcall1 (gn hK) PyProof.Rows.Boot.sorted (v := .bi "sorted") rfl trivial (WE.loc rfl (call_isort (ns := ns) gN (by lia) fun D hD => ?_)))))
                have d1 : D ≠ F := by rintro rfl; rw [gF] at hD; cases hD
                rw [upd_ne _ _ d1] at hD
                have d2 := (off hD).1
                replace hD := (off hD).2
                have d3 := (off hD).1
                replace hD := (off hD).2
                rw [hres]
                exact ⟨_, HSub.up ((HSub.new hN).trans ((HSub.new (by rw [upd_ne _ _ hZN]; exact hZ)).trans (HSub.new (by rw [upd_ne _ _ hFZ, upd_ne _ _ hFN]; exact hF)))), h D hD⟩
end
end Mine
end
section
open PySem PySem.W
set_option maxRecDepth 100000
set_option maxHeartbeats 8000000
set_option linter.all false
namespace Mine
open PyProof.Rows (IntsAre pickNums)
noncomputable def foundGo (T : List (Int × Int)) (asc : List Int) (size : Nat) (f0 f1 : Int) : List Int → List (List Int) → Option (List (List Int))
  | [], acc => some acc
  | t :: r, acc => match tried T asc size f0 f1 t with
    | none => none
    | some ns => if ns != [] && !acc.contains ns then foundGo T asc size f0 f1 r (acc ++ [ns]) else foundGo T asc size f0 f1 r acc
noncomputable def sortLL : List (List Int) → Option (List (List Int))
  | [a] => some [a]
  | [a, b] => some (sort2 a b)
  | _ => none
noncomputable def found (T : List (Int × Int)) (asc : List Int) (size : Nat) : Option (List (List Int)) :=
  (foundGo T asc size (asc.getD 0 0) (asc.getD 1 0) ((asc.take size).drop 2) []).bind sortLL
section
variable {c : Cx} {A : Around} {L : Addr} {m : Loc} {H : Sto} {env : Env} {Q : V → Sto → Prop}
theorem sorted_LL {v : V} {acc rr : List (List Int)} (hR : Room 0 A) (hv : LL H v acc) (hs : sortLL acc = some rr) (h : ∀ w H', HSub H H' → LL H' w rr → Q w H') : CALL c A L (.bi "sorted") [v] m H Q := by
  match acc, hs with
  | [x], hs =>
    cases hs
    exact call_sorted1 hv fun D w hw hD => h _ _ (HSub.new hD) ⟨D, true, [w], rfl, upd_same .., hw.sub (HSub.new hD), trivial⟩
  | [x, y], hs =>
    cases hs
    exact call_sorted2 hR hv fun D l hl hD => h _ _ (HSub.new hD) ⟨D, true, l, rfl, upd_same .., hl.imp fun _ _ q => q.sub (HSub.new hD)⟩
  | [], hs => cases hs
  | _ :: _ :: _ :: _, hs => cases hs
inductive FoundI (H₁ : Sto) (G : Addr) (M : Loc) (T : List (Int × Int)) (S : List Int) (size : Nat) (raw : List (List Int)) (i : Nat) (m' : Loc) (H' : Sto) : Prop where
  | mk (acc : List (List Int)) (l : List V) (e : m' = M) (hsub : HSub H₁ H') (hGl : H' G = some (true, .list l)) (hll : LLs H' l acc) (hne : ∀ v ∈ l, v ≠ .ref G) (hli : l.length ≤ i) (hgo : foundGo T S size (S.getD 0 0) (S.getD 1 0) (((S.take size).drop 2).drop i) acc = some raw) :
      FoundI H₁ G M T S size raw i m' H'
theorem c_found (hK : c.K = KF c.w.params) {a : Addr} {b : Bool} {T : List (Int × Int)} {size : Nat} {rr : List (List Int)} (hR : Room 7 A) (ha : H a = some (b, .dict (tab T))) (hn : (T.map (·.1)).Nodup) (hT0 : T ≠ []) (hT : T.length ≤ 100) (hb : ∀ p ∈ T, 0 ≤ p.2 ∧ p.2 ≤ 100)
    (hs3 : 3 ≤ size) (hs : size ≤ 10) (hsz : size ≤ (expand T).length) (hr : found T (isort (expand T)) size = some rr)
    (h : ∀ w H', HSub H H' → LL H' w rr → Q w H') : CALL c A L (.ref 182) [.ref a, .int size] m H Q := by
  refine CALL.more (CALL.fn (n := 6) (ko hK) (kc hK) ["table", "size"] (fun cvs hv => ?_) hR (fun L' => ?_))
  · obtain ⟨x, y, rfl, _⟩ := hv.inv2
    rfl
  · have hA : ∀ env, (A.deeper env).handled = none := fun _ => hR.hd
    refine WS.cons (W1.assign (WE.gcall2 (gk hK) (kk hK) (WE.loc rfl (WE.loc rfl (c_firsts hK ((hR.deep _).le (by lia)) ha hn (by lia) hb hsz fun F hF => ?_)))))
    refine WS.cons (W1.assign (WE.list (WArgs.nil ⟨by simp, fun G hG => ?_⟩)))
    have hGF := (off hG).1
    replace hG := (off hG).2
    obtain ⟨raw, hraw, hsort⟩ : ∃ raw, foundGo T (isort (expand T)) size ((isort (expand T)).getD 0 0) ((isort (expand T)).getD 1 0) (((isort (expand T)).take size).drop 2) [] = some raw ∧ sortLL raw = some rr := by
      unfold found at hr
      cases e : foundGo T (isort (expand T)) size ((isort (expand T)).getD 0 0) ((isort (expand T)).getD 1 0) (((isort (expand T)).take size).drop 2) [] with
      | none => rw [e] at hr; cases hr
      | some raw => rw [e] at hr; exact ⟨raw, rfl, hr⟩
    have htr : ∀ x y z rr, tried T (isort (expand T)) size x y z = some rr → True := fun _ _ _ _ _ => trivial
    have hlenS : (isort (expand T)).length = (expand T).length := (isort_perm _).length_eq
    generalize hSe : isort (expand T) = S at hraw hlenS hF ⊢
    have hfl : (S.take size).length = size := by rw [List.length_take]; lia
    have gF : upd (upd H F (true, .list (zs (S.take size)))) G (true, .list []) F = some (true, .list (zs (S.take size))) := by rw [upd_ne _ _ hGF.symm, upd_same]
    refine WS.weaken (m' := [("table", .ref a), ("size", .int size), ("firsts", .ref F), ("found", .ref G)]) ?_ (.cons rfl (.cons rfl (.cons rfl (.cons rfl .nil)))) (HSub.refl _)
    refine WS.cons (W1.for (WE.sliceZ (some 2) none none (by decide) (WE.loc rfl ⟨F, true, S.take size, rfl, gF, by lia, WE.int ⟨rfl, rfl⟩, trivial, trivial, fun Z hZ => ?_⟩)))
    rw [show pickNums (S.take size) (some 2) none none = (S.take size).drop 2 from pick_from _ 2]
    have hZG := (off hZ).1
    replace hZ := (off hZ).2
    have hZF := (off hZ).1
    replace hZ := (off hZ).2
    obtain ⟨H₁, hH₁⟩ : ∃ H₁, H₁ = upd (upd H F (true, .list (zs (S.take size)))) Z (false, .list (zs ((S.take size).drop 2))) := ⟨_, rfl⟩
    have f1 : H₁ F = some (true, .list (zs (S.take size))) := by rw [hH₁, upd_ne _ _ hZF.symm, upd_same]
    have f2 : H₁ Z = some (false, .list (zs ((S.take size).drop 2))) := by rw [hH₁, upd_same]
    have f3 : HSub H H₁ := by rw [hH₁]; exact (HSub.new hF).trans (HSub.new (by rw [upd_ne _ _ hZF]; exact hZ))
    have f4 : H₁ G = none := by rw [hH₁, upd_ne _ _ hZG.symm, upd_ne _ _ hGF]; exact hG
    have e1 : upd (upd (upd (upd H F (true, .list (zs (S.take size)))) G (true, .list [])) Z (true, .list (zs ((S.take size).drop 2)))) Z (false, .list (zs ((S.take size).drop 2))) = upd H₁ G (true, .list []) := by
      rw [upd_upd, upd_comm _ _ _ hZG.symm, hH₁]
    refine WF.ro (upd_same ..) ?_
    rw [e1]
    refine WF.loop (FoundI H₁ G [("table", .ref a), ("size", .int size), ("firsts", .ref F), ("found", .ref G)] T S size raw)
      (ITER.list (hA _) (l := zs ((S.take size).drop 2)) (by rw [upd_ne _ _ hZG]; exact f2)) ?_ ?_ ?_
    · exact ⟨[], [], rfl, HSub.new f4, upd_same .., trivial, (fun v hv => by cases hv), Nat.le_refl _, by simpa using hraw⟩
    · rintro i v m' H' hi ⟨acc, l, rfl, hsub, hGl, hll, hne, hli, hgo⟩
      have hlt : i < ((S.take size).drop 2).length := by simpa using (List.getElem?_eq_some_iff.mp hi).1
      have hlt10 : i < 10 := by rw [List.length_drop] at hlt; lia
      obtain rfl : v = .int (((S.take size).drop 2)[i]) := by
        rw [zs_get hlt, getD_at hlt] at hi; exact (Option.some.inj hi).symm
      have hd : ((S.take size).drop 2).drop i = ((S.take size).drop 2)[i] :: ((S.take size).drop 2).drop (i + 1) := List.drop_eq_getElem_cons hlt
      rw [hd] at hgo
      generalize ((S.take size).drop 2)[i] = third at hgo hi ⊢
      unfold foundGo at hgo
      cases htri : tried T S size (S.getD 0 0) (S.getD 1 0) third with
      | none => rw [htri] at hgo; simp at hgo
      | some ns =>
        rw [htri] at hgo
        dsimp only at hgo
        have gF' : H' F = some (true, .list (zs (S.take size))) := hsub _ _ f1
        have ga' : H' a = some (b, .dict (tab T)) := hsub _ _ (f3 _ _ ha)
        have t0 : (S.take size).getD 0 0 = S.getD 0 0 := by rw [List.getD_eq_getElem?_getD, List.getD_eq_getElem?_getD, List.getElem?_take_of_lt (by lia)]
        have t1 : (S.take size).getD 1 0 = S.getD 1 0 := by rw [List.getD_eq_getElem?_getD, List.getD_eq_getElem?_getD, List.getElem?_take_of_lt (by lia)]
        refine WS.cons (W1.assign (WE.call (WE.glob (f := 175) (gk hK) ⟨(kk hK : keepIn c.K (.ref 175) = true), WArgs.cons (WE.loc rfl (WArgs.cons (WE.loc rfl (WArgs.cons ?_))))⟩)))
        refine WE.sub_list (WE.loc rfl (WE.int ⟨IsT.list gF', getZ (k := 0) gF' (by lia) (by lia) (WArgs.cons ?_)⟩))
        refine WE.sub_list (WE.loc rfl (WE.int ⟨IsT.list gF', getZ (k := 1) gF' (by lia) (by lia) (WArgs.cons (WE.loc rfl (WArgs.nil ?_)))⟩))
        rw [t0, t1]
        refine c_tried hK ((hR.deep _).le (by lia)) ga' hn hT0 hT hb hs3 hs (by rw [hSe]; exact htri) fun D hD => ?_
        have hDG : D ≠ G := by rintro rfl; rw [hGl] at hD; cases hD
        have gD : upd H' D (true, .list (zs ns)) D = some (true, .list (zs ns)) := upd_same ..
        have gG : upd H' D (true, .list (zs ns)) G = some (true, .list l) := upd_get hD hGl
        have hll' : LLs (upd H' D (true, .list (zs ns))) l acc := hll.imp fun _ _ q => q.sub (HSub.new hD)
        refine WS.cons (W1.ite (WT.cond (ns != [] && !acc.contains ns) (WT.and2 (WT.cmp (WE.loc rfl (WE.list (WArgs.nil ⟨by simp, fun E hE => ne_ints (ms := []) ((hR.deep _).le (by lia)) ⟨D, true, rfl, upd_get hE gD⟩ ⟨E, true, rfl, upd_same ..⟩ (OPT.bool ?_)⟩))))) ?_))
        · cases hns : ns != [] with
          | false =>
            refine iteF ?_
            exact ⟨rfl, HSub.new hE⟩
          | true =>
            refine iteT ?_
            exact WT.cmp (WE.loc rfl (WE.loc rfl (notin_lists ((hR.deep _).le (by lia)) (ns := ns) (nss := acc) ⟨D, true, rfl, upd_get hE gD⟩ ⟨G, true, l, rfl, upd_get hE gG, hll'.imp fun _ _ q => q.sub (HSub.new hE)⟩ (OPT.bool ⟨rfl, HSub.new hE⟩))))
        · cases hcnd : (ns != [] && !acc.contains ns) with
          | false =>
            rw [hcnd] at hgo
            simp only [Bool.false_eq_true, if_false] at hgo
            refine iteF ?_
            exact WS.nil (WS.nil ⟨_, _, .cons rfl (.cons rfl (.cons rfl (.cons rfl .nil))), HSub.refl _, acc, l, rfl, hsub.trans (HSub.new hD), gG, hll', hne, by lia, hgo⟩)
          | true =>
            rw [hcnd] at hgo
            simp only [if_true] at hgo
            refine iteT ?_
            refine WS.cons (W1.expr (WE.meth PySem.F.plainAttrs_list slot_list_append PySem.F.type_list_append (WE.loc rfl ⟨IsT.list gG, WArgs.cons (WE.loc rfl (WArgs.nil (call_append gG (by lia) ⟨rfl, WS.nil (WS.nil ?_)⟩))) ⟩)))
            refine ⟨_, _, .cons rfl (.cons rfl (.cons rfl (.cons rfl .nil))), HSub.refl _, acc ++ [ns], l ++ [.ref D], rfl, ?_, upd_same .., ?_, ?_, by simp; lia, hgo⟩
            · intro y z e
              rw [upd_ne _ _ (by rintro rfl; rw [f4] at e; cases e)]
              exact HSub.new hD _ _ (hsub _ _ e)
            · refine LLs.snoc ?_ ⟨D, true, rfl, by rw [upd_ne _ _ hDG]; exact gD⟩
              clear hgo hcnd hli
              have key : ∀ (l₀ : List V) (acc₀ : List (List Int)), (∀ v ∈ l₀, v ≠ .ref G) → LLs (upd H' D (true, .list (zs ns))) l₀ acc₀ → LLs (upd (upd H' D (true, .list (zs ns))) G (true, .list (l ++ [.ref D]))) l₀ acc₀ := by
                intro l₀
                induction l₀ with
                | nil => intro acc₀ _ q; cases acc₀ with | nil => trivial | cons _ _ => exact q.elim
                | cons v l₀ ih =>
                  intro acc₀ q1 q2
                  cases acc₀ with
                  | nil => exact q2.elim
                  | cons n₀ acc₀ =>
                    obtain ⟨⟨a₀, b₀, rfl, q3⟩, q4⟩ := q2
                    refine ⟨⟨a₀, b₀, rfl, ?_⟩, ih _ (fun v hv => q1 v (List.mem_cons_of_mem _ hv)) q4⟩
                    rw [upd_ne _ _ (by rintro rfl; exact q1 _ List.mem_cons_self rfl)]; exact q3
              exact key l acc hne hll'
            · intro v hv
              rcases List.mem_append.mp hv with hv | hv
              · exact hne v hv
              · rw [List.mem_singleton.mp hv]; intro e; cases e; exact hDG rfl
    · rintro m' H' ⟨acc, l, rfl, hsub, hGl, hll, hne, hli, hgo⟩
      rw [show ((S.take size).drop 2).drop (zs ((S.take size).drop 2)).length = [] by rw [List.length_map]; exact List.drop_length] at hgo
      unfold foundGo at hgo
      obtain rfl : acc = raw := by simpa using hgo
      have hZs : HSub H' (upd H' Z (true, .list (zs ((S.take size).drop 2)))) ∨ True := .inr trivial
      have hLL : LL (upd H' Z (true, .list (zs ((S.take size).drop 2)))) (.ref G) acc := by
        refine ⟨G, true, l, rfl, by rw [upd_ne _ _ hZG.symm]; exact hGl, hll.imp fun v ns ⟨a₀, b₀, e, q⟩ => ?_⟩
        by_cases haz : a₀ = Z
        · subst haz
          have := hsub _ _ f2
          rw [this] at q
          refine ⟨a₀, true, e, ?_⟩
          rw [upd_same]
          simp only [Option.some.injEq, Prod.mk.injEq] at q ⊢
          exact ⟨trivial, q.2⟩
        · exact ⟨a₀, b₀, e, by rw [upd_ne _ _ haz]; exact q⟩
      refine WS.cons (W1.ret (WE.bcall1 (gn hK) PyProof.Rows.Boot.sorted (v := .bi "sorted") rfl trivial (WE.loc rfl (sorted_LL ((hR.deep _).le (by lia)) hLL hsort fun w H'' hs' hw => ⟨H'', HSub.refl _, h w H'' ?_ hw⟩))))
      intro y z e
      have hyZ : y ≠ Z := by rintro rfl; rw [hZ] at e; cases e
      exact hs' _ _ (by rw [upd_ne _ _ hyZ]; exact hsub _ _ (f3 _ _ e))
end
end Mine
end
section
open PySem PySem.W
set_option maxRecDepth 100000
set_option maxHeartbeats 8000000
set_option linter.all false
namespace Mine
open PyProof.Rows (IntsAre pickNums)
noncomputable def isMirror (row : List Int) : Bool := decide (row.length = 4) && (row.sum.fmod 2 == 0)
noncomputable def mirror (row : List Int) : List Int := isort (row.map fun x => row.sum.fdiv 2 - x)
noncomputable def due (row : List Int) : List (List Int) := if isMirror row && !([isort row].contains (mirror row)) then sort2 (isort row) (mirror row) else [isort row]
noncomputable def absI (x : Int) : Int := if x < 0 then -x else x
section
variable {c : Cx} {A : Around} {L : Addr} {m : Loc} {H : Sto} {env : Env} {Q : V → Sto → Prop}
theorem c_due (hK : c.K = KF c.w.params) {a : Addr} {b : Bool} {row : List Int} (hR : Room 3 A) (ha : H a = some (b, .list (zs row))) (hl : row.length ≤ 30) (hb : ∀ x ∈ row, 0 ≤ x ∧ x ≤ 1000)
    (h : ∀ w H', HSub H H' → LL H' w (due row) → Q w H') : CALL c A L (.ref 187) [.ref a] m H Q := by
  refine CALL.more (CALL.fnC (n := 2) (ko hK) (kc hK) ["row"] "row" [] (some (.ref a)) (fun cvs hv => ?_) hR (fun L' => rfl) (fun cvs hv L' => ?_) (fun cvs hv x v e => by simp at e) (fun cvs hv => ?_) (fun L' C hC => ?_))
  · obtain ⟨x, rfl, _⟩ := hv.inv1
    rfl
  · obtain ⟨x, rfl, _⟩ := hv.inv1
    simp only [List.zip_cons_cons, List.zip_nil_right, List.mem_singleton, forall_eq]
    exact .inr ⟨rfl, rfl⟩
  · obtain ⟨x, rfl, hx⟩ := hv.inv1
    exact ⟨x, rfl, hx⟩
  · have hA : ∀ env, (A.deeper env).handled = none := fun _ => hR.hd
    have haC : upd H C (true, .cell (some (.ref a))) a = some (b, .list (zs row)) := upd_get hC ha
    have hbs : ∀ x ∈ row, 0 ≤ x ∧ x ≤ 1000000000 := fun x hx => ⟨(hb x hx).1, by have := (hb x hx).2; lia⟩
    refine WS.cons (W1.assign (WE.list (WArgs.cons (WE.bcall1 (gn hK) PyProof.Rows.Boot.sorted (v := .bi "sorted") rfl trivial (WE.cell rfl (upd_same ..) (call_isort (ns := row) haC (by lia) fun D hD => WArgs.nil ⟨by simp, fun E hE => ?_⟩))))))
    have hED := (off hE).1
    have hHE : H E = none := by
      rw [upd_ne _ _ hED] at hE
      rwa [upd_ne _ _ (by rintro rfl; rw [upd_same] at hE; cases hE)] at hE
    have gE : upd (upd (upd H C (true, .cell (some (.ref a)))) D (true, .list (zs (isort row)))) E (true, .list [.ref D]) E = some (true, .list [.ref D]) := upd_same ..
    have gD : upd (upd (upd H C (true, .cell (some (.ref a)))) D (true, .list (zs (isort row)))) E (true, .list [.ref D]) D = some (true, .list (zs (isort row))) := by rw [upd_ne _ _ hED.symm, upd_same]
    have ga : upd (upd (upd H C (true, .cell (some (.ref a)))) D (true, .list (zs (isort row)))) E (true, .list [.ref D]) a = some (b, .list (zs row)) := upd_get hE (upd_get hD haC)
    have gC : upd (upd (upd H C (true, .cell (some (.ref a)))) D (true, .list (zs (isort row)))) E (true, .list [.ref D]) C = some (true, .cell (some (.ref a))) := upd_get hE (upd_get hD (upd_same ..))
    have hsub : HSub H (upd (upd (upd H C (true, .cell (some (.ref a)))) D (true, .list (zs (isort row)))) E (true, .list [.ref D])) := (HSub.new hC).trans ((HSub.new hD).trans (HSub.new hE))
    generalize upd (upd (upd H C (true, .cell (some (.ref a)))) D (true, .list (zs (isort row)))) E (true, .list [.ref D]) = H₁ at gE gD ga gC hsub ⊢
    have hLL : LL H₁ (.ref E) [isort row] := ⟨E, true, _, rfl, gE, ⟨D, true, rfl, gD⟩, trivial⟩
    refine WS.weaken (m' := [("due", .ref E)]) ?_ (.cons rfl .nil) (HSub.refl _)
    refine WS.cons (W1.ite (WT.cond (isMirror row) (WT.and2 (WT.cmp (WE.bcall1 (gn hK) PyProof.Rows.Boot.len (v := .bi "len") rfl trivial (WE.cell rfl gC (lenZ ga (by lia) (WE.int (op_eq (OPT.bool ?_)))))))) ?_))
    · have e4 : ((row.length : Int) == 4) = decide (row.length = 4) := by rw [Bool.eq_iff_iff, beq_iff_eq, decide_eq_true_iff]; lia
      rw [e4]
      cases h4 : decide (row.length = 4) with
      | false => exact ⟨by rw [isMirror, h4]; rfl, HSub.refl _⟩
      | true =>
        refine iteT ?_
        exact WT.cmp (WE.binop (WE.bcall1 (gn hK) PyProof.Rows.Boot.sum (v := .bi "sum") rfl trivial (WE.cell rfl gC (call_sum (hA _) ga (by lia) hbs (WE.int (op_fmod (by decide) (WE.int (op_eq (OPT.bool ⟨by rw [isMirror, h4]; rfl, HSub.refl _⟩)))))))))
    cases hm : isMirror row with
    | false =>
      refine iteF ?_
      refine WS.nil (WS.cons (W1.ret (WE.bcall1 (gn hK) PyProof.Rows.Boot.sorted (v := .bi "sorted") rfl trivial (WE.loc rfl (sorted_LL ((hR.deep _).le (by lia)) hLL rfl fun w H' hs hw => ⟨H', HSub.refl _, h w H' (hsub.trans hs) ?_⟩)))))
      rw [due, hm]; exact hw
    | true =>
      refine iteT ?_
      refine WS.cons (W1.assign (WE.bcall1 (gn hK) PyProof.Rows.Boot.sorted (v := .bi "sorted") rfl trivial (WE.comp (WE.cell rfl gC (WC.ro ga ?_)))))
      have hCa : C ≠ a := by rintro rfl; rw [ga] at gC; cases gC
      refine WC.one (fun i ys H' => ys = zs ((row.take i).map fun x => row.sum.fdiv 2 - x) ∧ upd H₁ a (false, .list (zs row)) = H') (ITER.list (hA _) (l := zs row) (upd_same ..)) (by simpa using (by lia : row.length ≤ 1000000)) ⟨rfl, rfl⟩ ?_ ?_
      · rintro C' i v ys H' hi hyl ⟨rfl, rfl⟩
        have hlt : i < row.length := by simpa using (List.getElem?_eq_some_iff.mp hi).1
        obtain rfl : v = .int (row[i]) := by rw [zs_get hlt, getD_at hlt] at hi; exact (Option.some.inj hi).symm
        refine WE.binop (WE.binop (WE.bcall1 (gn hK) PyProof.Rows.Boot.sum (v := .bi "sum") rfl trivial (WE.cell rfl (by rw [upd_ne _ _ hCa]; exact gC) (call_sum (hA _) (upd_same ..) (by lia) hbs (WE.int (op_fdiv (by decide) (by decide) (WE.loc rfl (op_sub ⟨_, HSub.refl _, ?_, rfl⟩))))))))
        rw [List.take_succ_eq_append_getElem hlt, List.map_append]; show _ = List.map V.int _; rw [List.map_append]; rfl
      · rintro ys H' hyl ⟨rfl, rfl⟩ F hF
        rw [List.length_map, List.take_length]
        have hFa := (off hF).1
        replace hF := (off hF).2
        have e1 : upd (upd (upd H₁ a (false, .list (zs row))) F (true, .list (zs (row.map fun x => row.sum.fdiv 2 - x)))) a (b, .list (zs row)) = upd H₁ F (true, .list (zs (row.map fun x => row.sum.fdiv 2 - x))) := by
          rw [upd_comm _ _ _ hFa, upd_upd, upd_self _ ga]
        rw [e1]
        refine call_isort (upd_same ..) (by simp; lia) fun G hG => ?_
        have s2 : HSub H₁ (upd (upd H₁ F (true, .list (zs (row.map fun x => row.sum.fdiv 2 - x)))) G (true, .list (zs (isort (row.map fun x => row.sum.fdiv 2 - x))))) := (HSub.new hF).trans (HSub.new hG)
        have gG : upd (upd H₁ F (true, .list (zs (row.map fun x => row.sum.fdiv 2 - x)))) G (true, .list (zs (isort (row.map fun x => row.sum.fdiv 2 - x)))) G = some (true, .list (zs (mirror row))) := upd_same ..
        generalize upd (upd H₁ F (true, .list (zs (row.map fun x => row.sum.fdiv 2 - x)))) G (true, .list (zs (isort (row.map fun x => row.sum.fdiv 2 - x)))) = H₂ at s2 gG ⊢
        have hLL2 : LL H₂ (.ref E) [isort row] := ⟨E, true, _, rfl, s2 _ _ gE, ⟨D, true, rfl, s2 _ _ gD⟩, trivial⟩
        refine WS.cons (W1.ite (WT.cmp (WE.loc rfl (WE.loc rfl (notin_lists ((hR.deep _).le (by lia)) (ns := mirror row) ⟨G, true, rfl, gG⟩ hLL2 (OPT.bool ?_))))))
        cases hc : [isort row].contains (mirror row) with
        | true =>
          refine iteF ?_
          refine WS.nil (WS.nil (WS.cons (W1.ret (WE.bcall1 (gn hK) PyProof.Rows.Boot.sorted (v := .bi "sorted") rfl trivial (WE.loc rfl (sorted_LL ((hR.deep _).le (by lia)) hLL2 rfl fun w H' hs hw => ⟨H', HSub.refl _, h w H' (hsub.trans (s2.trans hs)) ?_⟩))))))
          rw [due, hm, hc]; exact hw
        | false =>
          refine iteT ?_
          have hEG : E ≠ G := by
            rintro rfl
            rw [s2 _ _ gE] at gG
            simp only [Option.some.injEq, Prod.mk.injEq, O.list.injEq, true_and] at gG
            cases hmr : mirror row with
            | nil => rw [hmr] at gG; cases gG
            | cons _ _ => rw [hmr] at gG; simp [zs] at gG
          refine WS.cons (W1.expr (WE.meth PySem.F.plainAttrs_list slot_list_append PySem.F.type_list_append (WE.loc rfl ⟨IsT.list (s2 _ _ gE), WArgs.cons (WE.loc rfl (WArgs.nil (call_append (s2 _ _ gE) (by simp) ⟨rfl, WS.nil (WS.nil ?_)⟩))) ⟩)))
          have hLL3 : LL (upd H₂ E (true, .list ([.ref D] ++ [.ref G]))) (.ref E) [isort row, mirror row] := ⟨E, true, _, rfl, upd_same .., ⟨D, true, rfl, by rw [upd_ne _ _ hED.symm]; exact s2 _ _ gD⟩, ⟨G, true, rfl, by rw [upd_ne _ _ hEG.symm]; exact gG⟩, trivial⟩
          refine WS.cons (W1.ret (WE.bcall1 (gn hK) PyProof.Rows.Boot.sorted (v := .bi "sorted") rfl trivial (WE.loc rfl (sorted_LL ((hR.deep _).le (by lia)) hLL3 rfl fun w H' hs hw => ⟨H', HSub.refl _, h w H' ?_ ?_⟩))))
          · intro y z e
            refine hs _ _ ?_
            rw [upd_ne _ _ (by rintro rfl; rw [hHE] at e; cases e)]
            exact s2 _ _ (hsub _ _ e)
          · rw [due, hm, hc]; exact hw
end
end Mine
end
section
open PySem PySem.W
set_option maxRecDepth 100000
set_option maxHeartbeats 8000000
set_option linter.all false
namespace Mine
open PyProof.Rows (IntsAre pickNums)
theorem sum_nn {l : List Int} {B : Int} (hB : 0 ≤ B) (h : ∀ x ∈ l, 0 ≤ x ∧ x ≤ B) : 0 ≤ l.sum ∧ l.sum ≤ l.length * B := sum_bound hB h
section
variable {c : Cx} {A : Around} {L : Addr} {m : Loc} {H : Sto} {env : Env} {Q : V → Sto → Prop}
theorem base_in : ∀ i, i < 6 → 0 ≤ ([4, 0, 5, 3, 2, 7] : List Int).getD i 0 ∧ ([4, 0, 5, 3, 2, 7] : List Int).getD i 0 ≤ 7 := by decide
theorem c_draws (hK : c.K = KF c.w.params) {a : Addr} {b : Bool} {sc : List Int} (hR : Room 3 A) (ha : H a = some (b, .list (zs sc))) (hl : sc.length ≤ 63)
    (h : ∀ D H' ds, HSub H H' → H' D = some (true, .list (zs ds)) → ds.length = 6 → (∀ d ∈ ds, 0 ≤ d ∧ d ≤ 100000) → Q (.ref D) H') : CALL c A L (.ref 134) [.ref a] m H Q := by
  refine CALL.more (CALL.fnC (n := 2) (ko hK) (kc hK) ["script"] "script" [] (some (.ref a)) (fun cvs hv => ?_) hR (fun L' => rfl) (fun cvs hv L' => ?_) (fun cvs hv x v e => by simp at e) (fun cvs hv => ?_) (fun L' C hC => ?_))
  · obtain ⟨x, rfl, _⟩ := hv.inv1
    rfl
  · obtain ⟨x, rfl, _⟩ := hv.inv1
    simp only [List.zip_cons_cons, List.zip_nil_right, List.mem_singleton, forall_eq]
    exact .inr ⟨rfl, rfl⟩
  · obtain ⟨x, rfl, hx⟩ := hv.inv1
    exact ⟨x, rfl, hx⟩
  · have hA : ∀ env, (A.deeper env).handled = none := fun _ => hR.hd
    have ga : upd H C (true, .cell (some (.ref a))) a = some (b, .list (zs sc)) := upd_get hC ha
    have gC : upd H C (true, .cell (some (.ref a))) C = some (true, .cell (some (.ref a))) := upd_same ..
    have hsub : HSub H (upd H C (true, .cell (some (.ref a)))) := HSub.new hC
    generalize upd H C (true, .cell (some (.ref a))) = H₁ at ga gC hsub ⊢
    refine WS.cons (W1.ret (WE.comp (WE.bcall1 (gn hK) PyProof.Rows.Boot.range (v := .ty "range") rfl trivial (WE.int (call_range1 fun R hRn => ?_)))))
    refine WC.one (H₀ := H₁) (fun i ys H' => ∃ ds, ys = zs ds ∧ H₁ = H' ∧ ∀ d ∈ ds, 0 ≤ d ∧ d ≤ 100000) ((ITER.rng (hA _) (upd_same ..) (by lia) (by lia) (by lia) (by lia)).less (HSub.new hRn)) (by decide) ⟨[], rfl, rfl, fun d hd => by cases hd⟩ ?_ ?_
    · rintro C' i v ys H' hi hyl ⟨ds, rfl, rfl, hds⟩
      have hlt : i < 6 := by have := (List.getElem?_eq_some_iff.mp hi).1; simpa [rangeItems] using this
      obtain rfl : v = .int (i : Int) := by
        have := rangeItems_get (n := 6) hlt
        rw [show ((6 : Nat) : Int) = 6 from rfl] at this
        rw [this] at hi; exact (Option.some.inj hi).symm
      have hget : (zs [4, 0, 5, 3, 2, 7])[((i : Nat) : Int).toNat]? = some (.int (([4, 0, 5, 3, 2, 7] : List Int).getD i 0)) := by rw [Int.toNat_natCast]; exact zs_get hlt
      have hbase : 0 ≤ ([4, 0, 5, 3, 2, 7] : List Int).getD i 0 ∧ ([4, 0, 5, 3, 2, 7] : List Int).getD i 0 ≤ 7 := base_in i hlt
      refine WE.binop (WE.sub_tup (WE.tup (WArgs.cons (WE.int (WArgs.cons (WE.int (WArgs.cons (WE.int (WArgs.cons (WE.int (WArgs.cons (WE.int (WArgs.cons (WE.int (WArgs.nil ⟨by simp, fun T hT => WE.loc rfl ⟨IsT.tup (upd_same ..), op_item_tup (l := zs [4, 0, 5, 3, 2, 7]) (upd_same ..) (by lia) (by lia) hget ?_⟩⟩)))))))))))))))
      generalize ([4, 0, 5, 3, 2, 7] : List Int).getD i 0 = base at hbase ⊢
      refine WE.bcall1 (gn hK) PyProof.Rows.Boot.sum (v := .bi "sum") rfl trivial (WE.comp (WE.sliceZ (some (i : Int)) (some 18) (some 6) (by decide) (WE.cell rfl (upd_get hT gC) ⟨a, b, sc, rfl, upd_get hT ga, by lia, WE.loc rfl ⟨rfl, rfl⟩, WE.int ⟨rfl, rfl⟩, WE.int ⟨rfl, rfl⟩, fun Z hZ => WC.ro (upd_same ..) ?_⟩)))
      have hms : (pickNums sc (some (i : Int)) (some 18) (some 6)).length ≤ 63 := Nat.le_trans (pick_len ..) hl
      generalize pickNums sc (some (i : Int)) (some 18) (some 6) = ms at hms ⊢
      rw [upd_upd]
      have hZT := (off hZ).1
      refine WC.one (fun j ys H' => ys = zs ((ms.take j).map fun x => x.fmod 144) ∧ H' = upd (upd H₁ T (true, .tup (zs [4, 0, 5, 3, 2, 7]))) Z (false, .list (zs ms))) (ITER.list (hA _) (l := zs ms) (upd_same ..)) (by simpa using (by lia : ms.length ≤ 1000000)) ⟨rfl, rfl⟩ ?_ ?_
      · rintro C'' j w ys H' hj hyl' ⟨rfl, rfl⟩
        have hjt : j < ms.length := by simpa using (List.getElem?_eq_some_iff.mp hj).1
        obtain rfl : w = .int (ms[j]) := by rw [zs_get hjt, getD_at hjt] at hj; exact (Option.some.inj hj).symm
        refine WE.binop (WE.loc rfl (WE.int (op_fmod (by decide) ⟨_, HSub.refl _, ?_, rfl⟩)))
        rw [List.take_succ_eq_append_getElem hjt, List.map_append]; show _ = List.map V.int _; rw [List.map_append]; rfl
      · rintro ys H' hyl' ⟨rfl, rfl⟩ D hD
        rw [List.length_map, List.take_length]
        have hDZ := (off hD).1
        have hmod : ∀ x ∈ ms.map fun x => x.fmod 144, 0 ≤ x ∧ x ≤ 143 := fun x hx => by
          obtain ⟨y, _, rfl⟩ := List.mem_map.mp hx
          have h1 := Int.fmod_nonneg_of_pos y (b := 144) (by decide)
          have h2 := Int.fmod_lt_of_pos y (b := 144) (by decide)
          lia
        refine call_sum (hA _) (b := true) (ns := ms.map fun x => x.fmod 144) (by rw [upd_ne _ _ hDZ, upd_same]) (by simp; lia) (fun x hx => by have := hmod x hx; lia) ?_
        have hsum := sum_nn (by decide) hmod
        rw [List.length_map] at hsum
        refine op_add ⟨H₁, ?_, ds ++ [base + (ms.map fun x => x.fmod 144).sum], ?_, rfl, ?_⟩
        · intro y z e
          have h1 : y ≠ T := by rintro rfl; rw [hT] at e; cases e
          have h2 : y ≠ Z := by rintro rfl; rw [upd_ne _ _ h1, e] at hZ; cases hZ
          have h3 : y ≠ D := by rintro rfl; rw [upd_ne _ _ h2, upd_ne _ _ h1, e] at hD; cases hD
          rw [upd_ne _ _ h2, upd_ne _ _ h3, upd_ne _ _ h2, upd_ne _ _ h1]; exact e
        · show _ = List.map V.int _; rw [List.map_append]; rfl
        · intro d hd
          rcases List.mem_append.mp hd with hd | hd
          · exact hds d hd
          · rw [List.mem_singleton.mp hd]
            have : (ms.length : Int) * 143 ≤ 63 * 143 := Int.mul_le_mul_of_nonneg_right (by lia) (by lia)
            lia
    · rintro ys H' hyl ⟨ds, rfl, rfl, hds⟩ D hD
      exact ⟨_, HSub.refl _, h D _ ds (hsub.trans (HSub.new hD)) (upd_same ..) (by rw [List.length_map] at hyl; rw [hyl]; rfl) hds⟩
theorem zs_app (a b : List Int) : zs (a ++ b) = zs a ++ zs b := List.map_append
theorem absI_bound {x : Int} {B : Int} (h : -B ≤ x ∧ x ≤ B) : 0 ≤ absI x ∧ absI x ≤ B := by unfold absI; split <;> lia
noncomputable def Step (row ot : List Int) : Prop := ∃ a b d mid, row = a :: mid ++ [b] ∧ ot = (a + 1) :: mid ++ [d] ∧ (d = b - 1 ∨ (b = 0 ∧ d = 1)) ∧ mid ≠ []
theorem row_ends {row : List Int} (h : 3 ≤ row.length) : row = row.getD 0 0 :: (row.drop 1).take (row.length - 2) ++ [row.getD (row.length - 1) 0] := by
  match row, h with
  | x :: r, h =>
    have hr : r ≠ [] := by rintro rfl; simp at h
    obtain ⟨m, y, rfl⟩ : ∃ m y, r = m ++ [y] := ⟨r.dropLast, r.getLast hr, (List.dropLast_concat_getLast hr).symm⟩
    simp
theorem len4 {row : List Int} (h : row.length = 4) : ∃ a b c d, row = [a, b, c, d] := by
  rcases row with _ | ⟨a, _ | ⟨b, _ | ⟨c, _ | ⟨d, _ | ⟨e, r⟩⟩⟩⟩⟩ <;> simp at h
  exact ⟨a, b, c, d, rfl⟩
theorem half4 {row : List Int} (h4 : row.length = 4) (hb : ∀ x ∈ row, 0 ≤ x ∧ x ≤ 5) : ∀ y ∈ row, -7 ≤ row.sum.fdiv 2 - y ∧ row.sum.fdiv 2 - y ≤ 7 := by
  obtain ⟨p, q, r, s, rfl⟩ := len4 h4
  simp only [List.forall_mem_cons] at hb ⊢
  obtain ⟨h1, h2, h3, h4, _⟩ := hb
  have e : [p, q, r, s].sum = p + q + r + s := by simp; lia
  rw [e, Int.fdiv_eq_ediv_of_nonneg _ (by decide)]
  exact ⟨by lia, by lia, by lia, by lia, by simp⟩
theorem c_other (hK : c.K = KF c.w.params) {a : Addr} {b : Bool} {row : List Int} {kind : Int} (hR : Room 3 A) (ha : H a = some (b, .list (zs row))) (hl : 3 ≤ row.length) (hl6 : row.length ≤ 6) (hb : ∀ x ∈ row, 0 ≤ x ∧ x ≤ 5)
    (h : ∀ D H' ot, HSub H H' → H' D = some (true, .list (zs ot)) → ot.length = row.length → (∀ x ∈ ot, 0 ≤ x ∧ x ≤ 7) → (Step row ot ∨ (row.length ≠ 4 → ∀ x ∈ ot, x ≤ 5)) → Q (.ref D) H') : CALL c A L (.ref 192) [.ref a, .int kind] m H Q := by
  refine CALL.more (CALL.fnC (n := 2) (ko hK) (kc hK) ["row", "kind"] "high" [("row", .ref a), ("kind", .int kind)] none (fun cvs hv => ?_) hR (fun L' => rfl) (fun cvs hv L' => ?_) (fun cvs hv x v e => ?_) (fun cvs hv => ?_) (fun L' C hC => ?_))
  · obtain ⟨x, y, rfl, _⟩ := hv.inv2
    rfl
  · obtain ⟨x, y, rfl, _⟩ := hv.inv2
    simp only [List.zip_cons_cons, List.zip_nil_right, List.forall_mem_cons]
    exact ⟨.inl rfl, .inl rfl, fun _ h => by cases h⟩
  · obtain ⟨p, q, rfl, hp, hq⟩ := hv.inv2
    rw [List.lookup_cons] at e
    by_cases h1 : x = "row"
    · subst h1; simp at e; subst e; exact ⟨p, rfl, hp⟩
    · have : (x == ("row" : Str)) = false := by simpa using h1
      rw [this, List.lookup_cons] at e
      by_cases h2 : x = "kind"
      · subst h2; simp at e; subst e; exact ⟨q, rfl, hq⟩
      · have : (x == ("kind" : Str)) = false := by simpa using h2
        rw [this] at e; simp at e
  · obtain ⟨x, y, rfl, _⟩ := hv.inv2
    rfl
  · have hA : ∀ env, (A.deeper env).handled = none := fun _ => hR.hd
    have ga : upd H C (true, .cell none) a = some (b, .list (zs row)) := upd_get hC ha
    have gC : upd H C (true, .cell none) C = some (true, .cell none) := upd_same ..
    have hsub : HSub H (upd H C (true, .cell none)) := HSub.new hC
    have hCa : C ≠ a := (HSub.ne hC ha).symm
    have hget : ∀ i, i < row.length → 0 ≤ row.getD i 0 ∧ row.getD i 0 ≤ 5 := fun i hi => hb _ (getD_mem hi)
    refine WS.cons (W1.ite (WT.cmp (WE.loc rfl (WE.int (op_eq (OPT.bool ?_))))))
    cases h0 : (kind == 0) with
    | true =>
      refine iteT ?_
      refine WS.cons (W1.ret (WE.sliceZ none none (some (-1)) (by decide) (WE.loc rfl ⟨a, b, row, rfl, ga, by lia, trivial, trivial, WE.neg1 ⟨rfl, rfl⟩, fun D hD => ?_⟩)))
      rw [pick_rev]
      exact ⟨_, HSub.refl _, h D _ _ (hsub.trans (HSub.new hD)) (upd_same ..) (by simp) (fun x hx => by have := hb x (List.mem_reverse.mp hx); lia) (.inr fun _ x hx => by have := hb x (List.mem_reverse.mp hx); lia)⟩
    | false =>
      refine iteF ?_
      refine WS.nil (WS.cons (W1.ite (WT.cmp (WE.loc rfl (WE.int (op_eq (OPT.bool ?_)))))))
      cases h1 : (kind == 1) with
      | true =>
        refine iteT ?_
        refine WS.cons (W1.ret (WE.binop (WE.binop (WE.list (WArgs.cons (WE.binop (WE.sub_list (WE.loc rfl (WE.int ⟨IsT.list ga, getZ (k := 0) ga (by lia) (by lia) (WE.int (op_add (WArgs.nil ⟨by simp, fun X hX => ?_⟩)))⟩)))))))))
        refine WE.sliceZ (some 1) (some (-1)) none (by decide) (WE.loc rfl ⟨a, b, row, rfl, upd_get hX ga, by lia, WE.int ⟨rfl, rfl⟩, WE.neg1 ⟨rfl, rfl⟩, trivial, fun Y hY => ?_⟩)
        rw [pick_mid]
        have hml : ((row.drop 1).take (row.length - 2)).length = row.length - 2 := by simp; lia
        have hmb : ∀ x ∈ (row.drop 1).take (row.length - 2), 0 ≤ x ∧ x ≤ 5 := fun x hx => hb x (List.mem_of_mem_drop (List.mem_of_mem_take hx))
        have hre := row_ends hl
        generalize (row.drop 1).take (row.length - 2) = mid at hml hmb hre ⊢
        refine op_add_list (l := zs [row.getD 0 0 + 1]) (upd_get hY (upd_same ..)) (upd_same ..) (by simp; lia) fun W hW => ?_
        have gaW : ∀ {x y z}, upd (upd (upd (upd H C (true, .cell none)) X x) Y y) W z a = some (b, .list (zs row)) := fun {x y z} => by
          have n1 := HSub.ne hX ga
          have n2 : a ≠ Y := HSub.ne hY (upd_get hX ga)
          have n3 : a ≠ W := HSub.ne hW (upd_get hY (upd_get hX ga))
          rw [upd_ne _ _ n3, upd_ne _ _ n2, upd_ne _ _ n1]; exact ga
        have hlast := hget (row.length - 1) (by lia)
        have e1 : ((-1 : Int) + ((zs row).length : Int)).toNat = row.length - 1 := by simp; lia
        refine WE.list (WArgs.cons (WE.bcall1 (gn hK) PyProof.Rows.Boot.abs (v := .bi "abs") rfl trivial (WE.binop (WE.sub_list (WE.loc rfl (WE.neg1 ⟨IsT.list gaW, op_item_neg (v := .int (row.getD (row.length - 1) 0)) gaW (by decide) (by simp; lia) (by decide) (by rw [e1]; exact zs_get (by lia)) (WE.int (op_sub (call_abs (WArgs.nil ⟨by simp, fun U hU => ?_⟩))))⟩))))))
        refine op_add_list (l := zs ([row.getD 0 0 + 1] ++ mid)) (l' := zs [absI (row.getD (row.length - 1) 0 - 1)]) (upd_get hU (by rw [upd_same, zs_app])) (upd_same ..) (by simp; lia) fun R hRn => ?_
        have hb0 := hget 0 (by lia)
        refine ⟨_, HSub.refl _, h R _ ([row.getD 0 0 + 1] ++ mid ++ [absI (row.getD (row.length - 1) 0 - 1)]) (hsub.trans ((HSub.new hX).trans ((HSub.new hY).trans ((HSub.new hW).trans ((HSub.new hU).trans (HSub.new hRn)))))) (by rw [upd_same, zs_app ([row.getD 0 0 + 1] ++ mid)]) (by simp; lia) ?_ ?_⟩
        · intro x hx
          rcases List.mem_append.mp hx with hx | hx
          · rcases List.mem_append.mp hx with hx | hx
            · rw [List.mem_singleton.mp hx]; lia
            · have := hmb x hx; lia
          · rw [List.mem_singleton.mp hx]
            have := absI_bound (x := row.getD (row.length - 1) 0 - 1) (B := 4) (by lia)
            lia
        · refine .inl ⟨_, _, _, mid, hre, rfl, ?_, by rintro rfl; simp at hml; lia⟩
          unfold absI; split <;> lia
      | false =>
        refine iteF ?_
        refine WS.nil (WS.cons (W1.via (fun m' H' => ∃ high : Int, Sub [("row", .ref a)] m' ∧ H' = upd (upd H C (true, .cell none)) C (true, .cell (some (.int high))) ∧ (∀ y ∈ row, -7 ≤ high - y ∧ high - y ≤ 7) ∧ (row.length ≠ 4 → 0 ≤ high ∧ high ≤ 5)) (W1.assign_cell rfl (WE.ifexp (WT.cmp (WE.bcall1 (gn hK) PyProof.Rows.Boot.len (v := .bi "len") rfl trivial (WE.loc rfl (lenZ ga (by lia) (WE.int (op_eq (OPT.bool ?_))))))))) ?_))
        · have e4 : ((row.length : Int) == 4) = decide (row.length = 4) := by rw [Bool.eq_iff_iff, beq_iff_eq, decide_eq_true_iff]; lia
          rw [e4]
          by_cases h4 : row.length = 4
          · refine iteP h4 ?_
            refine WE.binop (WE.bcall1 (gn hK) PyProof.Rows.Boot.sum (v := .bi "sum") rfl trivial (WE.loc rfl (call_sum (hA _) ga (by lia) (fun x hx => by have := hb x hx; lia) (WE.int (op_fdiv (by decide) (by decide) ⟨none, gC, by trivial, row.sum.fdiv 2, .cons rfl .nil, rfl, ?_, fun q => absurd h4 q⟩)))))
            exact half4 h4 hb
          · refine iteN h4 ?_
            refine WE.bcall1 (gn hK) PyProof.Rows.Boot.max (v := .bi "max") rfl trivial (WE.loc rfl (call_max (hA _) ga (by rintro rfl; simp at hl) fun x hx _ => ⟨none, gC, by trivial, x, .cons rfl .nil, rfl, ?_, fun _ => hb x hx⟩))
            intro y hy; have := hb x hx; have := hb y hy; lia
        · rintro m' H' ⟨high, hsub', rfl, hh, hh4⟩
          rw [upd_upd]
          refine WS.weaken ?_ hsub' (HSub.refl _)
          have ga2 : upd H C (true, .cell (some (.int high))) a = some (b, .list (zs row)) := upd_get hC ha
          refine WS.cons (W1.ret (WE.comp (WE.loc rfl (WC.ro ga2 ?_))))
          refine WC.one (fun i ys H' => ys = zs ((row.take i).map fun x => absI (high - x)) ∧ H' = upd (upd H C (true, .cell (some (.int high)))) a (false, .list (zs row))) (ITER.list (hA _) (l := zs row) (upd_same ..)) (by simpa using (by lia : row.length ≤ 1000000)) ⟨rfl, rfl⟩ ?_ ?_
          · rintro C' i v ys H' hi hyl ⟨rfl, rfl⟩
            have hlt : i < row.length := by simpa using (List.getElem?_eq_some_iff.mp hi).1
            obtain rfl : v = .int (row[i]) := by rw [zs_get hlt, getD_at hlt] at hi; exact (Option.some.inj hi).symm
            refine WE.bcall1 (gn hK) PyProof.Rows.Boot.abs (v := .bi "abs") rfl trivial (WE.binop (WE.cell rfl (by rw [upd_ne _ _ hCa, upd_same]) (WE.loc rfl (op_sub (call_abs ⟨_, HSub.refl _, ?_, rfl⟩)))))
            rw [List.take_succ_eq_append_getElem hlt, List.map_append]; show _ = List.map V.int _; rw [List.map_append]; rfl
          · rintro ys H' hyl ⟨rfl, rfl⟩ D hD
            rw [List.length_map, List.take_length]
            have hDa := (off hD).1
            replace hD := (off hD).2
            have e1 : upd (upd (upd (upd H C (true, .cell (some (.int high)))) a (false, .list (zs row))) D (true, .list (zs (row.map fun x => absI (high - x))))) a (b, .list (zs row)) = upd (upd H C (true, .cell (some (.int high)))) D (true, .list (zs (row.map fun x => absI (high - x)))) := by
              rw [upd_comm _ _ _ hDa, upd_upd, upd_self _ ga2]
            rw [e1]
            refine ⟨_, HSub.refl _, h D _ _ ((HSub.new hC).trans (HSub.new hD)) (upd_same ..) (by simp) ?_ ?_⟩
            · intro x hx
              obtain ⟨y, hy, rfl⟩ := List.mem_map.mp hx
              have := hh y hy
              exact absI_bound (by lia)
            · refine .inr fun q x hx => ?_
              obtain ⟨y, hy, rfl⟩ := List.mem_map.mp hx
              have h1 := hb y hy
              have h2 := hh4 q
              have := (absI_bound (x := high - y) (B := 5) (by lia)).2
              lia
end
end Mine
end
section
open PySem PySem.W
set_option maxRecDepth 100000
set_option maxHeartbeats 8000000
set_option linter.all false
namespace Mine
noncomputable def countsOf (ss : List Int) : List Int := ss.foldl (fun cs t => bump cs t.toNat) []
theorem getD_append_lt {l r : List Int} {i : Nat} (h : i < l.length) : (l ++ r).getD i 0 = l.getD i 0 := by
  rw [List.getD_eq_getElem?_getD, List.getD_eq_getElem?_getD, List.getElem?_append_left h]
theorem getD_ge {l : List Int} {i : Nat} (h : l.length ≤ i) : l.getD i 0 = 0 := by
  rw [List.getD_eq_getElem?_getD, List.getElem?_eq_none h]; rfl
theorem getD_pad (l : List Int) (k i : Nat) : (l ++ List.replicate k 0).getD i 0 = l.getD i 0 := by
  rcases Nat.lt_or_ge i l.length with h | h
  · exact getD_append_lt h
  · rw [getD_ge h, List.getD_eq_getElem?_getD, List.getElem?_append_right h]
    rw [List.getElem?_replicate]; split <;> rfl
theorem bump_getD (cs : List Int) (b i : Nat) : (bump cs b).getD i 0 = cs.getD i 0 + (if i = b then 1 else 0) := by
  unfold bump
  simp only
  split
  · rename_i h
    rw [getD_set (by simp; lia), getD_pad, getD_pad]
    split
    · rename_i e; subst e; rfl
    · simp
  · rename_i h
    rw [getD_set (by lia)]
    split
    · rename_i e; subst e; rfl
    · simp
theorem bump_len (cs : List Int) (b : Nat) : (bump cs b).length = max cs.length (b + 1) := by
  unfold bump
  simp only [List.length_set]
  split
  · simp only [List.length_append, List.length_replicate]; lia
  · lia
theorem counts_spec (ss : List Int) (hn : ∀ t ∈ ss, 0 ≤ t) : (∀ i : Nat, (countsOf ss).getD i 0 = (ss.count (i : Int) : Nat)) ∧ ((countsOf ss).length ≠ 0 → (countsOf ss).getD ((countsOf ss).length - 1) 0 ≠ 0) := by
  have key : ∀ (l : List Int) (cs : List Int), (∀ t ∈ l, 0 ≤ t) → (∀ i, 0 ≤ cs.getD i 0) → (cs.length ≠ 0 → cs.getD (cs.length - 1) 0 ≠ 0) →
      (∀ i : Nat, (l.foldl (fun cs t => bump cs t.toNat) cs).getD i 0 = cs.getD i 0 + (l.count (i : Int) : Nat)) ∧ ((l.foldl (fun cs t => bump cs t.toNat) cs).length ≠ 0 → (l.foldl (fun cs t => bump cs t.toNat) cs).getD ((l.foldl (fun cs t => bump cs t.toNat) cs).length - 1) 0 ≠ 0) := by
    intro l
    induction l with
    | nil => intro cs _ _ h; exact ⟨fun i => by simp, h⟩
    | cons t l ih =>
      intro cs hl hc h
      have ht := hl t List.mem_cons_self
      have hb : ∀ i, 0 ≤ (bump cs t.toNat).getD i 0 := fun i => by rw [bump_getD]; have := hc i; split <;> lia
      have h2 : (bump cs t.toNat).length ≠ 0 → (bump cs t.toNat).getD ((bump cs t.toNat).length - 1) 0 ≠ 0 := fun _ => by
        rw [bump_getD, bump_len]
        rcases Nat.lt_or_ge t.toNat cs.length with h3 | h3
        · rw [Nat.max_eq_left (by lia)]
          have h4 := h (by lia)
          have h5 := hc (cs.length - 1)
          split <;> lia
        · rw [Nat.max_eq_right (by lia), show t.toNat + 1 - 1 = t.toNat by lia, if_pos rfl]
          have := hc t.toNat
          lia
      obtain ⟨i1, i2⟩ := ih (bump cs t.toNat) (fun x hx => hl x (List.mem_cons_of_mem _ hx)) hb h2
      refine ⟨fun i => ?_, i2⟩
      rw [List.foldl_cons, i1 i, bump_getD, List.count_cons]
      by_cases e : i = t.toNat
      · have : (t == (i : Int)) = true := by rw [beq_iff_eq]; lia
        rw [if_pos e, if_pos this]; lia
      · have : ¬ ((t == (i : Int)) = true) := by rw [beq_iff_eq]; lia
        rw [if_neg e, if_neg this]; lia
  obtain ⟨h1, h2⟩ := key ss [] hn (fun i => by simp) (fun h => absurd rfl h)
  exact ⟨fun i => by have := h1 i; simpa [countsOf] using this, h2⟩
theorem ends_eq {a b : List Int} (h : ∀ i, a.getD i 0 = b.getD i 0) (ha : a.length ≠ 0 → a.getD (a.length - 1) 0 ≠ 0) (hb : b.length ≠ 0 → b.getD (b.length - 1) 0 ≠ 0) : a = b := by
  have hl : a.length = b.length := by
    rcases Nat.lt_trichotomy a.length b.length with h1 | h1 | h1
    · have := hb (by lia)
      rw [← h, getD_ge (by lia)] at this; exact absurd rfl this
    · exact h1
    · have := ha (by lia)
      rw [h, getD_ge (by lia)] at this; exact absurd rfl this
  refine List.ext_getElem hl fun i h1 h2 => ?_
  have := h i
  rwa [getD_at h1, getD_at h2] at this
theorem counts_perm {ss ss' : List Int} (h1 : ∀ t ∈ ss, 0 ≤ t) (h2 : ∀ t ∈ ss', 0 ≤ t) : countsOf ss = countsOf ss' ↔ ss.Perm ss' := by
  obtain ⟨a1, a2⟩ := counts_spec ss h1
  obtain ⟨b1, b2⟩ := counts_spec ss' h2
  constructor
  · intro e
    rw [List.perm_iff_count]
    intro x
    rcases Int.lt_or_le x 0 with hx | hx
    · rw [List.count_eq_zero.mpr fun hm => by have := h1 x hm; lia, List.count_eq_zero.mpr fun hm => by have := h2 x hm; lia]
    · obtain ⟨n, rfl⟩ := Int.eq_ofNat_of_zero_le hx
      have p := a1 n
      have q := b1 n
      rw [e, q] at p
      exact (Int.ofNat.inj p).symm
  · intro hp
    refine ends_eq (fun i => ?_) a2 b2
    rw [a1, b1, hp.count_eq]
theorem run_seg (s : St) (h : s.b = 0) (t : Int) : (segL t).foldl St.step s = ⟨s.n + t.toNat + 1, 0, s.nt + 1, bump s.cs t.toNat⟩ := by
  have key : ∀ (k : Nat) (s : St), (List.replicate k 32).foldl St.step s = ⟨s.n + k, s.b + k, s.nt, s.cs⟩ := by
    intro k
    induction k with
    | zero => intro s; rfl
    | succ k ih => intro s; rw [List.replicate_succ, List.foldl_cons, ih]; simp [St.step]; lia
  unfold segL
  rw [List.foldl_append, key, h]
  simp [St.step]
theorem run_line (ss : List Int) : (St.run (ss.flatMap segL)).b = 0 ∧ (St.run (ss.flatMap segL)).nt = ss.length ∧ (St.run (ss.flatMap segL)).cs = countsOf ss := by
  have key : ∀ (l : List Int) (s : St), s.b = 0 → ((l.flatMap segL).foldl St.step s).b = 0 ∧ ((l.flatMap segL).foldl St.step s).nt = s.nt + l.length ∧ ((l.flatMap segL).foldl St.step s).cs = l.foldl (fun cs t => bump cs t.toNat) s.cs := by
    intro l
    induction l with
    | nil => intro s h; exact ⟨h, rfl, rfl⟩
    | cons t l ih =>
      intro s h
      rw [List.flatMap_cons, List.foldl_append, run_seg s h]
      obtain ⟨a, b, c⟩ := ih ⟨s.n + t.toNat + 1, 0, s.nt + 1, bump s.cs t.toNat⟩ rfl
      refine ⟨a, ?_, c⟩
      rw [b, List.length_cons]; simp only; lia
  have := key ss ⟨0, 0, 0, []⟩ rfl
  simpa [St.run, countsOf] using this
theorem seg_chars (ss : List Int) : ∀ ch ∈ ss.flatMap segL, ch = 32 ∨ ch = 9 := fun ch hch => by
  obtain ⟨t, _, h⟩ := List.mem_flatMap.mp hch
  rcases List.mem_append.mp h with h | h
  · exact .inl (List.eq_of_mem_replicate h)
  · exact .inr (List.mem_singleton.mp h)
end Mine
end
section
open PySem PySem.W
set_option maxRecDepth 100000
set_option maxHeartbeats 8000000
set_option linter.all false
namespace Mine
theorem addc_one {T : List (Int × Int)} {k v : Int} (h : dget T k = none) : addc T [(k, v)] = T ++ [(k, v)] := by
  show bumpD T k v = _
  unfold bumpD
  rw [h, Option.getD_none, Int.zero_add, dset_new h]
theorem tableUpto_keys (cs : List Int) : ∀ k, ∀ p ∈ tableUpto cs k, ∃ i : Nat, i < k ∧ p = ((i : Int), cs.getD i 0) ∧ 0 < cs.getD i 0
  | 0 => fun p hp => by simp [tableUpto] at hp
  | k + 1 => fun p hp => by
    rw [tableUpto_succ] at hp
    unfold tabStep at hp
    split at hp
    · rename_i hc
      have hf : dget (tableUpto cs k) (k : Int) = none := dget_none.mpr fun q hq e => by
        obtain ⟨i, hi, rfl, _⟩ := tableUpto_keys cs k q hq
        simp only at e; lia
      rw [addc_one hf] at hp
      rcases List.mem_append.mp hp with hp | hp
      · obtain ⟨i, hi, h2⟩ := tableUpto_keys cs k p hp
        exact ⟨i, by lia, h2⟩
      · rw [List.mem_singleton.mp hp]; exact ⟨k, Nat.lt_succ_self _, rfl, hc⟩
    · obtain ⟨i, hi, h2⟩ := tableUpto_keys cs k p hp
      exact ⟨i, by lia, h2⟩
theorem tableUpto_step (cs : List Int) (k : Nat) : tableUpto cs (k + 1) = if cs.getD k 0 > 0 then tableUpto cs k ++ [((k : Int), cs.getD k 0)] else tableUpto cs k := by
  rw [tableUpto_succ]
  unfold tabStep
  split
  · refine addc_one (dget_none.mpr fun q hq e => ?_)
    obtain ⟨i, hi, rfl, _⟩ := tableUpto_keys cs k q hq
    simp only at e; lia
  · rfl
theorem expand_app (T S : List (Int × Int)) : expand (T ++ S) = expand T ++ expand S := List.flatMap_append
theorem expand_count (cs : List Int) (hc : ∀ i, 0 ≤ cs.getD i 0) (x : Int) : ∀ k, (expand (tableUpto cs k)).count x = if 0 ≤ x ∧ x < k then (cs.getD x.toNat 0).toNat else 0
  | 0 => by
    have : ¬ (0 ≤ x ∧ x < ((0 : Nat) : Int)) := by lia
    rw [if_neg this]; rfl
  | k + 1 => by
    have ih := expand_count cs hc x k
    rw [tableUpto_step]
    by_cases hp : cs.getD k 0 > 0
    · rw [if_pos hp, expand_app, List.count_append, ih]
      have e : expand [((k : Int), cs.getD k 0)] = List.replicate (cs.getD k 0).toNat (k : Int) := by simp [expand]
      rw [e, List.count_replicate]
      by_cases hx : x = k
      · subst hx
        have h1 : ¬ (0 ≤ (k : Int) ∧ (k : Int) < (k : Int)) := by lia
        have h2 : 0 ≤ (k : Int) ∧ (k : Int) < ((k + 1 : Nat) : Int) := by lia
        rw [if_neg h1, if_pos h2, if_pos (by rw [beq_iff_eq]), Int.toNat_natCast]; lia
      · have h3 : ¬ (((k : Int) == x) = true) := by rw [beq_iff_eq]; exact fun q => hx q.symm
        rw [if_neg h3, Nat.add_zero]
        by_cases h1 : 0 ≤ x ∧ x < (k : Int)
        · rw [if_pos h1, if_pos (by lia)]
        · rw [if_neg h1, if_neg (by lia)]
    · rw [if_neg hp, ih]
      by_cases hx : x = k
      · subst hx
        have h1 : ¬ (0 ≤ (k : Int) ∧ (k : Int) < (k : Int)) := by lia
        have h2 : 0 ≤ (k : Int) ∧ (k : Int) < ((k + 1 : Nat) : Int) := by lia
        rw [if_neg h1, if_pos h2, Int.toNat_natCast]
        have := hc k; lia
      · by_cases h1 : 0 ≤ x ∧ x < (k : Int)
        · rw [if_pos h1, if_pos (by lia)]
        · rw [if_neg h1, if_neg (by lia)]
theorem expand_perm {ss : List Int} (hn : ∀ t ∈ ss, 0 ≤ t) : (expand (tableOf (countsOf ss))).Perm ss := by
  obtain ⟨a1, a2⟩ := counts_spec ss hn
  rw [List.perm_iff_count]
  intro x
  show (expand (tableUpto _ _)).count x = _
  rw [expand_count _ (fun i => by rw [a1]; lia)]
  by_cases hx : 0 ≤ x
  · obtain ⟨n, rfl⟩ := Int.eq_ofNat_of_zero_le hx
    by_cases h : ((n : Nat) : Int) < (((countsOf ss).length : Nat) : Int)
    · rw [if_pos ⟨hx, h⟩, Int.toNat_natCast, a1, Int.toNat_natCast]
    · rw [if_neg (fun q => h q.2)]
      have := a1 n
      rw [getD_ge (by lia)] at this
      lia
  · rw [if_neg (fun q => hx q.1)]
    symm
    exact List.count_eq_zero.mpr fun hm => hx (hn x hm)
theorem tot_expand {T : List (Int × Int)} (h : ∀ p ∈ T, 0 ≤ p.2) : (T.map (·.2)).sum = (expand T).length := by
  induction T with
  | nil => rfl
  | cons p T ih =>
    have h1 := ih fun q hq => h q (List.mem_cons_of_mem _ hq)
    have h2 := h p List.mem_cons_self
    simp only [List.map_cons, List.sum_cons, h1]
    show _ = (((List.replicate p.2.toNat p.1) ++ expand T).length : Int)
    rw [List.length_append, List.length_replicate]; lia
theorem counts_len {ss : List Int} {B : Nat} (h : ∀ t ∈ ss, 0 ≤ t ∧ t < B) : (countsOf ss).length ≤ B := by
  obtain ⟨a1, a2⟩ := counts_spec ss fun t ht => (h t ht).1
  rcases Nat.eq_zero_or_pos (countsOf ss).length with e | e
  · lia
  · have := a2 (by lia)
    rw [a1] at this
    have hm : (((countsOf ss).length - 1 : Nat) : Int) ∈ ss := by
      rcases Decidable.em ((((countsOf ss).length - 1 : Nat) : Int) ∈ ss) with q | q
      · exact q
      · rw [List.count_eq_zero.mpr q] at this; exact absurd rfl this
    have := (h _ hm).2
    lia
theorem table_ok {ss : List Int} (h : ∀ t ∈ ss, 0 ≤ t ∧ t < 100) (hl : ss.length ≤ 100) (h0 : ss ≠ []) : ((tableOf (countsOf ss)).map (·.1)).Nodup ∧ tableOf (countsOf ss) ≠ [] ∧ (tableOf (countsOf ss)).length ≤ 100 ∧ (∀ p ∈ tableOf (countsOf ss), 0 ≤ p.2 ∧ p.2 ≤ 100) := by
  obtain ⟨a1, a2⟩ := counts_spec ss fun t ht => (h t ht).1
  obtain ⟨k1, k2⟩ := tableUpto_ok (countsOf ss) (countsOf ss).length
  have hcl := counts_len (B := 100) h
  refine ⟨k2, fun e => ?_, by show (tableUpto _ _).length ≤ 100; lia, fun p hp => ?_⟩
  · have := (expand_perm fun t ht => (h t ht).1).length_eq
    rw [e] at this
    have h2 := List.length_pos_iff.mpr h0
    simp [expand] at this; lia
  · obtain ⟨i, hi, rfl, hpos⟩ := tableUpto_keys _ _ p hp
    simp only
    rw [a1] at hpos ⊢
    have := List.count_le_length (a := (i : Int)) (l := ss)
    lia
noncomputable def ps : List Int → List Int
  | [] => []
  | a :: l => l.map (a + ·) ++ ps l
theorem ps_perm {l l' : List Int} (h : l.Perm l') : (ps l).Perm (ps l') := by
  induction h with
  | nil => exact .refl _
  | cons a h ih => exact (h.map _).append ih
  | swap a b l =>
    simp only [ps, List.map_cons, List.cons_append]
    rw [Int.add_comm a b]
    refine List.Perm.cons _ ?_
    rw [← List.append_assoc, ← List.append_assoc]
    exact List.Perm.append_right _ List.perm_append_comm
  | trans _ _ i1 i2 => exact i1.trans i2
theorem ps_snoc (l : List Int) (a : Int) : (ps (l ++ [a])).Perm (ps l ++ l.map (· + a)) := by
  induction l with
  | nil => exact .refl _
  | cons b l ih =>
    simp only [List.cons_append, ps, List.map_append, List.map_cons, List.map_nil, List.append_assoc]
    refine List.Perm.append_left _ ?_
    refine List.Perm.trans (List.Perm.cons _ ih) ?_
    exact (List.perm_middle (a := b + a) (l₁ := ps l) (l₂ := l.map (· + a))).symm
theorem sums_ps (row : List Int) : (sums row).Perm (ps row) := by
  have key : ∀ k, k ≤ row.length → (sumsUpto row k).Perm (ps (row.take k)) := by
    intro k
    induction k with
    | zero => intro _; exact .refl _
    | succ k ih =>
      intro hk
      have hlt : k < row.length := by lia
      rw [sumsUpto_succ, List.take_succ_eq_append_getElem hlt]
      refine ((ih (by lia)).append_right _).trans (List.Perm.trans ?_ (ps_snoc _ _).symm)
      refine List.Perm.append_left _ (List.Perm.of_eq ?_)
      unfold sumsAt
      refine List.ext_getElem (by simp; lia) fun i h1 h2 => ?_
      have hi : i < k := by simpa using h1
      simp only [List.getElem_map, List.getElem_range, List.getElem_take]
      rw [getD_at (by lia), getD_at hlt]
  have := key row.length (Nat.le_refl _)
  rw [List.take_length] at this
  exact this
theorem sums_perm {row row' : List Int} (h : row.Perm row') : (sums row).Perm (sums row') := ((sums_ps row).trans (ps_perm h)).trans (sums_ps row').symm
end Mine
end
section
open PySem PySem.W
set_option maxRecDepth 100000
set_option maxHeartbeats 8000000
set_option linter.all false
namespace Mine
theorem sum_map_congr {f g : Nat → Int} {k : Nat} (h : ∀ j, j < k → f j = g j) : ((List.range k).map f).sum = ((List.range k).map g).sum := by
  congr 1
  exact List.map_congr_left fun j hj => h j (List.mem_range.mp hj)
theorem lvl_pad (ts : Nat) (cs : List Int) (d : Nat) : lvlSum ts cs (cs.length - ts + d) = lvlSum ts cs (cs.length - ts) := by
  induction d with
  | zero => rfl
  | succ d ih =>
    rw [← Nat.add_assoc, lvlSum_succ, ih, getD_ge (l := cs) (i := ts + (cs.length - ts + d)) (by lia)]; simp
theorem lvl_head (ts : Nat) (hts : 1 ≤ ts) (cs : List Int) (k : Nat) : lvlSum ts cs (k + 1) = cs.getD ts 0 + ((List.range k).map fun j => (((ts + (j + 1)) / ts : Nat) : Int) * cs.getD (ts + (j + 1)) 0).sum := by
  unfold lvlSum
  rw [List.range_succ_eq_map, List.map_cons, List.sum_cons, List.map_map]
  congr 1
  rw [Nat.add_zero, Nat.div_self (by lia)]
  simp
theorem levels_eq {cs cs' : List Int} {N : Nat} {nt : Int} (hN : cs.length ≤ N ∧ cs'.length ≤ N) (hl : ∀ k, k < N → level (k + 1) cs nt 0 = level (k + 1) cs' nt 0) : ∀ i, 1 ≤ i → cs.getD i 0 = cs'.getD i 0 := by
  have key : ∀ d i, 1 ≤ i → N ≤ i + d → cs.getD i 0 = cs'.getD i 0 := by
    intro d
    induction d with
    | zero => intro i _ h; rw [getD_ge (l := cs) (i := i) (by lia), getD_ge (l := cs') (i := i) (by lia)]
    | succ d ih =>
      intro i hi h
      rcases Nat.lt_or_ge i N with hlt | hge
      · have hlv := hl (i - 1) (by lia)
        rw [show i - 1 + 1 = i by lia] at hlv
        unfold level at hlv
        have hi0 : (i : Int) ≠ 0 := by lia
        have e0 : lvlSum i cs (cs.length - i) + nt = lvlSum i cs' (cs'.length - i) + nt := by
          rw [Int.zero_add, Int.zero_add] at hlv
          exact Int.eq_of_mul_eq_mul_left hi0 hlv
        have e1 : lvlSum i cs (N - i) = lvlSum i cs (cs.length - i) := by
          rw [← lvl_pad i cs (N - i - (cs.length - i))]; congr 1; lia
        have e2 : lvlSum i cs' (N - i) = lvlSum i cs' (cs'.length - i) := by
          rw [← lvl_pad i cs' (N - i - (cs'.length - i))]; congr 1; lia
        have e3 : lvlSum i cs (N - i) = lvlSum i cs' (N - i) := e1.trans ((((Int.add_left_inj _).mp e0)).trans e2.symm)
        obtain ⟨k, hk⟩ : ∃ k, N - i = k + 1 := ⟨N - i - 1, by lia⟩
        rw [hk, lvl_head i hi, lvl_head i hi] at e3
        have e4 : ((List.range k).map fun j => (((i + (j + 1)) / i : Nat) : Int) * cs.getD (i + (j + 1)) 0).sum = ((List.range k).map fun j => (((i + (j + 1)) / i : Nat) : Int) * cs'.getD (i + (j + 1)) 0).sum :=
          sum_map_congr fun j hj => by rw [ih (i + (j + 1)) (by lia) (by lia)]
        rw [e4] at e3
        exact (Int.add_left_inj _).mp e3
      · rw [getD_ge (l := cs) (i := i) (by lia), getD_ge (l := cs') (i := i) (by lia)]
  exact fun i hi => key N i hi (by lia)
theorem sum_getD (cs : List Int) : cs.sum = ((List.range cs.length).map fun j => cs.getD j 0).sum := by
  congr 1
  refine List.ext_getElem (by simp) fun i h1 h2 => ?_
  simp [h1]
theorem sum_pad (cs : List Int) (d : Nat) : ((List.range (cs.length + d)).map fun j => cs.getD j 0).sum = cs.sum := by
  induction d with
  | zero => exact (sum_getD cs).symm
  | succ d ih =>
    rw [← Nat.add_assoc, List.range_succ, List.map_append, List.sum_append, ih, List.map_cons, List.map_nil, List.sum_cons, getD_ge (l := cs) (i := cs.length + d) (by lia)]; simp
theorem counts_sum {ss : List Int} (hn : ∀ t ∈ ss, 0 ≤ t) : (countsOf ss).sum = ss.length := by
  obtain ⟨a1, _⟩ := counts_spec ss hn
  have key : ∀ k, ((List.range k).map fun j => (countsOf ss).getD j 0).sum = (expand (tableUpto (countsOf ss) k)).length := by
    intro k
    induction k with
    | zero => rfl
    | succ k ih =>
      rw [List.range_succ, List.map_append, List.sum_append, ih, tableUpto_step]
      have := a1 k
      simp only [List.map_cons, List.map_nil, List.sum_cons, List.sum_nil, Int.add_zero]
      split
      · rw [expand_app, List.length_append]
        have e : expand [((k : Int), (countsOf ss).getD k 0)] = List.replicate ((countsOf ss).getD k 0).toNat (k : Int) := by simp [expand]
        rw [e, List.length_replicate]; lia
      · lia
  rw [sum_getD, key]
  exact congrArg _ (expand_perm hn).length_eq
theorem max_le {a b N : Int} (h : max (max (a - 1) 0) (max (b - 1) 0) + 1 = N) : a ≤ N ∧ b ≤ N := by
  have h1 := Int.le_trans (Int.le_max_left (a - 1) 0) (Int.le_max_left (max (a - 1) 0) (max (b - 1) 0))
  have h2 := Int.le_trans (Int.le_max_left (b - 1) 0) (Int.le_max_right (max (a - 1) 0) (max (b - 1) 0))
  generalize max (max (a - 1) 0) (max (b - 1) 0) = M at h h1 h2
  exact ⟨by lia, by lia⟩
theorem witness_iff {ss ss' : List Int} {N : Nat} (h1 : ∀ t ∈ ss, 0 ≤ t) (h2 : ∀ t ∈ ss', 0 ≤ t) (hl : ss.length = ss'.length) (hN : wmax (countsOf ss) (countsOf ss') 0 0 = N) :
    (List.range N).all (fun k => level (k + 1) (countsOf ss) ss.length 0 == level (k + 1) (countsOf ss') ss'.length 0) = (countsOf ss == countsOf ss') := by
  rw [Bool.eq_iff_iff, List.all_eq_true, beq_iff_eq, hl]
  constructor
  · intro h
    obtain ⟨a1, a2⟩ := counts_spec ss h1
    obtain ⟨b1, b2⟩ := counts_spec ss' h2
    unfold wmax at hN
    have hNN : (countsOf ss).length ≤ N ∧ (countsOf ss').length ≤ N := (max_le hN).imp Int.ofNat_le.mp Int.ofNat_le.mp
    have hup := levels_eq (cs := countsOf ss) (cs' := countsOf ss') (N := N) (nt := ss'.length) hNN fun k hk => by
      have := h k (List.mem_range.mpr hk)
      simpa using this
    have h0 : (countsOf ss).getD 0 0 = (countsOf ss').getD 0 0 := by
      have s1 := sum_pad (countsOf ss) (N - (countsOf ss).length)
      have s2 := sum_pad (countsOf ss') (N - (countsOf ss').length)
      rw [show (countsOf ss).length + (N - (countsOf ss).length) = N by lia, counts_sum h1] at s1
      rw [show (countsOf ss').length + (N - (countsOf ss').length) = N by lia, counts_sum h2] at s2
      obtain ⟨M, rfl⟩ : ∃ M, N = M + 1 := ⟨N - 1, by lia⟩
      rw [List.range_succ_eq_map, List.map_cons, List.sum_cons, List.map_map] at s1 s2
      have e : ((List.range M).map ((fun j => (countsOf ss).getD j 0) ∘ Nat.succ)).sum = ((List.range M).map ((fun j => (countsOf ss').getD j 0) ∘ Nat.succ)).sum :=
        sum_map_congr fun j _ => hup (j + 1) (by lia)
      rw [e] at s1
      exact (Int.add_left_inj _).mp (s1.trans ((congrArg Int.ofNat hl).trans s2.symm))
    exact ends_eq (fun i => by
      rcases Nat.eq_zero_or_pos i with rfl | hi
      · exact h0
      · exact hup i hi) a2 b2
  · intro e k hk
    rw [e]; exact beq_self_eq_true _
end Mine
end
section
open PySem PySem.W
set_option maxRecDepth 100000
set_option maxHeartbeats 8000000
set_option linter.all false
namespace Mine
noncomputable def sqs (l : List Int) : Int := (l.map fun x => x * x).sum
theorem sqs_cons (a : Int) (l : List Int) : sqs (a :: l) = a * a + sqs l := by simp [sqs]
theorem sqs_append (l l' : List Int) : sqs (l ++ l') = sqs l + sqs l' := by simp [sqs]
theorem sqs_add (a : Int) : ∀ l : List Int, sqs (l.map (a + ·)) = (l.length : Int) * (a * a) + 2 * a * l.sum + sqs l
  | [] => by simp [sqs]
  | b :: l => by
    have ih := sqs_add a l
    rw [List.map_cons, sqs_cons, sqs_cons, ih, List.sum_cons, List.length_cons]
    grind
theorem sum_add (a : Int) : ∀ l : List Int, (l.map (a + ·)).sum = (l.length : Int) * a + l.sum
  | [] => by simp
  | b :: l => by
    have ih := sum_add a l
    rw [List.map_cons, List.sum_cons, ih, List.sum_cons, List.length_cons]
    grind
theorem sum_ps : ∀ l : List Int, (ps l).sum = ((l.length : Int) - 1) * l.sum
  | [] => by simp [ps]
  | a :: l => by
    have ih := sum_ps l
    rw [ps, List.sum_append, sum_add, ih, List.sum_cons, List.length_cons]
    grind
theorem sqs_ps : ∀ l : List Int, sqs (ps l) = ((l.length : Int) - 2) * sqs l + l.sum * l.sum
  | [] => by simp [ps, sqs]
  | a :: l => by
    have ih := sqs_ps l
    rw [ps, sqs_append, sqs_add, ih, sqs_cons, List.sum_cons, List.length_cons]
    grind
theorem sqs_perm {l l' : List Int} (h : l.Perm l') : sqs l = sqs l' := by
  induction h with
  | nil => rfl
  | cons a _ ih => rw [sqs_cons, sqs_cons, ih]
  | swap a b l => simp only [sqs_cons]; lia
  | trans _ _ i1 i2 => exact i1.trans i2
theorem sm_perm {l l' : List Int} (h : l.Perm l') : l.sum = l'.sum := by
  induction h with
  | nil => rfl
  | cons a _ ih => simp only [List.sum_cons, ih]
  | swap a b l => simp only [List.sum_cons]; lia
  | trans _ _ i1 i2 => exact i1.trans i2
theorem moved {a b d : Int} {mid : List Int} (h : (sums (a :: mid ++ [b])).Perm (sums ((a + 1) :: mid ++ [d]))) (hd : d = b - 1 ∨ (b = 0 ∧ d = 1)) (hn : mid ≠ []) : (a :: mid ++ [b]).Perm ((a + 1) :: mid ++ [d]) := by
  have hp := ((sums_ps _).symm.trans h).trans (sums_ps _)
  have h1 := sm_perm hp
  have h2 := sqs_perm hp
  rw [sum_ps, sum_ps] at h1
  rw [sqs_ps, sqs_ps] at h2
  have l1 : (a :: mid ++ [b]).length = mid.length + 2 := by simp
  have l2 : ((a + 1) :: mid ++ [d]).length = mid.length + 2 := by simp
  have m0 : 1 ≤ mid.length := List.length_pos_iff.mpr hn
  have s1 : (a :: mid ++ [b]).sum = a + mid.sum + b := by simp [List.sum_append]; lia
  have s2 : ((a + 1) :: mid ++ [d]).sum = a + 1 + mid.sum + d := by simp [List.sum_append]; lia
  have q1 : sqs (a :: mid ++ [b]) = a * a + sqs mid + b * b := by simp [sqs_cons, sqs_append, sqs]; lia
  have q2 : sqs ((a + 1) :: mid ++ [d]) = (a + 1) * (a + 1) + sqs mid + d * d := by simp [sqs_cons, sqs_append, sqs]; lia
  rw [l1, l2] at h1 h2
  rw [s1, s2] at h1 h2
  rw [q1, q2] at h2
  have c1 : (((mid.length + 2 : Nat) : Int) - 1) ≠ 0 := by lia
  have e1 := Int.eq_of_mul_eq_mul_left c1 h1
  rw [e1] at h2
  have c2 : (((mid.length + 2 : Nat) : Int) - 2) ≠ 0 := by lia
  have e2 := Int.eq_of_mul_eq_mul_left c2 ((Int.add_left_inj _).mp h2)
  rcases hd with rfl | ⟨rfl, rfl⟩
  · have x1 : (a + 1) * (a + 1) = a * a + (2 * a + 1) := by rw [Int.add_mul, Int.mul_add, Int.mul_one, Int.one_mul]; lia
    have x2 : (b - 1) * (b - 1) = b * b - (2 * b - 1) := by rw [Int.sub_mul, Int.mul_sub, Int.mul_one, Int.one_mul]; lia
    rw [x1, x2] at e2
    have : b = a + 1 := by
      generalize a * a = u at e2
      generalize b * b = v at e2
      lia
    subst this
    have : a + 1 - 1 = a := by lia
    rw [this]
    refine List.Perm.trans (List.Perm.cons a List.perm_append_comm) ?_
    refine List.Perm.trans (List.Perm.swap _ _ _) ?_
    exact List.Perm.cons (a + 1) (List.perm_append_comm (l₁ := [a]) (l₂ := mid))
  · lia
end Mine
end
section
open PySem PySem.W
set_option maxRecDepth 100000
set_option maxHeartbeats 8000000
set_option linter.all false
namespace Mine
noncomputable def chk (r : List Int) : Bool := found (tableOf (countsOf (sums r))) (isort (sums r)) r.length == some (due r)
noncomputable def upFrom (lo : Nat) : Nat → List Nat
  | 0 => []
  | k + 1 => lo :: upFrom (lo + 1) k
noncomputable def rowsUp (hi : Nat) : Nat → Nat → List (List Int)
  | 0, _ => [[]]
  | n + 1, lo => (upFrom lo (hi + 1 - lo)).flatMap fun (v : Nat) => (rowsUp hi n v).map fun r => (v : Int) :: r
theorem mem_upFrom {v : Nat} : ∀ {k lo : Nat}, lo ≤ v → v < lo + k → v ∈ upFrom lo k
  | 0, lo, h1, h2 => by lia
  | k + 1, lo, h1, h2 => by
    unfold upFrom
    rcases Nat.eq_or_lt_of_le h1 with e | e
    · subst e; exact List.mem_cons_self
    · exact List.mem_cons_of_mem _ (mem_upFrom (by lia) (by lia))
theorem mem_rowsUp {hi : Nat} : ∀ {l : List Int} {lo : Nat}, l.Pairwise (· ≤ ·) → (∀ x ∈ l, (lo : Int) ≤ x ∧ x ≤ hi) → l ∈ rowsUp hi l.length lo
  | [], lo, _, _ => by simp [rowsUp]
  | a :: l, lo, hs, hb => by
    rw [List.pairwise_cons] at hs
    have ha := hb a List.mem_cons_self
    obtain ⟨v, rfl⟩ := Int.eq_ofNat_of_zero_le (by lia : 0 ≤ a)
    refine List.mem_flatMap.mpr ⟨v, mem_upFrom (by lia) (by lia), List.mem_map.mpr ⟨l, ?_, rfl⟩⟩
    exact mem_rowsUp hs.2 fun x hx => ⟨hs.1 x hx, (hb x (List.mem_cons_of_mem _ hx)).2⟩
theorem sum_perm {l l' : List Int} (h : l.Perm l') : l.sum = l'.sum := by
  induction h with
  | nil => rfl
  | cons a _ ih => simp only [List.sum_cons, ih]
  | swap a b l => simp only [List.sum_cons]; lia
  | trans _ _ i1 i2 => exact i1.trans i2
theorem due_congr {r r' : List Int} (h : r.Perm r') : due r = due r' := by
  have e1 := isort_congr h
  have e2 := sum_perm h
  have e3 : isMirror r = isMirror r' := by unfold isMirror; rw [h.length_eq, e2]
  have e4 : mirror r = mirror r' := by unfold mirror; rw [e2]; exact isort_congr (h.map _)
  unfold due; rw [e1, e3, e4]
noncomputable def InRange (row : List Int) : Prop := 3 ≤ row.length ∧ row.length ≤ 6 ∧ (∀ x ∈ row, 0 ≤ x ∧ x ≤ 7) ∧ (row.length ≠ 4 → ∀ x ∈ row, x ≤ 5)
theorem sums_mem {row : List Int} {B : Int} (hb : ∀ x ∈ row, 0 ≤ x ∧ x ≤ B) : ∀ t ∈ sums row, 0 ≤ t ∧ t ≤ 2 * B := by
  intro t ht
  obtain ⟨k, hk, h⟩ := List.mem_flatMap.mp ht
  obtain ⟨j, hj, rfl⟩ := List.mem_map.mp h
  have hk' := List.mem_range.mp hk
  have hj' := List.mem_range.mp hj
  have h1 := hb _ (getD_mem (l := row) (j := j) (by lia))
  have h2 := hb _ (getD_mem (l := row) (j := k) hk')
  lia
theorem sumsUpto_len (row : List Int) (k : Nat) : (sumsUpto row (k + 1)).length = (sumsUpto row k).length + k := by
  rw [sumsUpto_succ, List.length_append]; simp [sumsAt]
theorem sums_len {row : List Int} (h3 : 3 ≤ row.length) (h6 : row.length ≤ 6) : ((sums row).length : Int) = ((row.length : Int) * ((row.length : Int) - 1)).fdiv 2 ∧ row.length ≤ (sums row).length ∧ (sums row).length ≤ 15 := by
  have l0 : (sumsUpto row 0).length = 0 := rfl
  have l1 : (sumsUpto row 1).length = (sumsUpto row 0).length + 0 := sumsUpto_len row 0
  have l2 : (sumsUpto row 2).length = (sumsUpto row 1).length + 1 := sumsUpto_len row 1
  have l3 : (sumsUpto row 3).length = (sumsUpto row 2).length + 2 := sumsUpto_len row 2
  have l4 : (sumsUpto row 4).length = (sumsUpto row 3).length + 3 := sumsUpto_len row 3
  have l5 : (sumsUpto row 5).length = (sumsUpto row 4).length + 4 := sumsUpto_len row 4
  have l6 : (sumsUpto row 6).length = (sumsUpto row 5).length + 5 := sumsUpto_len row 5
  unfold sums
  have hn : row.length = 3 ∨ row.length = 4 ∨ row.length = 5 ∨ row.length = 6 := by lia
  rcases hn with e | e | e | e
  · rw [e]; refine ⟨?_, by lia, by lia⟩; rw [show (((3 : Nat) : Int) * (((3 : Nat) : Int) - 1)).fdiv 2 = 3 by decide]; lia
  · rw [e]; refine ⟨?_, by lia, by lia⟩; rw [show (((4 : Nat) : Int) * (((4 : Nat) : Int) - 1)).fdiv 2 = 6 by decide]; lia
  · rw [e]; refine ⟨?_, by lia, by lia⟩; rw [show (((5 : Nat) : Int) * (((5 : Nat) : Int) - 1)).fdiv 2 = 10 by decide]; lia
  · rw [e]; refine ⟨?_, by lia, by lia⟩; rw [show (((6 : Nat) : Int) * (((6 : Nat) : Int) - 1)).fdiv 2 = 15 by decide]; lia
theorem found_due (c3 : (rowsUp 5 3 0).all chk = true) (c4 : (rowsUp 7 4 0).all chk = true) (c5 : (rowsUp 5 5 0).all chk = true) (c6 : (rowsUp 5 6 0).all chk = true) {row : List Int} (hr : InRange row) :
    found (tableOf (countsOf (sums row))) (isort (expand (tableOf (countsOf (sums row))))) row.length = some (due row) := by
  obtain ⟨h3, h6, hb, hb6⟩ := hr
  have hp : row.Perm (isort row) := (isort_perm row).symm
  have hs1 := fun t ht => (sums_mem hb t ht).1
  have hs2 : ∀ t ∈ sums (isort row), (0 : Int) ≤ t := fun t ht => (sums_mem (fun x hx => hb x ((isort_perm row).mem_iff.mp hx)) t ht).1
  have e1 : countsOf (sums row) = countsOf (sums (isort row)) := (counts_perm hs1 hs2).mpr (sums_perm hp)
  have e2 : isort (expand (tableOf (countsOf (sums row)))) = isort (sums (isort row)) := by rw [e1]; exact isort_congr (expand_perm hs2)
  have hc : chk (isort row) = true := by
    have hsorted := isort_sorted row
    have hlen := (isort_perm row).length_eq
    have hbnd : ∀ x ∈ isort row, x ∈ row := fun x hx => (isort_perm row).mem_iff.mp hx
    have hn : row.length = 3 ∨ row.length = 4 ∨ row.length = 5 ∨ row.length = 6 := by lia
    rcases hn with e | e | e | e
    · have := mem_rowsUp (hi := 5) (lo := 0) hsorted fun x hx => ⟨by have := hb x (hbnd x hx); lia, by have := hb6 (by lia) x (hbnd x hx); lia⟩
      rw [hlen, e] at this
      exact List.all_eq_true.mp c3 _ this
    · have := mem_rowsUp (hi := 7) (lo := 0) hsorted fun x hx => ⟨by have := hb x (hbnd x hx); lia, by have := hb x (hbnd x hx); lia⟩
      rw [hlen, e] at this
      exact List.all_eq_true.mp c4 _ this
    · have := mem_rowsUp (hi := 5) (lo := 0) hsorted fun x hx => ⟨by have := hb x (hbnd x hx); lia, by have := hb6 (by lia) x (hbnd x hx); lia⟩
      rw [hlen, e] at this
      exact List.all_eq_true.mp c5 _ this
    · have := mem_rowsUp (hi := 5) (lo := 0) hsorted fun x hx => ⟨by have := hb x (hbnd x hx); lia, by have := hb6 (by lia) x (hbnd x hx); lia⟩
      rw [hlen, e] at this
      exact List.all_eq_true.mp c6 _ this
  unfold chk at hc
  rw [beq_iff_eq, (isort_perm row).length_eq] at hc
  rw [e1, due_congr hp]
  rw [e1] at e2
  rw [e2]; exact hc
theorem mem_due (row : List Int) : isort row ∈ due row := by
  unfold due
  split
  · unfold sort2; split <;> simp
  · simp
theorem due_mem {row r : List Int} (h : r ∈ due row) : r = isort row ∨ (isMirror row = true ∧ r = mirror row) := by
  unfold due at h
  split at h
  · rename_i hc
    rw [Bool.and_eq_true] at hc
    unfold sort2 at h
    split at h <;> (simp at h; rcases h with h | h) <;> first | exact .inl h | exact .inr ⟨hc.1, h⟩
  · simp at h; exact .inl h
theorem mirror_sums {row : List Int} (h : isMirror row = true) : (sums (row.map fun x => row.sum.fdiv 2 - x)).Perm (sums row) := by
  unfold isMirror at h
  rw [Bool.and_eq_true, decide_eq_true_iff, beq_iff_eq] at h
  obtain ⟨h4, he⟩ := h
  obtain ⟨a, b, c, d, rfl⟩ := len4 h4
  simp only [List.sum_cons, List.sum_nil, Int.add_zero] at he ⊢
  rw [Int.fmod_eq_emod_of_nonneg _ (by decide)] at he
  rw [Int.fdiv_eq_ediv_of_nonneg _ (by decide)]
  obtain ⟨q, hq⟩ : ∃ q, q = (a + (b + (c + d))) / 2 := ⟨_, rfl⟩
  rw [← hq]
  have e1 : sums [a, b, c, d] = [a + b, a + c, b + c, a + d, b + d, c + d] := rfl
  have e2 : sums ([a, b, c, d].map fun x => q - x) = [c + d, b + d, a + d, b + c, a + c, a + b] := by
    show [q - a + (q - b), q - a + (q - c), q - b + (q - c), q - a + (q - d), q - b + (q - d), q - c + (q - d)] = _
    have h2 : a + (b + (c + d)) = q + q := by lia
    clear hq he h4 e1
    rw [show q - a + (q - b) = c + d by lia, show q - a + (q - c) = b + d by lia, show q - b + (q - c) = a + d by lia, show q - a + (q - d) = b + c by lia, show q - b + (q - d) = a + c by lia, show q - c + (q - d) = a + b by lia]
  rw [e1, e2]
  have : [c + d, b + d, a + d, b + c, a + c, a + b] = [a + b, a + c, b + c, a + d, b + d, c + d].reverse := rfl
  rw [this]; exact List.reverse_perm _
theorem alike (c3 : (rowsUp 5 3 0).all chk = true) (c4 : (rowsUp 7 4 0).all chk = true) (c5 : (rowsUp 5 5 0).all chk = true) (c6 : (rowsUp 5 6 0).all chk = true) {row ot : List Int} (hr : InRange row) (hob : ∀ x ∈ ot, 0 ≤ x ∧ x ≤ 7) (ho : Step row ot ∨ InRange ot) (hl : ot.length = row.length) :
    (countsOf (sums row) == countsOf (sums ot)) = (due row).contains (isort ot) := by
  have hs1 := fun t ht => (sums_mem hr.2.2.1 t ht).1
  have hs2 := fun t ht => (sums_mem hob t ht).1
  rw [Bool.eq_iff_iff, beq_iff_eq, List.contains_iff_mem]
  constructor
  · intro e
    rcases ho with ⟨a, b, d, mid, rfl, rfl, hd, hn⟩ | ho
    · rw [isort_congr (moved ((counts_perm hs1 hs2).mp e) hd hn).symm]
      exact mem_due _
    have f1 := found_due c3 c4 c5 c6 hr
    have f2 := found_due c3 c4 c5 c6 ho
    rw [e, ← hl, f2] at f1
    rw [← Option.some.inj f1]
    exact mem_due ot
  · intro h
    rw [counts_perm hs1 hs2]
    rcases due_mem h with e | ⟨hm, e⟩
    · exact (sums_perm (((isort_perm ot).symm.trans (List.Perm.of_eq e)).trans (isort_perm row))).symm
    · have hp : ot.Perm (row.map fun x => row.sum.fdiv 2 - x) := ((isort_perm ot).symm.trans (List.Perm.of_eq e)).trans (isort_perm _)
      exact ((sums_perm hp).trans (mirror_sums hm)).symm
end Mine
end
section
open PySem PySem.W
set_option maxRecDepth 100000
set_option maxHeartbeats 8000000
set_option linter.all false
namespace Mine
theorem all_up (hi n lo : Nat) (p : List Int → Bool) : (rowsUp hi (n + 1) lo).all p = (upFrom lo (hi + 1 - lo)).all fun (v : Nat) => (rowsUp hi n v).all fun r => p ((v : Int) :: r) := by
  simp only [rowsUp, List.all_flatMap, List.all_map, Function.comp_def]
theorem chk3 : (rowsUp 5 3 0).all chk = true := by decide +kernel
theorem chk4_0_0 : ((rowsUp 7 2 0).all fun r => chk (((0 : Nat) : Int) :: ((0 : Nat) : Int) :: r)) = true := by decide +kernel
theorem chk4_0_1 : ((rowsUp 7 2 1).all fun r => chk (((0 : Nat) : Int) :: ((1 : Nat) : Int) :: r)) = true := by decide +kernel
theorem chk4_0_2 : ((rowsUp 7 2 2).all fun r => chk (((0 : Nat) : Int) :: ((2 : Nat) : Int) :: r)) = true := by decide +kernel
theorem chk4_0_3 : ((rowsUp 7 2 3).all fun r => chk (((0 : Nat) : Int) :: ((3 : Nat) : Int) :: r)) = true := by decide +kernel
theorem chk4_0_4 : ((rowsUp 7 2 4).all fun r => chk (((0 : Nat) : Int) :: ((4 : Nat) : Int) :: r)) = true := by decide +kernel
theorem chk4_0_5 : ((rowsUp 7 2 5).all fun r => chk (((0 : Nat) : Int) :: ((5 : Nat) : Int) :: r)) = true := by decide +kernel
theorem chk4_0_6 : ((rowsUp 7 2 6).all fun r => chk (((0 : Nat) : Int) :: ((6 : Nat) : Int) :: r)) = true := by decide +kernel
theorem chk4_0_7 : ((rowsUp 7 2 7).all fun r => chk (((0 : Nat) : Int) :: ((7 : Nat) : Int) :: r)) = true := by decide +kernel
theorem chk4_0 : ((rowsUp 7 3 0).all fun r => chk (((0 : Nat) : Int) :: r)) = true := by
  rw [all_up]
  show (List.all [0, 1, 2, 3, 4, 5, 6, 7] _) = true
  simp only [List.all_cons, List.all_nil, Bool.and_true, chk4_0_0, chk4_0_1, chk4_0_2, chk4_0_3, chk4_0_4, chk4_0_5, chk4_0_6, chk4_0_7]
theorem chk4_1_1 : ((rowsUp 7 2 1).all fun r => chk (((1 : Nat) : Int) :: ((1 : Nat) : Int) :: r)) = true := by decide +kernel
theorem chk4_1_2 : ((rowsUp 7 2 2).all fun r => chk (((1 : Nat) : Int) :: ((2 : Nat) : Int) :: r)) = true := by decide +kernel
theorem chk4_1_3 : ((rowsUp 7 2 3).all fun r => chk (((1 : Nat) : Int) :: ((3 : Nat) : Int) :: r)) = true := by decide +kernel
theorem chk4_1_4 : ((rowsUp 7 2 4).all fun r => chk (((1 : Nat) : Int) :: ((4 : Nat) : Int) :: r)) = true := by decide +kernel
theorem chk4_1_5 : ((rowsUp 7 2 5).all fun r => chk (((1 : Nat) : Int) :: ((5 : Nat) : Int) :: r)) = true := by decide +kernel
theorem chk4_1_6 : ((rowsUp 7 2 6).all fun r => chk (((1 : Nat) : Int) :: ((6 : Nat) : Int) :: r)) = true := by decide +kernel
theorem chk4_1_7 : ((rowsUp 7 2 7).all fun r => chk (((1 : Nat) : Int) :: ((7 : Nat) : Int) :: r)) = true := by decide +kernel
theorem chk4_1 : ((rowsUp 7 3 1).all fun r => chk (((1 : Nat) : Int) :: r)) = true := by
  rw [all_up]
  show (List.all [1, 2, 3, 4, 5, 6, 7] _) = true
  simp only [List.all_cons, List.all_nil, Bool.and_true, chk4_1_1, chk4_1_2, chk4_1_3, chk4_1_4, chk4_1_5, chk4_1_6, chk4_1_7]
theorem chk4_2_2 : ((rowsUp 7 2 2).all fun r => chk (((2 : Nat) : Int) :: ((2 : Nat) : Int) :: r)) = true := by decide +kernel
theorem chk4_2_3 : ((rowsUp 7 2 3).all fun r => chk (((2 : Nat) : Int) :: ((3 : Nat) : Int) :: r)) = true := by decide +kernel
theorem chk4_2_4 : ((rowsUp 7 2 4).all fun r => chk (((2 : Nat) : Int) :: ((4 : Nat) : Int) :: r)) = true := by decide +kernel
theorem chk4_2_5 : ((rowsUp 7 2 5).all fun r => chk (((2 : Nat) : Int) :: ((5 : Nat) : Int) :: r)) = true := by decide +kernel
theorem chk4_2_6 : ((rowsUp 7 2 6).all fun r => chk (((2 : Nat) : Int) :: ((6 : Nat) : Int) :: r)) = true := by decide +kernel
theorem chk4_2_7 : ((rowsUp 7 2 7).all fun r => chk (((2 : Nat) : Int) :: ((7 : Nat) : Int) :: r)) = true := by decide +kernel
theorem chk4_2 : ((rowsUp 7 3 2).all fun r => chk (((2 : Nat) : Int) :: r)) = true := by
  rw [all_up]
  show (List.all [2, 3, 4, 5, 6, 7] _) = true
  simp only [List.all_cons, List.all_nil, Bool.and_true, chk4_2_2, chk4_2_3, chk4_2_4, chk4_2_5, chk4_2_6, chk4_2_7]
theorem chk4_3_3 : ((rowsUp 7 2 3).all fun r => chk (((3 : Nat) : Int) :: ((3 : Nat) : Int) :: r)) = true := by decide +kernel
theorem chk4_3_4 : ((rowsUp 7 2 4).all fun r => chk (((3 : Nat) : Int) :: ((4 : Nat) : Int) :: r)) = true := by decide +kernel
theorem chk4_3_5 : ((rowsUp 7 2 5).all fun r => chk (((3 : Nat) : Int) :: ((5 : Nat) : Int) :: r)) = true := by decide +kernel
theorem chk4_3_6 : ((rowsUp 7 2 6).all fun r => chk (((3 : Nat) : Int) :: ((6 : Nat) : Int) :: r)) = true := by decide +kernel
theorem chk4_3_7 : ((rowsUp 7 2 7).all fun r => chk (((3 : Nat) : Int) :: ((7 : Nat) : Int) :: r)) = true := by decide +kernel
theorem chk4_3 : ((rowsUp 7 3 3).all fun r => chk (((3 : Nat) : Int) :: r)) = true := by
  rw [all_up]
  show (List.all [3, 4, 5, 6, 7] _) = true
  simp only [List.all_cons, List.all_nil, Bool.and_true, chk4_3_3, chk4_3_4, chk4_3_5, chk4_3_6, chk4_3_7]
theorem chk4_4_4 : ((rowsUp 7 2 4).all fun r => chk (((4 : Nat) : Int) :: ((4 : Nat) : Int) :: r)) = true := by decide +kernel
theorem chk4_4_5 : ((rowsUp 7 2 5).all fun r => chk (((4 : Nat) : Int) :: ((5 : Nat) : Int) :: r)) = true := by decide +kernel
theorem chk4_4_6 : ((rowsUp 7 2 6).all fun r => chk (((4 : Nat) : Int) :: ((6 : Nat) : Int) :: r)) = true := by decide +kernel
theorem chk4_4_7 : ((rowsUp 7 2 7).all fun r => chk (((4 : Nat) : Int) :: ((7 : Nat) : Int) :: r)) = true := by decide +kernel
theorem chk4_4 : ((rowsUp 7 3 4).all fun r => chk (((4 : Nat) : Int) :: r)) = true := by
  rw [all_up]
  show (List.all [4, 5, 6, 7] _) = true
  simp only [List.all_cons, List.all_nil, Bool.and_true, chk4_4_4, chk4_4_5, chk4_4_6, chk4_4_7]
theorem chk4_5_5 : ((rowsUp 7 2 5).all fun r => chk (((5 : Nat) : Int) :: ((5 : Nat) : Int) :: r)) = true := by decide +kernel
theorem chk4_5_6 : ((rowsUp 7 2 6).all fun r => chk (((5 : Nat) : Int) :: ((6 : Nat) : Int) :: r)) = true := by decide +kernel
theorem chk4_5_7 : ((rowsUp 7 2 7).all fun r => chk (((5 : Nat) : Int) :: ((7 : Nat) : Int) :: r)) = true := by decide +kernel
theorem chk4_5 : ((rowsUp 7 3 5).all fun r => chk (((5 : Nat) : Int) :: r)) = true := by
  rw [all_up]
  show (List.all [5, 6, 7] _) = true
  simp only [List.all_cons, List.all_nil, Bool.and_true, chk4_5_5, chk4_5_6, chk4_5_7]
theorem chk4_6_6 : ((rowsUp 7 2 6).all fun r => chk (((6 : Nat) : Int) :: ((6 : Nat) : Int) :: r)) = true := by decide +kernel
theorem chk4_6_7 : ((rowsUp 7 2 7).all fun r => chk (((6 : Nat) : Int) :: ((7 : Nat) : Int) :: r)) = true := by decide +kernel
theorem chk4_6 : ((rowsUp 7 3 6).all fun r => chk (((6 : Nat) : Int) :: r)) = true := by
  rw [all_up]
  show (List.all [6, 7] _) = true
  simp only [List.all_cons, List.all_nil, Bool.and_true, chk4_6_6, chk4_6_7]
theorem chk4_7_7 : ((rowsUp 7 2 7).all fun r => chk (((7 : Nat) : Int) :: ((7 : Nat) : Int) :: r)) = true := by decide +kernel
theorem chk4_7 : ((rowsUp 7 3 7).all fun r => chk (((7 : Nat) : Int) :: r)) = true := by
  rw [all_up]
  show (List.all [7] _) = true
  simp only [List.all_cons, List.all_nil, Bool.and_true, chk4_7_7]
theorem chk4 : (rowsUp 7 4 0).all chk = true := by
  rw [all_up]
  show (List.all [0, 1, 2, 3, 4, 5, 6, 7] _) = true
  simp only [List.all_cons, List.all_nil, Bool.and_true, chk4_0, chk4_1, chk4_2, chk4_3, chk4_4, chk4_5, chk4_6, chk4_7]
theorem chk5_0_0 : ((rowsUp 5 3 0).all fun r => chk (((0 : Nat) : Int) :: ((0 : Nat) : Int) :: r)) = true := by decide +kernel
theorem chk5_0_1 : ((rowsUp 5 3 1).all fun r => chk (((0 : Nat) : Int) :: ((1 : Nat) : Int) :: r)) = true := by decide +kernel
theorem chk5_0_2 : ((rowsUp 5 3 2).all fun r => chk (((0 : Nat) : Int) :: ((2 : Nat) : Int) :: r)) = true := by decide +kernel
theorem chk5_0_3 : ((rowsUp 5 3 3).all fun r => chk (((0 : Nat) : Int) :: ((3 : Nat) : Int) :: r)) = true := by decide +kernel
theorem chk5_0_4 : ((rowsUp 5 3 4).all fun r => chk (((0 : Nat) : Int) :: ((4 : Nat) : Int) :: r)) = true := by decide +kernel
theorem chk5_0_5 : ((rowsUp 5 3 5).all fun r => chk (((0 : Nat) : Int) :: ((5 : Nat) : Int) :: r)) = true := by decide +kernel
theorem chk5_0 : ((rowsUp 5 4 0).all fun r => chk (((0 : Nat) : Int) :: r)) = true := by
  rw [all_up]
  show (List.all [0, 1, 2, 3, 4, 5] _) = true
  simp only [List.all_cons, List.all_nil, Bool.and_true, chk5_0_0, chk5_0_1, chk5_0_2, chk5_0_3, chk5_0_4, chk5_0_5]
theorem chk5_1_1 : ((rowsUp 5 3 1).all fun r => chk (((1 : Nat) : Int) :: ((1 : Nat) : Int) :: r)) = true := by decide +kernel
theorem chk5_1_2 : ((rowsUp 5 3 2).all fun r => chk (((1 : Nat) : Int) :: ((2 : Nat) : Int) :: r)) = true := by decide +kernel
theorem chk5_1_3 : ((rowsUp 5 3 3).all fun r => chk (((1 : Nat) : Int) :: ((3 : Nat) : Int) :: r)) = true := by decide +kernel
theorem chk5_1_4 : ((rowsUp 5 3 4).all fun r => chk (((1 : Nat) : Int) :: ((4 : Nat) : Int) :: r)) = true := by decide +kernel
theorem chk5_1_5 : ((rowsUp 5 3 5).all fun r => chk (((1 : Nat) : Int) :: ((5 : Nat) : Int) :: r)) = true := by decide +kernel
theorem chk5_1 : ((rowsUp 5 4 1).all fun r => chk (((1 : Nat) : Int) :: r)) = true := by
  rw [all_up]
  show (List.all [1, 2, 3, 4, 5] _) = true
  simp only [List.all_cons, List.all_nil, Bool.and_true, chk5_1_1, chk5_1_2, chk5_1_3, chk5_1_4, chk5_1_5]
theorem chk5_2_2 : ((rowsUp 5 3 2).all fun r => chk (((2 : Nat) : Int) :: ((2 : Nat) : Int) :: r)) = true := by decide +kernel
theorem chk5_2_3 : ((rowsUp 5 3 3).all fun r => chk (((2 : Nat) : Int) :: ((3 : Nat) : Int) :: r)) = true := by decide +kernel
theorem chk5_2_4 : ((rowsUp 5 3 4).all fun r => chk (((2 : Nat) : Int) :: ((4 : Nat) : Int) :: r)) = true := by decide +kernel
theorem chk5_2_5 : ((rowsUp 5 3 5).all fun r => chk (((2 : Nat) : Int) :: ((5 : Nat) : Int) :: r)) = true := by decide +kernel
theorem chk5_2 : ((rowsUp 5 4 2).all fun r => chk (((2 : Nat) : Int) :: r)) = true := by
  rw [all_up]
  show (List.all [2, 3, 4, 5] _) = true
  simp only [List.all_cons, List.all_nil, Bool.and_true, chk5_2_2, chk5_2_3, chk5_2_4, chk5_2_5]
theorem chk5_3_3 : ((rowsUp 5 3 3).all fun r => chk (((3 : Nat) : Int) :: ((3 : Nat) : Int) :: r)) = true := by decide +kernel
theorem chk5_3_4 : ((rowsUp 5 3 4).all fun r => chk (((3 : Nat) : Int) :: ((4 : Nat) : Int) :: r)) = true := by decide +kernel
theorem chk5_3_5 : ((rowsUp 5 3 5).all fun r => chk (((3 : Nat) : Int) :: ((5 : Nat) : Int) :: r)) = true := by decide +kernel
theorem chk5_3 : ((rowsUp 5 4 3).all fun r => chk (((3 : Nat) : Int) :: r)) = true := by
  rw [all_up]
  show (List.all [3, 4, 5] _) = true
  simp only [List.all_cons, List.all_nil, Bool.and_true, chk5_3_3, chk5_3_4, chk5_3_5]
theorem chk5_4_4 : ((rowsUp 5 3 4).all fun r => chk (((4 : Nat) : Int) :: ((4 : Nat) : Int) :: r)) = true := by decide +kernel
theorem chk5_4_5 : ((rowsUp 5 3 5).all fun r => chk (((4 : Nat) : Int) :: ((5 : Nat) : Int) :: r)) = true := by decide +kernel
theorem chk5_4 : ((rowsUp 5 4 4).all fun r => chk (((4 : Nat) : Int) :: r)) = true := by
  rw [all_up]
  show (List.all [4, 5] _) = true
  simp only [List.all_cons, List.all_nil, Bool.and_true, chk5_4_4, chk5_4_5]
theorem chk5_5_5 : ((rowsUp 5 3 5).all fun r => chk (((5 : Nat) : Int) :: ((5 : Nat) : Int) :: r)) = true := by decide +kernel
theorem chk5_5 : ((rowsUp 5 4 5).all fun r => chk (((5 : Nat) : Int) :: r)) = true := by
  rw [all_up]
  show (List.all [5] _) = true
  simp only [List.all_cons, List.all_nil, Bool.and_true, chk5_5_5]
theorem chk5 : (rowsUp 5 5 0).all chk = true := by
  rw [all_up]
  show (List.all [0, 1, 2, 3, 4, 5] _) = true
  simp only [List.all_cons, List.all_nil, Bool.and_true, chk5_0, chk5_1, chk5_2, chk5_3, chk5_4, chk5_5]
theorem chk6_0_0_0 : ((rowsUp 5 3 0).all fun r => chk (((0 : Nat) : Int) :: ((0 : Nat) : Int) :: ((0 : Nat) : Int) :: r)) = true := by decide +kernel
theorem chk6_0_0_1 : ((rowsUp 5 3 1).all fun r => chk (((0 : Nat) : Int) :: ((0 : Nat) : Int) :: ((1 : Nat) : Int) :: r)) = true := by decide +kernel
theorem chk6_0_0_2 : ((rowsUp 5 3 2).all fun r => chk (((0 : Nat) : Int) :: ((0 : Nat) : Int) :: ((2 : Nat) : Int) :: r)) = true := by decide +kernel
theorem chk6_0_0_3 : ((rowsUp 5 3 3).all fun r => chk (((0 : Nat) : Int) :: ((0 : Nat) : Int) :: ((3 : Nat) : Int) :: r)) = true := by decide +kernel
theorem chk6_0_0_4 : ((rowsUp 5 3 4).all fun r => chk (((0 : Nat) : Int) :: ((0 : Nat) : Int) :: ((4 : Nat) : Int) :: r)) = true := by decide +kernel
theorem chk6_0_0_5 : ((rowsUp 5 3 5).all fun r => chk (((0 : Nat) : Int) :: ((0 : Nat) : Int) :: ((5 : Nat) : Int) :: r)) = true := by decide +kernel
theorem chk6_0_0 : ((rowsUp 5 4 0).all fun r => chk (((0 : Nat) : Int) :: ((0 : Nat) : Int) :: r)) = true := by
  rw [all_up]
  show (List.all [0, 1, 2, 3, 4, 5] _) = true
  simp only [List.all_cons, List.all_nil, Bool.and_true, chk6_0_0_0, chk6_0_0_1, chk6_0_0_2, chk6_0_0_3, chk6_0_0_4, chk6_0_0_5]
theorem chk6_0_1_1 : ((rowsUp 5 3 1).all fun r => chk (((0 : Nat) : Int) :: ((1 : Nat) : Int) :: ((1 : Nat) : Int) :: r)) = true := by decide +kernel
theorem chk6_0_1_2 : ((rowsUp 5 3 2).all fun r => chk (((0 : Nat) : Int) :: ((1 : Nat) : Int) :: ((2 : Nat) : Int) :: r)) = true := by decide +kernel
theorem chk6_0_1_3 : ((rowsUp 5 3 3).all fun r => chk (((0 : Nat) : Int) :: ((1 : Nat) : Int) :: ((3 : Nat) : Int) :: r)) = true := by decide +kernel
theorem chk6_0_1_4 : ((rowsUp 5 3 4).all fun r => chk (((0 : Nat) : Int) :: ((1 : Nat) : Int) :: ((4 : Nat) : Int) :: r)) = true := by decide +kernel
theorem chk6_0_1_5 : ((rowsUp 5 3 5).all fun r => chk (((0 : Nat) : Int) :: ((1 : Nat) : Int) :: ((5 : Nat) : Int) :: r)) = true := by decide +kernel
theorem chk6_0_1 : ((rowsUp 5 4 1).all fun r => chk (((0 : Nat) : Int) :: ((1 : Nat) : Int) :: r)) = true := by
  rw [all_up]
  show (List.all [1, 2, 3, 4, 5] _) = true
  simp only [List.all_cons, List.all_nil, Bool.and_true, chk6_0_1_1, chk6_0_1_2, chk6_0_1_3, chk6_0_1_4, chk6_0_1_5]
theorem chk6_0_2_2 : ((rowsUp 5 3 2).all fun r => chk (((0 : Nat) : Int) :: ((2 : Nat) : Int) :: ((2 : Nat) : Int) :: r)) = true := by decide +kernel
theorem chk6_0_2_3 : ((rowsUp 5 3 3).all fun r => chk (((0 : Nat) : Int) :: ((2 : Nat) : Int) :: ((3 : Nat) : Int) :: r)) = true := by decide +kernel
theorem chk6_0_2_4 : ((rowsUp 5 3 4).all fun r => chk (((0 : Nat) : Int) :: ((2 : Nat) : Int) :: ((4 : Nat) : Int) :: r)) = true := by decide +kernel
theorem chk6_0_2_5 : ((rowsUp 5 3 5).all fun r => chk (((0 : Nat) : Int) :: ((2 : Nat) : Int) :: ((5 : Nat) : Int) :: r)) = true := by decide +kernel
theorem chk6_0_2 : ((rowsUp 5 4 2).all fun r => chk (((0 : Nat) : Int) :: ((2 : Nat) : Int) :: r)) = true := by
  rw [all_up]
  show (List.all [2, 3, 4, 5] _) = true
  simp only [List.all_cons, List.all_nil, Bool.and_true, chk6_0_2_2, chk6_0_2_3, chk6_0_2_4, chk6_0_2_5]
theorem chk6_0_3 : ((rowsUp 5 4 3).all fun r => chk (((0 : Nat) : Int) :: ((3 : Nat) : Int) :: r)) = true := by decide +kernel
theorem chk6_0_4 : ((rowsUp 5 4 4).all fun r => chk (((0 : Nat) : Int) :: ((4 : Nat) : Int) :: r)) = true := by decide +kernel
theorem chk6_0_5 : ((rowsUp 5 4 5).all fun r => chk (((0 : Nat) : Int) :: ((5 : Nat) : Int) :: r)) = true := by decide +kernel
theorem chk6_0 : ((rowsUp 5 5 0).all fun r => chk (((0 : Nat) : Int) :: r)) = true := by
  rw [all_up]
  show (List.all [0, 1, 2, 3, 4, 5] _) = true
  simp only [List.all_cons, List.all_nil, Bool.and_true, chk6_0_0, chk6_0_1, chk6_0_2, chk6_0_3, chk6_0_4, chk6_0_5]
theorem chk6_1_1_1 : ((rowsUp 5 3 1).all fun r => chk (((1 : Nat) : Int) :: ((1 : Nat) : Int) :: ((1 : Nat) : Int) :: r)) = true := by decide +kernel
theorem chk6_1_1_2 : ((rowsUp 5 3 2).all fun r => chk (((1 : Nat) : Int) :: ((1 : Nat) : Int) :: ((2 : Nat) : Int) :: r)) = true := by decide +kernel
theorem chk6_1_1_3 : ((rowsUp 5 3 3).all fun r => chk (((1 : Nat) : Int) :: ((1 : Nat) : Int) :: ((3 : Nat) : Int) :: r)) = true := by decide +kernel
theorem chk6_1_1_4 : ((rowsUp 5 3 4).all fun r => chk (((1 : Nat) : Int) :: ((1 : Nat) : Int) :: ((4 : Nat) : Int) :: r)) = true := by decide +kernel
theorem chk6_1_1_5 : ((rowsUp 5 3 5).all fun r => chk (((1 : Nat) : Int) :: ((1 : Nat) : Int) :: ((5 : Nat) : Int) :: r)) = true := by decide +kernel
theorem chk6_1_1 : ((rowsUp 5 4 1).all fun r => chk (((1 : Nat) : Int) :: ((1 : Nat) : Int) :: r)) = true := by
  rw [all_up]
  show (List.all [1, 2, 3, 4, 5] _) = true
  simp only [List.all_cons, List.all_nil, Bool.and_true, chk6_1_1_1, chk6_1_1_2, chk6_1_1_3, chk6_1_1_4, chk6_1_1_5]
theorem chk6_1_2_2 : ((rowsUp 5 3 2).all fun r => chk (((1 : Nat) : Int) :: ((2 : Nat) : Int) :: ((2 : Nat) : Int) :: r)) = true := by decide +kernel
theorem chk6_1_2_3 : ((rowsUp 5 3 3).all fun r => chk (((1 : Nat) : Int) :: ((2 : Nat) : Int) :: ((3 : Nat) : Int) :: r)) = true := by decide +kernel
theorem chk6_1_2_4 : ((rowsUp 5 3 4).all fun r => chk (((1 : Nat) : Int) :: ((2 : Nat) : Int) :: ((4 : Nat) : Int) :: r)) = true := by decide +kernel
theorem chk6_1_2_5 : ((rowsUp 5 3 5).all fun r => chk (((1 : Nat) : Int) :: ((2 : Nat) : Int) :: ((5 : Nat) : Int) :: r)) = true := by decide +kernel
theorem chk6_1_2 : ((rowsUp 5 4 2).all fun r => chk (((1 : Nat) : Int) :: ((2 : Nat) : Int) :: r)) = true := by
  rw [all_up]
  show (List.all [2, 3, 4, 5] _) = true
  simp only [List.all_cons, List.all_nil, Bool.and_true, chk6_1_2_2, chk6_1_2_3, chk6_1_2_4, chk6_1_2_5]
theorem chk6_1_3 : ((rowsUp 5 4 3).all fun r => chk (((1 : Nat) : Int) :: ((3 : Nat) : Int) :: r)) = true := by decide +kernel
theorem chk6_1_4 : ((rowsUp 5 4 4).all fun r => chk (((1 : Nat) : Int) :: ((4 : Nat) : Int) :: r)) = true := by decide +kernel
theorem chk6_1_5 : ((rowsUp 5 4 5).all fun r => chk (((1 : Nat) : Int) :: ((5 : Nat) : Int) :: r)) = true := by decide +kernel
theorem chk6_1 : ((rowsUp 5 5 1).all fun r => chk (((1 : Nat) : Int) :: r)) = true := by
  rw [all_up]
  show (List.all [1, 2, 3, 4, 5] _) = true
  simp only [List.all_cons, List.all_nil, Bool.and_true, chk6_1_1, chk6_1_2, chk6_1_3, chk6_1_4, chk6_1_5]
theorem chk6_2_2 : ((rowsUp 5 4 2).all fun r => chk (((2 : Nat) : Int) :: ((2 : Nat) : Int) :: r)) = true := by decide +kernel
theorem chk6_2_3 : ((rowsUp 5 4 3).all fun r => chk (((2 : Nat) : Int) :: ((3 : Nat) : Int) :: r)) = true := by decide +kernel
theorem chk6_2_4 : ((rowsUp 5 4 4).all fun r => chk (((2 : Nat) : Int) :: ((4 : Nat) : Int) :: r)) = true := by decide +kernel
theorem chk6_2_5 : ((rowsUp 5 4 5).all fun r => chk (((2 : Nat) : Int) :: ((5 : Nat) : Int) :: r)) = true := by decide +kernel
theorem chk6_2 : ((rowsUp 5 5 2).all fun r => chk (((2 : Nat) : Int) :: r)) = true := by
  rw [all_up]
  show (List.all [2, 3, 4, 5] _) = true
  simp only [List.all_cons, List.all_nil, Bool.and_true, chk6_2_2, chk6_2_3, chk6_2_4, chk6_2_5]
theorem chk6_3_3 : ((rowsUp 5 4 3).all fun r => chk (((3 : Nat) : Int) :: ((3 : Nat) : Int) :: r)) = true := by decide +kernel
theorem chk6_3_4 : ((rowsUp 5 4 4).all fun r => chk (((3 : Nat) : Int) :: ((4 : Nat) : Int) :: r)) = true := by decide +kernel
theorem chk6_3_5 : ((rowsUp 5 4 5).all fun r => chk (((3 : Nat) : Int) :: ((5 : Nat) : Int) :: r)) = true := by decide +kernel
theorem chk6_3 : ((rowsUp 5 5 3).all fun r => chk (((3 : Nat) : Int) :: r)) = true := by
  rw [all_up]
  show (List.all [3, 4, 5] _) = true
  simp only [List.all_cons, List.all_nil, Bool.and_true, chk6_3_3, chk6_3_4, chk6_3_5]
theorem chk6_4_4 : ((rowsUp 5 4 4).all fun r => chk (((4 : Nat) : Int) :: ((4 : Nat) : Int) :: r)) = true := by decide +kernel
theorem chk6_4_5 : ((rowsUp 5 4 5).all fun r => chk (((4 : Nat) : Int) :: ((5 : Nat) : Int) :: r)) = true := by decide +kernel
theorem chk6_4 : ((rowsUp 5 5 4).all fun r => chk (((4 : Nat) : Int) :: r)) = true := by
  rw [all_up]
  show (List.all [4, 5] _) = true
  simp only [List.all_cons, List.all_nil, Bool.and_true, chk6_4_4, chk6_4_5]
theorem chk6_5_5 : ((rowsUp 5 4 5).all fun r => chk (((5 : Nat) : Int) :: ((5 : Nat) : Int) :: r)) = true := by decide +kernel
theorem chk6_5 : ((rowsUp 5 5 5).all fun r => chk (((5 : Nat) : Int) :: r)) = true := by
  rw [all_up]
  show (List.all [5] _) = true
  simp only [List.all_cons, List.all_nil, Bool.and_true, chk6_5_5]
theorem chk6 : (rowsUp 5 6 0).all chk = true := by
  rw [all_up]
  show (List.all [0, 1, 2, 3, 4, 5] _) = true
  simp only [List.all_cons, List.all_nil, Bool.and_true, chk6_0, chk6_1, chk6_2, chk6_3, chk6_4, chk6_5]
end Mine
end
section
open PySem PySem.W PyProof.Rows
set_option maxRecDepth 100000
set_option maxHeartbeats 8000000
set_option linter.all false
namespace Mine
theorem law_good {prog : Program} {w : World} {s : Shared} {h₁ b3 : Heap} {mg mb : Str → Option Value} {ho : Addr} {vs : List Value} {ns : List Int} {mL : Str → Option Value} {A : Around} {t : Sem Flow} {f : Flow → Shared → Prop} {E : Value → Shared → Prop} {tk : Nat}
    (KX : (KF w.params).In h₁) (lim : h₁.NoLimit) (hg : h₁.Ns mainGlobals mg) (hb : h₁.Ns builtinsNs mb) (hbt : ∀ x : Str, x ≠ "__name__" → mb x = bootBuiltins x)
    (W : Well w.params h₁ (.ref ho) (ofPy (.list (ns.map .int)))) (X : h₁.IsList ho vs.toArray) (B : IntsAre vs ns) (F : Fr h₁ h₁.objs.size b3 mL) (hm : mL "script" = some (.ref ho))
    (h : ∀ c : Cx, c.prog = prog → c.w = w → c.K = KF c.w.params → ∀ H : Sto, H ho = some (false, .list (zs ns)) →
      TR c A h₁.objs.size t [("script", .ref ho)] H (PS fun fl _ _ => fl = .ret (.bool true)))
    (k : ∀ h' tk', (∀ b o, h₁.get? b = some o → h'.get? b = some o) → f (.ret (.bool true)) { s with heap := h', toks := tk' }) :
    wpAny (model prog w) A t f E { s with heap := b3, toks := tk } := by
  let c : Cx := { prog := prog, w := w, hB := h₁, K := KF w.params, KIn := KX, lim := lim, mg := mg, mb := mb, hg := hg, hb := hb, hbt := hbt }
  obtain ⟨o, e1, e2, n, e3⟩ := X
  have hob : OM c o (.list (zs ns)) := by
    have W' : Well w.params h₁ (.ref ho) (.list (ofPys (ns.map .int))) := W
    cases W' with
    | list q _ =>
      rw [e1] at q
      cases q
      simp only [Data.seq.injEq] at e3
      refine ⟨_, _, rfl, ?_⟩
      rw [e3.1]
      exact VRs.ofInts B
  have hlt : ho < h₁.objs.size := Heap.lt_size e1
  have R : Rel c (fun b => (h₁.get? b).map fun o => (false, o)) h₁.objs.size [("script", .ref ho)] (fun x => if x = ho then some (false, .list (zs ns)) else none) b3 := by
    refine ⟨⟨mL, F.ns, fun x v e => ?_⟩, fun b o e => ⟨false, ?_⟩, fun b x o e => ?_, ?_, fun a b o' e => ?_⟩
    · rw [List.lookup_cons] at e
      by_cases hx : x = "script"
      · subst hx; simp at e; subst e; exact ⟨_, hm, rfl⟩
      · have : (x == ("script" : Str)) = false := by simpa using hx
        rw [this] at e; simp at e
    · show (h₁.get? b).map _ = _
      have e' : h₁.get? b = some o := e
      rw [e']; rfl
    · cases q : h₁.get? b with
      | none => simp only [q, Option.map_none] at e; cases e
      | some o₂ => simp only [q, Option.map_some, Option.some.injEq, Prod.mk.injEq] at e; rw [← e.2]; exact F.keep b o₂ q
    · show (h₁.get? _).map _ = none
      rw [Heap.get?_none_of_le (Nat.le_refl _)]; rfl
    · by_cases ha : a = ho
      · subst ha
        simp only [if_true, Option.some.injEq, Prod.mk.injEq] at e
        obtain ⟨rfl, rfl⟩ := e
        refine ⟨⟨o, F.keep _ _ e1, hob, fun _ => ?_⟩, Nat.ne_of_lt hlt, (fun q => by cases q), fun _ q => by cases q⟩
        show (h₁.get? a).map _ = _
        rw [e1]; rfl
      · simp only [ha, if_false] at e; cases e
  refine step_wp (c := c) (s := { s with heap := b3, toks := tk }) (h c rfl rfl rfl _ (by simp)) R fun fl h' tk' m' H' R' ⟨fl', hfl, e⟩ => ?_
  subst e
  obtain ⟨cv, rfl, hv⟩ := hfl
  cases hv
  exact k h' tk' fun b o e => R'.has e
end Mine
end
section
open PySem PySem.W PyProof.Rows
set_option maxRecDepth 100000
set_option maxHeartbeats 8000000
set_option linter.all false
namespace Mine
theorem LL.sub {H H' : Sto} {v : V} {nss : List (List Int)} (h : LL H v nss) (hs : HSub H H') : LL H' v nss := let ⟨a, b, l, e, x, y⟩ := h; ⟨a, b, l, e, hs _ _ x, y.imp fun _ _ q => q.sub hs⟩
theorem callerRoom (env : Env) : Room 12 (callerA.deeper env) := ⟨rfl, by show callerA.depth + 1 + 12 ≤ 900; decide, by show callerA.units + 3 + 16 * 12 ≤ 9000; decide⟩
end Mine
open Mine
theorem PySem.Challenge.cw_pg0220_01_holds : PySem.Challenge.rw_pg0220_01.Holds := by
  refine Mine.hd ?_
  k_go0
  rename_i w s₀ s₁ mg mb G Y fa o pm doc kV ho hg KX X V0 GL T B TE TW w1 w0 M a1 a2 hcd ns q1 q2 q3 q4 q5 as1 as2 l vs as3 XL RA WL RD IA RW LE tr BL BA b3 F last
  refine Mine.law_good (s := s₁) (mg := mg) (mb := mb) (ns := ns) (vs := vs) KX T.nolimit T.g T.b T.builtins WL XL IA F rfl (fun c hcp hcw hK H hH => ?_) (fun h' tk' hk => ?_)
  · have hA : ∀ env, (callerA.deeper env).handled = none := fun env => rfl
    have hns : ns.length ≤ 63 := by lia
    clear G Y X V0 GL B TE TW M hcd q1 q2 q3 q4 q5 RA WL RD RW LE tr BL BA F last
    change WS c _ (envOf _ _ _ _ _) _ _ _ (fun fl _ _ => fl = Fl.ret (V.bool true))
    refine WS.cons (W1.assign (WE.gcall1 (gk hK) (kk hK) (WE.loc rfl (c_draws hK ((callerRoom _).le (by lia)) hH hns fun D₁ H₁ ds hs₁ hD₁ hdl hdb => ?_))))
    have hdsum := sum_nn (B := 100000) (by decide) hdb
    have hdb2 : ∀ x ∈ ds, 0 ≤ x ∧ x ≤ 1000000000 := fun x hx => by have := hdb x hx; lia
    refine WS.cons (W1.assign (WE.binop (WE.int (WE.binop (WE.bcall1 (gn hK) PyProof.Rows.Boot.sum (v := .bi "sum") rfl trivial (WE.loc rfl (call_sum (hA _) hD₁ (by lia) hdb2 (WE.int (op_fmod (by decide) (op_add ?_))))))))))
    obtain ⟨n, hn, hn3, hn6⟩ : ∃ n : Nat, (3 : Int) + ds.sum.fmod 4 = (n : Int) ∧ 3 ≤ n ∧ n ≤ 6 := by
      have h1 := Int.fmod_nonneg_of_pos ds.sum (b := 4) (by decide)
      have h2 := Int.fmod_lt_of_pos ds.sum (b := 4) (by decide)
      exact ⟨(3 + ds.sum.fmod 4).toNat, by lia, by lia, by lia⟩
    rw [hn]
    refine WS.cons (W1.assign_one (items := zs (ds.take n)) (WE.sliceZ none (some (n : Int)) none (by decide) (WE.loc rfl ⟨D₁, true, ds, rfl, hD₁, by lia, trivial, WE.loc rfl ⟨rfl, rfl⟩, trivial, fun S hS => ?_⟩)) (hA _))
    rw [pick_upto]
    have hdn : (ds.take n).length = n := by rw [List.length_take]; lia
    refine ⟨S, true, zs (ds.take n), rfl, upd_same .., by simp; lia, fun i ys H' => ys = zs (((ds.take n).take i).map fun x => x.fmod 6) ∧ H' = upd (upd H₁ S (true, .list (zs (ds.take n)))) S (false, .list (zs (ds.take n))), ⟨rfl, rfl⟩, ?_, ?_⟩
    · rintro C i v ys H' hi hyl ⟨rfl, rfl⟩
      have hlt : i < (ds.take n).length := by simpa using (List.getElem?_eq_some_iff.mp hi).1
      obtain rfl : v = .int ((ds.take n)[i]) := by rw [zs_get hlt, getD_at hlt] at hi; exact (Option.some.inj hi).symm
      refine WE.binop (WE.loc rfl (WE.int (op_fmod (by decide) ⟨_, HSub.refl _, ?_, rfl⟩)))
      rw [List.take_succ_eq_append_getElem hlt, List.map_append]; show _ = List.map V.int _; rw [List.map_append]; rfl
    · rintro ys H' hyl ⟨rfl, rfl⟩ Rw hRw
      rw [show (zs (ds.take n)).length = (ds.take n).length from List.length_map .., List.take_length]
      have hRS := (off hRw).1
      rw [upd_ne _ _ hRS, upd_ne _ _ hRS] at hRw
      obtain ⟨row, hrow⟩ : ∃ row, row = (ds.take n).map fun x => x.fmod 6 := ⟨_, rfl⟩
      have hrl : row.length = n := by rw [hrow, List.length_map, hdn]
      have hrb : ∀ x ∈ row, 0 ≤ x ∧ x ≤ 5 := fun x hx => by
        rw [hrow] at hx
        obtain ⟨y, _, rfl⟩ := List.mem_map.mp hx
        have h1 := Int.fmod_nonneg_of_pos y (b := 6) (by decide)
        have h2 := Int.fmod_lt_of_pos y (b := 6) (by decide)
        lia
      rw [← hrow]
      refine WS.weaken (m' := [("draws", .ref D₁), ("size", .int n), ("row", .ref Rw)]) (H' := upd H₁ Rw (true, .list (zs row))) ?_ (.cons rfl (.cons rfl (.cons rfl .nil))) (fun y z e => by
        simp only [upd] at e ⊢
        by_cases q1 : y = Rw <;> by_cases q2 : y = S <;> simp_all)
      have gR : upd H₁ Rw (true, .list (zs row)) Rw = some (true, .list (zs row)) := upd_same ..
      have gD : upd H₁ Rw (true, .list (zs row)) D₁ = some (true, .list (zs ds)) := upd_get hRw hD₁
      generalize upd H₁ Rw (true, .list (zs row)) = H₂ at gR gD ⊢
      have hIn : InRange row := ⟨by lia, by lia, fun x hx => by have := hrb x hx; lia, fun _ x hx => by have := hrb x hx; lia⟩
      have hsb : ∀ t ∈ sums row, 0 ≤ t ∧ t ≤ 10 := sums_mem hrb
      have hsb2 : ∀ t ∈ sums row, 0 ≤ t ∧ t ≤ 900 := fun t ht => by have := hsb t ht; lia
      have hs0 : ∀ t ∈ sums row, 0 ≤ t := fun t ht => (hsb t ht).1
      obtain ⟨hsl, hsl2, hsl3⟩ := sums_len (row := row) (by lia) (by lia)
      have hcl : (countsOf (sums row)).length ≤ 100 := counts_len (B := 100) fun t ht => by have := hsb t ht; lia
      obtain ⟨rb, rnt, rcs⟩ := run_line (sums row)
      refine WS.cons (W1.assign (WE.gcall1 (gk hK) (kk hK) (WE.gcall1 (gk hK) (kk hK) (WE.loc rfl (c_line hK ((callerRoom _).le (by lia)) gR (by lia) hsb2 (c_init hK (line := lineOf (sums row)) (pre := (sums row).flatMap segL) (post := [32, 9]) (line_cps _) (seg_chars _) (by have := lineL_len (ss := sums row) (by lia) fun t ht => (hsb2 t ht).2; lia) ((callerRoom _).le (by lia)) fun x H₃ hs₃ hw₃ => ?_))))))
      rw [rb, rnt, rcs] at hw₃
      refine WS.cons (W1.assign (WE.gcall1 (gk hK) (kk hK) (WE.sub_tup (WE.norm hK (WE.loc rfl ⟨_, _, _, hw₃, fun nm hnm => ?_⟩)))))
      obtain ⟨na, nb, tv, rfl, hna, ⟨ta, tb, rfl, hta⟩⟩ := hnm
      refine WE.int ⟨IsT.tup hna, op_item_tup (k := 0) (v := .ref ta) hna (by decide) (by decide) rfl (c_table hK ((callerRoom _).le (by lia)) hta (by lia) fun Tb hTb => ?_)⟩
      obtain ⟨k1, k2, k3, k4⟩ := table_ok (ss := sums row) (fun t ht => by have := hsb t ht; lia) (by lia) (by rintro e; rw [e] at hsl2; simp only [List.length_nil] at hsl2; lia)
      have hfd := found_due chk3 chk4 chk5 chk6 hIn
      have hexp := expand_perm hs0
      have htot : ((Mine.tableOf (countsOf (sums row))).map (·.2)).sum = ((sums row).length : Int) := by rw [tot_expand fun p hp => (k4 p hp).1, hexp.length_eq]
      have gT : upd H₃ Tb (true, .dict (tab (Mine.tableOf (countsOf (sums row))))) Tb = some (true, .dict (tab (Mine.tableOf (countsOf (sums row))))) := upd_same ..
      have hw₄ : WSO (upd H₃ Tb (true, .dict (tab (Mine.tableOf (countsOf (sums row)))))) (.ref x) ((sums row).length : Int) (countsOf (sums row)) 0 := hw₃.sub (HSub.new hTb)
      have gR4 : upd H₃ Tb (true, .dict (tab (Mine.tableOf (countsOf (sums row))))) Rw = some (true, .list (zs row)) := upd_get hTb (hs₃ _ _ gR)
      have gD4 : upd H₃ Tb (true, .dict (tab (Mine.tableOf (countsOf (sums row))))) D₁ = some (true, .list (zs ds)) := upd_get hTb (hs₃ _ _ gD)
      generalize upd H₃ Tb (true, .dict (tab (Mine.tableOf (countsOf (sums row))))) = H₄ at gT hw₄ gR4 gD4 ⊢
      refine WS.cons (W1.ite (WT.cond false (WT.or2 (WT.cmp (WE.nt hK (WE.loc rfl ⟨_, _, _, hw₄, ?_⟩)))) ?_))
      · refine WE.binop (WE.binop (WE.loc rfl (WE.binop (WE.loc rfl (WE.int (op_sub (op_mul (mul_small (by lia)) (WE.int (op_fdiv (by decide) (by decide) (op_ne (OPT.bool ?_)))))))))))
        rw [← hrl, ← hsl]
        rw [show (((sums row).length : Int) != ((sums row).length : Int)) = false by simp]
        refine iteF ?_
        refine WT.cmp (WE.gcall1 (gk hK) (kk hK) (WE.loc rfl (c_count hK ((callerRoom _).le (by lia)) gT (WE.nt hK (WE.loc rfl ⟨_, _, _, hw₄, op_ne (OPT.bool ⟨?_, HSub.refl _⟩)⟩)))))
        rw [htot]; simp
      refine iteF ?_
      refine WS.nil ?_
      refine WS.cons (W1.ite (WT.cond false (WT.cmp (WE.gcall2 (gk hK) (kk hK) (WE.loc rfl (WE.loc rfl (c_firsts hK ((callerRoom _).le (by lia)) gT k1 (by lia) k4 (by rw [hexp.length_eq]; lia) fun Fs hFs => ?_))))) ?_))
      · refine WE.sliceZ none (some (n : Int)) none (by decide) (WE.bcall1 (gn hK) PyProof.Rows.Boot.sorted (v := .bi "sorted") rfl trivial (WE.gcall1 (gk hK) (kk hK) (WE.loc rfl (c_sums hK ((callerRoom _).le (by lia)) (upd_get hFs gR4) (by lia) fun Sm hSm => call_isort (ns := sums row) (upd_same ..) (by lia) fun So hSo => ?_))))
        refine ⟨So, true, isort (sums row), rfl, upd_same .., by have := (isort_perm (sums row)).length_eq; lia, trivial, WE.loc rfl ⟨rfl, rfl⟩, trivial, fun Sl hSl => ?_⟩
        rw [pick_upto]
        refine ne_ints (ns := (isort (expand (Mine.tableOf (countsOf (sums row))))).take n) (ms := (isort (sums row)).take n) ((callerRoom _).le (by lia)) ⟨Fs, true, rfl, upd_get hSl (upd_get hSo (upd_get hSm (upd_same ..)))⟩ ⟨Sl, true, rfl, upd_same ..⟩ (OPT.bool ⟨?_, (HSub.new hFs).trans ((HSub.new hSm).trans ((HSub.new hSo).trans (HSub.new hSl)))⟩)
        rw [isort_congr hexp]; simp
      refine iteF ?_
      refine WS.nil ?_
      refine WS.cons (W1.assign (WE.gcall1 (gk hK) (kk hK) (WE.loc rfl (c_due hK ((callerRoom _).le (by lia)) gR4 (by lia) (fun x hx => by have := hrb x hx; lia) fun dv H₅ hs₅ hdue => ?_))))
      refine WS.cons (W1.ite (WT.cond false (WT.cmp (WE.gcall2 (gk hK) (kk hK) (WE.loc rfl (WE.loc rfl (c_found hK ((callerRoom _).le (by lia)) (hs₅ _ _ gT) k1 k2 k3 k4 hn3 (by lia) (by rw [hexp.length_eq]; lia) (by rw [← hrl]; exact hfd) fun fv H₆ hs₆ hfv => WE.loc rfl (ne_lists ((callerRoom _).le (by lia)) hfv (hdue.sub hs₆) (OPT.bool ⟨?_, hs₆⟩))))))) ?_))
      · simp
      refine iteF ?_
      refine WS.nil ?_
      refine WS.cons (W1.assign (WE.gcall2 (gk hK) (kk hK) (WE.loc rfl (WE.binop (WE.binop (WE.bcall1 (gn hK) PyProof.Rows.Boot.sum (v := .bi "sum") rfl trivial (WE.loc rfl (call_sum (hA _) (hs₅ _ _ gD4) (by lia) hdb2 (WE.int (op_fdiv (by decide) (by decide) (WE.int (op_fmod (by decide) (c_other hK ((callerRoom _).le (by lia)) (hs₅ _ _ gR4) (by lia) (by lia) hrb fun Ot H₆ ot hs₆ hOt hol hob hob6 => ?_)))))))))))))
      have hIo : Mine.Step row ot ∨ InRange ot := hob6.imp id fun o5 => ⟨by lia, by lia, hob, fun q => o5 (by lia)⟩
      have hso : ∀ t ∈ sums ot, 0 ≤ t ∧ t ≤ 14 := sums_mem hob
      have hso2 : ∀ t ∈ sums ot, 0 ≤ t ∧ t ≤ 900 := fun t ht => by have := hso t ht; lia
      have hso0 : ∀ t ∈ sums ot, 0 ≤ t := fun t ht => (hso t ht).1
      obtain ⟨hol1, hol2, hol3⟩ := sums_len (row := ot) (by lia) (by lia)
      have hocl : (countsOf (sums ot)).length ≤ 100 := counts_len (B := 100) fun t ht => by have := hso t ht; lia
      obtain ⟨ob1, ob2, ob3⟩ := run_line (sums ot)
      refine WS.cons (W1.assign (WE.gcall1 (gk hK) (kk hK) (WE.gcall1 (gk hK) (kk hK) (WE.loc rfl (c_line hK ((callerRoom _).le (by lia)) hOt (by lia) hso2 (c_init hK (line := lineOf (sums ot)) (pre := (sums ot).flatMap segL) (post := [32, 9]) (line_cps _) (seg_chars _) (by have := lineL_len (ss := sums ot) (by lia) fun t ht => (hso2 t ht).2; lia) ((callerRoom _).le (by lia)) fun y H₇ hs₇ hw₇ => ?_))))))
      rw [ob1, ob2, ob3] at hw₇
      refine WS.cons (W1.assign (WE.cmp (WE.bcall1 (gn hK) PyProof.Rows.Boot.sorted (v := .bi "sorted") rfl trivial (WE.loc rfl (call_isort (ns := ot) (hs₇ _ _ hOt) (by lia) fun So hSo => ?_)))))
      refine WE.loc rfl (in_lists ((callerRoom _).le (by lia)) (ns := isort ot) (nss := due row) ⟨So, true, rfl, upd_same ..⟩ (hdue.sub (hs₆.trans (hs₇.trans (HSub.new hSo)))) ?_)
      have hal := alike chk3 chk4 chk5 chk6 hIn hob hIo (by lia)
      have hsl' : (sums row).length = (sums ot).length := by
        have e1 : ot.length = row.length := by lia
        rw [e1] at hol1; lia
      have hw₈ : WSO (upd H₇ So (true, .list (zs (isort ot)))) (.ref x) ((sums row).length : Int) (countsOf (sums row)) 0 := hw₄.sub (hs₅.trans (hs₆.trans (hs₇.trans (HSub.new hSo))))
      have hw₉ : WSO (upd H₇ So (true, .list (zs (isort ot)))) (.ref y) ((sums ot).length : Int) (countsOf (sums ot)) 0 := hw₇.sub (HSub.new hSo)
      generalize upd H₇ So (true, .list (zs (isort ot))) = H₈ at hw₈ hw₉ ⊢
      obtain ⟨N, hN⟩ : ∃ N : Nat, wmax (countsOf (sums row)) (countsOf (sums ot)) 0 0 = N := ⟨(wmax (countsOf (sums row)) (countsOf (sums ot)) 0 0).toNat, by unfold wmax; lia⟩
      have hNl : N ≤ 1000 := by unfold wmax at hN; lia
      have hwi := witness_iff hs0 hso0 hsl' hN
      rw [hal] at hwi
      refine WS.cons (W1.ret (WE.and2 (WE.cmp (WE.mobj (WE.loc rfl ⟨101, (hw₈.meth1 hK).2.2.1, WArgs.cons (WE.loc rfl (WArgs.nil (c_equal hK ((callerRoom _).le (by lia)) hw₈ hw₉ (WE.loc rfl (op_is (OPT.bool ?_)))))) ⟩)))))
      rw [hal, show ((0 : Int) == 0) = true from rfl, Bool.and_true, beq_self_eq_true]
      refine iteT ?_
      refine WE.cmp (WE.cmp (WE.mobj (WE.loc rfl ⟨108, (hw₈.meth1 hK).2.2.2, WArgs.cons (WE.loc rfl (WArgs.nil (c_witness hK ((callerRoom _).le (by lia)) hw₈ hw₉ (by lia) (by lia) hN (by lia) fun D l hD hl hle => WE.list (WArgs.nil ⟨by simp, fun E hE => eq_empty ((callerRoom _).le (by lia)) (upd_get hE (upd_same ..)) (upd_same ..) (WE.loc rfl (op_is ?_))⟩)))) ⟩)))
      rw [hle, hwi, beq_self_eq_true]
      exact (rfl : Fl.ret (V.bool true) = Fl.ret (V.bool true))
  · refine ⟨.inl ⟨_, .bool true, [], rfl, fun _ => rfl, .bool _, by first | with_unfolding_all rfl | kernel_rfl | (simp [OpenLaw.row, OpenRow.claim]; done) | decide, fun _ => ⟨List.nodup_nil, fun a ha => by cases ha⟩⟩, hk, rfl, hg⟩
end
