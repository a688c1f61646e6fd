import PyProof.Rows.All
import Wide.All
import OpenK.AllK
import Wide.FinOn
import Lean
import PySem.Challenge.RW_wr0041_02
set_option Elab.async false
set_option linter.all false
section
open PySem PySem.W PyProof.Rows PySem.Calls
set_option Elab.async false
namespace Mine

/-! eliminations that keep the proofs small -/
theorem none_some {α : Type} {x : α} {P : Prop} (e : none = some x) : P := nomatch e
theorem exE3 {α β γ : Type} {P : α → β → γ → Prop} {G : Prop} (x : ∃ a b c, P a b c) (k : ∀ a b c, P a b c → G) : G := let ⟨a, b, c, h⟩ := x; k a b c h
theorem exE4 {α β γ δ : Type} {P : α → β → γ → δ → Prop} {G : Prop} (x : ∃ a b c d, P a b c d) (k : ∀ a b c d, P a b c d → G) : G := let ⟨a, b, c, d, h⟩ := x; k a b c d h
theorem exE5 {α β γ δ ε : Type} {P : α → β → γ → δ → ε → Prop} {G : Prop} (x : ∃ a b c d e, P a b c d e) (k : ∀ a b c d e, P a b c d e → G) : G := let ⟨a, b, c, d, e, h⟩ := x; k a b c d e h
theorem exI4 {α β γ δ : Type} {P : α → β → γ → δ → Prop} (a : α) (b : β) (c : γ) (d : δ) (h : P a b c d) : ∃ a b c d, P a b c d := ⟨a, b, c, d, h⟩
theorem exI5 {α β γ δ ε : Type} {P : α → β → γ → δ → ε → Prop} (a : α) (b : β) (c : γ) (d : δ) (e : ε) (h : P a b c d e) : ∃ a b c d e, P a b c d e := ⟨a, b, c, d, e, h⟩
theorem andE5 {a b c d e G : Prop} (x : a ∧ b ∧ c ∧ d ∧ e) (k : a → b → c → d → e → G) : G := k x.1 x.2.1 x.2.2.1 x.2.2.2.1 x.2.2.2.2
theorem andE7 {a b c d e f g G : Prop} (x : a ∧ b ∧ c ∧ d ∧ e ∧ f ∧ g) (k : a → b → c → d → e → f → g → G) : G := andE5 x.2.2 fun h1 h2 h3 h4 h5 => k x.1 x.2.1 h1 h2 h3 h4 h5
theorem andE9 {a b c d e f g i j G : Prop} (x : a ∧ b ∧ c ∧ d ∧ e ∧ f ∧ g ∧ i ∧ j) (k : a → b → c → d → e → f → g → i → j → G) : G := andE7 x.2.2 fun h1 h2 h3 h4 h5 h6 h7 => k x.1 x.2.1 h1 h2 h3 h4 h5 h6 h7
theorem andE12 {a b c d e f g i j l m n G : Prop} (x : a ∧ b ∧ c ∧ d ∧ e ∧ f ∧ g ∧ i ∧ j ∧ l ∧ m ∧ n) (k : a → b → c → d → e → f → g → i → j → l → m → n → G) : G := andE9 x.2.2.2 fun h1 h2 h3 h4 h5 h6 h7 h8 h9 => k x.1 x.2.1 x.2.2.1 h1 h2 h3 h4 h5 h6 h7 h8 h9
/-- a datum, or an own list by its number -/
inductive V where
  | d (x : PyData)
  | c (k : Nat)
  | rng (a b : Int)
structure St where
  loc : List (Str × V)
  cel : List (Option (List V))

mutual
noncomputable def noDict : PyData → Bool
  | .list xs | .tuple xs => noDicts xs
  | .dict _ => false
  | _ => true
noncomputable def noDicts : List PyData → Bool
  | [] => true
  | x :: xs => noDict x && noDicts xs
end
noncomputable def Apart (h : Heap) (ρ : List Addr) (as : List Addr) : Prop := ∀ a ∈ as, a ∉ ρ ∧ ∃ items, h.PlainList a items
noncomputable def RV (h : Heap) (ρ : List Addr) (v : Value) : V → Prop
  | .d x => ∃ as, Reads h v x as ∧ noDict x = true ∧ Apart h ρ as
  | .c k => ∃ a, v = .ref a ∧ ρ[k]? = some a
  | .rng a b => ∃ r t u w, v = .ref r ∧ IsRange h r a b 1 t u w
noncomputable def RVs (h : Heap) (ρ : List Addr) : List Value → List V → Prop
  | [], [] => True
  | v :: vs, x :: xs => RV h ρ v x ∧ RVs h ρ vs xs
  | _, _ => False

noncomputable def Live (cel : List (Option (List V))) (ρ : List Addr) (a : Addr) : Prop := ∃ (k : Nat) (xs : List V), cel[k]? = some (some xs) ∧ ρ[k]? = some a
noncomputable def isDict (o : Obj) : Prop := ∃ es n, o.data = .dict es n
noncomputable def isCell (o : Obj) : Prop := ∃ v, o.data = .cell v

structure Ext (P X : Addr → Prop) (h h' : Heap) : Prop where
  there : ∀ b o, h.get? b = some o → ∃ o', h'.get? b = some o'
  exact : ∀ b o, h.get? b = some o → ¬ P b → ¬ isDict o → ¬ isCell o → h'.get? b = some o
  dict : ∀ b o, h.get? b = some o → isDict o → ¬ X b → ∃ o', h'.get? b = some o' ∧ o'.data = o.data
  isd : ∀ b o, h.get? b = some o → isDict o → ∃ o', h'.get? b = some o' ∧ isDict o'
  cell : ∀ b o, h.get? b = some o → isCell o → ¬ X b → h'.get? b = some o

structure Cel (cel : List (Option (List V))) (ρ : List Addr) (h : Heap) : Prop where
  len : ρ.length = cel.length
  nd : ρ.Nodup
  pl : ∀ a ∈ ρ, ∃ items, h.PlainList a items
  here : ∀ (k : Nat) (xs : List V), cel[k]? = some (some xs) → ∃ a vs, ρ[k]? = some a ∧ h.PlainList a (List.toArray vs) ∧ RVs h ρ vs xs

structure Evo (X : Addr → Prop) (cel : List (Option (List V))) (ρ : List Addr) (h : Heap) (cel' : List (Option (List V))) (ρ' : List Addr) (h' : Heap) : Prop where
  pre : ∃ new, ρ' = ρ ++ new ∧ ∀ a ∈ new, h.get? a = none
  live : ∀ (k : Nat) (xs : List V), cel'[k]? = some (some xs) → k < ρ.length → ∃ ys, cel[k]? = some (some ys)
  lock : ∀ (k : Nat), cel[k]? = some none → cel'[k]? = some none
  ext : Ext (Live cel ρ) X h h'

structure Vars (env : Env) (loc : List (Str × V)) (ρ : List Addr) (h : Heap) : Prop where
  ns : ∃ m, h.Ns env.locals m ∧ ∀ x y, loc.lookup x = some y → env.kindOf x = some .local → ∃ v, m x = some v ∧ RV h ρ v y
  ce : ∀ x y, loc.lookup x = some y → env.kindOf x = some .cell → ∃ c v, env.cells.lookup x = some c ∧ h.IsCell c (some v) ∧ RV h ρ v y
  cells : ∀ x, env.kindOf x = some .cell → ∃ c v, env.cells.lookup x = some c ∧ h.IsCell c v
  apart : env.cells.Pairwise fun x y => x.2 ≠ y.2

structure RS (env : Env) (σ : St) (ρ : List Addr) (h : Heap) : Prop where
  vars : Vars env σ.loc ρ h
  cel : Cel σ.cel ρ h

/-- the addresses that the frame's own statements turn -/
noncomputable def Own (env : Env) (b : Addr) : Prop := b = env.locals ∨ ∃ x, env.cells.lookup x = some b

structure GI (hT : Heap) (os : OsState) (s : Shared) : Prop where
  keep : ∀ b o, hT.get? b = some o → s.heap.get? b = some o
  bare : AllBare s.gens
  os : s.os = os

/-! plain laws of these -/
theorem not_dict_seq {o : Obj} {xs : Array Value} {n : Nat} (h : o.data = .seq xs n) : ¬ isDict o := fun ⟨_, _, e⟩ => by rw [h] at e; cases e
theorem not_cell_seq {o : Obj} {xs : Array Value} {n : Nat} (h : o.data = .seq xs n) : ¬ isCell o := fun ⟨_, e⟩ => by rw [h] at e; cases e
theorem not_dict_fields {o : Obj} {xs : Array Value} (h : o.data = .fields xs) : ¬ isDict o := fun ⟨_, _, e⟩ => by rw [h] at e; cases e
theorem not_cell_fields {o : Obj} {xs : Array Value} (h : o.data = .fields xs) : ¬ isCell o := fun ⟨_, e⟩ => by rw [h] at e; cases e

theorem Ext.refl (P X : Addr → Prop) (h : Heap) : Ext P X h h := ⟨fun _ o e => ⟨o, e⟩, fun _ _ e _ _ _ => e, fun _ o e _ _ => ⟨o, e, rfl⟩, fun _ o e d => ⟨o, e, d⟩, fun _ _ e _ _ => e⟩
theorem Ext.of_keeps {P X : Addr → Prop} {h h' : Heap} (k : ∀ b o, h.get? b = some o → h'.get? b = some o) : Ext P X h h' :=
  ⟨fun b o e => ⟨o, k b o e⟩, fun b o e _ _ _ => k b o e, fun b o e _ _ => ⟨o, k b o e, rfl⟩, fun b o e d => ⟨o, k b o e, d⟩, fun b o e _ _ => k b o e⟩
theorem Ext.mono {P P' X X' : Addr → Prop} {h h' : Heap} (e : Ext P X h h') (hP : ∀ b, P b → P' b) (hX : ∀ b, X b → X' b) : Ext P' X' h h' :=
  ⟨e.there, fun b o g n d c => e.exact b o g (fun q => n (hP b q)) d c, fun b o g d n => e.dict b o g d (fun q => n (hX b q)), e.isd, fun b o g d n => e.cell b o g d (fun q => n (hX b q))⟩
theorem Ext.comp {P P' X X' : Addr → Prop} {h h' h'' : Heap} (e : Ext P X h h') (e' : Ext P' X' h' h'')
    (hP : ∀ b o, h.get? b = some o → P' b → P b) (hX : ∀ b o, h.get? b = some o → X' b → X b) : Ext P X h h'' := by
  refine ⟨fun b o g => let ⟨o', g'⟩ := e.there b o g; e'.there b o' g', fun b o g n d c => e'.exact b o (e.exact b o g n d c) (fun q => n (hP b o g q)) d c, fun b o g d n => ?_, fun b o g d => let ⟨o', g', d'⟩ := e.isd b o g d; e'.isd b o' g' d', fun b o g d n => e'.cell b o (e.cell b o g d n) d fun q => n (hX b o g q)⟩
  obtain ⟨o', g', d'⟩ := e.dict b o g d n
  obtain ⟨o'', g'', d''⟩ := e'.dict b o' g' (by obtain ⟨es, k, q⟩ := d; exact ⟨es, k, d'.trans q⟩) (fun q => n (hX b o g q))
  exact ⟨o'', g'', d''.trans d'⟩
theorem Ext.ns {P X : Addr → Prop} {h h' : Heap} {a : Addr} {m : Str → Option Value} (e : Ext P X h h') (hn : h.Ns a m) (hx : ¬ X a) : h'.Ns a m := by
  obtain ⟨o, es, ep, ho, hd, r⟩ := hn
  obtain ⟨o', ho', hd'⟩ := e.dict a o ho ⟨es, ep, hd⟩ hx
  exact ⟨o', es, ep, ho', hd'.trans hd, r⟩
theorem Ext.isCell {P X : Addr → Prop} {h h' : Heap} {a : Addr} {v : Option Value} (e : Ext P X h h') (hc : h.IsCell a v) (hx : ¬ X a) : h'.IsCell a v := by
  obtain ⟨o, ho, hd⟩ := hc
  exact ⟨o, e.cell a o ho ⟨_, hd⟩ hx, hd⟩
theorem Ext.plainList {P X : Addr → Prop} {h h' : Heap} {a : Addr} {items : Array Value} (e : Ext P X h h') (hp : h.PlainList a items) (hn : ¬ P a) : h'.PlainList a items := by
  obtain ⟨n, g⟩ := hp
  exact ⟨n, e.exact a _ g hn (not_dict_seq rfl) (not_cell_seq rfl)⟩

theorem list_ne_tuple : (Value.type "list") ≠ .type "tuple" := by decide
/-- induction on what is read, dicts apart -/
theorem reads_ind {h : Heap} {P : Value → PyData → List Addr → Prop} {Q : List Value → List PyData → List Addr → Prop}
    (pn : P .none .none []) (pb : ∀ b, P (.bool b) (.bool b) []) (pi : ∀ i t, P (.int i t) (.int i) []) (ps : ∀ x t, P (.str x t) (.str x) [])
    (pl : ∀ {a o vs n xs as}, h.get? a = some o → o.cls = .type "list" → o.data = .seq vs n → ReadsAll h vs.toList xs as → noDicts xs = true → Q vs.toList xs as → P (.ref a) (.list xs) (a :: as))
    (pt : ∀ {a o vs n xs as}, h.get? a = some o → o.cls = .type "tuple" → o.data = .seq vs n → noDicts xs = true → Q vs.toList xs as → P (.ref a) (.tuple xs) as)
    (qn : Q [] [] []) (qc : ∀ {v vs d ds as bs}, noDict d = true → noDicts ds = true → P v d as → Q vs ds bs → Q (v :: vs) (d :: ds) (as ++ bs)) :
    (∀ {v x as}, Reads h v x as → noDict x = true → P v x as) ∧ ∀ {vs xs as}, ReadsAll h vs xs as → noDicts xs = true → Q vs xs as :=
  ⟨fun r => Reads.rec (motive_1 := fun v x as _ => noDict x = true → P v x as) (motive_2 := fun vs xs as _ => noDicts xs = true → Q vs xs as)
      (fun _ => pn) (fun b _ => pb b) (fun i t _ => pi i t) (fun x t _ => ps x t) (fun g c e r ih q => pl g c e r q (ih q)) (fun g c e _ ih q => pt g c e q (ih q)) (fun _ _ _ _ _ _ _ q => Bool.noConfusion q)
      (fun _ => qn) (fun _ _ ih ih' q => have q' := Bool.and_eq_true_iff.mp q; qc q'.1 q'.2 (ih q'.1) (ih' q'.2)) r,
    fun r => ReadsAll.rec (motive_1 := fun v x as _ => noDict x = true → P v x as) (motive_2 := fun vs xs as _ => noDicts xs = true → Q vs xs as)
      (fun _ => pn) (fun b _ => pb b) (fun i t _ => pi i t) (fun x t _ => ps x t) (fun g c e r ih q => pl g c e r q (ih q)) (fun g c e _ ih q => pt g c e q (ih q)) (fun _ _ _ _ _ _ _ q => Bool.noConfusion q)
      (fun _ => qn) (fun _ _ ih ih' q => have q' := Bool.and_eq_true_iff.mp q; qc q'.1 q'.2 (ih q'.1) (ih' q'.2)) r⟩
theorem reads_ext2 {h h' : Heap} {ρ : List Addr} (hp : ∀ a ∈ ρ, ∃ items, h.PlainList a items)
    (k : ∀ b o xs n, h.get? b = some o → b ∉ ρ → o.data = .seq xs n → h'.get? b = some o) : (∀ {v x as}, Reads h v x as → noDict x = true → (∀ a ∈ as, a ∉ ρ) → Reads h' v x as) ∧ ∀ {vs xs as}, ReadsAll h vs xs as → noDicts xs = true → (∀ a ∈ as, a ∉ ρ) → ReadsAll h' vs xs as :=
  reads_ind (h := h) (P := fun v x as => (∀ a ∈ as, a ∉ ρ) → Reads h' v x as) (Q := fun vs xs as => (∀ a ∈ as, a ∉ ρ) → ReadsAll h' vs xs as)
    (fun _ => .none) (fun b _ => .bool b) (fun i t _ => .int i t) (fun x t _ => .str x t)
    (fun g c e _ _ ih hn => .list (k _ _ _ _ g (hn _ List.mem_cons_self) e) c e (ih fun a ha => hn a (List.mem_cons_of_mem _ ha)))
    (fun {a _ _ _ _ _} g c e _ ih hn => .tuple (k _ _ _ _ g (fun hm => by
      obtain ⟨items, n, g'⟩ := hp a hm
      rw [g] at g'
      have := Option.some.inj g'
      rw [this] at c
      exact list_ne_tuple c) e) c e (ih hn))
    (fun _ => .nil) (fun _ _ ih ih' hn => .cons (ih fun a ha => hn a (List.mem_append_left _ ha)) (ih' fun a ha => hn a (List.mem_append_right _ ha)))
theorem reads_ext {h h' : Heap} {ρ : List Addr} (hp : ∀ a ∈ ρ, ∃ items, h.PlainList a items)
    (k : ∀ b o xs n, h.get? b = some o → b ∉ ρ → o.data = .seq xs n → h'.get? b = some o) {v : Value} {x : PyData} {as : List Addr} (r : Reads h v x as) (q : noDict x = true) : (∀ a ∈ as, a ∉ ρ) → Reads h' v x as := (reads_ext2 hp k).1 r q
theorem readsAll_ext {h h' : Heap} {ρ : List Addr} (hp : ∀ a ∈ ρ, ∃ items, h.PlainList a items)
    (k : ∀ b o xs n, h.get? b = some o → b ∉ ρ → o.data = .seq xs n → h'.get? b = some o) {vs : List Value} {xs : List PyData} {as : List Addr} (r : ReadsAll h vs xs as) (q : noDicts xs = true) : (∀ a ∈ as, a ∉ ρ) → ReadsAll h' vs xs as := (reads_ext2 hp k).2 r q
theorem reads_there {h : Heap} {v : Value} {x : PyData} {as : List Addr} (r : Reads h v x as) (q : noDict x = true) : ∀ a ∈ as, ∃ o, h.get? a = some o :=
  (reads_ind (h := h) (P := fun _ _ as => ∀ a ∈ as, ∃ o, h.get? a = some o) (Q := fun _ _ as => ∀ a ∈ as, ∃ o, h.get? a = some o)
    (fun _ q => nomatch q) (fun _ _ q => nomatch q) (fun _ _ _ q => nomatch q) (fun _ _ _ q => nomatch q)
    (fun g _ _ _ _ ih a ha => (List.mem_cons.mp ha).elim (fun e => ⟨_, e ▸ g⟩) (ih a)) (fun _ _ _ _ ih => ih) (fun _ q => nomatch q)
    (fun _ _ ih ih' a ha => (List.mem_append.mp ha).elim (ih a) (ih' a))).1 r q

theorem live_mem {cel : List (Option (List V))} {ρ : List Addr} {a : Addr} (h : Live cel ρ a) : a ∈ ρ := by
  obtain ⟨k, xs, _, e⟩ := h
  exact List.mem_of_getElem? e

theorem RV.ext {X : Addr → Prop} {cel : List (Option (List V))} {ρ new : List Addr} {h h' : Heap} (hp : ∀ a ∈ ρ, ∃ items, h.PlainList a items) (hnew : ∀ a ∈ new, h.get? a = none)
    (e : Ext (Live cel ρ) X h h') {v : Value} {x : V} (r : RV h ρ v x) : RV h' (ρ ++ new) v x := by
  cases x with
  | d x =>
    obtain ⟨as, r, q, n⟩ := r
    refine ⟨as, reads_ext hp (fun b o xs m g hb d => e.exact b o g (fun l => hb (live_mem l)) (not_dict_seq d) (not_cell_seq d)) r q (fun a ha => (n a ha).1), q, fun a ha => ⟨fun hm => ?_, ?_⟩⟩
    · rcases List.mem_append.mp hm with hm | hm
      · exact (n a ha).1 hm
      · obtain ⟨o, g⟩ := reads_there r q a ha
        rw [hnew a hm] at g; cases g
    · obtain ⟨items, k, g⟩ := (n a ha).2
      exact ⟨items, k, e.exact a _ g (fun l => (n a ha).1 (live_mem l)) (not_dict_seq rfl) (not_cell_seq rfl)⟩
  | c k =>
    obtain ⟨a, rfl, g⟩ := r
    refine ⟨a, rfl, ?_⟩
    have lt : k < ρ.length := by
      rcases Nat.lt_or_ge k ρ.length with l | l
      · exact l
      · rw [List.getElem?_eq_none l] at g; cases g
    rw [List.getElem?_append_left lt]; exact g
  | rng a b =>
    obtain ⟨r, t, u, w, rfl, g⟩ := r
    refine ⟨r, t, u, w, rfl, e.exact r _ g (fun l => ?_) (not_dict_fields rfl) (not_cell_fields rfl)⟩
    obtain ⟨items, n, g'⟩ := hp r (live_mem l)
    have g : h.get? r = some { cls := .type "range", dict := none, data := .fields #[.int a t, .int b u, .int 1 w], slots := #[] } := g
    rw [g] at g'
    have := congrArg Obj.data (Option.some.inj g')
    cases this
theorem RVs.ext {X : Addr → Prop} {cel : List (Option (List V))} {ρ new : List Addr} {h h' : Heap} (hp : ∀ a ∈ ρ, ∃ items, h.PlainList a items) (hnew : ∀ a ∈ new, h.get? a = none)
    (e : Ext (Live cel ρ) X h h') : ∀ {vs : List Value} {xs : List V}, RVs h ρ vs xs → RVs h' (ρ ++ new) vs xs
  | [], [], _ => trivial
  | _ :: _, _ :: _, r => ⟨RV.ext hp hnew e r.1, RVs.ext hp hnew e r.2⟩
  | [], _ :: _, r => r.elim
  | _ :: _, [], r => r.elim

theorem fresh_back {P X : Addr → Prop} {h h' : Heap} (e : Ext P X h h') {a : Addr} (q : h'.get? a = none) : h.get? a = none := by
  cases g : h.get? a with
  | none => rfl
  | some o => obtain ⟨o', g'⟩ := e.there a o g; rw [q] at g'; cases g'

theorem Evo.refl (X : Addr → Prop) (cel : List (Option (List V))) (ρ : List Addr) (h : Heap) : Evo X cel ρ h cel ρ h :=
  ⟨⟨[], by simp, fun _ q => nomatch q⟩, fun _ xs e _ => ⟨xs, e⟩, fun _ e => e, Ext.refl ..⟩
theorem Evo.liveBack {X : Addr → Prop} {cel cel' : List (Option (List V))} {ρ ρ' : List Addr} {h h' : Heap} (e : Evo X cel ρ h cel' ρ' h') {b : Addr} {o : Obj} (g : h.get? b = some o)
    (l : Live cel' ρ' b) : Live cel ρ b := by
  obtain ⟨new, rfl, hn⟩ := e.pre
  obtain ⟨k, xs, q1, q2⟩ := l
  rcases Nat.lt_or_ge k ρ.length with lt | ge
  · rw [List.getElem?_append_left lt] at q2
    obtain ⟨ys, q3⟩ := e.live k xs q1 lt
    exact ⟨k, ys, q3, q2⟩
  · rw [List.getElem?_append_right ge] at q2
    rw [hn b (List.mem_of_getElem? q2)] at g; cases g
theorem Evo.trans {X : Addr → Prop} {cel cel' cel'' : List (Option (List V))} {ρ ρ' ρ'' : List Addr} {h h' h'' : Heap} (e : Evo X cel ρ h cel' ρ' h') (e' : Evo X cel' ρ' h' cel'' ρ'' h'') :
    Evo X cel ρ h cel'' ρ'' h'' := by
  refine ⟨?_, fun k xs q lt => ?_, fun k q => e'.lock k (e.lock k q), e.ext.comp e'.ext (fun b o g l => e.liveBack g l) fun _ _ _ x => x⟩
  · obtain ⟨new, rfl, hn⟩ := e.pre
    obtain ⟨new', rfl, hn'⟩ := e'.pre
    refine ⟨new ++ new', by simp, fun a ha => ?_⟩
    rcases List.mem_append.mp ha with ha | ha
    · exact hn a ha
    · exact fresh_back e.ext (hn' a ha)
  · obtain ⟨new, rfl, _⟩ := e.pre
    obtain ⟨ys, q'⟩ := e'.live k xs q (by rw [List.length_append]; omega)
    exact e.live k ys q' lt
theorem Evo.mono {X Y : Addr → Prop} {cel cel' : List (Option (List V))} {ρ ρ' : List Addr} {h h' : Heap} (e : Evo X cel ρ h cel' ρ' h') (hX : ∀ b, X b → Y b) : Evo Y cel ρ h cel' ρ' h' :=
  ⟨e.pre, e.live, e.lock, e.ext.mono (fun _ x => x) hX⟩
noncomputable abbrev noX : Addr → Prop := fun _ => False
theorem RV.evo {X : Addr → Prop} {cel cel' : List (Option (List V))} {ρ ρ' : List Addr} {h h' : Heap} (hc : Cel cel ρ h) (e : Evo X cel ρ h cel' ρ' h') {v : Value} {x : V} (r : RV h ρ v x) : RV h' ρ' v x := by
  obtain ⟨new, rfl, hn⟩ := e.pre
  exact RV.ext hc.pl hn e.ext r
theorem RVs.evo {X : Addr → Prop} {cel cel' : List (Option (List V))} {ρ ρ' : List Addr} {h h' : Heap} (hc : Cel cel ρ h) (e : Evo X cel ρ h cel' ρ' h') {v : List Value} {x : List V} (r : RVs h ρ v x) : RVs h' ρ' v x := by
  obtain ⟨new, rfl, hn⟩ := e.pre
  exact RVs.ext hc.pl hn e.ext r
theorem Vars.evo {env : Env} {loc : List (Str × V)} {cel cel' : List (Option (List V))} {ρ ρ' : List Addr} {h h' : Heap} (hc : Cel cel ρ h) (e : Evo noX cel ρ h cel' ρ' h') (r : Vars env loc ρ h) : Vars env loc ρ' h' := by
  obtain ⟨m, hm, hv⟩ := r.ns
  refine ⟨⟨m, e.ext.ns hm id, fun x y q k => let ⟨v, e1, e2⟩ := hv x y q k; ⟨v, e1, e2.evo hc e⟩⟩, fun x y q k => ?_, fun x k => ?_, r.apart⟩
  · obtain ⟨c, v, e1, e2, e3⟩ := r.ce x y q k
    exact ⟨c, v, e1, e.ext.isCell e2 id, e3.evo hc e⟩
  · obtain ⟨c, v, e1, e2⟩ := r.cells x k
    exact ⟨c, v, e1, e.ext.isCell e2 id⟩

theorem RVs.length {h : Heap} {ρ : List Addr} : ∀ {vs : List Value} {xs : List V}, RVs h ρ vs xs → vs.length = xs.length
  | [], [], _ => rfl
  | _ :: _, _ :: _, r => by rw [List.length_cons, List.length_cons, RVs.length r.2]
  | [], _ :: _, r => r.elim
  | _ :: _, [], r => r.elim
theorem RVs.append {h : Heap} {ρ : List Addr} : ∀ {vs : List Value} {xs : List V} {ws : List Value} {ys : List V}, RVs h ρ vs xs → RVs h ρ ws ys → RVs h ρ (vs ++ ws) (xs ++ ys)
  | [], [], _, _, _, r => r
  | _ :: _, _ :: _, _, _, r, r' => ⟨r.1, RVs.append r.2 r'⟩
  | [], _ :: _, _, _, r, _ => r.elim
  | _ :: _, [], _, _, r, _ => r.elim
theorem RVs.get {h : Heap} {ρ : List Addr} : ∀ {vs : List Value} {xs : List V}, RVs h ρ vs xs → ∀ {k : Nat} {x : V}, xs[k]? = some x → ∃ v, vs[k]? = some v ∧ RV h ρ v x
  | [], [], _, k, x, e => by simp at e
  | v :: vs, y :: ys, r, 0, x, e => by
    have : y = x := by simpa using e
    exact ⟨v, rfl, this ▸ r.1⟩
  | v :: vs, y :: ys, r, k + 1, x, e => RVs.get (vs := vs) r.2 (by simpa using e)
  | [], _ :: _, r, _, _, _ => r.elim
  | _ :: _, [], r, _, _, _ => r.elim
theorem RVs.get' {h : Heap} {ρ : List Addr} : ∀ {vs : List Value} {xs : List V}, RVs h ρ vs xs → ∀ {k : Nat} {v : Value}, vs[k]? = some v → ∃ x, xs[k]? = some x ∧ RV h ρ v x
  | [], [], _, k, x, e => by simp at e
  | v :: vs, y :: ys, r, 0, x, e => by
    have : v = x := by simpa using e
    exact ⟨y, rfl, this ▸ r.1⟩
  | v :: vs, y :: ys, r, k + 1, x, e => RVs.get' (vs := vs) r.2 (by simpa using e)
  | [], _ :: _, r, _, _, _ => r.elim
  | _ :: _, [], r, _, _, _ => r.elim

/-- a datum's items -/
theorem RVs.ofAll {h : Heap} {ρ : List Addr} {vs : List Value} {xs : List PyData} {as : List Addr} (r : ReadsAll h vs xs as) (q : noDicts xs = true) (n : Apart h ρ as) : RVs h ρ vs (xs.map V.d) := by
  revert as
  induction xs generalizing vs with
  | nil => intro as r _; cases r; trivial
  | cons d ds ih =>
    intro as r n
    have q' := Bool.and_eq_true_iff.mp q
    cases r with
    | cons r r' => exact ⟨⟨_, r, q'.1, fun a ha => n a (List.mem_append_left _ ha)⟩, ih q'.2 r' fun a ha => n a (List.mem_append_right _ ha)⟩
end Mine
end
section
open PySem PySem.W PyProof.Rows PySem.Calls
set_option Elab.async false
namespace Mine
noncomputable abbrev Spec := List PyData → (PyData → Prop) → Prop
structure Gl where
  fn : Str → Option Spec
  con : Str → Option PyData

noncomputable def chk (b : Bool) (P : Prop) : Prop := match b with | true => P | false => False
noncomputable def br (b : Bool) (P Q : Prop) : Prop := match b with | true => P | false => Q
noncomputable def put (x : Str) (v : V) : List (Str × V) → List (Str × V)
  | [] => [(x, v)]
  | p :: r => match (p.1 == x) with | true => (x, v) :: r | false => p :: put x v r
noncomputable def St.put (σ : St) (x : Str) (v : V) : St := ⟨Mine.put x v σ.loc, σ.cel⟩
noncomputable def mkS (l : List Nat) : Str := ⟨⟨l⟩⟩

noncomputable def mapO (f : V → Option PyData) : List V → Option (List PyData)
  | [] => some []
  | x :: xs => match f x with
    | some d => (match mapO f xs with | some ds => some (d :: ds) | none => none)
    | none => none
noncomputable def toD (cel : List (Option (List V))) : Nat → V → Option PyData
  | _, .d x => some x
  | n + 1, .c k => match cel[k]? with
    | some (some xs) => (match mapO (toD cel n) xs with | some ds => some (.list ds) | none => none)
    | _ => none
  | _, _ => none
noncomputable def toDs (cel : List (Option (List V))) (n : Nat) (xs : List V) : Option (List PyData) := mapO (toD cel n) xs
noncomputable def items (cel : List (Option (List V))) : V → Option (List V)
  | .d (.list ds) => some (ds.map V.d)
  | .c k => (match cel[k]? with | some (some xs) => some xs | _ => none)
  | _ => none
noncomputable def own? (cel : List (Option (List V))) : V → Option (List V)
  | .c k => (match cel[k]? with | some (some xs) => some xs | _ => none)
  | _ => none
noncomputable def newC (σ : St) (xs : List V) (K : V → St → Prop) : Prop := K (.c σ.cel.length) ⟨σ.loc, σ.cel ++ [some xs]⟩
noncomputable def smallI (x : Int) : Bool := decide (-(2 ^ 63) < x) && decide (x < 2 ^ 63)
noncomputable def b2i (b : Bool) : Int := match b with | true => 1 | false => 0
noncomputable def rep {α : Type} (n : Nat) (l : List α) : List α := (List.replicate n l).flatten
noncomputable def sizeB (n : Nat) : Bool := Nat.ble n 16777216

noncomputable def opB (op : Operator) (a b : V) (σ : St) (K : V → St → Prop) : Prop := match op with
  | .Add => (match a with
    | .d (.int x) => (match b with | .d (.int y) => K (.d (.int (x + y))) σ | _ => False)
    | .d (.str x) => (match b with | .d (.str y) => chk (sizeB (x.length + y.length)) (K (.d (.str (mkS (x.cps.toList ++ y.cps.toList)))) σ) | _ => False)
    | a => (match own? σ.cel a with
      | some xs => (match own? σ.cel b with | some ys => chk (sizeB (xs.length + ys.length)) (newC σ (xs ++ ys) K) | none => False)
      | none => False))
  | .Sub => (match a with
    | .d (.int x) => (match b with | .d (.int y) => K (.d (.int (x - y))) σ | _ => False)
    | .d (.bool x) => (match b with | .d (.bool y) => K (.d (.int (b2i x - b2i y))) σ | _ => False)
    | _ => False)
  | .Mult => (match b with
    | .d (.int y) => (match a with
      | .d (.int x) => chk (smallI x || smallI y) (K (.d (.int (x * y))) σ)
      | .d (.str x) => chk (decide (0 ≤ y) && decide (y ≤ 1000000) && sizeB (x.length * y.toNat)) (K (.d (.str (mkS (rep y.toNat x.cps.toList)))) σ)
      | _ => False)
    | _ => False)
  | .FloorDiv => (match a with
    | .d (.int x) => (match b with | .d (.int y) => chk (decide (y ≠ 0) && decide (-1000000000 < y) && decide (y < 1000000000)) (K (.d (.int (x.fdiv y))) σ) | _ => False)
    | _ => False)
  | .Mod => (match a with
    | .d (.int x) => (match b with | .d (.int y) => chk (decide (y ≠ 0)) (K (.d (.int (x.fmod y))) σ) | _ => False)
    | _ => False)
  | .Pow => (match a with
    | .d (.int x) => (match b with | .d (.int y) => chk (decide (0 ≤ y) && decide (y ≤ 1000) && smallI x) (K (.d (.int (x ^ y.toNat))) σ) | _ => False)
    | _ => False)
  | _ => False

noncomputable def opI (op : Operator) (a b : V) (σ : St) (K : V → St → Prop) : Prop := match op with
  | .Add => (match a with
    | .d (.int x) => (match b with | .d (.int y) => K (.d (.int (x + y))) σ | .d (.bool y) => K (.d (.int (x + b2i y))) σ | _ => False)
    | .d (.str x) => (match b with | .d (.str y) => chk (sizeB (x.length + y.length)) (K (.d (.str (mkS (x.cps.toList ++ y.cps.toList)))) σ) | _ => False)
    | _ => False)
  | .Sub => (match a with
    | .d (.int x) => (match b with | .d (.int y) => K (.d (.int (x - y))) σ | _ => False)
    | _ => False)
  | _ => False

noncomputable def eqK (a b : V) (σ : St) (K : Bool → Prop) : Prop := match a, b with
  | .d (.int x), .d (.int y) => K (decide (x = y))
  | .d (.str x), .d (.str y) => K (x.cps.toList == y.cps.toList)
  | a, b => (match toD σ.cel 4 a with
    | some d => (match toD σ.cel 4 b with
      | some e => chk (SeqAt.shaped d && SeqAt.shaped e) (K (PyData.eqv d e))
      | none => False)
    | none => False)
noncomputable def isK (a b : V) (K : Bool → Prop) : Prop := match a, b with
  | .d (.bool x), .d (.bool y) => K (x == y)
  | .d .none, .d .none => K true
  | .d (.str _), .d .none => K false
  | _, _ => False
noncomputable def cmpK (op : CmpOp) (a b : V) (σ : St) (K : Bool → Prop) : Prop := match op with
  | .Eq => eqK a b σ K
  | .NotEq => eqK a b σ fun c => K (!c)
  | .Is => isK a b K
  | .IsNot => isK a b fun c => K (!c)
  | .Lt => (match a with
    | .d (.int x) => (match b with | .d (.int y) => K (decide (x < y)) | _ => False)
    | .d (.str x) => (match b with | .d (.str y) => K (decide (x.cps.toList < y.cps.toList)) | _ => False)
    | _ => False)
  | .Gt => (match a with
    | .d (.int x) => (match b with | .d (.int y) => K (decide (y < x)) | _ => False)
    | .d (.str x) => (match b with | .d (.str y) => K (decide (y.cps.toList < x.cps.toList)) | _ => False)
    | _ => False)
  | .GtE => (match a with
    | .d (.int x) => (match b with | .d (.int y) => K (decide (y ≤ x)) | _ => False)
    | _ => False)
  | .NotIn => (match a with
    | .d (.str x) => (match b with | .d (.str y) => K (!Txt.contains y x) | _ => False)
    | _ => False)
  | _ => False

noncomputable def truthK (a : V) (σ : St) (K : Bool → Prop) : Prop := match a with
  | .d (.bool b) => K b
  | .d (.int i) => K (decide (i ≠ 0))
  | .d (.str x) => chk (sizeB x.length) (K (!(x.cps.toList.isEmpty)))
  | _ => False

noncomputable def cut {α : Type} (lo hi : Option Int) (l : List α) : List α := (l.drop (kms_lo lo l.length)).take (kms_hi hi l.length - kms_lo lo l.length)
noncomputable def part? : V → Option (Option Int)
  | .d .none => some none
  | .d (.int i) => some (some i)
  | _ => none
noncomputable def sliceK (o lo hi : V) (σ : St) (K : V → St → Prop) : Prop := match part? lo with
  | some l => (match part? hi with
    | some u => (match o with
      | .d (.str x) => chk (sizeB x.length) (K (.d (.str (mkS (cut l u x.cps.toList)))) σ)
      | o => (match items σ.cel o with | some xs => chk (sizeB xs.length) (newC σ (cut l u xs) K) | none => False))
    | none => False)
  | none => False
noncomputable def slice3K (o a b c : V) (σ : St) (K : V → St → Prop) : Prop := match c with
  | .d .none => sliceK o a b σ K
  | _ => False
noncomputable def itemK (o i : V) (σ : St) (K : V → St → Prop) : Prop := match i with
  | .d (.int k) => chk (smallI k) (match o with
    | .d (.str x) => (match Txt.charAt x k with | some c => K (.d (.str (mkS [c]))) σ | none => False)
    | .d (.tuple ds) => (match (seqIndex? k ds.length).bind (ds[·]?) with | some d => K (.d d) σ | none => False)
    | o => (match items σ.cel o with
      | some xs => (match (seqIndex? k xs.length).bind (xs[·]?) with | some v => K v σ | none => False)
      | none => False))
  | _ => False
/-- xs[i] = v -/
noncomputable def storeK (o i v : V) (σ : St) (K : St → Prop) : Prop := match o with
  | .c k => (match σ.cel[k]? with
    | some (some xs) => (match i with
      | .d (.int j) => chk (decide (0 ≤ j) && decide (j < xs.length) && sizeB xs.length) (K ⟨σ.loc, σ.cel.set k (some (xs.set j.toNat v))⟩)
      | _ => False)
    | _ => False)
  | _ => False
/-- del xs[i] -/
noncomputable def delK (o i : V) (σ : St) (K : St → Prop) : Prop := match o with
  | .c k => (match σ.cel[k]? with
    | some (some xs) => (match i with
      | .d (.int j) => (match (match decide (smallI j = true) with | true => seqIndex? j xs.length | false => none) with
        | some m => chk (sizeB xs.length) (K ⟨σ.loc, σ.cel.set k (some (xs.eraseIdx m))⟩)
        | none => False)
      | _ => False)
    | _ => False)
  | _ => False

noncomputable def datas? : List V → Option (List PyData)
  | [] => some []
  | .d x :: r => (match datas? r with | some l => some (x :: l) | none => none)
  | _ => none
noncomputable def strs? : List V → Option (List Str)
  | [] => some []
  | .d (.str x) :: r => (match strs? r with | some l => some (x :: l) | none => none)
  | _ => none
noncomputable def range (a b : Int) : List Int := (List.range (b - a).toNat).map fun k => a + (k : Nat)

noncomputable def firstAt (x y : Str) (lo hi : Nat) : Int := match Builtin.Str.occurrences x y lo hi 1 with | i :: _ => (i : Int) | [] => -1

/-! built-in functions -/
noncomputable def bLen (args : List V) (σ : St) (K : V → St → Prop) : Prop := match args with
    | [.d (.str x)] => chk (sizeB x.length) (K (.d (.int x.length)) σ)
    | [a] => (match items σ.cel a with | some xs => chk (sizeB xs.length) (K (.d (.int xs.length)) σ) | none => False)
    | _ => False
noncomputable def bChr (args : List V) (σ : St) (K : V → St → Prop) : Prop := match args with
    | [.d (.int c)] => chk (decide (0 ≤ c) && decide (c < 1114112)) (K (.d (.str (mkS [c.toNat]))) σ)
    | _ => False
noncomputable def bOrd (args : List V) (σ : St) (K : V → St → Prop) : Prop := match args with
    | [.d (.str x)] => (match x.cps.toList with | [c] => K (.d (.int c)) σ | _ => False)
    | _ => False
noncomputable def bStr (args : List V) (σ : St) (K : V → St → Prop) : Prop := match args with
    | [.d (.int a)] => chk (smallI a) (K (.d (.str (Str.ofString (toString a)))) σ)
    | _ => False
noncomputable def bRange (args : List V) (σ : St) (K : V → St → Prop) : Prop := match args with
    | [.d (.int b)] => chk (decide (-1000000 ≤ b) && decide (b ≤ 1000000)) (K (.rng 0 b) σ)
    | [.d (.int a), .d (.int b)] => chk (decide (-1000000 ≤ a) && decide (a ≤ 1000000) && decide (-1000000 ≤ b) && decide (b ≤ 1000000)) (K (.rng a b) σ)
    | _ => False
noncomputable def bList (args : List V) (σ : St) (K : V → St → Prop) : Prop := match args with
    | [.rng a b] => chk (decide (-1000000 ≤ a) && decide (a ≤ 1000000) && decide (-1000000 ≤ b) && decide (b ≤ 1000000)) (newC σ ((range a b).map fun k => .d (.int k)) K)
    | _ => False
noncomputable def bSorted (args : List V) (σ : St) (K : V → St → Prop) : Prop := match args with
    | [.d (.str x)] => chk (Nat.ble x.length 60) (∀ l : List Nat, l.Perm x.cps.toList → l.Pairwise (· ≤ ·) → newC σ (l.map fun c => .d (.str (mkS [c]))) K)
    | _ => False
/-- built-in functions by name -/
noncomputable def bltK (f : Str) (args : List V) (σ : St) (K : V → St → Prop) : Prop :=
  match f == ("len" : Str) with
  | true => bLen args σ K
  | false => match f == ("chr" : Str) with
  | true => bChr args σ K
  | false => match f == ("ord" : Str) with
  | true => bOrd args σ K
  | false => match f == ("str" : Str) with
  | true => bStr args σ K
  | false => match f == ("range" : Str) with
  | true => bRange args σ K
  | false => match f == ("list" : Str) with
  | true => bList args σ K
  | false => match f == ("sorted" : Str) with
  | true => bSorted args σ K
  | false => False
noncomputable def bltOk (f : Str) : Bool := f == ("len" : Str) || f == ("chr" : Str) || f == ("ord" : Str) || f == ("str" : Str) || f == ("range" : Str) || f == ("list" : Str) || f == ("sorted" : Str)
noncomputable def indexL (x : PyData) : List PyData → Option Nat
  | [] => none
  | y :: r => match PyData.eqv y x with | true => some 0 | false => (match indexL x r with | some k => some (k + 1) | none => none)
noncomputable def mIndex (o : V) (args : List V) (σ : St) (K : V → St → Prop) : Prop := match args with
    | [.d (.str y)] => (match o with
      | .d (.str x) => (match Builtin.Str.occurrences x y 0 x.length 1 with | i :: _ => K (.d (.int i)) σ | [] => False)
      | _ => False)
    | _ => False
noncomputable def mSplit (o : V) (args : List V) (σ : St) (K : V → St → Prop) : Prop := match o, args with
    | .d (.str x), [.d (.str y)] => chk (sizeB (x.length + 2) && (y.length != 0)) (newC σ ((Txt.split x y).map fun z => .d (.str z)) K)
    | _, _ => False
noncomputable def mStartswith (o : V) (args : List V) (σ : St) (K : V → St → Prop) : Prop := match o, args with
    | .d (.str x), [.d (.str y)] => K (.d (.bool (Txt.startswith x y))) σ
    | _, _ => False
noncomputable def mEndswith (o : V) (args : List V) (σ : St) (K : V → St → Prop) : Prop := match o, args with
    | .d (.str x), [.d (.str y)] => K (.d (.bool (Txt.endswith x y))) σ
    | _, _ => False
noncomputable def sOf : V → Option Str
  | .d (.str x) => some x
  | _ => none
noncomputable def iOf : V → Option Int
  | .d (.int x) => some x
  | _ => none
noncomputable def mFind (o : V) (args : List V) (σ : St) (K : V → St → Prop) : Prop := match args with
    | [v, a, b] => (match sOf o with
      | some x => (match sOf v with
        | some y => (match iOf a with
          | some a => (match iOf b with
            | some b => chk (decide (0 ≤ a) && decide (a ≤ x.length) && decide (0 ≤ b) && decide (b ≤ x.length) && sizeB x.length) (K (.d (.int (firstAt x y a.toNat b.toNat))) σ)
            | none => False)
          | none => False)
        | none => False)
      | none => False)
    | _ => False
noncomputable def mJoin (o : V) (args : List V) (σ : St) (K : V → St → Prop) : Prop := match o, args with
    | .d (.str x), [a] => (match items σ.cel a with
      | some xs => (match strs? xs with
        | some l => chk (Nat.beq x.length 0 && JoinOk x l) (K (.d (.str (mkS (l.map fun y => y.cps.toList).flatten))) σ)
        | none => False)
      | none => False)
    | _, _ => False
noncomputable def mLower (o : V) (args : List V) (σ : St) (K : V → St → Prop) : Prop := match o, args with
    | .d (.str x), [] => chk (Nat.ble x.length 1000) (K (.d (.str (Txt.lower x))) σ)
    | _, _ => False
/-- methods by name -/
noncomputable def methK (m : Str) (o : V) (args : List V) (σ : St) (K : V → St → Prop) : Prop :=
  match m == ("index" : Str) with
  | true => mIndex o args σ K
  | false => match m == ("split" : Str) with
  | true => mSplit o args σ K
  | false => match m == ("startswith" : Str) with
  | true => mStartswith o args σ K
  | false => match m == ("endswith" : Str) with
  | true => mEndswith o args σ K
  | false => match m == ("find" : Str) with
  | true => mFind o args σ K
  | false => match m == ("join" : Str) with
  | true => mJoin o args σ K
  | false => match m == ("lower" : Str) with
  | true => mLower o args σ K
  | false => False
/-- which methods are covered on what -/
noncomputable def methOk (m : Str) (o : V) : Bool := match o with
  | .d (.str _) => m == ("index" : Str) || m == ("split" : Str) || m == ("startswith" : Str) || m == ("endswith" : Str) || m == ("find" : Str) || m == ("join" : Str) || m == ("lower" : Str)
  | _ => false
noncomputable def tagE : PySem.Expr → Nat
  | .Set .. => 1
  | .Call _ _ _ _ => 2
  | .Starred .. => 3
  | _ => 0
noncomputable def noSet (e : PySem.Expr) : Bool := !(Nat.beq (tagE e) 1)
noncomputable def plainE (e : PySem.Expr) : Bool := !(Nat.beq (tagE e) 2)
noncomputable def noStar (e : PySem.Expr) : Bool := !(Nat.beq (tagE e) 3)
noncomputable def plainEs (es : List PySem.Expr) : Bool := es.all noStar
/-- for: the items of what is walked; the own list is locked meanwhile -/
noncomputable def walkOf (σ : St) : V → Option (List V)
  | .d (.list ds) => some (ds.map V.d)
  | .d (.str x) => some (x.cps.toList.map fun c => .d (.str (mkS [c])))
  | .c k => (match σ.cel[k]? with | some (some xs) => some xs | _ => none)
  | .rng a b => (match decide (-1000000 ≤ a) && decide (a ≤ 1000000) && decide (-1000000 ≤ b) && decide (b ≤ 1000000) with | true => some ((range a b).map fun k => .d (.int k)) | false => none)
  | _ => none
noncomputable def lock (σ : St) : V → St
  | .c k => ⟨σ.loc, σ.cel.set k none⟩
  | _ => σ
noncomputable def unlock (v : V) (xs : List V) (σ : St) : St := match v with
  | .c k => ⟨σ.loc, σ.cel.set k (some xs)⟩
  | _ => σ
noncomputable def putAll : List (Str × V) → St → St
  | [], σ => σ
  | p :: r, σ => putAll r (σ.put p.1 p.2)
noncomputable def nm? : Expr → Option Str
  | .Name x _ => some x
  | _ => none
noncomputable def nms? : List Expr → Option (List Str)
  | [] => some []
  | e :: es => match nm? e with
    | some x => (match nms? es with | some l => some (x :: l) | none => none)
    | none => none
noncomputable def okN (sc : Scope) (x : Str) : Bool := sc.names.lookup x == some .local || sc.names.lookup x == some .cell
noncomputable def lcN (sc : Scope) (x : Str) : Bool := sc.names.lookup x == some .local
/-- a comprehension's target -/
noncomputable def setT (sc : Scope) (t : Expr) (v : V) (σ : St) (K : St → Prop) : Prop := match t with
  | .Name x _ => chk (lcN sc x) (K (σ.put x v))
  | _ => False

noncomputable def compL (turn : V → St → (Option V → St → Prop) → Prop) : List V → List V → St → (List V → St → Prop) → Prop
  | [], out, σ, K => K out σ
  | v :: r, out, σ, K => turn v σ fun y σ => match y with
    | some y => compL turn r (out ++ [y]) σ K
    | none => compL turn r out σ K
/-- a comprehension's scope where it stands -/
noncomputable def compScope (sc outer : Scope) : Scope := { sc with names := sc.names.map fun p => match p.2 == NameKind.free && (outer.names.lookup p.1 == some NameKind.cell) with | true => (p.1, NameKind.cell) | false => p }
noncomputable def nodupB : List Str → Bool
  | [] => true
  | x :: r => !(r.contains x) && nodupB r
noncomputable def compOk (scope outer : Scope) : Bool := scope.kind == .function && nodupB (scope.names.map (·.1)) && scope.names.all fun p => p.2 != .cell && (p.2 != .free || outer.names.lookup p.1 == some .cell)
noncomputable def dropLocals (sc : Scope) : List (Str × V) → List (Str × V)
  | [] => []
  | p :: r => match sc.names.lookup p.1 == some NameKind.local with | true => dropLocals sc r | false => p :: dropLocals sc r
noncomputable def sliceParts (σ : St) (K : V → V → St → Prop) : Prop := K (.d .none) (.d .none) σ

mutual
noncomputable def wpE (g : Gl) : Nat → Scope → Expr → St → (V → St → Prop) → Prop
  | 0, _, _, _, _ => False
  | n + 1, sc, e, σ, K => match e with
    | .Constant c _ _ => (match c with
      | .int i => K (.d (.int i)) σ
      | .str x => K (.d (.str x)) σ
      | .bool b => K (.d (.bool b)) σ
      | .none => K (.d .none) σ
      | _ => False)
    | .Name x _ => (match sc.names.lookup x with
      | some .local | some .cell => (match σ.loc.lookup x with | some v => chk (!(x == ("__debug__" : Str))) (K v σ) | none => False)
      | some .globalImplicit => (match g.con x with | some d => chk (!(x == ("__debug__" : Str))) (K (.d d) σ) | none => False)
      | _ => False)
    | .BinOp l op r _ => wpE g n sc l σ fun a σ => wpE g n sc r σ fun b σ => opB op a b σ K
    | .UnaryOp op x _ => (match op with
      | .USub => wpE g n sc x σ fun a σ => (match a with | .d (.int i) => K (.d (.int (-i))) σ | _ => False)
      | _ => False)
    | .Compare l ops rs _ => (match ops, rs with
      | [op], [r] => chk (noSet r) (wpE g n sc l σ fun a σ => wpE g n sc r σ fun b σ => cmpK op a b σ fun c => K (.d (.bool c)) σ)
      | _, _ => False)
    | .List es _ => wpEs g n sc es σ fun vs σ => chk (sizeB vs.length) (newC σ vs K)
    | .Tuple es _ _ => wpEs g n sc es σ fun vs σ => chk (sizeB vs.length) (match datas? vs with | some ds => K (.d (.tuple ds)) σ | none => False)
    | .Subscript v i _ => (match i with
      | .Slice lo hi st _ => wpE g n sc v σ fun o σ => wpO g n sc lo σ fun a σ => wpO g n sc hi σ fun b σ => wpO g n sc st σ fun c σ => slice3K o a b c σ K
      | i => wpE g n sc v σ fun o σ => wpE g n sc i σ fun j σ => itemK o j σ K)
    | .Call f args kws pos => (match kws with
      | [] => (match f with
        | .Attribute o m apos => chk (plainE o && (apos.endLine == pos.line) && plainEs args && Nat.blt args.length 20) (wpE g n sc o σ fun ov σ => chk (methOk m ov) (wpEs g n sc args σ fun vs σ => methK m ov vs σ K))
        | .Name x _ => (match sc.names.lookup x with
          | some .globalImplicit => (match g.fn x with
            | some φ => chk (plainEs args && Nat.blt 0 args.length && !(x == ("__debug__" : Str))) (wpEs g n sc args σ fun vs σ => (match toDs σ.cel 4 vs with | some ds => φ ds fun d => K (.d d) σ | none => False))
            | none => chk (bltOk x && plainEs args && Nat.blt 0 args.length) (wpEs g n sc args σ fun vs σ => bltK x vs σ K))
          | _ => False)
        | _ => False)
      | _ => False)
    | .ListComp elt gens scope _ => wpC g n sc elt gens scope σ K
    | _ => False
noncomputable def wpO (g : Gl) : Nat → Scope → Option Expr → St → (V → St → Prop) → Prop
  | 0, _, _, _, _ => False
  | n + 1, sc, e, σ, K => match e with
    | none => K (.d .none) σ
    | some e => wpE g n sc e σ K
noncomputable def wpEs (g : Gl) : Nat → Scope → List Expr → St → (List V → St → Prop) → Prop
  | 0, _, _, _, _ => False
  | n + 1, sc, es, σ, K => match es with
    | [] => K [] σ
    | e :: es => wpE g n sc e σ fun v σ => wpEs g n sc es σ fun vs σ => K (v :: vs) σ
noncomputable def wpT (g : Gl) : Nat → Scope → Expr → St → (Bool → St → Prop) → Prop
  | 0, _, _, _, _ => False
  | n + 1, sc, e, σ, K => match e with
    | .UnaryOp op x pos => (match op with
      | .Not => wpT g n sc x σ fun b σ => K (!b) σ
      | op => wpE g n sc (.UnaryOp op x pos) σ fun v σ => truthK v σ fun b => K b σ)
    | .BoolOp op vs _ => wpB g n sc op vs σ K
    | .IfExp _ _ _ _ => False
    | .Compare l ops rs _ => (match ops, rs with
      | [op], [r] => chk (noSet r) (wpE g n sc l σ fun a σ => wpE g n sc r σ fun b σ => cmpK op a b σ fun c => K c σ)
      | _, _ => False)
    | e => wpE g n sc e σ fun v σ => truthK v σ fun b => K b σ
noncomputable def wpB (g : Gl) : Nat → Scope → BoolOp → List Expr → St → (Bool → St → Prop) → Prop
  | 0, _, _, _, _, _ => False
  | n + 1, sc, op, es, σ, K => match es with
    | [] => (match op with | .And => K true σ | .Or => K false σ)
    | e :: es => wpT g n sc e σ fun b σ => (match op with
      | .And => br b (wpB g n sc op es σ K) (K false σ)
      | .Or => br b (K true σ) (wpB g n sc op es σ K))
noncomputable def wpI (g : Gl) : Nat → Scope → List Expr → St → (Bool → St → Prop) → Prop
  | 0, _, _, _, _ => False
  | n + 1, sc, es, σ, K => match es with
    | [] => K true σ
    | e :: es => wpT g n sc e σ fun b σ => br b (wpI g n sc es σ K) (K false σ)
noncomputable def wpC (g : Gl) : Nat → Scope → Expr → List Comprehension → Scope → St → (V → St → Prop) → Prop
  | 0, _, _, _, _, _, _ => False
  | n + 1, sc, elt, gens, scope, σ, K => match gens with
    | [⟨target, iter, ifs, a⟩] => chk (a == 0 && compOk scope sc) (wpE g n sc iter σ fun it σ => (match walkOf σ it with
      | some xs => chk (sizeB xs.length) <|
        let sc' := compScope scope sc
        let σ₁ := lock σ it
        compL (fun v τ k => setT sc' target v τ fun τ => wpI g n sc' ifs τ fun ok τ => br ok (wpE g n sc' elt τ fun y τ => k (some y) τ) (k none τ)) xs []
          ⟨dropLocals sc' σ₁.loc, σ₁.cel ++ [none]⟩
          fun out τ => let τ' := unlock it xs ⟨σ.loc, τ.cel.set σ₁.cel.length (some out)⟩; K (.c σ₁.cel.length) τ'
      | none => False))
    | _ => False
end
end Mine
end
section
open PySem PySem.W PyProof.Rows PySem.Calls
set_option Elab.async false
namespace Mine
inductive Fl where
  | next
  | brk
  | ret (v : V)

noncomputable def swapN (sc : Scope) (ts : List Expr) : List Str := ts.filterMap fun
    | .Name id pos => if (sc.names.lookup id == some .local && pos.line == (ts.head?.map (·.pos.line)).getD 0) = true then some id else none
    | _ => none
noncomputable def starB : PySem.Expr → Bool
  | .Starred .. => true
  | _ => false
/-- none: not covered; some b: are the stores turned about? -/
noncomputable def swapB (sc : Scope) (ts vs : List Expr) : Option Bool :=
  match (!(ts.length == 2 || ts.length == 3) || vs.length != ts.length) with
  | true => some false
  | false => match (vs.any starB) with
    | true => none
    | false => match ((swapN sc ts).length != ts.length || (swapN sc ts).eraseDups.length != (swapN sc ts).length) with
      | true => some false
      | false => match vs.all (foldedForSure 8) with
        | true => some false
        | false => match vs.all (constantsAlone 8) with
          | true => none
          | false => some true

noncomputable def whileN (turn : St → (Option Fl → St → Prop) → Prop) : Nat → St → (Fl → St → Prop) → Prop
  | 0, _, _ => False
  | m + 1, σ, K => turn σ fun f σ => match f with
    | none => K .next σ
    | some .next => whileN turn m σ K
    | some .brk => K .next σ
    | some (.ret v) => K (.ret v) σ
noncomputable def forL (turn : V → St → (Fl → St → Prop) → Prop) : List V → St → (Fl → St → Prop) → Prop
  | [], σ, K => K .next σ
  | v :: r, σ, K => turn v σ fun f σ => match f with
    | .next => forL turn r σ K
    | .brk => K .next σ
    | .ret v => K (.ret v) σ
noncomputable def forE (a b : Str) (turn : St → (Fl → St → Prop) → Prop) : Nat → List V → St → (Fl → St → Prop) → Prop
  | _, [], σ, K => K .next σ
  | i, v :: r, σ, K => turn ((σ.put a (.d (.int i))).put b v) fun f σ => match f with
    | .next => forE a b turn (i + 1) r σ K
    | .brk => K .next σ
    | .ret v => K (.ret v) σ

mutual
noncomputable def wpS (g : Gl) : Nat → Scope → Stmt → St → (Fl → St → Prop) → Prop
  | 0, _, _, _, _ => False
  | n + 1, sc, st, σ, K => match st with
    | .Expr e _ => (match e with
      | .Call f args kws pos => wpE g n sc (.Call f args kws pos) σ fun _ σ => K .next σ
      | _ => False)
    | .Assign ts value _ => (match ts with
      | [t] => (match t with
      | .Name x _ => chk (okN sc x) (wpE g n sc value σ fun v σ => K .next (σ.put x v))
      | .Subscript o i _ => wpE g n sc value σ fun v σ => wpE g n sc o σ fun ov σ => wpE g n sc i σ fun iv σ => storeK ov iv v σ fun σ => K .next σ
      | .Tuple ts _ _ => (match nms? ts with
        | some xs => chk (xs.all (okN sc)) (match value with
          | .Tuple es _ _ => wpEs g n sc es σ fun vs σ => (match swapB sc ts es with
            | some b => chk (xs.length == vs.length && sizeB vs.length) (match b with
              | true => K .next (putAll (xs.zip vs).reverse σ)
              | false => K .next (putAll (xs.zip vs) σ))
            | none => False)
          | value => wpE g n sc value σ fun v σ => (match v with
            | .d (.tuple ds) => chk (xs.length == ds.length) (K .next (putAll (xs.zip (ds.map V.d)) σ))
            | _ => False))
        | none => False)
      | _ => False)
      | _ => False)
    | .AugAssign t op value _ => (match t with
      | .Name x _ => (match sc.names.lookup x with
        | some .local | some .cell => (match σ.loc.lookup x with
          | some old => chk (okN sc x) <| wpE g n sc value σ fun v σ => opI op old v σ fun r σ => K .next (σ.put x r)
          | none => False)
        | _ => False)
      | _ => False)
    | .If t b o _ => wpT g n sc t σ fun c σ => br c (wpSs g n sc b σ K) (wpSs g n sc o σ K)
    | .While t b o _ => (match o with
      | [] => ∃ m, whileN (fun τ k => wpT g n sc t τ fun c τ => br c (wpSs g n sc b τ fun f τ => k (some f) τ) (k none τ)) m σ K
      | _ => False)
    | .For t it b o _ => (match o with
      | [] => (match t, it with
        | .Tuple [.Name x _, .Name y _] _ _, .Call (.Name f _) [e] [] _ => chk (f == ("enumerate" : Str) && (sc.names.lookup f == some .globalImplicit) && okN sc x && okN sc y && plainEs [e]) (wpE g n sc e σ fun v σ => (match items σ.cel v with
          | some xs => forE x y (fun τ k => wpSs g n sc b τ k) 0 xs (lock σ v) fun f τ => K f (unlock v xs τ)
          | none => False))
        | .Name x _, it => chk (okN sc x) (wpE g n sc it σ fun v σ => (match walkOf σ v with
          | some xs => forL (fun v τ k => wpSs g n sc b (τ.put x v) k) xs (lock σ v) fun f τ => K f (unlock v xs τ)
          | none => False))
        | _, _ => False)
      | _ => False)
    | .Return v _ => (match v with
      | some e => wpE g n sc e σ fun v σ => K (.ret v) σ
      | none => K (.ret (.d .none)) σ)
    | .Break _ => K .brk σ
    | .Assert t _ _ => wpT g n sc t σ fun c σ => chk c (K .next σ)
    | .Delete ts _ => (match ts with
      | [t] => (match t with
        | .Subscript o i _ => wpE g n sc o σ fun ov σ => wpE g n sc i σ fun iv σ => delK ov iv σ fun σ => K .next σ
        | _ => False)
      | _ => False)
    | _ => False
noncomputable def wpSs (g : Gl) : Nat → Scope → List Stmt → St → (Fl → St → Prop) → Prop
  | 0, _, _, _, _ => False
  | n + 1, sc, ss, σ, K => match ss with
    | [] => K .next σ
    | s :: r => wpS g n sc s σ fun f σ => match f with
      | .next => wpSs g n sc r σ K
      | .brk => K .brk σ
      | .ret v => K (.ret v) σ
end

mutual
noncomputable def noList : PyData → Bool
  | .list _ => false
  | .dict _ => false
  | .tuple xs => noLists xs
  | _ => true
noncomputable def noLists : List PyData → Bool
  | [] => true
  | x :: xs => noList x && noLists xs
end
noncomputable def flatV : V → Bool
  | .d x => noList x
  | _ => false
/-- what a function gives back is its own -/
noncomputable def retOk (cel : List (Option (List V))) : V → Bool
  | .d x => noList x
  | .c k => (match cel[k]? with | some (some xs) => xs.all flatV | _ => false)
  | _ => false
noncomputable def finK (K : PyData → Prop) : Fl → St → Prop := fun f σ => match f with
    | .ret v => chk (retOk σ.cel v) (match toD σ.cel 4 v with | some d => K d | none => False)
    | .next => K .none
    | .brk => False
/-- a function's body for its arguments -/
noncomputable def wpF (g : Gl) (n : Nat) (sc : Scope) (ps : List Str) (body : List Stmt) : Spec := fun ds K =>
  chk (ps.length == ds.length) (wpSs g n sc body ⟨ps.zip (ds.map V.d), []⟩ (finK K))
/-- what a scope must be -/
noncomputable def fnSc (sc : Scope) (ps : List Str) : Bool := sc.kind == .function && !sc.isGenerator && !sc.isCoroutine && nodupB ps && nodupB (sc.names.map (·.1)) && ps.all (okN sc)
end Mine
end
section
open PySem PySem.W PyProof.Rows PySem.Calls
set_option Elab.async false
namespace Mine

noncomputable def FrOk (hT : Heap) (fr : List Env) (h : Heap) : Prop := ∀ e ∈ fr, e.scope.kind ≠ .module ∧ ∃ L o, e.frame = some L ∧ hT.get? L = none ∧ h.get? L = some o ∧ isDict o
theorem FrOk.ext {hT : Heap} {fr : List Env} {P X : Addr → Prop} {h h' : Heap} (e : Ext P X h h') (f : FrOk hT fr h) : FrOk hT fr h' := fun v hv => by
  obtain ⟨q, L, o, e1, e2, e3, e4⟩ := f v hv
  obtain ⟨o', g, d⟩ := e.isd L o e3 e4
  exact ⟨q, L, o', e1, e2, g, d⟩

structure Inv (hT : Heap) (os : OsState) (fr : List Env) (env : Env) (σ : St) (ρ : List Addr) (s : Shared) : Prop where
  rs : RS env σ ρ s.heap
  gi : GI hT os s
  own : ∀ a ∈ ρ, hT.get? a = none
  fro : FrOk hT fr s.heap
  me : ∀ b, Own env b → hT.get? b = none

theorem isDict_not_cell {o : Obj} (d : isDict o) : ¬ isCell o := fun ⟨v, e⟩ => by obtain ⟨es, n, e'⟩ := d; rw [e'] at e; cases e

theorem Cel.keeps {cel : List (Option (List V))} {ρ : List Addr} {h h' : Heap} (k : ∀ b o, h.get? b = some o → h'.get? b = some o) (c : Cel cel ρ h) : Cel cel ρ h' := by
  refine ⟨c.len, c.nd, fun a ha => let ⟨i, n, g⟩ := c.pl a ha; ⟨i, n, k _ _ g⟩, fun j xs e => ?_⟩
  obtain ⟨a, vs, e1, ⟨n, e2⟩, e3⟩ := c.here j xs e
  have e3 := RVs.ext (X := noX) (new := []) c.pl (by simp) (Ext.of_keeps (P := Live cel ρ) k) e3
  rw [List.append_nil] at e3
  exact ⟨a, vs, e1, ⟨n, k _ _ e2⟩, e3⟩
theorem Evo.of_keeps {X : Addr → Prop} {cel : List (Option (List V))} {ρ : List Addr} {h h' : Heap} (k : ∀ b o, h.get? b = some o → h'.get? b = some o) : Evo X cel ρ h cel ρ h' :=
  ⟨⟨[], by simp, by simp⟩, fun _ xs e _ => ⟨xs, e⟩, fun _ e => e, Ext.of_keeps k⟩
theorem RV.keeps {ρ : List Addr} {h h' : Heap} {cel : List (Option (List V))} (c : Cel cel ρ h) (k : ∀ b o, h.get? b = some o → h'.get? b = some o) {v : Value} {x : V} (r : RV h ρ v x) : RV h' ρ v x :=
  r.evo c (Evo.of_keeps (X := noX) k)
theorem RVs.keeps {ρ : List Addr} {h h' : Heap} {cel : List (Option (List V))} (c : Cel cel ρ h) (k : ∀ b o, h.get? b = some o → h'.get? b = some o) {v : List Value} {x : List V} (r : RVs h ρ v x) : RVs h' ρ v x :=
  r.evo c (Evo.of_keeps (X := noX) k)
theorem Inv.keeps {hT : Heap} {os : OsState} {fr : List Env} {env : Env} {σ : St} {ρ : List Addr} {s s' : Shared} (I : Inv hT os fr env σ ρ s)
    (k : ∀ b o, s.heap.get? b = some o → s'.heap.get? b = some o) (hg : s'.gens = s.gens) (ho : s'.os = s.os) : Inv hT os fr env σ ρ s' :=
  ⟨⟨I.rs.vars.evo I.rs.cel (Evo.of_keeps k), I.rs.cel.keeps k⟩, ⟨fun b o q => k b o (I.gi.keep b o q), hg ▸ I.gi.bare, ho.trans I.gi.os⟩, I.own, I.fro.ext (Ext.of_keeps (P := noX) (X := noX) k), I.me⟩

/-- where an expression's evaluation ends -/
noncomputable def PE (hT : Heap) (os : OsState) (fr : List Env) (env : Env) (cel : List (Option (List V))) (ρ : List Addr) (h : Heap) (K : V → St → Prop) (v : Value) (s' : Shared) : Prop :=
  ∃ x σ' ρ', K x σ' ∧ RV s'.heap ρ' v x ∧ Inv hT os fr env σ' ρ' s' ∧ Evo noX cel ρ h σ'.cel ρ' s'.heap
noncomputable def PEs (hT : Heap) (os : OsState) (fr : List Env) (env : Env) (cel : List (Option (List V))) (ρ : List Addr) (h : Heap) (K : List V → St → Prop) (v : List Value) (s' : Shared) : Prop :=
  ∃ x σ' ρ', K x σ' ∧ RVs s'.heap ρ' v x ∧ Inv hT os fr env σ' ρ' s' ∧ Evo noX cel ρ h σ'.cel ρ' s'.heap
noncomputable def PT (hT : Heap) (os : OsState) (fr : List Env) (env : Env) (cel : List (Option (List V))) (ρ : List Addr) (h : Heap) (K : Bool → St → Prop) (b : Bool) (s' : Shared) : Prop :=
  ∃ σ' ρ', K b σ' ∧ Inv hT os fr env σ' ρ' s' ∧ Evo noX cel ρ h σ'.cel ρ' s'.heap
noncomputable def PU (hT : Heap) (os : OsState) (fr : List Env) (env : Env) (X : Addr → Prop) (cel : List (Option (List V))) (ρ : List Addr) (h : Heap) (K : St → Prop) (s' : Shared) : Prop :=
  ∃ σ' ρ', K σ' ∧ Inv hT os fr env σ' ρ' s' ∧ Evo X cel ρ h σ'.cel ρ' s'.heap

noncomputable abbrev EF : Value → Shared → Prop := fun _ _ => False
section
variable {hT : Heap} {os : OsState} {fr : List Env} {env : Env} {σ : St} {ρ : List Addr} {s s' : Shared} {K : V → St → Prop}
theorem PE.after {cel cel' : List (Option (List V))} {ρ ρ' : List Addr} {h h' : Heap} {v : Value} (e : Evo noX cel ρ h cel' ρ' h') (p : PE hT os fr env cel' ρ' h' K v s') : PE hT os fr env cel ρ h K v s' := by
  obtain ⟨x, σ', ρ'', a, b, c, d⟩ := p
  exact ⟨x, σ', ρ'', a, b, c, e.trans d⟩
theorem PEs.after {cel cel' : List (Option (List V))} {ρ ρ' : List Addr} {h h' : Heap} {v : List Value} {K : List V → St → Prop} (e : Evo noX cel ρ h cel' ρ' h') (p : PEs hT os fr env cel' ρ' h' K v s') : PEs hT os fr env cel ρ h K v s' := by
  obtain ⟨x, σ', ρ'', a, b, c, d⟩ := p
  exact ⟨x, σ', ρ'', a, b, c, e.trans d⟩
theorem PT.after {cel cel' : List (Option (List V))} {ρ ρ' : List Addr} {h h' : Heap} {v : Bool} {K : Bool → St → Prop} (e : Evo noX cel ρ h cel' ρ' h') (p : PT hT os fr env cel' ρ' h' K v s') : PT hT os fr env cel ρ h K v s' := by
  obtain ⟨σ', ρ'', a, c, d⟩ := p
  exact ⟨σ', ρ'', a, c, e.trans d⟩
theorem PU.after {X : Addr → Prop} {cel cel' : List (Option (List V))} {ρ ρ' : List Addr} {h h' : Heap} {K : St → Prop} (e : Evo X cel ρ h cel' ρ' h') (p : PU hT os fr env X cel' ρ' h' K s') : PU hT os fr env X cel ρ h K s' := by
  obtain ⟨σ', ρ'', a, c, d⟩ := p
  exact ⟨σ', ρ'', a, c, e.trans d⟩

theorem wpPE {M : Model} {A : Around} {m : Sem Value} {cel : List (Option (List V))} {h : Heap} {E : Value → Shared → Prop} {Q : Value → Shared → Prop} (p : wpAny M A m (PE hT os fr env cel ρ h K) E s) (f : ∀ v s₁ x σ₁ ρ₁, K x σ₁ → RV s₁.heap ρ₁ v x → Inv hT os fr env σ₁ ρ₁ s₁ → Evo noX cel ρ h σ₁.cel ρ₁ s₁.heap → Q v s₁) : wpAny M A m Q E s :=
  wpAny_mono p (fun v s₁ ⟨x, σ₁, ρ₁, a, b, c, d⟩ => f v s₁ x σ₁ ρ₁ a b c d) fun _ _ q => q
theorem wpPEs {M : Model} {A : Around} {m : Sem (List Value)} {cel : List (Option (List V))} {h : Heap} {K : List V → St → Prop} {E : Value → Shared → Prop} {Q : List Value → Shared → Prop} (p : wpAny M A m (PEs hT os fr env cel ρ h K) E s) (f : ∀ v s₁ x σ₁ ρ₁, K x σ₁ → RVs s₁.heap ρ₁ v x → Inv hT os fr env σ₁ ρ₁ s₁ → Evo noX cel ρ h σ₁.cel ρ₁ s₁.heap → Q v s₁) : wpAny M A m Q E s :=
  wpAny_mono p (fun v s₁ ⟨x, σ₁, ρ₁, a, b, c, d⟩ => f v s₁ x σ₁ ρ₁ a b c d) fun _ _ q => q
theorem wpPT {M : Model} {A : Around} {m : Sem Bool} {cel : List (Option (List V))} {h : Heap} {K : Bool → St → Prop} {E : Value → Shared → Prop} {Q : Bool → Shared → Prop} (p : wpAny M A m (PT hT os fr env cel ρ h K) E s) (f : ∀ v s₁ σ₁ ρ₁, K v σ₁ → Inv hT os fr env σ₁ ρ₁ s₁ → Evo noX cel ρ h σ₁.cel ρ₁ s₁.heap → Q v s₁) : wpAny M A m Q E s :=
  wpAny_mono p (fun v s₁ ⟨σ₁, ρ₁, a, c, d⟩ => f v s₁ σ₁ ρ₁ a c d) fun _ _ q => q
theorem wpPEa {M : Model} {A : Around} {m : Sem Value} {cel cel' : List (Option (List V))} {ρ' : List Addr} {h h' : Heap} {E : Value → Shared → Prop} (e : Evo noX cel ρ h cel' ρ' h') (p : wpAny M A m (PE hT os fr env cel' ρ' h' K) E s) : wpAny M A m (PE hT os fr env cel ρ h K) E s :=
  wpAny_mono p (fun _ _ p => PE.after e p) fun _ _ q => q
theorem wpPTa {M : Model} {A : Around} {m : Sem Bool} {cel cel' : List (Option (List V))} {ρ' : List Addr} {h h' : Heap} {K : Bool → St → Prop} {E : Value → Shared → Prop} (e : Evo noX cel ρ h cel' ρ' h') (p : wpAny M A m (PT hT os fr env cel' ρ' h' K) E s) : wpAny M A m (PT hT os fr env cel ρ h K) E s :=
  wpAny_mono p (fun _ _ p => PT.after e p) fun _ _ q => q

theorem PE.keep {x : V} {v : Value} (I : Inv hT os fr env σ ρ s) (hK : K x σ) (hv : RV s'.heap ρ v x) (k : ∀ b o, s.heap.get? b = some o → s'.heap.get? b = some o) (hg : s'.gens = s.gens) (ho : s'.os = s.os) :
    PE hT os fr env σ.cel ρ s.heap K v s' := ⟨x, σ, ρ, hK, hv, I.keeps k hg ho, Evo.of_keeps k⟩
theorem RV.int {h : Heap} {i : Int} {t : Tok} : RV h ρ (.int i t) (.d (.int i)) := ⟨[], .int i t, rfl, fun _ h => nomatch h⟩
theorem RV.str {h : Heap} {x : Str} {t : Tok} : RV h ρ (.str x t) (.d (.str x)) := ⟨[], .str x t, rfl, fun _ h => nomatch h⟩
theorem RV.bool {h : Heap} {b : Bool} : RV h ρ (.bool b) (.d (.bool b)) := ⟨[], .bool b, rfl, fun _ h => nomatch h⟩
theorem RV.none {h : Heap} : RV h ρ .none (.d .none) := ⟨[], .none, rfl, fun _ h => nomatch h⟩
noncomputable def scal : PyData → Option (Tok → Value)
  | .none => some fun _ => .none
  | .bool b => some fun _ => .bool b
  | .int i => some (Value.int i)
  | .str x => some (Value.str x)
  | _ => none
theorem RV.inv {h : Heap} {v : Value} {x : PyData} {f : Tok → Value} (r : RV h ρ v (.d x)) (e : scal x = some f) : ∃ t, v = f t := by
  obtain ⟨_, r, -, -⟩ := r
  cases r <;> cases e <;> first | exact ⟨_, rfl⟩ | exact ⟨0, rfl⟩
theorem RVs.inv0 {h : Heap} {vs : List Value} (r : RVs h ρ vs []) : vs = [] := by
  cases vs with
  | nil => rfl
  | cons _ _ => exact r.elim
theorem RVs.invc {h : Heap} {vs : List Value} {x : V} {xs : List V} (r : RVs h ρ vs (x :: xs)) : ∃ v us, vs = v :: us ∧ RV h ρ v x ∧ RVs h ρ us xs := by
  cases vs with
  | nil => exact r.elim
  | cons v us => exact ⟨v, us, rfl, r.1, r.2⟩
theorem RVs.inv1 {h : Heap} {vs : List Value} {x : V} (r : RVs h ρ vs [x]) : ∃ v, vs = [v] ∧ RV h ρ v x := by
  obtain ⟨v, us, rfl, r1, r2⟩ := r.invc
  obtain rfl := r2.inv0
  exact ⟨v, rfl, r1⟩
theorem RVs.inv2 {h : Heap} {vs : List Value} {x y : V} (r : RVs h ρ vs [x, y]) : ∃ v v', vs = [v, v'] ∧ RV h ρ v x ∧ RV h ρ v' y := by
  obtain ⟨v, us, rfl, r1, r2⟩ := r.invc
  obtain ⟨v', rfl, r3⟩ := r2.inv1
  exact ⟨v, v', rfl, r1, r3⟩
theorem RVs.inv3 {h : Heap} {vs : List Value} {x y z : V} (r : RVs h ρ vs [x, y, z]) : ∃ v v' v'', vs = [v, v', v''] ∧ RV h ρ v x ∧ RV h ρ v' y ∧ RV h ρ v'' z := by
  obtain ⟨v, us, rfl, r1, r2⟩ := r.invc
  obtain ⟨v', v'', rfl, r3, r4⟩ := r2.inv2
  exact ⟨v, v', v'', rfl, r1, r3, r4⟩
theorem RV.sInv {h : Heap} {v : Value} {o : V} {x : Str} (r : RV h ρ v o) (e : sOf o = some x) : ∃ t, v = .str x t := by
  unfold sOf at e
  split at e
  · cases e; exact RV.inv r rfl
  · cases e
theorem RV.iInv {h : Heap} {v : Value} {o : V} {x : Int} (r : RV h ρ v o) (e : iOf o = some x) : ∃ t, v = .int x t := by
  unfold iOf at e
  split at e
  · cases e; exact RV.inv r rfl
  · cases e
theorem PE.int {i : Int} {t : Tok} {tk : Nat} (I : Inv hT os fr env σ ρ s) (hK : K (.d (.int i)) σ) : PE hT os fr env σ.cel ρ s.heap K (.int i t) { s with toks := tk } := PE.keep I hK .int (fun _ _ e => e) rfl rfl
theorem PE.str {x : Str} {t : Tok} {tk : Nat} (I : Inv hT os fr env σ ρ s) (hK : K (.d (.str x)) σ) : PE hT os fr env σ.cel ρ s.heap K (.str x t) { s with toks := tk } := PE.keep I hK .str (fun _ _ e => e) rfl rfl
theorem PE.bool {b : Bool} {tk : Nat} (I : Inv hT os fr env σ ρ s) (hK : K (.d (.bool b)) σ) : PE hT os fr env σ.cel ρ s.heap K (.bool b) { s with toks := tk } := PE.keep I hK .bool (fun _ _ e => e) rfl rfl

/-- a new own list -/
theorem RVs.more {h : Heap} {ρ new : List Addr} (hp : ∀ a ∈ new, h.get? a = none) {c : List (Option (List V))} (C : Cel c ρ h) {vs : List Value} {xs : List V} (r : RVs h ρ vs xs) : RVs h (ρ ++ new) vs xs :=
  RVs.ext C.pl hp (Ext.refl (Live c ρ) noX h) r
theorem Cel.new {cel : List (Option (List V))} {ρ : List Addr} {h h' : Heap} {D : Addr} {vs : List Value} {xs : List V} (c : Cel cel ρ h) (k : ∀ b o, h.get? b = some o → h'.get? b = some o)
    (hD : h.get? D = none) (hl : h'.PlainList D vs.toArray) (r : RVs h ρ vs xs) : Cel (cel ++ [some xs]) (ρ ++ [D]) h' := by
  have hDn : D ∉ ρ := fun hm => by obtain ⟨i, n, g⟩ := c.pl D hm; rw [hD] at g; cases g
  have ext : Ext (Live cel ρ) noX h h' := Ext.of_keeps k
  have up : ∀ {vs xs}, RVs h ρ vs xs → RVs h' (ρ ++ [D]) vs xs := fun r => RVs.ext c.pl (by simpa using hD) ext r
  refine ⟨by simp [c.len], ?_, fun a ha => ?_, fun j ys e => ?_⟩
  · rw [List.nodup_append]; exact ⟨c.nd, by simp, fun a ha b hb e => by rw [List.mem_singleton] at hb; subst hb; subst e; exact hDn ha⟩
  · rcases List.mem_append.mp ha with ha | ha
    · obtain ⟨i, n, g⟩ := c.pl a ha; exact ⟨i, n, k _ _ g⟩
    · rw [List.mem_singleton] at ha; subst ha; exact ⟨_, hl⟩
  · rcases Nat.lt_or_ge j cel.length with lt | ge
    · rw [List.getElem?_append_left lt] at e
      obtain ⟨a, ws, e1, ⟨n, e2⟩, e3⟩ := c.here j ys e
      exact ⟨a, ws, by rw [List.getElem?_append_left (by rw [c.len]; exact lt)]; exact e1, ⟨n, k _ _ e2⟩, up e3⟩
    · rw [List.getElem?_append_right ge] at e
      have : j - cel.length = 0 := by
        rcases Nat.eq_zero_or_pos (j - cel.length) with z | p
        · exact z
        · rw [List.getElem?_eq_none (by show 1 ≤ _; exact p)] at e; cases e
      rw [this] at e
      obtain rfl : xs = ys := by simpa using e
      refine ⟨D, vs, ?_, hl, up r⟩
      rw [List.getElem?_append_right (by rw [c.len]; exact ge), c.len, this]; rfl
theorem Vars.more {env : Env} {loc : List (Str × V)} {cel : List (Option (List V))} {ρ new : List Addr} {h : Heap} (c : Cel cel ρ h) (hp : ∀ a ∈ new, h.get? a = none) (r : Vars env loc ρ h) : Vars env loc (ρ ++ new) h :=
  r.evo c (cel' := cel) ⟨⟨new, rfl, hp⟩, fun _ xs e _ => ⟨xs, e⟩, fun _ e => e, Ext.refl ..⟩
theorem Evo.new {X : Addr → Prop} {cel : List (Option (List V))} {ρ : List Addr} {h h' : Heap} {D : Addr} {o : Option (List V)} (c : Cel cel ρ h) (k : ∀ b o, h.get? b = some o → h'.get? b = some o) (hD : h.get? D = none) :
    Evo X cel ρ h (cel ++ [o]) (ρ ++ [D]) h' := by
  refine ⟨⟨[D], rfl, by simpa using hD⟩, fun j xs e lt => ⟨xs, ?_⟩, fun j e => ?_, Ext.of_keeps k⟩
  · rw [List.getElem?_append_left (by rw [← c.len]; exact lt)] at e; exact e
  · have lt : j < cel.length := by
      rcases Nat.lt_or_ge j cel.length with l | l
      · exact l
      · rw [List.getElem?_eq_none l] at e; cases e
    rw [List.getElem?_append_left lt]; exact e
theorem Inv.new {D : Addr} {vs : List Value} {xs : List V} (I : Inv hT os fr env σ ρ s) (k : ∀ b o, s.heap.get? b = some o → s'.heap.get? b = some o) (hg : s'.gens = s.gens) (ho : s'.os = s.os)
    (hD : s.heap.get? D = none) (hl : s'.heap.PlainList D vs.toArray) (r : RVs s.heap ρ vs xs) : Inv hT os fr env ⟨σ.loc, σ.cel ++ [some xs]⟩ (ρ ++ [D]) s' := by
  have c := I.rs.cel.new k hD hl r
  refine ⟨⟨?_, c⟩, ⟨fun b o q => k b o (I.gi.keep b o q), hg ▸ I.gi.bare, ho.trans I.gi.os⟩, fun a ha => ?_, I.fro.ext (Ext.of_keeps (P := noX) (X := noX) k), I.me⟩
  · exact I.rs.vars.evo I.rs.cel (Evo.new (o := some xs) I.rs.cel k hD)
  · rcases List.mem_append.mp ha with ha | ha
    · exact I.own a ha
    · rw [List.mem_singleton] at ha; subst ha
      cases q : hT.get? a with
      | none => rfl
      | some o => rw [I.gi.keep _ o q] at hD; cases hD
theorem PE.new {D : Addr} {vs : List Value} {xs : List V} (I : Inv hT os fr env σ ρ s) (hK : newC σ xs K) (k : ∀ b o, s.heap.get? b = some o → s'.heap.get? b = some o) (hg : s'.gens = s.gens) (ho : s'.os = s.os)
    (hD : s.heap.get? D = none) (hl : s'.heap.PlainList D vs.toArray) (r : RVs s.heap ρ vs xs) : PE hT os fr env σ.cel ρ s.heap K (.ref D) s' :=
  ⟨_, _, ρ ++ [D], hK, ⟨D, rfl, by rw [← I.rs.cel.len, List.getElem?_append_right (Nat.le_refl _), Nat.sub_self]; rfl⟩, I.new k hg ho hD hl r, Evo.new I.rs.cel k hD⟩
theorem PE.push {vs : List Value} {xs : List V} {tk : Nat} (I : Inv hT os fr env σ ρ s) (hK : newC σ xs K) (r : RVs s.heap ρ vs xs) :
    PE hT os fr env σ.cel ρ s.heap K (.ref s.heap.objs.size) { s with heap := s.heap.push { cls := .type "list", data := .seq vs.toArray }, toks := tk } :=
  PE.new I hK (fun _ _ e => Heap.get?_push_of_some _ e) rfl rfl (Heap.get?_none_of_le (Nat.le_refl _)) ⟨0, Heap.get?_push_size _ rfl⟩ r
end
end Mine
end
section
open PySem PySem.W PyProof.Rows PySem.Calls
set_option Elab.async false
namespace Mine
theorem chk_iff {b : Bool} {P : Prop} : chk b P ↔ b = true ∧ P := by cases b <;> simp [chk]
theorem mkS_toList (x : Str) : mkS x.cps.toList = x := by cases x; rfl
theorem mkS_append (x y : Str) : mkS (x.cps.toList ++ y.cps.toList) = x ++ y := by
  obtain ⟨⟨x⟩⟩ := x
  obtain ⟨⟨y⟩⟩ := y
  show (⟨⟨x ++ y⟩⟩ : Str) = ⟨(⟨x⟩ : Array Nat) ++ ⟨y⟩⟩
  simp
theorem sizeB_le {n : Nat} (h : sizeB n = true) : n ≤ 16777216 := Nat.le_of_ble_eq_true h
theorem smallI_bits {x : Int} (h : smallI x = true) : Builtin.Int.intBits x ≤ 64 := by
  simp only [smallI, Bool.and_eq_true, decide_eq_true_eq] at h
  exact intBits_le_64 (by omega) (by omega)
theorem rep_succ {α : Type} (n : Nat) (l : List α) : rep (n + 1) l = l ++ rep n l := by simp [rep, List.replicate_succ]
theorem rep_length {α : Type} (l : List α) : ∀ n : Nat, (rep n l).length = l.length * n
  | 0 => by simp [rep]
  | n + 1 => by rw [rep_succ, List.length_append, rep_length l n, Nat.mul_add, Nat.mul_one, Nat.add_comm]
theorem foldl_cat (x : Array Nat) : ∀ (n : Nat) (acc : Array Nat), ((List.replicate n x).foldl (· ++ ·) acc).toList = acc.toList ++ rep n x.toList
  | 0, acc => by simp [rep]
  | n + 1, acc => by rw [List.replicate_succ, List.foldl_cons, foldl_cat x n, rep_succ]; simp
theorem txt_mul {x : Str} {n : Int} (h : 0 ≤ n) : Txt.mul x n = mkS (rep n.toNat x.cps.toList) := by
  unfold Txt.mul
  by_cases h1 : n < 1
  · rw [if_pos h1]
    have : n.toNat = 0 := by omega
    rw [this]; rfl
  · rw [if_neg h1]
    by_cases h2 : (n == 1 || x.length == 0) = true
    · rw [if_pos h2]
      rcases Bool.or_eq_true_iff.mp h2 with h2 | h2
      · have : n.toNat = 1 := by have := eq_of_beq h2; omega
        rw [this]
        have : rep 1 x.cps.toList = x.cps.toList := by simp [rep, List.replicate_succ]
        rw [this, mkS_toList]
      · have : x.cps.toList = [] := by
          have := eq_of_beq h2
          have : x.cps.size = 0 := this
          simpa using this
        have e : rep n.toNat x.cps.toList = [] := by
          rw [this]; apply List.eq_nil_of_length_eq_zero; rw [rep_length]; simp
        rw [e]
        have := mkS_toList x
        rw [‹x.cps.toList = []›] at this; exact this.symm
    · rw [if_neg h2]
      have := foldl_cat x.cps n.toNat #[]
      rw [show mkS (rep n.toNat x.cps.toList) = ⟨(⟨rep n.toNat x.cps.toList⟩ : Array Nat)⟩ from rfl]
      congr 1
      apply Array.ext'
      simpa using this
theorem mulOk {x : Str} {n : Int} (h0 : 0 ≤ n) (h1 : n ≤ 1000000) (h2 : x.length * n.toNat ≤ 16777216) : MulOk x n := by
  refine ⟨by simp; omega, fun a b c => ?_, fun _ _ => ?_⟩
  · have hn : 0 < n := by omega
    have c : (2 ^ 63 - 1) / n < (x.length : Int) := c
    have c := (Int.ediv_lt_iff_lt_mul hn).mp c
    have : ((x.length * n.toNat : Nat) : Int) = (x.length : Int) * n := by rw [Int.natCast_mul, Int.toNat_of_nonneg h0]
    omega
  · show decide (x.length * n.toNat > sizeLine) = false
    rw [sizeLine_eq]; exact decide_eq_false (by omega)

section
variable {prog : Program} {w : World} {A : Around} {hT : Heap} {os : OsState} {fr : List Env} {env : Env} {σ : St} {ρ : List Addr} {s : Shared} {K : V → St → Prop}

theorem own_plain {cel : List (Option (List V))} {ρ : List Addr} {h : Heap} (c : Cel cel ρ h) {v : Value} {x : V} {xs : List V} (r : RV h ρ v x) (e : own? cel x = some xs) :
    ∃ a vs, v = .ref a ∧ h.PlainList a (List.toArray vs) ∧ RVs h ρ vs xs := by
  cases x with
  | d x => cases e
  | rng a b => cases e
  | c k =>
    obtain ⟨a, rfl, ek⟩ := r
    simp only [own?] at e
    cases q : cel[k]? with
    | none => rw [q] at e; cases e
    | some o =>
      cases o with
      | none => rw [q] at e; cases e
      | some ys =>
        rw [q] at e
        obtain rfl : ys = xs := by simpa using e
        obtain ⟨a', vs, e1, e2, e3⟩ := c.here k ys q
        rw [ek] at e1
        obtain rfl : a = a' := by simpa using e1
        exact ⟨a, vs, rfl, e2, e3⟩

theorem typeIs_bool' (s : Shared) (b : Bool) : s.TypeIs (.bool b) "bool" := rfl
theorem slot_bool_sub : Slot "bool" (dunder "sub") "int.__sub__" :=
  .of (owner := "int") (n := "__sub__") (by rw [typeLookup_type, builtinLookup_eq_fast]; kernel_rfl) (by decide +kernel) (by decide +kernel) (by decide +kernel)
    (by first | exact .inl (by decide +kernel) | exact .inr (by decide +kernel)) (by rw [isSubtype_type]; kernel_rfl)
theorem fills_bool_sub : fillsNumberSlot (.type "bool") "sub" = pure true := by
  first
  | (rw [fillsNumberSlot_fast]; kernel_rfl)
  | kernel_rfl
end
end Mine
end
section
open PySem PySem.W PyProof.Rows PySem.Calls
set_option Elab.async false
namespace Mine
section
variable {prog : Program} {w : World} {A : Around} {hT : Heap} {os : OsState} {fr : List Env} {env : Env} {σ : St} {ρ : List Addr} {s : Shared} {K : V → St → Prop} {E : Value → Shared → Prop}

theorem gives_bool_sub (a b : Bool) : Gives (Builtin.«int.__sub__» ⟨[.bool a, .bool b], []⟩) (.int (b2i a - b2i b)) := by
  cases a <;> cases b <;> exact .of_eq rfl
theorem sub_bool {a b : Bool} {Q : Value → Shared → Prop} (h : Q (.int (b2i a - b2i b) s.toks) { s with toks := s.toks + 1 }) : wpAny (model prog w) A (binaryOp .Sub (.bool a) (.bool b)) Q E s :=
  binaryOp_gives (op := .Sub) (T := "bool") (typeIs_bool' s a) (typeIs_bool' s b) fills_bool_sub slot_bool_sub F.entry_int_sub (F.args_int_sub_2 _ _) (gives_bool_sub a b) trivial h

theorem pow_small {x y : Int} (h0 : 0 ≤ y) (h1 : y ≤ 1000) (h2 : smallI x = true) : (Builtin.Int.intBits x : Int) * y ≤ 2 ^ 27 := by
  have hb := smallI_bits h2
  have e1 : (Builtin.Int.intBits x : Int) * y ≤ 64 * 1000 := Int.mul_le_mul (by omega) h1 h0 (by omega)
  exact Int.le_trans e1 (by decide)
theorem iadd_b {a : Int} {b : Bool} {t : Tok} {Q : Value → Shared → Prop} (h : Q (.int (a + b2i b) s.toks) { s with toks := s.toks + 1 }) : wpAny (model prog w) A (inplaceOp .Add (.int a t) (.bool b)) Q E s := by
  refine iadd_int_bool ?_
  have e : (if b = true then (1 : Int) else 0) = b2i b := by cases b <;> rfl
  rw [e]; exact h
theorem opB_ok {op : Operator} {va vb : Value} {a b : V} (I : Inv hT os fr env σ ρ s) (ra : RV s.heap ρ va a) (rb : RV s.heap ρ vb b) (h : opB op a b σ K) :
    wpAny (model prog w) A (binaryOp op va vb) (PE hT os fr env σ.cel ρ s.heap K) E s := by
  cases op with
  | Add =>
    simp only [opB] at h
    split at h
    · split at h
      · obtain ⟨_, rfl⟩ := RV.inv ra rfl; clear ra
        obtain ⟨_, rfl⟩ := RV.inv rb rfl; clear rb
        exact add_int (PE.int I h)
      · cases h
    · split at h
      · obtain ⟨_, rfl⟩ := RV.inv ra rfl; clear ra
        obtain ⟨_, rfl⟩ := RV.inv rb rfl; clear rb
        obtain ⟨h1, h2⟩ := chk_iff.mp h
        exact SB.add (fun t' k => PE.str I (by rw [mkS_append] at h2; exact h2)) (by rw [sizeLine_eq]; exact Nat.le_trans (sizeB_le h1) (by decide))
      · cases h
    · split at h
      · rename_i xs ex
        split at h
        · rename_i ys ey
          obtain ⟨h1, h2⟩ := chk_iff.mp h
          obtain ⟨p, vs, rfl, ⟨n, e2⟩, e3⟩ := own_plain I.rs.cel ra ex
          obtain ⟨q, ws, rfl, ⟨m, f2⟩, f3⟩ := own_plain I.rs.cel rb ey
          refine P.add_list e2 f2 ?_ (by rw [sizeLine_eq]; have := sizeB_le h1; rw [← e3.length, ← f3.length] at this; simpa using this)
          have := PE.push (tk := s.toks) I h2 (e3.append f3)
          simpa using this
        · cases h
      · cases h
  | Sub =>
    simp only [opB] at h
    split at h
    · split at h
      · obtain ⟨_, rfl⟩ := RV.inv ra rfl; clear ra
        obtain ⟨_, rfl⟩ := RV.inv rb rfl; clear rb
        exact sub_int (PE.int I h)
      · cases h
    · split at h
      · obtain ⟨_, rfl⟩ := RV.inv ra rfl; clear ra
        obtain ⟨_, rfl⟩ := RV.inv rb rfl; clear rb
        exact sub_bool (PE.int I h)
      · cases h
    · cases h
  | Mult =>
    simp only [opB] at h
    split at h
    · split at h
      · obtain ⟨_, rfl⟩ := RV.inv ra rfl; clear ra
        obtain ⟨_, rfl⟩ := RV.inv rb rfl; clear rb
        obtain ⟨h1, h2⟩ := chk_iff.mp h
        refine mul_int (PE.int I h2) ?_
        rcases Bool.or_eq_true_iff.mp h1 with h1 | h1
        · exact .of_left (smallI_bits h1)
        · exact .of_right (smallI_bits h1)
      · obtain ⟨_, rfl⟩ := RV.inv ra rfl; clear ra
        obtain ⟨_, rfl⟩ := RV.inv rb rfl; clear rb
        obtain ⟨h1, h2⟩ := chk_iff.mp h
        simp only [Bool.and_eq_true, decide_eq_true_eq] at h1
        refine SB.mul (mulOk h1.1.1 h1.1.2 (sizeB_le h1.2)) fun t' k => PE.str I ?_
        rw [txt_mul h1.1.1]; exact h2
      · cases h
    · cases h
  | FloorDiv =>
    simp only [opB] at h
    split at h
    · split at h
      · obtain ⟨_, rfl⟩ := RV.inv ra rfl; clear ra
        obtain ⟨_, rfl⟩ := RV.inv rb rfl; clear rb
        obtain ⟨h1, h2⟩ := chk_iff.mp h
        simp only [Bool.and_eq_true, decide_eq_true_eq] at h1
        exact floordiv_int h1.1.1 (PE.int I h2) (Or.inl (PyProof.noPylong_small (by omega)))
      · cases h
    · cases h
  | Mod =>
    simp only [opB] at h
    split at h
    · split at h
      · obtain ⟨_, rfl⟩ := RV.inv ra rfl; clear ra
        obtain ⟨_, rfl⟩ := RV.inv rb rfl; clear rb
        obtain ⟨h1, h2⟩ := chk_iff.mp h
        simp only [decide_eq_true_eq] at h1
        exact mod_int h1 (PE.int I h2)
      · cases h
    · cases h
  | Pow =>
    simp only [opB] at h
    split at h
    · split at h
      · obtain ⟨_, rfl⟩ := RV.inv ra rfl; clear ra
        obtain ⟨_, rfl⟩ := RV.inv rb rfl; clear rb
        obtain ⟨h1, h2⟩ := chk_iff.mp h
        simp only [Bool.and_eq_true, decide_eq_true_eq] at h1
        exact pow_int h1.1.1 (pow_small h1.1.1 h1.1.2 h1.2) (PE.int I h2)
      · cases h
    · cases h
  | _ => cases h

theorem opI_ok {op : Operator} {va vb : Value} {a b : V} (I : Inv hT os fr env σ ρ s) (ra : RV s.heap ρ va a) (rb : RV s.heap ρ vb b) (h : opI op a b σ K) :
    wpAny (model prog w) A (inplaceOp op va vb) (PE hT os fr env σ.cel ρ s.heap K) E s := by
  cases op with
  | Add =>
    simp only [opI] at h
    split at h
    · split at h
      · obtain ⟨_, rfl⟩ := RV.inv ra rfl; clear ra
        obtain ⟨_, rfl⟩ := RV.inv rb rfl; clear rb
        exact AutoIntOps.iadd_0 (PE.int I h)
      · obtain ⟨_, rfl⟩ := RV.inv ra rfl; clear ra
        obtain ⟨_, rfl⟩ := RV.inv rb rfl; clear rb
        exact iadd_b (PE.int I h)
      · cases h
    · split at h
      · obtain ⟨_, rfl⟩ := RV.inv ra rfl; clear ra
        obtain ⟨_, rfl⟩ := RV.inv rb rfl; clear rb
        obtain ⟨h1, h2⟩ := chk_iff.mp h
        exact SB.iadd (fun t' k => PE.str I (by rw [mkS_append] at h2; exact h2)) (by rw [sizeLine_eq]; exact Nat.le_trans (sizeB_le h1) (by decide))
      · cases h
    · cases h
  | Sub =>
    simp only [opI] at h
    split at h
    · split at h
      · obtain ⟨_, rfl⟩ := RV.inv ra rfl; clear ra
        obtain ⟨_, rfl⟩ := RV.inv rb rfl; clear rb
        exact AutoIntOps.isub_0 (PE.int I h)
      · cases h
    · cases h
  | _ => cases h
end
end Mine
end
section
open PySem PySem.W PyProof.Rows PySem.Calls
set_option Elab.async false
namespace Mine
section
variable {prog : Program} {w : World} {A : Around} {hT : Heap} {os : OsState} {fr : List Env} {env : Env} {σ : St} {ρ : List Addr} {s : Shared} {K : V → St → Prop} {E : Value → Shared → Prop}

theorem mapO_ok {h : Heap} {f : V → Option PyData} (hf : ∀ v x d, RV h ρ v x → f x = some d → ∃ as, Reads h v d as ∧ noDict d = true ∧ ∀ a ∈ as, ∃ items, h.PlainList a items) : ∀ {vs : List Value} {xs : List V} {ds : List PyData}, RVs h ρ vs xs → mapO f xs = some ds → ∃ as, ReadsAll h vs ds as ∧ noDicts ds = true ∧ ∀ a ∈ as, ∃ items, h.PlainList a items
  | [], [], ds, _, e => by
    obtain rfl : [] = ds := by simpa [mapO] using e
    exact ⟨[], .nil, rfl, by simp⟩
  | v :: vs, x :: xs, ds, r, e => by
    simp only [mapO] at e
    split at e
    · rename_i d q
      split at e
      · rename_i ds' q'
        obtain rfl : d :: ds' = ds := by simpa using e
        obtain ⟨as, r1, n1, p1⟩ := hf _ _ _ r.1 q
        obtain ⟨bs, r2, n2, p2⟩ := mapO_ok hf r.2 q'
        exact ⟨as ++ bs, .cons r1 r2, by simp [noDicts, n1, n2], fun a ha => (List.mem_append.mp ha).elim (p1 a) (p2 a)⟩
      · cases e
    · cases e
  | [], _ :: _, _, r, _ => r.elim
  | _ :: _, [], _, r, _ => r.elim
theorem toD_ok {cel : List (Option (List V))} {h : Heap} (c : Cel cel ρ h) : ∀ {n : Nat} {v : Value} {x : V} {d : PyData}, RV h ρ v x → toD cel n x = some d → ∃ as, Reads h v d as ∧ noDict d = true ∧ ∀ a ∈ as, ∃ items, h.PlainList a items
  | n, v, .d x, d, r, e => by
    obtain ⟨as, r, q, p⟩ := r
    have : x = d := by cases n <;> simpa [toD] using e
    exact ⟨as, this ▸ r, this ▸ q, fun a ha => (p a ha).2⟩
  | 0, v, .c k, d, r, e => by simp [toD] at e
  | n + 1, v, .c k, d, r, e => by
    simp only [toD] at e
    split at e
    · rename_i xs q
      split at e
      · rename_i ds q'
        obtain rfl : PyData.list ds = d := by simpa using e
        obtain ⟨a, rfl, ek⟩ := r
        obtain ⟨a', vs, e1, ⟨m, e2⟩, e3⟩ := c.here k xs q
        rw [ek] at e1
        obtain rfl : a = a' := by simpa using e1
        obtain ⟨as, r', qq, pp⟩ := mapO_ok (fun v x d r e => toD_ok c (n := n) r e) e3 q'
        refine ⟨a :: as, .list e2 rfl rfl (by simpa using r'), qq, fun b hb => ?_⟩
        rcases List.mem_cons.mp hb with rfl | hb
        · exact ⟨_, m, e2⟩
        · exact pp b hb
      · cases e
    · cases e
  | n, v, .rng a b, d, r, e => by cases n <;> simp [toD] at e
theorem toDs_ok {cel : List (Option (List V))} {h : Heap} (c : Cel cel ρ h) {n : Nat} {vs : List Value} {xs : List V} {ds : List PyData} (r : RVs h ρ vs xs) (e : toDs cel n xs = some ds) : ∃ as, ReadsAll h vs ds as ∧ noDicts ds = true ∧ ∀ a ∈ as, ∃ items, h.PlainList a items :=
  mapO_ok (fun v x d r e => toD_ok c r e) r e
theorem toDs_cons {cel : List (Option (List V))} {n : Nat} {x : V} {xs : List V} : toDs cel n (x :: xs) = (match toD cel n x with | some d => (match toDs cel n xs with | some ds => some (d :: ds) | none => none) | none => none) := rfl

theorem items_ok {cel : List (Option (List V))} {h : Heap} (c : Cel cel ρ h) {v : Value} {x : V} {xs : List V} (r : RV h ρ v x) (e : items cel x = some xs) : ∃ a vs, v = .ref a ∧ h.PlainList a (List.toArray vs) ∧ RVs h ρ vs xs := by
  cases x with
  | rng a b => cases e
  | c k =>
    obtain ⟨a, vs, h1, h2, h3⟩ := own_plain c r e
    exact ⟨a, vs, h1, h2, h3⟩
  | d x =>
    cases x with
    | list ds =>
      obtain rfl : ds.map V.d = xs := by simpa [items] using e
      obtain ⟨as, r, q, n⟩ := r
      cases r with
      | @list a o vs m _ bs g hc hd r =>
        obtain ⟨items, k, g'⟩ := (n a List.mem_cons_self).2
        rw [g] at g'
        have g'' := Option.some.inj g'
        rw [g''] at hd
        have hd := Data.seq.inj hd
        refine ⟨a, vs.toList, rfl, ⟨k, ?_⟩, RVs.ofAll r q fun a ha => n a (List.mem_cons_of_mem _ ha)⟩
        rw [g, g'', hd.1]
    | _ => cases e

theorem eqK_ok {va vb : Value} {a b : V} {K : Bool → Prop} (hu : A.units + 64 < cLine) (I : Inv hT os fr env σ ρ s) (ra : RV s.heap ρ va a) (rb : RV s.heap ρ vb b) (h : eqK a b σ K) :
    wpAny (model prog w) A (compareOp .Eq va vb) (fun v s' => s' = s ∧ ∃ c, v = .bool c ∧ K c) E s ∧ wpAny (model prog w) A (compareOp .NotEq va vb) (fun v s' => s' = s ∧ ∃ c, v = .bool (!c) ∧ K c) E s := by
  unfold eqK at h
  split at h
  · obtain ⟨_, rfl⟩ := RV.inv ra rfl; clear ra
    obtain ⟨_, rfl⟩ := RV.inv rb rfl; clear rb
    refine ⟨P.eq_int ⟨rfl, _, rfl, ?_⟩, P.ne_int ⟨rfl, _, rfl, ?_⟩⟩ <;> exact h
  · obtain ⟨_, rfl⟩ := RV.inv ra rfl; clear ra
    obtain ⟨_, rfl⟩ := RV.inv rb rfl; clear rb
    exact ⟨P.eq_str ⟨rfl, _, rfl, h⟩, P.ne_str ⟨rfl, _, rfl, h⟩⟩
  · split at h
    · rename_i d q
      split at h
      · rename_i e q'
        obtain ⟨h1, h2⟩ := chk_iff.mp h
        simp only [Bool.and_eq_true] at h1
        obtain ⟨as, r1, -⟩ := toD_ok I.rs.cel ra q
        obtain ⟨bs, r2, -⟩ := toD_ok I.rs.cel rb q'
        exact ⟨eq_dataH r1 r2 h1.1 h1.2 hu ⟨rfl, _, rfl, h2⟩, ne_dataH r1 r2 h1.1 h1.2 hu ⟨rfl, _, rfl, h2⟩⟩
      · cases h
    · cases h

/-- what a comparison gives: a bool, and nothing else is turned -/
theorem cmpK_ok {op : CmpOp} {va vb : Value} {a b : V} {K : Bool → Prop} (hu : A.units + 64 < cLine) (I : Inv hT os fr env σ ρ s) (ra : RV s.heap ρ va a) (rb : RV s.heap ρ vb b) (h : cmpK op a b σ K) :
    wpAny (model prog w) A (compareOp op va vb) (fun v s' => s' = s ∧ ∃ c, v = .bool c ∧ K c) E s := by
  cases op with
  | Eq => exact (eqK_ok hu I ra rb h).1
  | NotEq => exact wpAny_mono (eqK_ok (K := fun c => K (!c)) hu I ra rb h).2 (fun v s' ⟨e, c, e1, e2⟩ => ⟨e, _, e1, e2⟩) fun _ _ x => x
  | Is =>
    simp only [cmpK, isK] at h
    split at h
    · obtain ⟨_, rfl⟩ := RV.inv ra rfl; clear ra
      obtain ⟨_, rfl⟩ := RV.inv rb rfl; clear rb
      exact is_bool ⟨rfl, _, rfl, h⟩
    · obtain ⟨_, rfl⟩ := RV.inv ra rfl; clear ra
      obtain ⟨_, rfl⟩ := RV.inv rb rfl; clear rb
      exact is_none_none ⟨rfl, _, rfl, h⟩
    · obtain ⟨_, rfl⟩ := RV.inv ra rfl; clear ra
      obtain ⟨_, rfl⟩ := RV.inv rb rfl; clear rb
      exact wpAny_is_plain rfl ⟨rfl, _, rfl, h⟩
    · cases h
  | IsNot =>
    simp only [cmpK, isK] at h
    split at h
    · obtain ⟨_, rfl⟩ := RV.inv ra rfl; clear ra
      obtain ⟨_, rfl⟩ := RV.inv rb rfl; clear rb
      exact isnot_bool ⟨rfl, _, rfl, h⟩
    · obtain ⟨_, rfl⟩ := RV.inv ra rfl; clear ra
      obtain ⟨_, rfl⟩ := RV.inv rb rfl; clear rb
      exact wpAny_isNot_plain rfl ⟨rfl, _, rfl, h⟩
    · obtain ⟨_, rfl⟩ := RV.inv ra rfl; clear ra
      obtain ⟨_, rfl⟩ := RV.inv rb rfl; clear rb
      exact wpAny_isNot_plain rfl ⟨rfl, _, rfl, h⟩
    · cases h
  | Lt =>
    simp only [cmpK] at h
    split at h
    · split at h
      · obtain ⟨_, rfl⟩ := RV.inv ra rfl; clear ra
        obtain ⟨_, rfl⟩ := RV.inv rb rfl; clear rb
        exact P.lt_int ⟨rfl, _, rfl, h⟩
      · cases h
    · split at h
      · obtain ⟨_, rfl⟩ := RV.inv ra rfl; clear ra
        obtain ⟨_, rfl⟩ := RV.inv rb rfl; clear rb
        exact P.lt_str ⟨rfl, _, rfl, h⟩
      · cases h
    · cases h
  | Gt =>
    simp only [cmpK] at h
    split at h
    · split at h
      · obtain ⟨_, rfl⟩ := RV.inv ra rfl; clear ra
        obtain ⟨_, rfl⟩ := RV.inv rb rfl; clear rb
        exact P.gt_int ⟨rfl, _, rfl, h⟩
      · cases h
    · split at h
      · obtain ⟨_, rfl⟩ := RV.inv ra rfl; clear ra
        obtain ⟨_, rfl⟩ := RV.inv rb rfl; clear rb
        exact P.gt_str ⟨rfl, _, rfl, h⟩
      · cases h
    · cases h
  | GtE =>
    simp only [cmpK] at h
    split at h
    · split at h
      · obtain ⟨_, rfl⟩ := RV.inv ra rfl; clear ra
        obtain ⟨_, rfl⟩ := RV.inv rb rfl; clear rb
        exact P.ge_int ⟨rfl, _, rfl, h⟩
      · cases h
    · cases h
  | NotIn =>
    simp only [cmpK] at h
    split at h
    · split at h
      · obtain ⟨_, rfl⟩ := RV.inv ra rfl; clear ra
        obtain ⟨_, rfl⟩ := RV.inv rb rfl; clear rb
        exact SB.notContains ⟨rfl, _, rfl, h⟩
      · cases h
    · cases h
  | _ => exact False.elim h

theorem ne0 (i : Int) : (i != 0) = decide (i ≠ 0) := by simp [bne, BEq.beq]
theorem len0 (x : Str) : ((x.length : Int) != 0) = !(x.cps.toList.isEmpty) := by
  have : x.length = x.cps.toList.length := by simp [Str.length]
  rw [this]
  cases x.cps.toList with
  | nil => rfl
  | cons a l => rw [ne0]; simp; omega
theorem truthK_ok {va : Value} {a : V} {K : Bool → Prop} (ra : RV s.heap ρ va a) (h : truthK a σ K) : wpAny (model prog w) A (truthy va) (fun b s' => (∃ k, s' = { s with toks := k }) ∧ K b) E s := by
  unfold truthK at h
  split at h
  · obtain ⟨_, rfl⟩ := RV.inv ra rfl; clear ra
    exact wpAny_truthy_bool ⟨⟨_, rfl⟩, h⟩
  · obtain ⟨_, rfl⟩ := RV.inv ra rfl; clear ra
    refine truthy_int ⟨⟨_, rfl⟩, ?_⟩
    rw [ne0]; exact h
  · obtain ⟨_, rfl⟩ := RV.inv ra rfl; clear ra
    obtain ⟨h1, h2⟩ := chk_iff.mp h
    refine P.truthy_str (by have := sizeB_le h1; omega) ⟨⟨_, rfl⟩, ?_⟩
    rw [len0]; exact h2
  · cases h
end
end Mine
end
section
open PySem PySem.W PyProof.Rows PySem.Calls
set_option Elab.async false
namespace Mine
section
variable {prog : Program} {w : World} {A : Around} {hT : Heap} {os : OsState} {fr : List Env} {env : Env} {σ : St} {ρ : List Addr} {s : Shared} {K : V → St → Prop} {E : Value → Shared → Prop}

theorem wpAny_Sub {value slice : PySem.Expr} {pos : Pos} {Q : Value → Shared → Prop}
    (h : wpAny (model prog w) A (eval value env) (fun o s₁ => wpAny (model prog w) A (eval slice env) (fun i s₂ => SubscriptOn (model prog w) A o i Q E s₂) E s₁) E s) :
    wpAny (model prog w) A (eval (.Subscript value slice pos) env) Q E s := by
  rw [eval_Subscript]
  refine wpAny_bind (wpAny_mono h (fun o s₁ h₁ => wpAny_bind (wpAny_holding (wpAny_mono h₁ (fun i s₂ h₂ => wpAny_bind (wpAny_standAt ?_)) fun _ _ x => x))) fun _ _ x => x)
  obtain ⟨T, id, hl, hT, hg⟩ := h₂
  refine wpAny_bind ?_
  rw [getitemInPython_of_ne hT.not_modules]
  refine wpAny_bind (wpAny_specialOf hT hl ?_)
  have fin : ∀ l, wpAny (model prog w) A (operate l (getItem o i)) (fun r s₃ => wpAny (model prog w) A (letTemporaryGo value o r >>= fun _ => pure r) Q E s₃) E s₂ := fun l =>
    wpAny_operating (wpAny_mono hg (fun r s₃ h₃ => wpAny_bind (wpAny_letTemporaryGo (wpAny_pure h₃))) fun _ _ x => x)
  have e : ∃ l, subscripted slice false o i = operate l (getItem o i) := by
    unfold subscripted
    split
    · exact ⟨_, rfl⟩
    · simp_all
    · exact ⟨_, rfl⟩
  obtain ⟨l, e⟩ := e
  have fin := fin l
  rw [← e] at fin
  first
    | exact wpAny_pure (wpAny_bind fin)
    | exact wpAny_bind (wpAny_pure (wpAny_bind fin))
    | exact wpAny_bind fin

theorem get?_V {h : Heap} {vs : List Value} {xs : List V} (r : RVs h ρ vs xs) {j : Option Nat} {x : V} (e : j.bind (xs[·]?) = some x) : ∃ v, j.bind (vs[·]?) = some v ∧ RV h ρ v x := by
  cases j with
  | none => cases e
  | some j => exact r.get e

theorem getItem_listI {l : Addr} {items : Array Value} {k : Int} {t : Tok} {v : Value} {Q : Value → Shared → Prop} (hl : s.heap.IsList l items) (hk : smallI k = true) (e : (seqIndex? k items.size).bind (items.toList[·]?) = some v) (h : Q v s) :
    wpAny (model prog w) A (getItem (.ref l) (.int k t)) Q E s := by
  simp only [smallI, Bool.and_eq_true, decide_eq_true_eq] at hk
  unfold seqIndex? at e
  by_cases h0 : k < 0
  · simp only [if_pos h0] at e
    split at e
    · rename_i hc
      simp only [Bool.and_eq_true, decide_eq_true_eq] at hc
      exact wpAny_getItem_list_neg hl h0 (by omega) (by omega) (by simpa using e) h
    · cases e
  · simp only [if_neg h0] at e
    split at e
    · exact wpAny_getItem_list hl (by omega) hk.2 (by simpa using e) h
    · cases e

theorem item_of {x : Str} {k : Int} {c : Nat} (e : Txt.charAt x k = some c) : Txt.item x k = mkS [c] := by unfold Txt.item; rw [e]; rfl
theorem tuple_at {ds : List PyData} {d : PyData} {j : Option Nat} (e : j.bind (ds[·]?) = some d) : j.bind ((ds.map V.d)[·]?) = some (.d d) := by
  cases j with
  | none => cases e
  | some j => simp only [Option.bind_some] at e ⊢; rw [List.getElem?_map, e]; rfl
theorem nodup_inj {l : List Addr} (h : l.Nodup) {i j : Nat} {a : Addr} (hi : l[i]? = some a) (hj : l[j]? = some a) : i = j := by
  have key : ∀ i j : Nat, i < j → l[i]? = some a → l[j]? = some a → False := fun i j lt hi hj => by
    obtain ⟨h1, e1⟩ := List.getElem?_eq_some_iff.mp hi
    obtain ⟨h2, e2⟩ := List.getElem?_eq_some_iff.mp hj
    exact List.pairwise_iff_getElem.mp h i j h1 h2 lt (e1.trans e2.symm)
  rcases Nat.lt_trichotomy i j with lt | eq | gt
  · exact (key _ _ lt hi hj).elim
  · exact eq
  · exact (key _ _ gt hj hi).elim
theorem itemK_ok {vo vi : Value} {o i : V} (I : Inv hT os fr env σ ρ s) (ro : RV s.heap ρ vo o) (ri : RV s.heap ρ vi i) (h : itemK o i σ K) :
    SubscriptOn (model prog w) A vo vi (PE hT os fr env σ.cel ρ s.heap K) E s := by
  unfold itemK at h
  split at h
  · rename_i k
    obtain ⟨_, rfl⟩ := RV.inv ri rfl; clear ri
    obtain ⟨hs, h⟩ := chk_iff.mp h
    have hs' := hs
    simp only [smallI, Bool.and_eq_true, decide_eq_true_eq] at hs'
    split at h
    · obtain ⟨_, rfl⟩ := RV.inv ro rfl; clear ro
      split at h
      · rename_i e
        refine ⟨"str", _, F.slot_str_getitem.lookup, typeIs_str s _ _, SB.getItem ?_ ?_ ?_⟩
        · unfold fitsSsize; simp; omega
        · rw [e]; rfl
        · rw [item_of e]; exact PE.str I h
      · cases h
    · split at h
      · rename_i e
        obtain ⟨as, ro, q, n⟩ := ro
        cases ro with
        | @tuple a o vs m _ _ g hc hd r =>
          have rr := RVs.ofAll r q n
          obtain ⟨v, e1, e2⟩ := get?_V rr (tuple_at e)
          have hlen := rr.length
          rw [List.length_map] at hlen
          have ht : IsTup s.heap a vs := ⟨o, g, hc, m, hd⟩
          rw [← hlen] at e1
          obtain ⟨j, hj, e1⟩ := Option.bind_eq_some_iff.mp e1
          refine ⟨"tuple", _, slot_tuple_getitem.lookup, ht.typeIs, getItem_tuple (j := j) ht (by omega) hs'.2 (by simpa using hj) (by simpa using e1) ?_⟩
          exact ⟨_, σ, ρ, h, e2, I, Evo.refl ..⟩
      · cases h
    · split at h
      · rename_i xs ex
        split at h
        · rename_i v e
          obtain ⟨a, vs, rfl, hl, rr⟩ := items_ok I.rs.cel ro ex
          rw [← rr.length] at e
          obtain ⟨v', e1, e2⟩ := get?_V rr e
          refine ⟨"list", _, slot_list_getitem.lookup, hl.isList.typeIs, getItem_listI hl.isList hs (by simpa using e1) ?_⟩
          exact ⟨_, σ, ρ, h, e2, I, Evo.refl ..⟩
        · cases h
      · cases h
  · cases h

/-! own lists turned -/
theorem live_of {cel : List (Option (List V))} {k : Nat} {xs : List V} {a : Addr} (e : cel[k]? = some (some xs)) (ek : ρ[k]? = some a) : Live cel ρ a := ⟨k, xs, e, ek⟩
theorem Ext.upd {P X : Addr → Prop} {h h' : Heap} {a : Addr} {items : Array Value} (hp : h.PlainList a items) (hs : Heap.SameBut a h h') (ha : P a) (ht : ∃ o, h'.get? a = some o) : Ext P X h h' := by
  obtain ⟨n, g⟩ := hp
  have ne : ∀ b o, h.get? b = some o → (Mine.isDict o ∨ Mine.isCell o) → b ≠ a := fun b o e d c => by
    subst c; rw [g] at e
    obtain rfl := Option.some.inj e
    rcases d with d | d
    · exact not_dict_seq rfl d
    · exact not_cell_seq rfl d
  refine ⟨fun b o e => ?_, fun b o e n _ _ => ?_, fun b o e d _ => ⟨o, ?_, rfl⟩, fun b o e d => ⟨o, ?_, d⟩, fun b o e d _ => ?_⟩
  · by_cases c : b = a
    · subst c; exact ht
    · exact ⟨o, by rw [hs.2 b c]; exact e⟩
  · rw [hs.2 b fun c => n (c ▸ ha)]; exact e
  · rw [hs.2 b (ne b o e (.inl d))]; exact e
  · rw [hs.2 b (ne b o e (.inl d))]; exact e
  · rw [hs.2 b (ne b o e (.inr d))]; exact e
theorem Evo.upd {X : Addr → Prop} {cel : List (Option (List V))} {h h' : Heap} {k : Nat} {xs : List V} {o : Option (List V)} (e : cel[k]? = some (some xs)) (ex : Ext (Live cel ρ) X h h') : Evo X cel ρ h (cel.set k o) ρ h' := by
  refine ⟨⟨[], by simp, by simp⟩, fun j ys q lt => ?_, fun j q => ?_, ex⟩
  · by_cases c : j = k
    · subst c; exact ⟨xs, e⟩
    · rw [List.getElem?_set_ne (fun q => c q.symm)] at q; exact ⟨ys, q⟩
  · by_cases c : j = k
    · subst c; rw [e] at q; cases q
    · rw [List.getElem?_set_ne (fun q => c q.symm)]; exact q
theorem Cel.upd {cel : List (Option (List V))} {h h' : Heap} {k : Nat} {xs ys : List V} {a : Addr} {vs : List Value} (c : Cel cel ρ h) (e : cel[k]? = some (some xs)) (ek : ρ[k]? = some a)
    (hs : Heap.SameBut a h h') (hp : h'.PlainList a vs.toArray) (r : RVs h ρ vs ys) : Cel (cel.set k (some ys)) ρ h' := by
  obtain ⟨items, hpa⟩ := c.pl a (List.mem_of_getElem? ek)
  have ex : Ext (Live cel ρ) noX h h' := Ext.upd hpa hs (live_of e ek) ⟨_, hp.choose_spec⟩
  have up : ∀ {vs xs}, RVs h ρ vs xs → RVs h' ρ vs xs := fun r => by
    have := RVs.ext (new := []) c.pl (by simp) ex r
    rwa [List.append_nil] at this
  refine ⟨by rw [List.length_set]; exact c.len, c.nd, fun b hb => ?_, fun j zs q => ?_⟩
  · by_cases d : b = a
    · subst d; exact ⟨_, hp⟩
    · obtain ⟨i, n, g⟩ := c.pl b hb; exact ⟨i, n, by rw [hs.2 b d]; exact g⟩
  · by_cases d : j = k
    · subst d
      have lt : j < cel.length := by
        rcases Nat.lt_or_ge j cel.length with l | l
        · exact l
        · rw [List.getElem?_eq_none l] at e; cases e
      rw [List.getElem?_set_self lt] at q
      obtain rfl : ys = zs := by simpa using q
      exact ⟨a, vs, ek, hp, up r⟩
    · rw [List.getElem?_set_ne (fun q => d q.symm)] at q
      obtain ⟨b, ws, e1, ⟨n, e2⟩, e3⟩ := c.here j zs q
      have nb : b ≠ a := fun z => by
        subst z
        exact d (nodup_inj c.nd e1 ek)
      exact ⟨b, ws, e1, ⟨n, by rw [hs.2 b nb]; exact e2⟩, up e3⟩
theorem Inv.upd {s' : Shared} {k : Nat} {xs ys : List V} {a : Addr} {vs : List Value} (I : Inv hT os fr env σ ρ s) (e : σ.cel[k]? = some (some xs)) (ek : ρ[k]? = some a)
    (hs : Heap.SameBut a s.heap s'.heap) (hp : s'.heap.PlainList a vs.toArray) (r : RVs s.heap ρ vs ys) (hg : s'.gens = s.gens) (ho : s'.os = s.os) :
    Inv hT os fr env ⟨σ.loc, σ.cel.set k (some ys)⟩ ρ s' ∧ ∀ X, Evo X σ.cel ρ s.heap (σ.cel.set k (some ys)) ρ s'.heap := by
  obtain ⟨items, hpa⟩ := I.rs.cel.pl a (List.mem_of_getElem? ek)
  have ex : ∀ X, Ext (Live σ.cel ρ) X s.heap s'.heap := fun X => Ext.upd hpa hs (live_of e ek) ⟨_, hp.choose_spec⟩
  have ev : ∀ X, Evo X σ.cel ρ s.heap (σ.cel.set k (some ys)) ρ s'.heap := fun X => Evo.upd e (ex X)
  refine ⟨⟨⟨I.rs.vars.evo I.rs.cel (ev _), I.rs.cel.upd e ek hs hp r⟩, ⟨fun b o q => ?_, hg ▸ I.gi.bare, ho.trans I.gi.os⟩, I.own, I.fro.ext (ex noX), I.me⟩, ev⟩
  rw [hs.2 b fun c => by subst c; rw [I.own b (List.mem_of_getElem? ek)] at q; cases q]
  exact I.gi.keep b o q

theorem own_at {cel : List (Option (List V))} {h : Heap} (c : Cel cel ρ h) {v : Value} {k : Nat} {xs : List V} (r : RV h ρ v (.c k)) (e : cel[k]? = some (some xs)) :
    ∃ a vs, v = .ref a ∧ ρ[k]? = some a ∧ h.PlainList a (List.toArray vs) ∧ RVs h ρ vs xs := by
  obtain ⟨a, rfl, ek⟩ := r
  obtain ⟨a', vs, e1, e2, e3⟩ := c.here k xs e
  rw [ek] at e1
  obtain rfl : a = a' := by simpa using e1
  exact ⟨a, vs, rfl, ek, e2, e3⟩
theorem RVs.set {h : Heap} : ∀ {vs : List Value} {xs : List V} {j : Nat} {v : Value} {x : V}, RVs h ρ vs xs → RV h ρ v x → RVs h ρ (vs.set j v) (xs.set j x)
  | [], [], _, _, _, _, _ => trivial
  | _ :: _, _ :: _, 0, _, _, r, q => ⟨q, r.2⟩
  | _ :: _, _ :: _, j + 1, _, _, r, q => ⟨r.1, RVs.set r.2 q⟩
  | [], _ :: _, _, _, _, r, _ => r.elim
  | _ :: _, [], _, _, _, r, _ => r.elim
theorem RVs.erase {h : Heap} : ∀ {vs : List Value} {xs : List V} {j : Nat}, RVs h ρ vs xs → RVs h ρ (vs.eraseIdx j) (xs.eraseIdx j)
  | [], [], _, _ => trivial
  | _ :: _, _ :: _, 0, r => r.2
  | _ :: _, _ :: _, j + 1, r => ⟨r.1, RVs.erase r.2⟩
  | [], _ :: _, _, r => r.elim
  | _ :: _, [], _, r => r.elim

theorem storeK_ok {X : Addr → Prop} {vo vi vv : Value} {o i v : V} {K : St → Prop} (I : Inv hT os fr env σ ρ s) (ro : RV s.heap ρ vo o) (ri : RV s.heap ρ vi i) (rv : RV s.heap ρ vv v) (h : storeK o i v σ K) :
    wpAny (model prog w) A (setItem vo vi vv) (fun _ => PU hT os fr env X σ.cel ρ s.heap K) E s := by
  unfold storeK at h
  split at h
  · rename_i k
    split at h
    · rename_i xs e
      split at h
      · rename_i j
        obtain ⟨_, rfl⟩ := RV.inv ri rfl; clear ri
        obtain ⟨h1, h2⟩ := chk_iff.mp h
        simp only [Bool.and_eq_true, decide_eq_true_eq] at h1
        have hz := sizeB_le h1.2
        obtain ⟨a, vs, rfl, ek, ⟨n, hp⟩, rr⟩ := own_at I.rs.cel ro e
        have hlen := rr.length
        refine ki_setAt (n := n) hp h1.1.1 (by omega) (by simp; omega) ?_
        have hp' : (s.heap.update a (Obj.mapSeq (·.setIfInBounds j.toNat vv))).PlainList a (vs.set j.toNat vv).toArray :=
          ⟨_, by have := PySem.IsL.update (n := n) hp (·.setIfInBounds j.toNat vv); simpa using this⟩
        obtain ⟨I', ev⟩ := I.upd (s' := { s with heap := s.heap.update a (Obj.mapSeq (·.setIfInBounds j.toNat vv)) }) e ek (Heap.SameBut.update ..) hp' (rr.set rv) rfl rfl
        exact ⟨_, ρ, h2, I', ev X⟩
      · cases h
    · cases h
  · cases h

theorem delK_ok {X : Addr → Prop} {vo vi : Value} {o i : V} {K : St → Prop} (I : Inv hT os fr env σ ρ s) (ro : RV s.heap ρ vo o) (ri : RV s.heap ρ vi i) (h : delK o i σ K) :
    wpAny (model prog w) A (delItem vo vi) (fun _ => PU hT os fr env X σ.cel ρ s.heap K) E s := by
  unfold delK at h
  split at h
  · rename_i k
    split at h
    · rename_i xs e
      split at h
      · rename_i j
        obtain ⟨_, rfl⟩ := RV.inv ri rfl; clear ri
        split at h
        · rename_i m em
          split at em
          · rename_i hs
            obtain ⟨h1, h2⟩ := chk_iff.mp h
            simp only [decide_eq_true_eq] at hs
            simp only [smallI, Bool.and_eq_true, decide_eq_true_eq] at hs
            have hz := sizeB_le h1
            obtain ⟨a, vs, rfl, ek, hp, rr⟩ := own_at I.rs.cel ro e
            have hlen := rr.length
            refine wpAny_delItem_plain hp (by simp [Builtin.List.listFitsIndex]; omega) (k := m) (by rw [← em, ← hlen]; simp) (fun h' hp' hs' => ?_) (by rw [sizeLine_eq]; simp; omega)
            have hp'' : h'.PlainList a (vs.eraseIdx m).toArray := by simpa using hp'
            obtain ⟨I', ev⟩ := I.upd (s' := { s with heap := h' }) e ek hs' hp'' (rr.erase (j := m)) rfl rfl
            exact ⟨_, ρ, h2, I', ev X⟩
          · cases em
        · cases h
      · cases h
    · cases h
  · cases h
end
end Mine
end
section
open PySem PySem.W PyProof.Rows PySem.Calls
set_option Elab.async false
namespace Mine
section
variable {prog : Program} {w : World} {A : Around} {hT : Heap} {os : OsState} {fr : List Env} {env : Env} {σ : St} {ρ : List Addr} {s : Shared} {K : V → St → Prop} {E : Value → Shared → Prop}

theorem RVs.drop {h : Heap} : ∀ {vs : List Value} {xs : List V} (j : Nat), RVs h ρ vs xs → RVs h ρ (vs.drop j) (xs.drop j)
  | vs, xs, 0, r => r
  | [], [], _ + 1, r => r
  | _ :: _, _ :: _, j + 1, r => RVs.drop j r.2
  | [], _ :: _, _ + 1, r => r.elim
  | _ :: _, [], _ + 1, r => r.elim
theorem RVs.take {h : Heap} : ∀ {vs : List Value} {xs : List V} (j : Nat), RVs h ρ vs xs → RVs h ρ (vs.take j) (xs.take j)
  | _, _, 0, _ => by rw [List.take_zero, List.take_zero]; trivial
  | [], [], _ + 1, r => r
  | _ :: _, _ :: _, j + 1, r => ⟨r.1, RVs.take j r.2⟩
  | [], _ :: _, _ + 1, r => r.elim
  | _ :: _, [], _ + 1, r => r.elim
theorem RVs.cut {h : Heap} {vs : List Value} {xs : List V} (r : RVs h ρ vs xs) (lo hi : Option Int) : RVs h ρ (kms_pick vs lo hi) (Mine.cut lo hi xs) := by
  unfold kms_pick Mine.cut
  rw [r.length]
  exact (r.drop _).take _
theorem RVs.rev {h : Heap} : ∀ {vs : List Value} {xs : List V}, RVs h ρ vs xs → RVs h ρ vs.reverse xs.reverse
  | [], [], _ => trivial
  | _ :: _, _ :: _, r => by rw [List.reverse_cons, List.reverse_cons]; exact RVs.append (RVs.rev r.2) ⟨r.1, trivial⟩
  | [], _ :: _, r => r.elim
  | _ :: _, [], r => r.elim

theorem part_ok {h : Heap} {v : Value} {x : V} {l : Option Int} (r : RV h ρ v x) (e : part? x = some l) : ∃ p : Option (Int × Tok), v = partValue p ∧ p.map (·.1) = l ∧ IsPart v l := by
  unfold part? at e
  split at e
  · obtain ⟨_, rfl⟩ := RV.inv r rfl; clear r
    obtain rfl := Option.some.inj e
    exact ⟨none, rfl, rfl, .none⟩
  · obtain ⟨_, r, -, -⟩ := r
    obtain rfl := Option.some.inj e
    cases r
    exact ⟨some (_, _), rfl, rfl, .int ..⟩
  · cases e

theorem picked (x : Str) (l u : Option (Int × Tok)) : (slicePicked x l u none).filterMap (x.cps[·]?) = cut (l.map (·.1)) (u.map (·.1)) x.cps.toList := by
  have e : slicePicked x l u none = sliceRange (sliceBounds (l.map (·.1)) (u.map (·.1)) none x.length).1 (sliceBounds (l.map (·.1)) (u.map (·.1)) none x.length).2.1 1 := rfl
  rw [e, kms_bounds]
  simp only [sliceRange_one, pick_run]
  unfold cut
  have e : x.length = x.cps.toList.length := by simp [Str.length]
  rw [e]
theorem lo_zero {a b n : Nat} (h1 : a - b = n) (hh : a ≤ n) (z : n ≠ 0) : b = 0 := by omega
theorem sliceStr_post {x : Str} {t : Tok} {l u : Option (Int × Tok)} {Q : Value → Shared → Prop} (hz : x.length ≤ 16777216) (h : ∀ t' k, Q (.str (mkS (cut (l.map (·.1)) (u.map (·.1)) x.cps.toList)) t') { s with toks := k }) :
    (sliceMade x t l u none).post Q s := by
  have hp := picked x l u
  have hl : (cut (l.map (·.1)) (u.map (·.1)) x.cps.toList).length ≤ x.length := by
    have e : x.length = x.cps.toList.length := by simp [Str.length]
    rw [e]; unfold cut
    rw [List.length_take, List.length_drop]; exact Nat.le_trans (Nat.min_le_right _ _) (Nat.sub_le _ _)
  unfold sliceMade
  split
  · rename_i hc
    simp only [Bool.and_eq_true, beq_iff_eq] at hc
    have e : cut (l.map (·.1)) (u.map (·.1)) x.cps.toList = x.cps.toList := by
      have hn : (slicePicked x l u none).length = kms_hi (u.map (·.1)) x.length - kms_lo (l.map (·.1)) x.length := by
        have e : slicePicked x l u none = sliceRange (sliceBounds (l.map (·.1)) (u.map (·.1)) none x.length).1 (sliceBounds (l.map (·.1)) (u.map (·.1)) none x.length).2.1 1 := rfl
        rw [e, kms_bounds]
        simp only [sliceRange_one, List.length_map, List.length_range]
      have h1 := hc.2
      rw [hn] at h1
      have e : x.length = x.cps.toList.length := by simp [Str.length]
      have hh : kms_hi (u.map (·.1)) x.length ≤ x.length := by
        unfold kms_hi; split
        · exact Nat.le_refl _
        · split <;> omega
      unfold cut
      rw [← e]
      by_cases z : x.length = 0
      · have : x.cps.toList = [] := List.eq_nil_of_length_eq_zero (e ▸ z)
        rw [this]; simp
      · have h0 : kms_lo (l.map (·.1)) x.length = 0 := lo_zero h1 hh z
        rw [h1, h0, List.drop_zero, e, List.take_length]
    have := h t s.toks
    rw [e, mkS_toList] at this
    exact this
  · refine ⟨?_, ?_⟩
    · rw [sizeLine_eq]
      have e : Str.length ⟨((slicePicked x l u none).filterMap (x.cps[·]?)).toArray⟩ = (cut (l.map (·.1)) (u.map (·.1)) x.cps.toList).length := by rw [hp]; simp [Str.length]
      rw [e]; omega
    · rw [hp]; exact h _ _

noncomputable abbrev sliceObj (a b c : Value) : Obj := { cls := .type "slice", data := .fields #[a, b, c] }
theorem sliceK_ok {vo vl vu : Value} {o l u : V} (I : Inv hT os fr env σ ρ s) (ro : RV s.heap ρ vo o) (rl : RV s.heap ρ vl l) (ru : RV s.heap ρ vu u) (h : sliceK o l u σ K) :
    SubscriptOn (model prog w) A vo (.ref s.heap.objs.size) (PE hT os fr env σ.cel ρ s.heap K) E { s with heap := s.heap.push (sliceObj vl vu .none) } := by
  have k : ∀ b o, s.heap.get? b = some o → (s.heap.push (sliceObj vl vu .none)).get? b = some o := fun b o e => Heap.get?_push_of_some _ e
  have I' : Inv hT os fr env σ ρ { s with heap := s.heap.push (sliceObj vl vu .none) } := I.keeps k rfl rfl
  have ev : Evo noX σ.cel ρ s.heap σ.cel ρ (s.heap.push (sliceObj vl vu .none)) := Evo.of_keeps k
  have ro' := ro.keeps I.rs.cel k
  unfold sliceK at h
  split at h
  · rename_i lo el
    split at h
    · rename_i hi eu
      obtain ⟨pl, rfl, ml, ql⟩ := part_ok rl el
      obtain ⟨pu, rfl, mu, qu⟩ := part_ok ru eu
      split at h
      · obtain ⟨_, rfl⟩ := RV.inv ro rfl; clear ro
        obtain ⟨h1, h2⟩ := chk_iff.mp h
        have hz := sizeB_le h1
        refine ⟨"str", _, F.slot_str_getitem.lookup, typeIs_str _ _ _, wpAny_getItem_str_slice (l := pl) (u := pu) (st := none) ⟨_, Heap.get?_push_size _ rfl, rfl, rfl⟩ rfl (sliceStr_post hz fun t' k' => ?_)⟩
        rw [ml, mu]
        exact PE.after ev (PE.str I' h2)
      · split at h
        · rename_i xs ex
          obtain ⟨h1, h2⟩ := chk_iff.mp h
          have hz := sizeB_le h1
          obtain ⟨a, vs, rfl, hl, rr⟩ := items_ok I'.rs.cel ro' ex
          refine ⟨"list", _, slot_list_getitem.lookup, hl.isList.typeIs, wpAny_getItem_list_slice hl.isList (Heap.IsSliceOf.new ..) ql qu .none (by simp) ?_ (by rw [sizeLine_eq]; have := rr.length; simp; omega)⟩
          rw [kms_pick_eq]
          exact PE.after ev (PE.push (tk := s.toks) I' h2 (by simpa using rr.cut lo hi))
        · cases h
    · cases h
  · cases h

theorem slice3_ok {vo va vb vc : Value} {o a b c : V} (I : Inv hT os fr env σ ρ s) (ro : RV s.heap ρ vo o) (ra : RV s.heap ρ va a) (rb : RV s.heap ρ vb b) (rc : RV s.heap ρ vc c) (h : slice3K o a b c σ K) :
    SubscriptOn (model prog w) A vo (.ref s.heap.objs.size) (PE hT os fr env σ.cel ρ s.heap K) E { s with heap := s.heap.push (sliceObj va vb vc) } := by
  unfold slice3K at h
  split at h
  · obtain ⟨_, rfl⟩ := RV.inv rc rfl
    exact sliceK_ok I ro ra rb h
  · cases h
end
end Mine
end
section
open PySem PySem.W PyProof.Rows PySem.Calls
set_option Elab.async false
namespace Mine
/-- an iterator of the machine's own moves on -/
structure Ticks (I : List Addr) (h h' : Heap) : Prop where
  is : ∀ i ∈ I, ∃ o vs, h.get? i = some o ∧ o.data = .fields vs ∧ o.cls ≠ .type "range"
  keep : ∀ b o, b ∉ I → h.get? b = some o → h'.get? b = some o
section
variable {prog : Program} {w : World} {A : Around} {hT : Heap} {os : OsState} {fr : List Env} {env : Env} {σ : St} {ρ : List Addr} {s s' : Shared} {K : V → St → Prop} {E : Value → Shared → Prop} {I : List Addr} {h h' : Heap}

theorem Ticks.ne (t : Ticks I h h') {b : Addr} {o : Obj} (e : h.get? b = some o) (n : ∀ vs, o.data ≠ .fields vs) : b ∉ I := fun c => by
  obtain ⟨o', vs, e', d, _⟩ := t.is b c
  rw [e] at e'; obtain rfl := Option.some.inj e'
  exact n vs d
theorem Ticks.plain (t : Ticks I h h') {a : Addr} {items : Array Value} (p : h.PlainList a items) : h'.PlainList a items := let ⟨n, g⟩ := p; ⟨n, t.keep _ _ (t.ne g (fun _ q => by cases q)) g⟩
theorem Ticks.rv (t : Ticks I h h') (hp : ∀ a ∈ ρ, ∃ items, h.PlainList a items) {v : Value} {x : V} (r : RV h ρ v x) : RV h' ρ v x := by
  cases x with
  | d x =>
    obtain ⟨as, r, q, n⟩ := r
    exact ⟨as, reads_ext hp (fun b o xs m g _ d => t.keep b o (t.ne g (fun _ q => by rw [d] at q; cases q)) g) r q (fun a ha => (n a ha).1), q, fun a ha => ⟨(n a ha).1, let ⟨i, p⟩ := (n a ha).2; ⟨i, t.plain p⟩⟩⟩
  | c k => exact r
  | rng a b =>
    obtain ⟨r, t', u, w, rfl, g⟩ := r
    refine ⟨r, t', u, w, rfl, t.keep _ _ (fun c => ?_) g⟩
    obtain ⟨o', vs, e', d, nr⟩ := t.is r c
    have g : h.get? r = some { cls := .type "range", dict := none, data := .fields #[.int a t', .int b u, .int 1 w], slots := #[] } := g
    rw [g] at e'; obtain rfl := Option.some.inj e'
    exact nr rfl
theorem Ticks.rvs (t : Ticks I h h') (hp : ∀ a ∈ ρ, ∃ items, h.PlainList a items) : ∀ {vs : List Value} {xs : List V}, RVs h ρ vs xs → RVs h' ρ vs xs
  | [], [], _ => trivial
  | _ :: _, _ :: _, r => ⟨t.rv hp r.1, Ticks.rvs t hp r.2⟩
  | [], _ :: _, r => r.elim
  | _ :: _, [], r => r.elim
theorem Ticks.cel (t : Ticks I h h') {cel : List (Option (List V))} (c : Cel cel ρ h) : Cel cel ρ h' := by
  refine ⟨c.len, c.nd, fun a ha => let ⟨i, p⟩ := c.pl a ha; ⟨i, t.plain p⟩, fun k xs e => ?_⟩
  obtain ⟨a, vs, e1, e2, e3⟩ := c.here k xs e
  exact ⟨a, vs, e1, t.plain e2, t.rvs c.pl e3⟩
theorem Ticks.ns (t : Ticks I h h') {a : Addr} {m : Str → Option Value} (n : h.Ns a m) : h'.Ns a m := by
  obtain ⟨o, es, ep, ho, hd, r⟩ := n
  exact ⟨o, es, ep, t.keep _ _ (t.ne ho (fun _ q => by rw [hd] at q; cases q)) ho, hd, r⟩
theorem Ticks.isCell (t : Ticks I h h') {a : Addr} {v : Option Value} (c : h.IsCell a v) : h'.IsCell a v := by
  obtain ⟨o, ho, hd⟩ := c
  exact ⟨o, t.keep _ _ (t.ne ho (fun _ q => by rw [hd] at q; cases q)) ho, hd⟩
theorem Ticks.vars (t : Ticks I h h') {loc : List (Str × V)} (hp : ∀ a ∈ ρ, ∃ items, h.PlainList a items) (r : Vars env loc ρ h) : Vars env loc ρ h' := by
  obtain ⟨m, hm, hv⟩ := r.ns
  refine ⟨⟨m, t.ns hm, fun x y q k => let ⟨v, e1, e2⟩ := hv x y q k; ⟨v, e1, t.rv hp e2⟩⟩, fun x y q k => ?_, fun x k => ?_, r.apart⟩
  · obtain ⟨c, v, e1, e2, e3⟩ := r.ce x y q k
    exact ⟨c, v, e1, t.isCell e2, t.rv hp e3⟩
  · obtain ⟨c, v, e1, e2⟩ := r.cells x k
    exact ⟨c, v, e1, t.isCell e2⟩
theorem Ticks.fro (t : Ticks I h h') (f : FrOk hT fr h) : FrOk hT fr h' := fun e he => by
  obtain ⟨k, L, o, e1, e2, e3, e4⟩ := f e he
  exact ⟨k, L, o, e1, e2, t.keep _ _ (t.ne e3 (fun vs q => by obtain ⟨es, n, q'⟩ := e4; rw [q'] at q; cases q)) e3, e4⟩
theorem Ticks.inv (t : Ticks I s.heap s'.heap) (hI : ∀ i ∈ I, hT.get? i = none) (hg : s'.gens = s.gens) (ho : s'.os = s.os) (i : Inv hT os fr env σ ρ s) : Inv hT os fr env σ ρ s' :=
  ⟨⟨t.vars i.rs.cel.pl i.rs.vars, t.cel i.rs.cel⟩, ⟨fun b o q => t.keep b o (fun c => by rw [hI b c] at q; cases q) (i.gi.keep b o q), hg ▸ i.gi.bare, ho.trans i.gi.os⟩, i.own, t.fro i.fro, i.me⟩
theorem Evo.ticks {X : Addr → Prop} {cel cel' : List (Option (List V))} {ρ' : List Addr} {h₀ : Heap} (hI : ∀ i ∈ I, h₀.get? i = none) (e : Evo X cel ρ h₀ cel' ρ' h) (k : ∀ b o, b ∉ I → h.get? b = some o → h'.get? b = some o) : Evo X cel ρ h₀ cel' ρ' h' := by
  have ne : ∀ b o, h₀.get? b = some o → b ∉ I := fun b o q c => by rw [hI b c] at q; cases q
  refine ⟨e.pre, e.live, e.lock, fun b o q => ?_, fun b o q n d c => k b o (ne b o q) (e.ext.exact b o q n d c), fun b o q d n => ?_, fun b o q d => ?_, fun b o q d n => k b o (ne b o q) (e.ext.cell b o q d n)⟩
  · obtain ⟨o', q'⟩ := e.ext.there b o q; exact ⟨o', k b o' (ne b o q) q'⟩
  · obtain ⟨o', q', d'⟩ := e.ext.dict b o q d n; exact ⟨o', k b o' (ne b o q) q', d'⟩
  · obtain ⟨o', q', d'⟩ := e.ext.isd b o q d; exact ⟨o', k b o' (ne b o q) q', d'⟩

theorem Evo.tick {i : Addr} {X : Addr → Prop} {cel cel' : List (Option (List V))} {ρ' : List Addr} {h₀ : Heap} (hI : h₀.get? i = none) (e : Evo X cel ρ h₀ cel' ρ' h) (k : ∀ b o, b ∉ [i] → h.get? b = some o → h'.get? b = some o) : Evo X cel ρ h₀ cel' ρ' h' :=
  Evo.ticks (I := [i]) (fun j hj => by rw [List.mem_singleton] at hj; subst hj; exact hI) e k
theorem Ticks.one {i : Addr} (is : ∃ o vs, h.get? i = some o ∧ o.data = .fields vs ∧ o.cls ≠ .type "range") (k : ∀ b o, b ∉ [i] → h.get? b = some o → h'.get? b = some o) : Ticks [i] h h' :=
  ⟨fun j hj => by rw [List.mem_singleton] at hj; subst hj; exact is, k⟩

/-- an object that no turn of the walk touches -/
noncomputable def Fixd (cel : List (Option (List V))) (ρ : List Addr) (h : Heap) (b : Addr) : Prop := ∃ o, h.get? b = some o ∧ ¬ isDict o ∧ ¬ isCell o ∧ ¬ Live cel ρ b
theorem Fixd.evo {X : Addr → Prop} {cel cel' : List (Option (List V))} {ρ' : List Addr} {b : Addr} (f : Fixd cel ρ h b) (e : Evo X cel ρ h cel' ρ' h') : (∀ o, h.get? b = some o → h'.get? b = some o) ∧ Fixd cel' ρ' h' b := by
  obtain ⟨o, g, d, c, l⟩ := f
  have g' := e.ext.exact b o g l d c
  exact ⟨fun o' q => by rw [g] at q; obtain rfl := Option.some.inj q; exact g', o, g', d, c, fun q => l (e.liveBack g q)⟩

/-- the iterators that keep no tuple of their own -/
noncomputable def idle (n : String) : Bool := !(["enumerate", "zip", "dict_itemiterator", "dict_reverseitemiterator", "odict_iterator", "itertools.zip_longest", "itertools.pairwise"].contains n) && n != "range"
structure WalkAt (prog : Program) (w : World) (A : Around) (cel : List (Option (List V))) (ρ : List Addr) (hs h : Heap) (xs : List V) (I : Addr) (fp : List Addr) (P : Nat → Value → Prop) (St : Nat → Heap → Prop) : Prop where
  W : Walks prog w A I fp [I] xs.length P St
  st : St 0 h
  val : ∀ i v, P i v → ∃ x, xs[i]? = some x ∧ RV hs ρ v x
  fix : ∀ b ∈ fp, Fixd cel ρ h b
  isI : ∀ i h', St i h' → ∃ o vs n, h'.get? I = some o ∧ o.data = .fields vs ∧ o.cls = .type n ∧ idle n = true

theorem lock_sub {o : V} {a : Addr} (l : Live (lock σ o).cel ρ a) : Live σ.cel ρ a := by
  obtain ⟨k, xs, e1, e2⟩ := l
  cases o with
  | c j =>
    by_cases d : k = j
    · subst d
      have e1 : (σ.cel.set k none)[k]? = some (some xs) := e1
      rw [List.getElem?_set] at e1
      simp at e1
    · have e1 : (σ.cel.set j none)[k]? = some (some xs) := e1
      rw [List.getElem?_set_ne (fun q => d q.symm)] at e1
      exact ⟨k, xs, e1, e2⟩
  | d _ => exact ⟨k, xs, e1, e2⟩
  | rng _ _ => exact ⟨k, xs, e1, e2⟩
theorem fix_new {cel : List (Option (List V))} {o' : Obj} {vs : Array Value} (i : Inv hT os fr env σ ρ s) (hc : ∀ a, Live cel ρ a → Live σ.cel ρ a) (d : o'.data = .fields vs) (hf : o'.isFreed = false := by rfl) : Fixd cel ρ (s.heap.push o') s.heap.objs.size := by
  refine ⟨o', Heap.get?_push_size _ hf, not_dict_fields d, not_cell_fields d, fun l => ?_⟩
  obtain ⟨items, n, g⟩ := i.rs.cel.pl _ (live_mem (hc _ l))
  rw [Heap.get?_none_of_le (Nat.le_refl _)] at g; cases g

theorem walk_list {l : Addr} {vs : List Value} {xs : List V} {cel : List (Option (List V))} (hh : A.handled = none) (i : Inv hT os fr env σ ρ s) (hl : s.heap.IsList l vs.toArray) (rr : RVs s.heap ρ vs xs) (hc : ∀ a, Live cel ρ a → Live σ.cel ρ a) (hnl : ¬ Live cel ρ l) {Q : Value → Shared → Prop}
    (hQ : ∀ o' fp P St, WalkAt prog w A cel ρ s.heap (s.heap.push o') xs s.heap.objs.size fp P St → Q (.ref s.heap.objs.size) { s with heap := s.heap.push o' }) : wpAny (model prog w) A (pyIter (.ref l)) Q E s := by
  refine wpAny_pyIter_list hl (hQ _ [s.heap.objs.size, l] (fun i v => vs.toArray[i]? = some v) (fun i h => h.IsListIter s.heap.objs.size l i ∧ h.IsList l vs.toArray) ?_)
  have hne : l ≠ s.heap.objs.size := Nat.ne_of_lt (let ⟨_, e, _⟩ := hl; Heap.lt_size e)
  have k : ∀ b o, s.heap.get? b = some o → (s.heap.push { cls := .type "list_iterator", data := .fields #[.ref l, .int 0 0] }).get? b = some o := fun b o e => Heap.get?_push_of_some _ e
  refine ⟨?_, ⟨⟨_, Heap.get?_push_size _ rfl, rfl, rfl⟩, hl.push _⟩, fun j v e => ?_, fun b hb => ?_, fun j h' st => ?_⟩
  · have := Walks.list (prog := prog) (w := w) hh s.heap.objs.size l hne vs.toArray
    have e : vs.toArray.size = xs.length := by rw [← rr.length]; simp
    rw [e] at this; exact this
  · obtain ⟨x, e1, e2⟩ := rr.get' (k := j) (v := v) (by simpa using e)
    exact ⟨x, e1, e2⟩
  · rcases List.mem_cons.mp hb with rfl | hb
    · exact fix_new i hc rfl
    · rw [List.mem_singleton] at hb; subst hb
      obtain ⟨o, g, hcl, n, hd⟩ := hl
      exact ⟨o, k _ _ g, not_dict_seq hd, not_cell_seq hd, hnl⟩
  · obtain ⟨⟨o, g, c, d⟩, _⟩ := st
    exact ⟨o, _, _, g, d, c, by decide +kernel⟩

theorem walk_ok {vo : Value} {o : V} {xs : List V} (hh : A.handled = none) (i : Inv hT os fr env σ ρ s) (ro : RV s.heap ρ vo o) (e : walkOf σ o = some xs) {Q : Value → Shared → Prop}
    (hQ : ∀ o' fp P St, WalkAt prog w A (lock σ o).cel ρ s.heap (s.heap.push o') xs s.heap.objs.size fp P St → Q (.ref s.heap.objs.size) { s with heap := s.heap.push o' }) : wpAny (model prog w) A (pyIter vo) Q E s := by
  cases o with
  | d x =>
    cases x with
    | list ds =>
      obtain rfl : ds.map V.d = xs := by simpa [walkOf] using e
      obtain ⟨as, r, q, n⟩ := ro
      cases r with
      | @list a o vs m _ bs g hc hd r =>
        refine walk_list (vs := vs.toList) hh i ⟨o, g, hc, m, by rw [hd]⟩ (RVs.ofAll r q fun a ha => n a (List.mem_cons_of_mem _ ha)) (fun a => lock_sub (o := .d (.list ds))) (fun l => (n a List.mem_cons_self).1 (live_mem l)) hQ
    | str x =>
      obtain rfl : (x.cps.toList.map fun c => V.d (.str (mkS [c]))) = xs := by simpa [walkOf] using e
      obtain ⟨_, ro, -, -⟩ := ro
      cases ro with | str _ t => ?_
      have val : ∀ (h : Heap) (j : Nat) (v : Value), SignAt x j v → ∃ y, (x.cps.toList.map fun c => V.d (.str (mkS [c])))[j]? = some y ∧ RV h ρ v y := fun h j v ⟨c, u, e, e'⟩ => by
        subst e'
        exact ⟨.d (.str (mkS [c])), by rw [List.getElem?_map, Array.getElem?_toList, e]; rfl, .str⟩
      have len : x.cps.size = (x.cps.toList.map fun c => V.d (.str (mkS [c]))).length := by simp
      cases ha : x.cps.all (· < 128)
      · refine wpAny_pyIter_wide ha (hQ _ [s.heap.objs.size] (SignAt x) (fun i h => h.IsStrIter s.heap.objs.size "str_iterator" x t i) ⟨by rw [← len]; exact Walks.strWide hh _ x _, ⟨_, Heap.get?_push_size _ rfl, rfl, rfl⟩, fun j v => val _ j v, fun b hb => ?_, fun j h' st => ?_⟩)
        · rw [List.mem_singleton] at hb; subst hb; exact fix_new i (fun _ l => lock_sub l) rfl
        · obtain ⟨o, g, c, d⟩ := st; exact ⟨o, _, _, g, d, c, by decide +kernel⟩
      · refine wpAny_pyIter_ascii ha (hQ _ [s.heap.objs.size] (SignAt x) (fun i h => h.IsStrIter s.heap.objs.size "str_ascii_iterator" x t i) ⟨by rw [← len]; exact Walks.strAscii hh _ x _, ⟨_, Heap.get?_push_size _ rfl, rfl, rfl⟩, fun j v => val _ j v, fun b hb => ?_, fun j h' st => ?_⟩)
        · rw [List.mem_singleton] at hb; subst hb; exact fix_new i (fun _ l => lock_sub l) rfl
        · obtain ⟨o, g, c, d⟩ := st; exact ⟨o, _, _, g, d, c, by decide +kernel⟩
    | _ => cases e
  | c k =>
    simp only [walkOf] at e
    split at e
    · rename_i ys q
      obtain rfl : ys = xs := by simpa using e
      obtain ⟨a, vs, rfl, ek, hp, rr⟩ := own_at i.rs.cel ro q
      refine walk_list hh i hp.isList rr (fun a => lock_sub) (fun l => ?_) hQ
      obtain ⟨j, zs, e1, e2⟩ := l
      obtain rfl := nodup_inj i.rs.cel.nd e2 ek
      have e1 : (σ.cel.set j none)[j]? = some (some zs) := e1
      rw [List.getElem?_set] at e1
      simp at e1
    · cases e
  | rng a b =>
    simp only [walkOf] at e
    split at e
    · rename_i hb
      simp only [Bool.and_eq_true, decide_eq_true_eq] at hb
      obtain rfl : (Mine.range a b).map (fun k => V.d (.int k)) = xs := by simpa using e
      obtain ⟨r, t, u, z, rfl, g⟩ := ro
      have len : (b - a).toNat = ((Mine.range a b).map fun k => V.d (.int k)).length := by simp [Mine.range]
      have e1 : a + ((0 : Nat) : Int) * 1 = a := by omega
      have sz : Builtin.Range.rangeSize a b 1 = ((b - a).toNat : Int) - ((0 : Nat) : Int) := by rw [rangeSize_one]; split <;> omega
      refine wpAny_pyIter_range g (small_one (by omega) (by omega) (by omega) (by omega)) (hQ _ [s.heap.objs.size] (fun j v => j < (b - a).toNat ∧ ∃ t, v = .int (a + j * 1) t) (fun j h => IsRangeIter h s.heap.objs.size (a + (j : Nat) * 1) (((b - a).toNat : Int) - (j : Nat)) 1) ⟨?_, ?_, fun j v e => ?_, fun b hb => ?_, fun j h' st => ⟨_, _, _, st, rfl, rfl, by decide +kernel⟩⟩)
      · rw [← len]; exact (Walks.range hh _ a 1 _).bound
      · show IsRangeIter _ _ (a + ((0 : Nat) : Int) * 1) _ _
        rw [e1, sz]
        exact Heap.get?_push_size _ rfl
      · obtain ⟨lt, t', rfl⟩ := e
        refine ⟨.d (.int (a + j)), ?_, ?_⟩
        · rw [List.getElem?_map]
          simp [Mine.range, List.getElem?_range lt]
        · rw [Int.mul_one]; exact .int
      · rw [List.mem_singleton] at hb; subst hb; exact fix_new i (fun _ l => lock_sub (o := .rng a _) l) rfl
    · cases e
end
end Mine
end
section
open PySem PySem.W PyProof.Rows PySem.Calls
set_option Elab.async false
namespace Mine
theorem lookup_put {x z : Str} {v : V} : ∀ {l : List (Str × V)}, (put x v l).lookup z = if z = x then some v else l.lookup z
  | [] => by
    unfold put
    by_cases h : z = x
    · subst h; simp
    · have : (z == x) = false := beq_eq_false_iff_ne.mpr h
      simp [h, this]
  | p :: r => by
    obtain ⟨k, u⟩ := p
    unfold put
    cases e : ((k, u).1 == x) with
    | true =>
      have e : k = x := eq_of_beq e
      subst e
      show List.lookup z ((k, v) :: r) = _
      by_cases h : z = k
      · subst h; simp
      · have : (z == k) = false := beq_eq_false_iff_ne.mpr h
        rw [List.lookup_cons, List.lookup_cons, this, if_neg h]
    | false =>
      have ne : k ≠ x := beq_eq_false_iff_ne.mp e
      show List.lookup z ((k, u) :: put x v r) = _
      rw [List.lookup_cons, lookup_put, List.lookup_cons]
      cases e2 : z == k with
      | true =>
        have e2 : z = k := eq_of_beq e2
        subst e2; simp [ne]
      | false => rfl

section
variable {prog : Program} {w : World} {M : Model} {A : Around} {hT : Heap} {os : OsState} {fr : List Env} {env : Env} {σ : St} {ρ : List Addr} {s : Shared} {E : Value → Shared → Prop} {x : Str} {v : Value} {y : V}

theorem ns_isDict {h : Heap} {a : Addr} {m : Str → Option Value} (n : h.Ns a m) : ∃ o, h.get? a = some o ∧ isDict o := let ⟨o, es, ep, e, d, _⟩ := n; ⟨o, e, es, ep, d⟩
theorem Ext.dictAt {P : Addr → Prop} {h h' : Heap} {a : Addr} {m m' : Str → Option Value} (n : h.Ns a m) (n' : h'.Ns a m') (hs : Heap.SameBut a h h') : Ext P (· = a) h h' := by
  obtain ⟨o₁, g₁, d₁⟩ := ns_isDict n
  obtain ⟨o₂, g₂, d₂⟩ := ns_isDict n'
  have ne : ∀ b o, h.get? b = some o → ¬ Mine.isDict o → b ≠ a := fun b o e d c => by subst c; rw [g₁] at e; obtain rfl := Option.some.inj e; exact d d₁
  refine ⟨fun b o e => ?_, fun b o e _ d _ => ?_, fun b o e _ c => ⟨o, ?_, rfl⟩, fun b o e d => ?_, fun b o e d c => ?_⟩
  · by_cases c : b = a
    · subst c; exact ⟨_, g₂⟩
    · exact ⟨o, by rw [hs.2 b c]; exact e⟩
  · rw [hs.2 b (ne b o e d)]; exact e
  · rw [hs.2 b c]; exact e
  · by_cases c : b = a
    · subst c; exact ⟨_, g₂, d₂⟩
    · exact ⟨o, by rw [hs.2 b c]; exact e, d⟩
  · rw [hs.2 b c]; exact e
theorem Ext.cellAt {P : Addr → Prop} {h h' : Heap} {a : Addr} {u u' : Option Value} (n : h.IsCell a u) (n' : h'.IsCell a u') (hs : Heap.SameBut a h h') : Ext P (· = a) h h' := by
  obtain ⟨o₁, g₁, d₁⟩ := n
  obtain ⟨o₂, g₂, d₂⟩ := n'
  have ne : ∀ b o, h.get? b = some o → ¬ Mine.isCell o → b ≠ a := fun b o e d c => by subst c; rw [g₁] at e; obtain rfl := Option.some.inj e; exact d ⟨_, d₁⟩
  refine ⟨fun b o e => ?_, fun b o e _ _ d => ?_, fun b o e d c => ⟨o, ?_, rfl⟩, fun b o e d => ⟨o, ?_, d⟩, fun b o e _ c => ?_⟩
  · by_cases c : b = a
    · subst c; exact ⟨_, g₂⟩
    · exact ⟨o, by rw [hs.2 b c]; exact e⟩
  · rw [hs.2 b (ne b o e d)]; exact e
  · rw [hs.2 b c]; exact e
  · rw [hs.2 b (ne b o e (isDict_not_cell d))]; exact e
  · rw [hs.2 b c]; exact e
theorem Evo.ofExt {X : Addr → Prop} {cel : List (Option (List V))} {h h' : Heap} (e : Ext (Live cel ρ) X h h') : Evo X cel ρ h cel ρ h' := ⟨⟨[], by simp, by simp⟩, fun _ xs e _ => ⟨xs, e⟩, fun _ e => e, e⟩
theorem RV.ext0 {X : Addr → Prop} {cel : List (Option (List V))} {h h' : Heap} (c : Cel cel ρ h) (e : Ext (Live cel ρ) X h h') {v : Value} {x : V} (r : RV h ρ v x) : RV h' ρ v x := r.evo c (Evo.ofExt e)
theorem Cel.ext {cel : List (Option (List V))} {X : Addr → Prop} {h h' : Heap} (c : Cel cel ρ h) (e : Ext noX X h h') : Cel cel ρ h' := by
  have e' : Ext (Live cel ρ) X h h' := e.mono (fun _ q => q.elim) fun _ q => q
  refine ⟨c.len, c.nd, fun a ha => let ⟨i, p⟩ := c.pl a ha; ⟨i, e.plainList p id⟩, fun k xs q => ?_⟩
  obtain ⟨a, vs, e1, e2, e3⟩ := c.here k xs q
  exact ⟨a, vs, e1, e.plainList e2 id, e3.evo c (Evo.ofExt e')⟩

theorem put_ok {a : Addr} {h' : Heap} {tk : Nat} (I : Inv hT os fr env σ ρ s) (e : Ext noX (· = a) s.heap h') (hs : Heap.SameBut a s.heap h') (ha : Own env a) (hv : Vars env (σ.put x y).loc ρ h') :
    Inv hT os fr env (σ.put x y) ρ { s with heap := h', toks := tk } ∧ Evo (· = a) σ.cel ρ s.heap σ.cel ρ h' := by
  have e' : Ext (Live σ.cel ρ) (· = a) s.heap h' := e.mono (fun _ q => q.elim) fun _ q => q
  refine ⟨⟨⟨hv, I.rs.cel.ext e⟩, ⟨fun b o q => ?_, I.gi.bare, I.gi.os⟩, I.own, I.fro.ext e, I.me⟩, Evo.ofExt e'⟩
  show h'.get? b = some o
  rw [hs.2 b fun c => by subst c; rw [I.me b ha] at q; cases q]
  exact I.gi.keep b o q

theorem not_class (ek : env.scope.kind = .function) : (env.scope.kind == .class || (env.scope.kind == .module && env.locals != env.globals)) = false := by rw [ek]; rfl
theorem store_local (ek : env.scope.kind = .function) (I : Inv hT os fr env σ ρ s) (rv : RV s.heap ρ v y) (hk : env.kindOf x = some .local) :
    wpAny M A (storeName env x v) (fun _ s' => Inv hT os fr env (σ.put x y) ρ s' ∧ Evo (· = env.locals) σ.cel ρ s.heap σ.cel ρ s'.heap) E s := by
  obtain ⟨m, hm, hl⟩ := I.rs.vars.ns
  refine wpAny_storeName_local hk hm (fun h' hn hs => ?_) (not_class ek)
  have e : Ext noX (· = env.locals) s.heap h' := Ext.dictAt hm hn hs
  have e' : Ext (Live σ.cel ρ) (· = env.locals) s.heap h' := e.mono (fun _ q => q.elim) fun _ q => q
  obtain ⟨o₁, g₁, d₁⟩ := ns_isDict hm
  have nc : ∀ c u, s.heap.IsCell c u → c ≠ env.locals := fun c u ⟨o, g, d⟩ z => by
    subst z; rw [g₁] at g; obtain rfl := Option.some.inj g
    exact isDict_not_cell d₁ ⟨_, d⟩
  refine put_ok I e hs (.inl rfl) ⟨⟨_, hn, fun z u q k => ?_⟩, fun z u q k => ?_, fun z k => ?_, I.rs.vars.apart⟩
  · have q : (put x y σ.loc).lookup z = some u := q
    rw [lookup_put] at q
    by_cases c : z = x
    · rw [if_pos c] at q
      obtain rfl := Option.some.inj q
      exact ⟨v, if_pos c, rv.evo I.rs.cel (Evo.ofExt e')⟩
    · rw [if_neg c] at q
      obtain ⟨v', e1, e2⟩ := hl z u q k
      exact ⟨v', by rw [if_neg c]; exact e1, e2.evo I.rs.cel (Evo.ofExt e')⟩
  · have q : (put x y σ.loc).lookup z = some u := q
    rw [lookup_put] at q
    by_cases c : z = x
    · subst c; rw [hk] at k; cases k
    · rw [if_neg c] at q
      obtain ⟨c', v', e1, e2, e3⟩ := I.rs.vars.ce z u q k
      exact ⟨c', v', e1, e2.sameBut hs (nc _ _ e2), e3.evo I.rs.cel (Evo.ofExt e')⟩
  · obtain ⟨c', v', e1, e2⟩ := I.rs.vars.cells z k
    exact ⟨c', v', e1, e2.sameBut hs (nc _ _ e2)⟩

theorem store_cell (ek : env.scope.kind = .function) (I : Inv hT os fr env σ ρ s) (rv : RV s.heap ρ v y) (hk : env.kindOf x = some .cell) :
    wpAny M A (storeName env x v) (fun _ s' => Inv hT os fr env (σ.put x y) ρ s' ∧ Evo (Own env) σ.cel ρ s.heap σ.cel ρ s'.heap) E s := by
  obtain ⟨c, u, hc, hu⟩ := I.rs.vars.cells x hk
  refine wpAny_storeName_cell ek hk hc hu fun h' hn hs => ?_
  have e : Ext noX (· = c) s.heap h' := Ext.cellAt hu hn hs
  have e' : Ext (Live σ.cel ρ) (· = c) s.heap h' := e.mono (fun _ q => q.elim) fun _ q => q
  obtain ⟨m, hm, hl⟩ := I.rs.vars.ns
  have nl : env.locals ≠ c := fun z => by
    obtain ⟨o₁, g₁, d₁⟩ := ns_isDict hm
    obtain ⟨o₂, g₂, d₂⟩ := hu
    rw [z, g₂] at g₁
    obtain rfl := Option.some.inj g₁
    exact isDict_not_cell d₁ ⟨_, d₂⟩
  have own : Own env c := .inr ⟨x, hc⟩
  have other : ∀ z c', env.cells.lookup z = some c' → z ≠ x → c' ≠ c := fun z c' e1 n e => by
    subst e
    exact n (name_of_addr I.rs.vars.apart (mem_of_lookup e1) (mem_of_lookup hc))
  suffices hv : Vars env (σ.put x y).loc ρ h' by
    obtain ⟨i, ev⟩ := put_ok (x := x) (y := y) (tk := s.toks) I e hs own hv
    exact ⟨i, ev.mono fun b hb => by subst hb; exact own⟩
  refine ⟨⟨_, hm.sameBut hs nl, fun z u q k => ?_⟩, fun z u q k => ?_, fun z k => ?_, I.rs.vars.apart⟩
  · have q : (put x y σ.loc).lookup z = some u := q
    rw [lookup_put] at q
    by_cases d : z = x
    · subst d; rw [hk] at k; cases k
    · rw [if_neg d] at q
      obtain ⟨v', e1, e2⟩ := hl z u q k
      exact ⟨v', e1, e2.evo I.rs.cel (Evo.ofExt e')⟩
  · have q : (put x y σ.loc).lookup z = some u := q
    rw [lookup_put] at q
    by_cases d : z = x
    · rw [if_pos d] at q
      obtain rfl := Option.some.inj q
      exact ⟨c, v, by rw [d]; exact hc, hn, rv.evo I.rs.cel (Evo.ofExt e')⟩
    · rw [if_neg d] at q
      obtain ⟨c', v', e1, e2, e3⟩ := I.rs.vars.ce z u q k
      exact ⟨c', v', e1, e2.sameBut hs (other z c' e1 d), e3.evo I.rs.cel (Evo.ofExt e')⟩
  · by_cases d : z = x
    · exact ⟨c, _, by rw [d]; exact hc, hn⟩
    · obtain ⟨c', v', e1, e2⟩ := I.rs.vars.cells z k
      exact ⟨c', v', e1, e2.sameBut hs (other z c' e1 d)⟩

theorem store_ok (ek : env.scope.kind = .function) (I : Inv hT os fr env σ ρ s) (rv : RV s.heap ρ v y) (hk : env.kindOf x = some .local ∨ env.kindOf x = some .cell) :
    wpAny M A (storeName env x v) (fun _ s' => Inv hT os fr env (σ.put x y) ρ s' ∧ Evo (Own env) σ.cel ρ s.heap σ.cel ρ s'.heap) E s := by
  rcases hk with hk | hk
  · exact wpAny_mono (store_local ek I rv hk) (fun _ _ ⟨i, e⟩ => ⟨i, e.mono fun b hb => .inl hb⟩) fun _ _ e => e
  · exact store_cell ek I rv hk

theorem load_ok (ek : env.scope.kind = .function) (I : Inv hT os fr env σ ρ s) (hk : env.kindOf x = some .local ∨ env.kindOf x = some .cell) (e : σ.loc.lookup x = some y) {Q : Value → Shared → Prop} (h : ∀ v, RV s.heap ρ v y → Q v s) :
    wpAny M A (loadName env x) Q E s := by
  rcases hk with hk | hk
  · obtain ⟨m, hm, hl⟩ := I.rs.vars.ns
    obtain ⟨v, e1, e2⟩ := hl x y e hk
    exact wpAny_loadName_local ek hk hm e1 (h v e2)
  · obtain ⟨c, v, e1, e2, e3⟩ := I.rs.vars.ce x y e hk
    exact wpAny_loadName_cell ek hk e1 e2 (h v e3)
end
end Mine
end
section
open PySem PySem.W PyProof.Rows PySem.Calls
set_option Elab.async false
namespace Mine
section
variable {prog : Program} {w : World} {A : Around} {hT : Heap} {os : OsState} {fr : List Env} {env : Env} {σ : St} {ρ : List Addr} {s : Shared} {E : Value → Shared → Prop} {x : Str} {v : Value} {y : V} {X : Addr → Prop}

noncomputable def StoreX (env : Env) (X : Addr → Prop) (x : Str) : Prop := (env.kindOf x = some .local ∧ X env.locals) ∨ (env.kindOf x = some .cell ∧ ∀ b, Own env b → X b)
theorem store_X {M : Model} (ek : env.scope.kind = .function) (I : Inv hT os fr env σ ρ s) (rv : RV s.heap ρ v y) (hk : StoreX env X x) :
    wpAny M A (storeName env x v) (fun _ s' => Inv hT os fr env (σ.put x y) ρ s' ∧ Evo X σ.cel ρ s.heap σ.cel ρ s'.heap) E s := by
  rcases hk with ⟨hk, hX⟩ | ⟨hk, hX⟩
  · exact wpAny_mono (store_local ek I rv hk) (fun _ _ ⟨i, e⟩ => ⟨i, e.mono fun b hb => by subst hb; exact hX⟩) fun _ _ e => e
  · exact wpAny_mono (store_cell ek I rv hk) (fun _ _ ⟨i, e⟩ => ⟨i, e.mono hX⟩) fun _ _ e => e
theorem storeX_ok (h : okN env.scope x = true) : StoreX env (Own env) x := by
  unfold okN at h
  rcases Bool.or_eq_true_iff.mp h with h | h
  · exact .inl ⟨eq_of_beq h, .inl rfl⟩
  · exact .inr ⟨eq_of_beq h, fun _ h => h⟩
theorem storeX_lc (h : lcN env.scope x = true) : StoreX env (· = env.locals) x := .inl ⟨eq_of_beq h, rfl⟩
theorem kind_okN (h : okN env.scope x = true) : env.kindOf x = some .local ∨ env.kindOf x = some .cell := by
  unfold okN at h
  rcases Bool.or_eq_true_iff.mp h with h | h
  · exact .inl (eq_of_beq h)
  · exact .inr (eq_of_beq h)

theorem putAll_cel : ∀ (l : List (Str × V)) (σ : St), (putAll l σ).cel = σ.cel
  | [], _ => rfl
  | p :: r, σ => putAll_cel r _

theorem wpAny_assignInOrder_nil {M : Model} {vs : List Value} {Q : Unit → Shared → Prop} (h : Q () s) : wpAny M A (assignInOrder [] vs) Q E s := by
  cases vs <;> exact wpAny_pure h
theorem wpAny_assignInOrder_cons {M : Model} {t : Value → Sem Unit} {ts : List (Value → Sem Unit)} {v : Value} {vs : List Value} {Q : Unit → Shared → Prop} (h : wpAny M A (t v) (fun _ s' => wpAny M A (assignInOrder ts vs) Q E s') E s) : wpAny M A (assignInOrder (t :: ts) (v :: vs)) Q E s := by
  show wpAny M A (do holding vs (t v); assignInOrder ts vs) Q E s
  exact wpAny_bind (wpAny_holding h)

/-- the stores of names, one behind the other -/
theorem stores_ok {M : Model} (ek : env.scope.kind = .function) (st : Str → Value → Sem Unit) (hst : ∀ x v Q s, wpAny M A (storeName env x v) Q E s → wpAny M A (st x v) Q E s) :
    ∀ (xs : List Str) (vs : List Value) (ys : List V) (σ : St) (s : Shared), xs.length = vs.length → (∀ x ∈ xs, StoreX env X x) → RVs s.heap ρ vs ys → Inv hT os fr env σ ρ s →
      wpAny M A (assignInOrder (xs.map st) vs) (fun _ s' => Inv hT os fr env (putAll (xs.zip ys) σ) ρ s' ∧ Evo X σ.cel ρ s.heap σ.cel ρ s'.heap) E s
  | [], vs, ys, σ, s, _, _, _, I => wpAny_assignInOrder_nil ⟨I, Evo.refl ..⟩
  | x :: xs, v :: vs, y :: ys, σ, s, hl, hk, r, I => by
    refine wpAny_assignInOrder_cons (hst _ _ _ _ (wpAny_mono (store_X ek I r.1 (hk x List.mem_cons_self)) (fun _ s₁ ⟨I₁, e₁⟩ => ?_) fun _ _ e => e))
    refine wpAny_mono (stores_ok ek st hst xs vs ys _ s₁ (by simpa using hl) (fun x hx => hk x (List.mem_cons_of_mem _ hx)) (r.2.evo I.rs.cel e₁) I₁) (fun _ s₂ ⟨I₂, e₂⟩ => ⟨I₂, e₁.trans e₂⟩) fun _ _ e => e
  | x :: xs, v :: vs, [], _, _, _, _, r, _ => r.elim
  | _ :: _, [], _, _, _, hl, _, _, _ => by simp at hl

theorem assignEach_names : ∀ {ts : List PySem.Expr} {xs : List Str}, nms? ts = some xs → (assignEach ts env).findIdx? (·.1) = none ∧ (assignEach ts env).length = xs.length ∧
    ∃ ps : List Pos, ps.length = xs.length ∧ (assignEach ts env).map (·.2) = (ps.zip xs).map fun p v => do standAt p.1; bindName env p.2 v
  | [], xs, e => by
    obtain rfl : [] = xs := by simpa [nms?] using e
    exact ⟨rfl, rfl, [], rfl, rfl⟩
  | t :: ts, xs, e => by
    cases t with
    | Name x p =>
      simp only [nms?, nm?] at e
      split at e
      · rename_i l q
        obtain rfl : x :: l = xs := by simpa using e
        obtain ⟨h1, h2, ps, h3, h4⟩ := assignEach_names q
        refine ⟨?_, ?_, p :: ps, by simp [h3], ?_⟩
        · show List.findIdx? (·.1) ((false, assign (.Name x p) env) :: assignEach ts env) = none
          rw [List.findIdx?_cons]
          simp [h1]
        · show ((false, assign (.Name x p) env) :: assignEach ts env).length = _
          simp [h2]
        · show ((false, assign (.Name x p) env) :: assignEach ts env).map (·.2) = _
          rw [List.map_cons, h4]; rfl
      · cases e
    | _ => exact none_some (x := xs) e

theorem stores_pos {M : Model} (ek : env.scope.kind = .function) :
    ∀ (ps : List Pos) (xs : List Str) (vs : List Value) (ys : List V) (σ : St) (s : Shared), ps.length = xs.length → xs.length = vs.length → (∀ x ∈ xs, StoreX env X x) → RVs s.heap ρ vs ys → Inv hT os fr env σ ρ s →
      wpAny M A (assignInOrder ((ps.zip xs).map fun p v => do standAt p.1; bindName env p.2 v) vs) (fun _ s' => Inv hT os fr env (putAll (xs.zip ys) σ) ρ s' ∧ Evo X σ.cel ρ s.heap σ.cel ρ s'.heap) E s
  | [], [], vs, ys, σ, s, _, _, _, _, I => wpAny_assignInOrder_nil ⟨I, Evo.refl ..⟩
  | p :: ps, x :: xs, v :: vs, y :: ys, σ, s, hp, hl, hk, r, I => by
    refine wpAny_assignInOrder_cons (wpAny_bind (wpAny_standAt (wpAny_bindName (wpAny_mono (store_X ek I r.1 (hk x List.mem_cons_self)) (fun _ s₁ ⟨I₁, e₁⟩ => ?_) fun _ _ e => e))))
    refine wpAny_mono (stores_pos ek ps xs vs ys _ s₁ (by simpa using hp) (by simpa using hl) (fun x hx => hk x (List.mem_cons_of_mem _ hx)) (r.2.evo I.rs.cel e₁) I₁) (fun _ s₂ ⟨I₂, e₂⟩ => ⟨I₂, e₁.trans e₂⟩) fun _ _ e => e
  | _ :: _, _ :: _, _ :: _, [], _, _, _, _, _, r, _ => r.elim
  | _, _ :: _, [], _, _, _, _, hl, _, _, _ => by simp at hl
  | _ :: _, [], _, _, _, _, hp, _, _, _, _ => by simp at hp
  | [], _ :: _, _ :: _, _, _, _, hp, _, _, _, _ => by simp at hp

theorem keepsBut {h h' : Heap} (e : Heap.ExtBut h.objs.size h h') : ∀ b o, h.get? b = some o → h'.get? b = some o := fun b o q => e b o (Nat.ne_of_lt (Heap.lt_size q)) q

/-- a tuple's items into names -/
theorem assignTuple_ok {ts : List PySem.Expr} {k : Nat} {pos : Pos} {xs : List Str} {t : Addr} {vs : List Value} {ys : List V} (hh : A.handled = none) (ek : env.scope.kind = .function) (hn : nms? ts = some xs) (hl : xs.length = ys.length)
    (hk : ∀ x ∈ xs, StoreX env X x) (I : Inv hT os fr env σ ρ s) (ht : IsTup s.heap t vs.toArray) (r : RVs s.heap ρ vs ys) :
    wpAny (model prog w) A (assign (.Tuple ts k pos) env (.ref t)) (fun _ s' => Inv hT os fr env (putAll (xs.zip ys) σ) ρ s' ∧ Evo X σ.cel ρ s.heap σ.cel ρ s'.heap) E s := by
  obtain ⟨h1, h2, ps, h3, h4⟩ := assignEach_names (env := env) hn
  show wpAny _ A (do standAt pos; unpack (.ref t) (assignEach ts env)) _ _ s
  refine wpAny_bind (wpAny_standAt (unpack_tuple hh ht (by rw [h2, hl, ← r.length]; simp) h1 fun h' e => ?_))
  have k := keepsBut e
  have I' : Inv hT os fr env σ ρ { s with heap := h' } := I.keeps k rfl rfl
  rw [h4]
  refine wpAny_mono (stores_pos (X := X) ek ps xs vs ys σ { s with heap := h' } h3 (by rw [hl, r.length]) hk (r.keeps I.rs.cel k) I') (fun _ s₂ ⟨I₂, e₂⟩ => ⟨I₂, (Evo.of_keeps k).trans e₂⟩) fun _ _ e => e

theorem setT_ok {t : PySem.Expr} {K : St → Prop} (hh : A.handled = none) (ek : env.scope.kind = .function) (I : Inv hT os fr env σ ρ s) (rv : RV s.heap ρ v y) (h : setT env.scope t y σ K) :
    wpAny (model prog w) A (assign t env v) (fun _ => PU hT os fr env (· = env.locals) σ.cel ρ s.heap K) E s := by
  cases t with
  | Name x p =>
    obtain ⟨h1, h2⟩ := chk_iff.mp h
    exact wpAny_assign_Name (wpAny_mono (store_X ek I rv (storeX_lc h1)) (fun _ s' ⟨I', e⟩ => ⟨_, ρ, h2, I', e⟩) fun _ _ e => e)
  | _ => cases h
end
end Mine
end
section
open PySem PySem.W PyProof.Rows PySem.Calls
set_option Elab.async false
namespace Mine
section
variable {prog : Program} {w : World} {A : Around} {hT : Heap} {os : OsState} {fr : List Env} {env : Env} {σ : St} {ρ : List Addr} {s : Shared} {K : V → St → Prop} {E : Value → Shared → Prop} {vs : List Value} {xs : List V} {vo : Value} {o : V}

theorem PE.tk {v : V} {u : Value} {tk : Nat} (I : Inv hT os fr env σ ρ s) (h : K v σ) (r : RV s.heap ρ u v) : PE hT os fr env σ.cel ρ s.heap K u { s with toks := tk } :=
  PE.keep I h r (fun _ _ e => e) rfl rfl

theorem RVs.one {h : Heap} {v : Value} {x : V} (r : RV h ρ v x) : RVs h ρ [v] [x] := ⟨r, trivial⟩
theorem mStartswith_ok (I : Inv hT os fr env σ ρ s) (ro : RV s.heap ρ vo o) (rv : RVs s.heap ρ vs xs) (h : mStartswith o xs σ K) : wpAny (model prog w) A (call (.builtin "str.startswith") (vo :: vs)) (PE hT os fr env σ.cel ρ s.heap K) E s := by
  unfold mStartswith at h
  split at h
  · have rv0 := rv; clear rv; obtain ⟨v, rfl, rv⟩ := RVs.inv1 rv0; clear rv0
    ·
      obtain ⟨_, rfl⟩ := RV.inv ro rfl; clear ro
      obtain ⟨_, rfl⟩ := RV.inv rv rfl; clear rv
      exact call_gives F.slot_str_startswith (typeIs_str _ _ _) F.entry_str_startswith (F.args_str_startswith_2 _ _) (gives_str_startswith _ _ _ _) (PE.bool (tk := s.toks) I h)
  · cases h
theorem mLower_ok (I : Inv hT os fr env σ ρ s) (ro : RV s.heap ρ vo o) (rv : RVs s.heap ρ vs xs) (h : mLower o xs σ K) : wpAny (model prog w) A (call (.builtin "str.lower") (vo :: vs)) (PE hT os fr env σ.cel ρ s.heap K) E s := by
  unfold mLower at h
  split at h
  · obtain rfl := RVs.inv0 rv
    ·
      obtain ⟨_, rfl⟩ := RV.inv ro rfl; clear ro
      obtain ⟨h1, h2⟩ := chk_iff.mp h
      have hz := Nat.le_of_ble_eq_true h1
      exact call_gives F.slot_str_lower (typeIs_str _ _ _) F.entry_str_lower (F.args_str_lower_1 _) (gives_str_lower _ _ (fit_lower (by omega))) ⟨fit_le (fit_lower (by omega)), PE.str I h2⟩
  · cases h
theorem mEndswith_ok (I : Inv hT os fr env σ ρ s) (ro : RV s.heap ρ vo o) (rv : RVs s.heap ρ vs xs) (h : mEndswith o xs σ K) : wpAny (model prog w) A (call (.builtin "str.endswith") (vo :: vs)) (PE hT os fr env σ.cel ρ s.heap K) E s := by
  unfold mEndswith at h
  split at h
  · have rv0 := rv; clear rv; obtain ⟨v, rfl, rv⟩ := RVs.inv1 rv0; clear rv0
    ·
      obtain ⟨_, rfl⟩ := RV.inv ro rfl; clear ro
      obtain ⟨_, rfl⟩ := RV.inv rv rfl; clear rv
      exact call_gives F.slot_str_endswith (typeIs_str _ _ _) F.entry_str_endswith (F.args_str_endswith_2 _ _) (gives_str_endswith _ _ _ _) (PE.bool (tk := s.toks) I h)
  · cases h

theorem gives_find3 (x y : Str) (a b : Int) (t u v v' : Tok) (h0 : 0 ≤ a) (h1 : 0 ≤ b) (h2 : b ≤ x.length) : Gives (Builtin.«str.find» ⟨[.str x t, .str y u, .int a v, .int b v'], []⟩) (.int (firstAt x y a.toNat b.toNat)) := by
  have e : ∀ i : Int, 0 ≤ i → (max 0 (if i < 0 then i + x.length else i)).toNat = i.toNat := fun i hi => by rw [if_neg (Int.not_lt.mpr hi), Int.max_eq_right hi]
  show Gives (match Builtin.Str.occurrences x y (max 0 (if a < 0 then a + x.length else a)).toNat (min (max 0 (if b < 0 then b + x.length else b)).toNat x.length) 1 with | k :: _ => retInt k | [] => (do rule "str.find.not-found"; retInt (-1))) _
  rw [e a h0, e b h1, show min b.toNat x.length = b.toNat from Nat.min_eq_left (Int.toNat_le.mpr h2)]
  unfold firstAt
  cases Builtin.Str.occurrences x y a.toNat b.toNat 1 with
  | nil => exact .rule (.of_eq rfl)
  | cons k _ => exact .of_eq rfl
theorem args_find4 (a b c d : Value) : argsOk "str.find" ⟨[a, b, c, d], []⟩ := by unfold argsOk; kernel_rfl
theorem mFind_ok (I : Inv hT os fr env σ ρ s) (ro : RV s.heap ρ vo o) (rv : RVs s.heap ρ vs xs) (h : mFind o xs σ K) : wpAny (model prog w) A (call (.builtin "str.find") (vo :: vs)) (PE hT os fr env σ.cel ρ s.heap K) E s := by
  unfold mFind at h
  split at h
  · obtain ⟨v1, v2, v3, rfl, r1, r2, r3⟩ := RVs.inv3 rv
    clear rv
    split at h
    · rename_i e0
      obtain ⟨_, rfl⟩ := RV.sInv ro e0; clear ro
      split at h
      · rename_i e1
        obtain ⟨_, rfl⟩ := RV.sInv r1 e1; clear r1
        split at h
        · rename_i e2
          obtain ⟨_, rfl⟩ := RV.iInv r2 e2; clear r2
          split at h
          · rename_i e3
            obtain ⟨_, rfl⟩ := RV.iInv r3 e3; clear r3
            obtain ⟨h1, h2⟩ := chk_iff.mp h
            simp only [Bool.and_eq_true, decide_eq_true_eq] at h1
            exact call_gives F.slot_str_find (typeIs_str _ _ _) F.entry_str_find (args_find4 _ _ _ _) (gives_find3 _ _ _ _ _ _ _ _ h1.1.1.1.1 h1.1.1.2 h1.1.2) (PE.int I h2)
          · cases h
        · cases h
      · cases h
    · cases h
  · cases h

theorem strs_ok {h : Heap} : ∀ {vs : List Value} {xs : List V} {l : List Str}, RVs h ρ vs xs → strs? xs = some l → ∃ m : List (Str × Tok), strValues m = vs ∧ m.map (·.1) = l
  | [], [], l, _, e => by obtain rfl : [] = l := by simpa [strs?] using e
                          exact ⟨[], rfl, rfl⟩
  | v :: vs, x :: xs, l, r, e => by
    cases x with
    | d x =>
      cases x with
      | str x =>
        simp only [strs?] at e
        split at e
        · rename_i l' q
          obtain rfl : x :: l' = l := by simpa using e
          obtain ⟨m, e1, e2⟩ := strs_ok r.2 q
          obtain ⟨_, rv, -, -⟩ := r.1
          cases rv with | str _ t => exact ⟨(x, t) :: m, by simp [strValues] at e1 ⊢; exact e1, by simp [e2]⟩
        · cases e
      | _ => cases e
    | _ => cases e
  | [], _ :: _, _, r, _ => r.elim
  | _ :: _, [], _, r, _ => r.elim

theorem join0 {x : Str} (hx : x.length = 0) : ∀ l : List Str, Str.join x l = mkS (l.map fun y => y.cps.toList).flatten
  | [] => rfl
  | [y] => by
    show y = _
    simp [mkS_toList]
  | y :: z :: r => by
    show (y ++ x) ++ Str.join x (z :: r) = _
    have e0 : y ++ x = y := Str.append_right_empty (by rw [hx]; rfl)
    rw [join0 hx (z :: r), e0]
    have e := mkS_append y (mkS ((z :: r).map fun y => y.cps.toList).flatten)
    rw [← e]; rfl
theorem mJoin_ok (I : Inv hT os fr env σ ρ s) (ro : RV s.heap ρ vo o) (rv : RVs s.heap ρ vs xs) (h : mJoin o xs σ K) : wpAny (model prog w) A (call (.builtin "str.join") (vo :: vs)) (PE hT os fr env σ.cel ρ s.heap K) E s := by
  unfold mJoin at h
  split at h
  · have rv0 := rv; clear rv; obtain ⟨v, rfl, rv⟩ := RVs.inv1 rv0; clear rv0
    ·
      obtain ⟨_, rfl⟩ := RV.inv ro rfl; clear ro
      split at h
      · rename_i ys ey
        split at h
        · rename_i l el
          obtain ⟨h1, h2⟩ := chk_iff.mp h
          simp only [Bool.and_eq_true] at h1
          have hx := Nat.eq_of_beq_eq_true h1.1
          obtain ⟨a, us, rfl, hp, rr⟩ := items_ok I.rs.cel rv ey
          obtain ⟨m, e1, e2⟩ := strs_ok rr el
          have hok := h1.2
          unfold JoinOk at hok
          rw [Bool.not_eq_true', ← e2] at hok
          have hl : s.heap.IsList a (strValues m).toArray := by rw [e1]; exact hp.isList
          refine call_meets F.slot_str_join (typeIs_str _ _ _) F.entry_str_join (F.args_str_join_2 _ _) (meets_str_join_list _ _ a m hok) ⟨hl, post_join m ⟨joinFit_length hok, fun t' k => PE.str I ?_⟩⟩
          have e : Txt.join ‹Str› (m.map (·.1)) = mkS (l.map fun y => y.cps.toList).flatten := by
            show Builtin.Str.glued _ _ = _
            rw [StrLaws.glued_eq_join, e2]; exact join0 hx l
          rw [e]; exact h2
        · cases h
      · cases h
  · cases h
end
end Mine
end
section
open PySem PySem.W PyProof.Rows PySem.Calls
set_option Elab.async false
namespace Mine
section
variable {prog : Program} {w : World} {A : Around} {hT : Heap} {os : OsState} {fr : List Env} {env : Env} {σ : St} {ρ : List Addr} {s : Shared} {K : V → St → Prop} {E : Value → Shared → Prop} {vs : List Value} {xs : List V} {vo : Value} {o : V}

theorem mIndex_str (I : Inv hT os fr env σ ρ s) {x y : Str} {t u : Tok} {i : Nat} {r : List Nat} (e : Builtin.Str.occurrences x y 0 x.length 1 = i :: r) (h : K (.d (.int i)) σ) :
    wpAny (model prog w) A (call (.builtin "str.index") [.str x t, .str y u]) (PE hT os fr env σ.cel ρ s.heap K) E s :=
  call_gives F.slot_str_index (typeIs_str _ _ _) F.entry_str_index (F.args_str_index_2 _ _) (gives_str_index x y t u i r e) (PE.int I h)

theorem rvs_strs {h : Heap} : ∀ (m : List (Str × Tok)), RVs h ρ (strValues m) ((m.map (·.1)).map fun z => V.d (.str z))
  | [] => trivial
  | _ :: m => ⟨.str, rvs_strs m⟩
theorem mSplit_ok (I : Inv hT os fr env σ ρ s) (ro : RV s.heap ρ vo o) (rv : RVs s.heap ρ vs xs) (h : mSplit o xs σ K) : wpAny (model prog w) A (call (.builtin "str.split") (vo :: vs)) (PE hT os fr env σ.cel ρ s.heap K) E s := by
  unfold mSplit at h
  split at h
  · rename_i x y
    have rv0 := rv; clear rv; obtain ⟨v, rfl, rv⟩ := RVs.inv1 rv0; clear rv0
    ·
      obtain ⟨_, rfl⟩ := RV.inv ro rfl; clear ro
      obtain ⟨_, rfl⟩ := RV.inv rv rfl; clear rv
      obtain ⟨h1, h2⟩ := chk_iff.mp h
      simp only [Bool.and_eq_true, bne_iff_ne] at h1
      have hz := sizeB_le h1.1
      have hy : (y.length == 0) = false := by simpa using h1.2
      have key : ∀ (m : List (Str × Tok)) (tk : Nat), m.map (·.1) = Txt.split x y → PE hT os fr env σ.cel ρ s.heap K (.ref s.heap.objs.size) { s with heap := s.heap.push { cls := .type "list", data := .seq (strValues m).toArray }, toks := tk } := fun m tk e =>
        PE.push I (by rw [← e] at h2; exact h2) (rvs_strs m)
      have hx : x.length ≤ sizeLine := by rw [sizeLine_eq]; omega
      have hn : (Builtin.Str.partsBetween x (Builtin.Str.occurrences x y 0 x.length (x.length + 1)) y.length).length ≤ sizeLine := by
        rw [len_partsBetween]
        have := StrLaws.occ_length_le x y 0 x.length (x.length + 1)
        rw [sizeLine_eq]; omega
      cases h1 : (decide (x.length < y.length) || decide (Builtin.Str.strKind x < Builtin.Str.strKind y))
      · cases hf : (Builtin.Str.occurrences x y 0 x.length (x.length + 1)).isEmpty
        · refine call_meets F.slot_str_split (typeIs_str _ _ _) F.entry_str_split (F.args_str_split_2 _ _) (meets_str_split_sep x y _ _ h1 hy hf hx hn) ?_
          have := key (numbered s.toks (Builtin.Str.partsBetween x (Builtin.Str.occurrences x y 0 x.length (x.length + 1)) y.length)) (s.toks + (Builtin.Str.partsBetween x (Builtin.Str.occurrences x y 0 x.length (x.length + 1)) y.length).length)
            ((numbered_texts _ _).trans ((if_neg (ne_true_of_eq_false h1)).trans (if_neg (ne_true_of_eq_false hf))).symm)
          rw [← strsFrom_eq] at this
          exact this
        · exact call_meets F.slot_str_split (typeIs_str _ _ _) F.entry_str_split (F.args_str_split_2 _ _) (meets_str_split_not_found x y _ _ h1 hy hf) (key [(x, _)] s.toks ((if_neg (ne_true_of_eq_false h1)).trans (if_pos hf)).symm)
      · exact call_meets F.slot_str_split (typeIs_str _ _ _) F.entry_str_split (F.args_str_split_2 _ _) (meets_str_split_cannot_occur x y _ _ h1) (key [(x, _)] s.toks (if_pos h1).symm)
  · cases h

theorem methIdx_ok (I : Inv hT os fr env σ ρ s) (ro : RV s.heap ρ vo o) (rv : RVs s.heap ρ vs xs) (h : mIndex o xs σ K) :
    (∀ x, o = .d (.str x) → wpAny (model prog w) A (call (.builtin "str.index") (vo :: vs)) (PE hT os fr env σ.cel ρ s.heap K) E s) ∧
    ((∀ x, o ≠ .d (.str x)) → wpAny (model prog w) A (call (.builtin "list.index") (vo :: vs)) (PE hT os fr env σ.cel ρ s.heap K) E s) := by
  unfold mIndex at h
  split at h
  · have rv0 := rv; clear rv; obtain ⟨v, rfl, rv⟩ := RVs.inv1 rv0; clear rv0
    ·
      obtain ⟨_, rfl⟩ := RV.inv rv rfl; clear rv
      split at h
      · refine ⟨fun x e => ?_, fun n => (n _ rfl).elim⟩
        obtain ⟨_, rfl⟩ := RV.inv ro rfl; clear ro
        split at h
        · rename_i q
          exact mIndex_str I q h
        · cases h
      · cases h
  · cases h

/-- what a method's name means on what it is asked of -/
noncomputable def MethAt (prog : Program) (w : World) (A : Around) (hT : Heap) (os : OsState) (fr : List Env) (env : Env) (m : Str) (vo : Value) (o : V) (s : Shared) : Prop :=
  ∃ T id, PlainAttrs T ∧ Slot T m id ∧ typeOf (.builtin id) = pure (.type "method_descriptor") ∧ s.TypeIs vo T ∧ (∀ a, vo = .ref a → ∃ ob, s.heap.get? a = some ob ∧ ob.dict = none) ∧
    ∀ (σ₁ : St) (ρ₁ : List Addr) (s₁ : Shared) (vs : List Value) (xs : List V) (K : V → St → Prop) (E : Value → Shared → Prop), Inv hT os fr env σ₁ ρ₁ s₁ → RV s₁.heap ρ₁ vo o → RVs s₁.heap ρ₁ vs xs → methK m o xs σ₁ K →
      wpAny (model prog w) A (call (.builtin id) (vo :: vs)) (PE hT os fr env σ₁.cel ρ₁ s₁.heap K) E s₁

theorem methK_index {xs : List V} : methK "index" o xs σ K = mIndex o xs σ K := rfl
theorem methK_split {xs : List V} : methK "split" o xs σ K = mSplit o xs σ K := rfl
theorem methK_startswith {xs : List V} : methK "startswith" o xs σ K = mStartswith o xs σ K := rfl
theorem methK_endswith {xs : List V} : methK "endswith" o xs σ K = mEndswith o xs σ K := rfl
theorem methK_find {xs : List V} : methK "find" o xs σ K = mFind o xs σ K := rfl
theorem methK_join {xs : List V} : methK "join" o xs σ K = mJoin o xs σ K := rfl

theorem meth_ok {m : Str} (c : Cel σ.cel ρ s.heap) (ro : RV s.heap ρ vo o) (hm : methOk m o = true) : MethAt prog w A hT os fr env m vo o s := by
  unfold methOk at hm
  split at hm
  · obtain ⟨_, ro, -, -⟩ := ro
    cases ro
    simp only [Bool.or_eq_true, beq_iff_eq] at hm
    have hd : ∀ x t a, Value.str x t = .ref a → ∃ ob, s.heap.get? a = some ob ∧ ob.dict = none := fun _ _ _ e => nomatch e
    rcases hm with (((((rfl | rfl) | rfl) | rfl) | rfl) | rfl) | rfl
    · exact ⟨"str", _, F.plainAttrs_str, F.slot_str_index, F.type_str_index, typeIs_str _ _ _, hd _ _, fun σ₁ ρ₁ s₁ vs xs K E I ro rv h => (methIdx_ok I ro rv h).1 _ rfl⟩
    · exact ⟨"str", _, F.plainAttrs_str, F.slot_str_split, F.type_str_split, typeIs_str _ _ _, hd _ _, fun σ₁ ρ₁ s₁ vs xs K E I ro rv h => mSplit_ok I ro rv h⟩
    · exact ⟨"str", _, F.plainAttrs_str, F.slot_str_startswith, F.type_str_startswith, typeIs_str _ _ _, hd _ _, fun σ₁ ρ₁ s₁ vs xs K E I ro rv h => mStartswith_ok I ro rv h⟩
    · exact ⟨"str", _, F.plainAttrs_str, F.slot_str_endswith, F.type_str_endswith, typeIs_str _ _ _, hd _ _, fun σ₁ ρ₁ s₁ vs xs K E I ro rv h => mEndswith_ok I ro rv h⟩
    · exact ⟨"str", _, F.plainAttrs_str, F.slot_str_find, F.type_str_find, typeIs_str _ _ _, hd _ _, fun σ₁ ρ₁ s₁ vs xs K E I ro rv h => mFind_ok I ro rv h⟩
    · exact ⟨"str", _, F.plainAttrs_str, F.slot_str_join, F.type_str_join, typeIs_str _ _ _, hd _ _, fun σ₁ ρ₁ s₁ vs xs K E I ro rv h => mJoin_ok I ro rv h⟩
    · exact ⟨"str", _, F.plainAttrs_str, F.slot_str_lower, F.type_str_lower, typeIs_str _ _ _, hd _ _, fun σ₁ ρ₁ s₁ vs xs K E I ro rv h => mLower_ok I ro rv h⟩
  · cases hm
end
end Mine
end
section
open PySem PySem.W PyProof.Rows PySem.Calls
set_option Elab.async false
namespace Mine
section
variable {prog : Program} {w : World} {A : Around} {hT : Heap} {os : OsState} {fr : List Env} {env : Env} {σ : St} {ρ : List Addr} {s : Shared} {K : V → St → Prop} {E : Value → Shared → Prop} {vs : List Value} {xs : List V} {vo : Value} {o : V}

theorem bLen_ok (I : Inv hT os fr env σ ρ s) (rv : RVs s.heap ρ vs xs) (h : bLen xs σ K) : wpAny (model prog w) A (call (.builtin "len") vs) (PE hT os fr env σ.cel ρ s.heap K) E s := by
  unfold bLen at h
  split at h
  · have rv0 := rv; clear rv; obtain ⟨v, rfl, rv⟩ := RVs.inv1 rv0; clear rv0
    ·
      obtain ⟨_, rfl⟩ := RV.inv rv rfl; clear rv
      obtain ⟨h1, h2⟩ := chk_iff.mp h
      have := sizeB_le h1
      exact P.len_str (by omega) (PE.int I h2)
  · have rv0 := rv; clear rv; obtain ⟨v, rfl, rv⟩ := RVs.inv1 rv0; clear rv0
    ·
      split at h
      · rename_i ys ey
        obtain ⟨h1, h2⟩ := chk_iff.mp h
        have := sizeB_le h1
        obtain ⟨a, us, rfl, hp, rr⟩ := items_ok I.rs.cel rv ey
        have e : us.toArray.size = ys.length := by simp [rr.length]
        refine Calls.call_len_list hp.isList (by rw [e]; omega) ?_
        rw [e]
        exact PE.int I h2
      · cases h
  · cases h
theorem bChr_ok (I : Inv hT os fr env σ ρ s) (rv : RVs s.heap ρ vs xs) (h : bChr xs σ K) : wpAny (model prog w) A (call (.builtin "chr") vs) (PE hT os fr env σ.cel ρ s.heap K) E s := by
  unfold bChr at h
  split at h
  · have rv0 := rv; clear rv; obtain ⟨v, rfl, rv⟩ := RVs.inv1 rv0; clear rv0
    ·
      obtain ⟨_, rfl⟩ := RV.inv rv rfl; clear rv
      obtain ⟨h1, h2⟩ := chk_iff.mp h
      simp only [Bool.and_eq_true, decide_eq_true_eq] at h1
      exact P.chr_of_int (by simp; omega) (PE.str I h2)
  · cases h
theorem one_char {x : Str} {c : Nat} (e : x.cps.toList = [c]) : x = ⟨#[c]⟩ := by
  obtain ⟨⟨l⟩⟩ := x
  have e : l = [c] := e
  subst e; rfl
theorem bOrd_ok (I : Inv hT os fr env σ ρ s) (rv : RVs s.heap ρ vs xs) (h : bOrd xs σ K) : wpAny (model prog w) A (call (.builtin "ord") vs) (PE hT os fr env σ.cel ρ s.heap K) E s := by
  unfold bOrd at h
  split at h
  · have rv0 := rv; clear rv; obtain ⟨v, rfl, rv⟩ := RVs.inv1 rv0; clear rv0
    ·
      obtain ⟨_, rfl⟩ := RV.inv rv rfl; clear rv
      split at h
      · rename_i e
        rw [one_char e]
        exact P.ord_of_char (PE.int I h)
      · cases h
  · cases h
theorem bStr_ok (I : Inv hT os fr env σ ρ s) (rv : RVs s.heap ρ vs xs) (h : bStr xs σ K) : wpAny (model prog w) A (call (.type "str") vs) (PE hT os fr env σ.cel ρ s.heap K) E s := by
  unfold bStr at h
  split at h
  · rename_i a
    have rv0 := rv; clear rv; obtain ⟨v, rfl, rv⟩ := RVs.inv1 rv0; clear rv0
    ·
      obtain ⟨_, rfl⟩ := RV.inv rv rfl; clear rv
      obtain ⟨h1, h2⟩ := chk_iff.mp h
      refine P.str_of_int ?_ (PE.str I h2)
      have hb := smallI_bits h1
      unfold Builtin.Int.intBits at hb
      by_cases c : a = 0
      · subst c; decide +kernel
      · have : ¬ ((a == 0) = true) := by simpa using c
        rw [if_neg this] at hb
        omega
  · cases h
theorem bRange_ok (I : Inv hT os fr env σ ρ s) (rv : RVs s.heap ρ vs xs) (h : bRange xs σ K) : wpAny (model prog w) A (call (.type "range") vs) (PE hT os fr env σ.cel ρ s.heap K) E s := by
  unfold bRange at h
  split at h
  · have rv0 := rv; clear rv; obtain ⟨v, rfl, rv⟩ := RVs.inv1 rv0; clear rv0
    ·
      obtain ⟨_, rfl⟩ := RV.inv rv rfl; clear rv
      obtain ⟨h1, h2⟩ := chk_iff.mp h
      exact call_range_1 (PE.keep I h2 ⟨_, _, _, _, rfl, Heap.get?_push_size _ rfl⟩ (fun _ _ e => Heap.get?_push_of_some _ e) rfl rfl)
  · have rv0 := rv; clear rv; obtain ⟨v, v', rfl, rv, rv'⟩ := RVs.inv2 rv0; clear rv0
    ·
      obtain ⟨_, rfl⟩ := RV.inv rv rfl; clear rv
      obtain ⟨_, rfl⟩ := RV.inv rv' rfl; clear rv'
      obtain ⟨h1, h2⟩ := chk_iff.mp h
      exact call_range_2 (PE.keep I h2 ⟨_, _, _, _, rfl, Heap.get?_push_size _ rfl⟩ (fun _ _ e => Heap.get?_push_of_some _ e) rfl rfl)
  · cases h

theorem ints_rv {h : Heap} {f : Nat → Int} : ∀ {vs : List Value} {l : List Int}, vs.length = l.length → (∀ (i : Nat) (v : Value), vs[i]? = some v → ∃ (t : Tok) (x : Int), l[i]? = some x ∧ v = .int x t) → RVs h ρ vs (l.map fun k => V.d (.int k))
  | [], [], _, _ => trivial
  | v :: vs, x :: l, e, q => by
    obtain ⟨t, y, e1, rfl⟩ := q 0 v rfl
    obtain rfl : x = y := by simpa using e1
    exact ⟨.int, ints_rv (f := f) (by simpa using e) fun i v hv => q (i + 1) v hv⟩
  | [], _ :: _, e, _ => by simp at e
  | _ :: _, [], e, _ => by simp at e
theorem bList_ok (hh : A.handled = none) (I : Inv hT os fr env σ ρ s) (rv : RVs s.heap ρ vs xs) (h : bList xs σ K) : wpAny (model prog w) A (call (.type "list") vs) (PE hT os fr env σ.cel ρ s.heap K) E s := by
  unfold bList at h
  split at h
  · rename_i a b
    have rv0 := rv; clear rv; obtain ⟨v, rfl, rv⟩ := RVs.inv1 rv0; clear rv0
    ·
      obtain ⟨h1, h⟩ := chk_iff.mp h
      simp only [Bool.and_eq_true, decide_eq_true_eq] at h1
      obtain ⟨r, t, u, z, rfl, g⟩ := rv
      have hn : Builtin.Range.rangeSize a b 1 = ((b - a).toNat : Int) := by rw [rangeSize_one]; split <;> omega
      refine call_list_range hh g (small_one (by omega) (by omega) (by omega) (by omega)) hn (by omega) fun h' tk acc c k hD hI => ?_
      refine PE.new (vs := acc.toList) I h k rfl rfl (Heap.get?_none_of_le (Nat.le_refl _)) ⟨c, by simpa using hD⟩ (ints_rv (f := fun _ => 0) ?_ fun i v hv => ?_)
      · have : acc.size = (b - a).toNat := hI.1
        simp [Mine.range, this]
      · obtain ⟨t, e⟩ := hI.2 i v (by simpa using hv)
        have lt : i < (b - a).toNat := by
          have : acc.size = (b - a).toNat := hI.1
          have hv' : acc[i]? = some v := by simpa using hv
          obtain ⟨q, _⟩ := Array.getElem?_eq_some_iff.mp hv'
          omega
        refine ⟨t, a + i, ?_, by rw [e, Int.mul_one]⟩
        simp [Mine.range, List.getElem?_range lt]
  · cases h

end
end Mine
end
section
open PySem PySem.W PySem.Spec PyProof.Rows PySem.Calls
set_option Elab.async false
namespace Mine
section
variable {prog : Program} {w : World} {A : Around} {hT : Heap} {os : OsState} {fr : List Env} {env : Env} {σ : St} {ρ : List Addr} {s : Shared} {K : V → St → Prop} {E : Value → Shared → Prop} {vs : List Value} {xs : List V} {vo : Value} {o : V}

theorem signs_are {x : Str} : ∀ {us : List Value} {l : List Nat}, us.length = l.length → (∀ (i : Nat) (v : Value), us[i]? = some v → ∃ (c : Nat) (u : Tok), l[i]? = some c ∧ v = .str ⟨#[c]⟩ u) → StrsAre us (l.map fun c => mkS [c])
  | [], [], _, _ => .nil
  | v :: us, c :: l, e, q => by
    obtain ⟨d, u, e1, rfl⟩ := q 0 v rfl
    obtain rfl : c = d := by simpa using e1
    exact .cons (mkS [c]) u (signs_are (x := x) (by simpa using e) fun i v hv => q (i + 1) v hv)
  | [], _ :: _, e, _ => by simp at e
  | _ :: _, [], e, _ => by simp at e
theorem rising_le : ∀ (p : Nat) (l : List Nat), risingS (mkS [p]) (l.map fun c => mkS [c]) = true → (p :: l).Pairwise (· ≤ ·)
  | p, [], _ => by simp
  | p, x :: r, h => by
    have h : (!ltCps [x] [p] && risingS (mkS [x]) (r.map fun c => mkS [c])) = true := h
    rw [Bool.and_eq_true] at h
    have ih := rising_le x r h.2
    have h1 : p ≤ x := by
      have := h.1
      rw [Bool.not_eq_true', ltCps_eq] at this
      have this := of_decide_eq_false this
      exact Nat.not_lt.mp fun lt => this (by exact List.Lex.rel lt)
    rw [List.pairwise_cons]
    refine ⟨fun a ha => ?_, ih⟩
    rcases List.mem_cons.mp ha with rfl | ha
    · exact h1
    · exact Nat.le_trans h1 ((List.pairwise_cons.mp ih).1 a ha)
theorem sorted_le : ∀ (l : List Nat), sortedS (l.map fun c => mkS [c]) = true → l.Pairwise (· ≤ ·)
  | [], _ => .nil
  | x :: r, h => rising_le x r h
theorem singles : ∀ {ss : List Str} {l : List Nat}, ss.Perm (l.map fun c => mkS [c]) → ∃ l' : List Nat, ss = l'.map (fun c => mkS [c]) := fun {ss} {l} p => by
  have key : ∀ ss : List Str, (∀ y ∈ ss, ∃ c, y = mkS [c]) → ∃ l' : List Nat, ss = l'.map (fun c => mkS [c]) := by
    intro ss
    induction ss with
    | nil => exact fun _ => ⟨[], rfl⟩
    | cons y r ih =>
      intro h
      obtain ⟨c, rfl⟩ := h y List.mem_cons_self
      obtain ⟨l', rfl⟩ := ih fun z hz => h z (List.mem_cons_of_mem _ hz)
      exact ⟨c :: l', rfl⟩
  exact key ss fun y hy => by
    obtain ⟨c, _, e⟩ := List.mem_map.mp (p.mem_iff.mp hy)
    exact ⟨c, e.symm⟩
theorem mkS_inj {a b : Nat} (h : mkS [a] = mkS [b]) : a = b := by
  have := congrArg (fun x : Str => x.cps.toList) h
  simpa [mkS] using this
theorem perm_single {l l' : List Nat} (h : (l'.map fun c => mkS [c]).Perm (l.map fun c => mkS [c])) : l'.Perm l := by
  have := h.map fun y : Str => y.cps.toList.headD 0
  simpa [List.map_map, Function.comp_def, mkS] using this
theorem strsAre_rvs {h : Heap} : ∀ {us : List Value} {ss : List Str}, StrsAre us ss → RVs h ρ us (ss.map fun z => V.d (.str z))
  | _, _, .nil => trivial
  | _, _, .cons _ _ r => ⟨.str, strsAre_rvs r⟩

theorem sorted_str {x : Str} {t : Tok} {Q : Value → Shared → Prop} (hh : A.handled = none) (hz : x.cps.size < 64)
    (h : ∀ D h' tk us ss, (∀ b o, s.heap.get? b = some o → h'.get? b = some o) → s.heap.get? D = none → h'.PlainList D (List.toArray us) → StrsAre us ss → ss.Perm (x.cps.toList.map fun c => mkS [c]) → sortedS ss = true →
      ∀ s' : Shared, s'.heap = h' → s'.gens = s.gens → s'.os = s.os → s'.toks = tk → Q (.ref D) s') :
    wpAny (model prog w) A (call (.builtin "sorted") [.str x t]) Q E s := by
  refine Calls.call_function_entry kind_sorted plain_sorted entry_sorted (args_sorted1 _) ?_
  unfold Builtin.«sorted»
  refine wpAny_bind (m := checkCount "sorted" 1 1 _) (wpAny_pure ?_)
  refine wpAny_bind (wpAny_collect_str (A := A.in1) hh x t (fun s₁ acc k eg _ eo hI => ?_) (by rw [sizeLine_eq]; omega))
  have hlen : acc.toList.length = x.cps.toList.length := by have := hI.1; simp [this]
  have hxl : x.cps.toList.length = x.cps.size := by simp
  refine wpAny_bind (wpAny_newList ?_ (by rw [sizeLine_eq]; omega))
  have hS : StrsAre acc.toList (x.cps.toList.map fun c => mkS [c]) := signs_are (x := x) hlen fun i v hv => by
    obtain ⟨c, u, e1, e2⟩ := hI.2 i v (by simpa using hv)
    exact ⟨c, u, by simpa using e1, e2⟩
  have hoL : (s₁.heap.push (seqObj "list" acc.toList.toArray 0)).get? s₁.heap.objs.size = some (seqObj "list" acc.toList.toArray 0) := Heap.get?_push_size _ rfl
  have h64 : acc.toList.length < 64 := by omega
  refine wpAny_bind (wpAny_holding (wpAny_call_entry slot_list_sort ⟨_, hoL, rfl⟩ entry_list_sort (list_sort_treeK (P := fun fin s' => ∃ v, fin = .done (.ret v) ∧ _) strKind_oneLt hoL hS.keysOf (fun v₁ v₂ rest e => keyKind_strs (by rw [← e]; exact hS)) h64 fun st' a1 a2 => ⟨_, rfl, ?_⟩) (args_list_sort _)))
  obtain ⟨ss', h1, h2, h3⟩ := sorted_out_str hS a1 a2
  refine wpAny_pure ⟨_, rfl, ?_⟩
  have lt : ∀ b o, s.heap.get? b = some o → b < s₁.heap.objs.size := fun b o g => Heap.lt_size (k b o g)
  refine h _ _ _ ((arrOf st').map (·.2)).toList ss' (fun b o g => ?_) ?_ ?_ h1 h2 h3 _ rfl eg eo rfl
  · show (sortedHeap (s₁.heap.push (seqObj "list" acc.toList.toArray 0)) s₁.heap.objs.size acc.toList ((arrOf st').map (·.2))).get? b = some o
    rw [sortedHeap_old (Nat.ne_of_lt (lt b o g)) (by rw [Heap.size_push]; exact Nat.lt_succ_of_lt (lt b o g))]
    exact Heap.get?_push_of_some _ (k b o g)
  · cases g : s.heap.get? s₁.heap.objs.size with
    | none => rfl
    | some o => exact absurd (lt _ o g) (Nat.lt_irrefl _)
  · obtain ⟨e, he⟩ := sortedHeap_at (out := (arrOf st').map (·.2)) (n := 0) hoL
    exact ⟨e, by rw [Array.toArray_toList]; exact he⟩

theorem bSorted_ok (hh : A.handled = none) (I : Inv hT os fr env σ ρ s) (rv : RVs s.heap ρ vs xs) (h : bSorted xs σ K) : wpAny (model prog w) A (call (.builtin "sorted") vs) (PE hT os fr env σ.cel ρ s.heap K) E s := by
  unfold bSorted at h
  split at h
  · rename_i x
    have rv0 := rv; clear rv; obtain ⟨v, rfl, rv⟩ := RVs.inv1 rv0; clear rv0
    ·
      obtain ⟨_, rfl⟩ := RV.inv rv rfl; clear rv
      obtain ⟨h1, h2⟩ := chk_iff.mp h
      have hz : x.length ≤ 60 := Nat.le_of_ble_eq_true h1
      have hz : x.cps.size ≤ 60 := hz
      refine sorted_str hh (by omega) fun D h' tk us ss k hD hp hS pm so s' e1 e2 e3 e4 => ?_
      obtain ⟨l', rfl⟩ := singles pm
      have := h2 l' (perm_single pm) (sorted_le l' so)
      refine PE.new (vs := us) I this (by rw [e1]; exact k) e2 e3 hD (by rw [e1]; exact hp) ?_
      have := strsAre_rvs (ρ := ρ) (h := s.heap) hS
      rw [List.map_map] at this
      exact this
  · cases h

noncomputable def bltV (f : Str) : Value :=
  match f == ("str" : Str) with
  | true => .type "str"
  | false => match f == ("range" : Str) with
    | true => .type "range"
    | false => match f == ("list" : Str) with
      | true => .type "list"
      | false => .builtin f.toString

theorem blt_ok {f : Str} (hf : bltOk f = true) (hh : A.handled = none) (I : Inv hT os fr env σ ρ s) (rv : RVs s.heap ρ vs xs) (h : bltK f xs σ K) : wpAny (model prog w) A (call (bltV f) vs) (PE hT os fr env σ.cel ρ s.heap K) E s := by
  unfold bltOk at hf
  simp only [Bool.or_eq_true, beq_iff_eq] at hf
  rcases hf with (((((rfl | rfl) | rfl) | rfl) | rfl) | rfl) | rfl
  · exact bLen_ok I rv h
  · exact bChr_ok I rv h
  · exact bOrd_ok I rv h
  · exact bStr_ok I rv h
  · exact bRange_ok I rv h
  · exact bList_ok hh I rv h
  · exact bSorted_ok hh I rv h
end
end Mine
end
section
open PySem PySem.W PyProof.Rows PySem.Calls
set_option Elab.async false
namespace Mine
section
variable {prog : Program} {w : World} {A : Around} {hT : Heap} {os : OsState} {fr : List Env} {env : Env} {σ : St} {ρ : List Addr} {s s' : Shared} {K : V → St → Prop} {E : Value → Shared → Prop}

theorem idle_range {n : String} (h : idle n = true) : Value.type n ≠ .type "range" := fun e => by
  have := Value.type.inj e
  subst this
  exact absurd h (by decide +kernel)

theorem Cel.lock {cel : List (Option (List V))} {h : Heap} {k : Nat} (c : Cel cel ρ h) : Cel (cel.set k none) ρ h :=
  ⟨by rw [List.length_set]; exact c.len, c.nd, c.pl, fun j xs e => by
    by_cases d : k = j
    · subst d; rw [List.getElem?_set] at e; simp at e
    · rw [List.getElem?_set_ne d] at e; exact c.here j xs e⟩
theorem Cel.unlock {cel : List (Option (List V))} {h : Heap} {k : Nat} {a : Addr} {vs : List Value} {xs : List V} (c : Cel cel ρ h) (ek : ρ[k]? = some a) (hp : h.PlainList a vs.toArray) (r : RVs h ρ vs xs) : Cel (cel.set k (some xs)) ρ h :=
  ⟨by rw [List.length_set]; exact c.len, c.nd, c.pl, fun j ys e => by
    by_cases d : k = j
    · subst d
      rw [List.getElem?_set] at e
      simp only [if_true] at e
      split at e
      · obtain rfl : xs = ys := by simpa using e
        exact ⟨a, vs, ek, hp, r⟩
      · cases e
    · rw [List.getElem?_set_ne d] at e; exact c.here j ys e⟩
theorem Inv.cel {σ' : St} (I : Inv hT os fr env σ ρ s) (e : σ'.loc = σ.loc) (c : Cel σ'.cel ρ s.heap) : Inv hT os fr env σ' ρ s :=
  ⟨⟨e ▸ I.rs.vars, c⟩, I.gi, I.own, I.fro, I.me⟩
theorem Inv.lock (I : Inv hT os fr env σ ρ s) (o : V) : Inv hT os fr env (lock σ o) ρ s := by
  cases o with
  | c k => exact I.cel rfl I.rs.cel.lock
  | _ => exact I
theorem lock_loc (o : V) : (lock σ o).loc = σ.loc := by cases o <;> rfl
theorem lock_len (o : V) : (lock σ o).cel.length = σ.cel.length := by cases o <;> simp [lock]
theorem lock_none {o : V} {k : Nat} (e : σ.cel[k]? = some none) : (lock σ o).cel[k]? = some none := by
  cases o with
  | c j =>
    show (σ.cel.set j none)[k]? = some none
    by_cases d : j = k
    · subst d
      rw [List.getElem?_set]
      have : j < σ.cel.length := by
        rcases Nat.lt_or_ge j σ.cel.length with l | l
        · exact l
        · rw [List.getElem?_eq_none l] at e; cases e
      simp [this]
    · rw [List.getElem?_set_ne d]; exact e
  | _ => exact e
theorem Evo.fromLock {X : Addr → Prop} {o : V} {cel' : List (Option (List V))} {ρ' : List Addr} {h h' : Heap} (e : Evo X (Mine.lock σ o).cel ρ h cel' ρ' h') : Evo X σ.cel ρ h cel' ρ' h' := by
  refine ⟨e.pre, fun k xs q lt => ?_, fun k q => e.lock k (lock_none q), e.ext.mono (fun b l => lock_sub l) fun _ x => x⟩
  obtain ⟨ys, q'⟩ := e.live k xs q lt
  cases o with
  | c j =>
    by_cases d : j = k
    · subst d
      have q' : (σ.cel.set j none)[j]? = some (some ys) := q'
      rw [List.getElem?_set] at q'; simp at q'
    · have q' : (σ.cel.set j none)[k]? = some (some ys) := q'
      rw [List.getElem?_set_ne d] at q'; exact ⟨ys, q'⟩
  | _ => exact ⟨ys, q'⟩

/-- the walked list is its own again -/
theorem unlock_ok {o : V} {xs : List V} {τ : St} {ρ' : List Addr} {vo : Value} {X : Addr → Prop} (I₀ : Inv hT os fr env σ ρ s) (ro : RV s.heap ρ vo o) (ew : walkOf σ o = some xs) {env' : Env} (I : Inv hT os fr env' τ ρ' s') (e : Evo X (lock σ o).cel ρ s.heap τ.cel ρ' s'.heap) :
    Inv hT os fr env' (unlock o xs τ) ρ' s' ∧ Evo X σ.cel ρ s.heap (unlock o xs τ).cel ρ' s'.heap := by
  cases o with
  | c k =>
    simp only [walkOf] at ew
    split at ew
    · rename_i ys q
      obtain rfl : ys = xs := by simpa using ew
      obtain ⟨a, vs, rfl, ek, hp, rr⟩ := own_at I₀.rs.cel ro q
      obtain ⟨new, rfl, hn⟩ := e.pre
      have nl : ¬ Live (lock σ (.c k)).cel ρ a := fun l => by
        obtain ⟨j, zs, e1, e2⟩ := l
        obtain rfl := nodup_inj I₀.rs.cel.nd e2 ek
        have e1 : (σ.cel.set j none)[j]? = some (some zs) := e1
        rw [List.getElem?_set] at e1; simp at e1
      have hp' := e.ext.plainList hp nl
      have lt : k < ρ.length := by
        rcases Nat.lt_or_ge k ρ.length with l | l
        · exact l
        · rw [List.getElem?_eq_none l] at ek; cases ek
      have ek' : (ρ ++ new)[k]? = some a := by rw [List.getElem?_append_left lt]; exact ek
      have rr' : RVs s'.heap (ρ ++ new) vs ys := rr.evo (I₀.lock (.c k)).rs.cel e
      refine ⟨I.cel rfl (I.rs.cel.unlock ek' hp' rr'), ⟨new, rfl, hn⟩, fun j zs q' lt' => ?_, fun j q' => ?_, e.fromLock.ext⟩
      · by_cases d : k = j
        · subst d; exact ⟨ys, q⟩
        · have q' : (τ.cel.set k (some ys))[j]? = some (some zs) := q'
          rw [List.getElem?_set_ne d] at q'
          exact e.fromLock.live j zs q' lt'
      · by_cases d : k = j
        · subst d; rw [q] at q'; cases q'
        · show (τ.cel.set k (some ys))[j]? = some none
          rw [List.getElem?_set_ne d]
          exact e.fromLock.lock j q'
    · cases ew
  | _ => exact ⟨I, e⟩

/-- an object apart from all that stands for values is turned -/
structure Off (C : Addr) (env : Env) (fr : List Env) (hT : Heap) (h h' : Heap) : Prop where
  is : ∃ o, h.get? C = some o ∧ (∀ vs n, o.data ≠ .seq vs n) ∧ ∀ vs, o.data ≠ .fields vs
  keep : ∀ b o, b ≠ C → h.get? b = some o → h'.get? b = some o
  top : hT.get? C = none
  loc : env.locals ≠ C
  cel : ∀ x, env.cells.lookup x ≠ some C
  frm : ∀ e ∈ fr, e.frame ≠ some C
theorem Off.ne {C : Addr} {h h' : Heap} (t : Off C env fr hT h h') {b : Addr} {o : Obj} {xs : Array Value} {n : Nat} (e : h.get? b = some o) (d : o.data = .seq xs n) : b ≠ C := fun c => by
  subst c
  obtain ⟨o', e', nd, _⟩ := t.is
  rw [e] at e'; obtain rfl := Option.some.inj e'
  exact nd xs n d
theorem Off.plain {C : Addr} {h h' : Heap} (t : Off C env fr hT h h') {a : Addr} {items : Array Value} (p : h.PlainList a items) : h'.PlainList a items := let ⟨n, g⟩ := p; ⟨n, t.keep _ _ (t.ne g rfl) g⟩
theorem Off.rv {C : Addr} {h h' : Heap} (t : Off C env fr hT h h') (hp : ∀ a ∈ ρ, ∃ items, h.PlainList a items) {v : Value} {x : V} (r : RV h ρ v x) : RV h' ρ v x := by
  cases x with
  | d x =>
    obtain ⟨as, r, q, n⟩ := r
    exact ⟨as, reads_ext hp (fun b o xs m g _ d => t.keep b o (t.ne g d) g) r q (fun a ha => (n a ha).1), q, fun a ha => ⟨(n a ha).1, let ⟨i, p⟩ := (n a ha).2; ⟨i, t.plain p⟩⟩⟩
  | c k => exact r
  | rng a b =>
    obtain ⟨r, t', u, w, rfl, g⟩ := r
    refine ⟨r, t', u, w, rfl, t.keep _ _ (fun c => ?_) g⟩
    subst c
    obtain ⟨o', e', d, nr⟩ := t.is
    have g : h.get? r = some { cls := .type "range", dict := none, data := .fields #[.int a t', .int b u, .int 1 w], slots := #[] } := g
    rw [g] at e'; obtain rfl := Option.some.inj e'
    exact nr _ rfl
theorem Off.rvs {C : Addr} {h h' : Heap} (t : Off C env fr hT h h') (hp : ∀ a ∈ ρ, ∃ items, h.PlainList a items) : ∀ {vs : List Value} {xs : List V}, RVs h ρ vs xs → RVs h' ρ vs xs
  | [], [], _ => trivial
  | _ :: _, _ :: _, r => ⟨t.rv hp r.1, Off.rvs t hp r.2⟩
  | [], _ :: _, r => r.elim
  | _ :: _, [], r => r.elim
theorem Off.inv {C : Addr} (t : Off C env fr hT s.heap s'.heap) (hg : s'.gens = s.gens) (ho : s'.os = s.os) (I : Inv hT os fr env σ ρ s) : Inv hT os fr env σ ρ s' := by
  have c := I.rs.cel
  refine ⟨⟨⟨?_, fun x y q k => ?_, fun x k => ?_, I.rs.vars.apart⟩, c.len, c.nd, fun a ha => let ⟨i, p⟩ := c.pl a ha; ⟨i, t.plain p⟩, fun k xs e => ?_⟩, ⟨fun b o q => t.keep b o (fun z => by subst z; rw [t.top] at q; cases q) (I.gi.keep b o q), hg ▸ I.gi.bare, ho.trans I.gi.os⟩, I.own, fun e he => ?_, I.me⟩
  · obtain ⟨m, ⟨o, es, ep, g, r⟩, hl⟩ := I.rs.vars.ns
    exact ⟨m, ⟨o, es, ep, t.keep _ _ t.loc g, r⟩, fun x y q k => let ⟨v, e1, e2⟩ := hl x y q k; ⟨v, e1, t.rv c.pl e2⟩⟩
  · obtain ⟨a, v, e1, ⟨o, g, d⟩, e3⟩ := I.rs.vars.ce x y q k
    exact ⟨a, v, e1, ⟨o, t.keep _ _ (fun z => t.cel x (by rw [e1, z])) g, d⟩, t.rv c.pl e3⟩
  · obtain ⟨a, v, e1, ⟨o, g, d⟩⟩ := I.rs.vars.cells x k
    exact ⟨a, v, e1, ⟨o, t.keep _ _ (fun z => t.cel x (by rw [e1, z])) g, d⟩⟩
  · obtain ⟨a, vs, e1, e2, e3⟩ := c.here k xs e
    exact ⟨a, vs, e1, t.plain e2, t.rvs c.pl e3⟩
  · obtain ⟨k, L, o, e1, e2, e3, e4⟩ := I.fro e he
    exact ⟨k, L, o, e1, e2, t.keep _ _ (fun z => t.frm e he (by rw [e1, z])) e3, e4⟩

/-- a locked list is turned -/
theorem Inv.turn {k : Nat} {a : Addr} {us ws : List Value} {ys : List V} (I : Inv hT os fr env σ ρ s) (e : σ.cel[k]? = some none) (ek : ρ[k]? = some a) (hp : s.heap.PlainList a us.toArray) (r : RVs s.heap ρ us ys)
    (hs : Heap.SameBut a s.heap s'.heap) (hp' : s'.heap.PlainList a ws.toArray) (hg : s'.gens = s.gens) (ho : s'.os = s.os) : Inv hT os fr env σ ρ s' ∧ ∀ {vs xs}, RVs s.heap ρ vs xs → RVs s'.heap ρ vs xs := by
  have lt : k < σ.cel.length := by
    rcases Nat.lt_or_ge k σ.cel.length with l | l
    · exact l
    · rw [List.getElem?_eq_none l] at e; cases e
  have I₁ : Inv hT os fr env ⟨σ.loc, σ.cel.set k (some ys)⟩ ρ s := I.cel rfl (I.rs.cel.unlock ek hp r)
  have e₁ : (σ.cel.set k (some ys))[k]? = some (some ys) := by rw [List.getElem?_set_self lt]
  have ex : Ext (Live (σ.cel.set k (some ys)) ρ) noX s.heap s'.heap := Ext.upd hp hs (live_of e₁ ek) ⟨_, hp'.choose_spec⟩
  have up : ∀ {vs xs}, RVs s.heap ρ vs xs → RVs s'.heap ρ vs xs := fun r => by
    have := RVs.ext (new := []) I.rs.cel.pl (fun _ q => nomatch q) ex r
    rwa [List.append_nil] at this
  have c : Cel (σ.cel.set k none) ρ s'.heap := by
    refine ⟨by rw [List.length_set]; exact I.rs.cel.len, I.rs.cel.nd, fun b hb => ?_, fun j zs q => ?_⟩
    · by_cases d : b = a
      · subst d; exact ⟨_, hp'⟩
      · obtain ⟨i, n, g⟩ := I.rs.cel.pl b hb; exact ⟨i, n, by rw [hs.2 b d]; exact g⟩
    · by_cases d : k = j
      · subst d; rw [List.getElem?_set] at q; simp at q
      · rw [List.getElem?_set_ne d] at q
        obtain ⟨b, vs, e1, ⟨n, g⟩, e3⟩ := I.rs.cel.here j zs q
        have nb : b ≠ a := fun z => by subst z; exact d (nodup_inj I.rs.cel.nd ek e1)
        exact ⟨b, vs, e1, ⟨n, by rw [hs.2 b nb]; exact g⟩, up e3⟩
  have se : σ.cel.set k none = σ.cel := by
    apply List.ext_getElem?
    intro j
    by_cases d : k = j
    · subst d; rw [List.getElem?_set_self lt, e]
    · rw [List.getElem?_set_ne d]
  rw [se] at c
  refine ⟨⟨⟨(I₁.rs.vars.evo I₁.rs.cel (Evo.ofExt ex) : _), c⟩, ⟨fun b o q => ?_, hg ▸ I.gi.bare, ho.trans I.gi.os⟩, I.own, I.fro.ext ex, I.me⟩, up⟩
  rw [hs.2 b fun z => by subst z; rw [I.own b (List.mem_of_getElem? ek)] at q; cases q]
  exact I.gi.keep b o q
end
end Mine
end
section
open PySem PySem.W PyProof.Rows PySem.Calls
set_option Elab.async false
namespace Mine

/-! the cells that a comprehension's scope closes over -/
noncomputable def clos (env : Env) : List (Str × NameKind) → List (Str × Addr) → List (Str × Addr)
  | [], cs => cs
  | (n, k) :: r, cs => match k == NameKind.free with
    | true => clos env r ((n, (env.cells.lookup n).getD 0) :: cs)
    | false => clos env r cs
theorem clos_eq {env : Env} : ∀ (names : List (Str × NameKind)) (cs : List (Str × Addr)), (∀ p ∈ names, p.2 = .free → ∃ c, env.cells.lookup p.1 = some c) →
    (forIn names cs (fun (x : Str × NameKind) (r : List (Str × Addr)) => (match x with
      | (name, kind) => if (kind == NameKind.free) = true then do let c ← cellOf env name; pure (ForInStep.yield ((name, c) :: r)) else pure (ForInStep.yield r) : Sem (ForInStep (List (Str × Addr))))) : Sem (List (Str × Addr))) = pure (clos env names cs)
  | [], cs, _ => rfl
  | (n, k) :: r, cs, h => by
    rw [List.forIn_cons]
    cases hk : k == NameKind.free with
    | true =>
      obtain ⟨c, hc⟩ := h (n, k) List.mem_cons_self (eq_of_beq hk)
      simp only [hk, if_true]
      have e : cellOf env n = pure c := by unfold cellOf; rw [hc]
      rw [e]
      simp only [pure_bind]
      rw [clos_eq r _ fun p hp => h p (List.mem_cons_of_mem _ hp)]
      show _ = pure (clos env ((n, k) :: r) cs)
      simp [clos, hk, hc]
    | false =>
      simp only [hk]
      simp only [Bool.false_eq_true, if_false, pure_bind]
      rw [clos_eq r _ fun p hp => h p (List.mem_cons_of_mem _ hp)]
      simp [clos, hk]
theorem closureFor_ok {scope : Scope} {env : Env} (h : ∀ p ∈ scope.names, p.2 = .free → ∃ c, env.cells.lookup p.1 = some c) : closureFor scope env = pure (clos env scope.names []) := by
  unfold closureFor
  have := clos_eq (env := env) scope.names [] h
  simp only [bind_pure]
  first
    | exact this
    | (rw [← this]; rfl)
    | (rw [← this]; congr 1)
theorem clos_mem {env : Env} : ∀ (names : List (Str × NameKind)) (cs : List (Str × Addr)), (∀ p ∈ names, p.2 = .free → ∃ c, env.cells.lookup p.1 = some c) → (∀ q ∈ cs, env.cells.lookup q.1 = some q.2) → ∀ q ∈ clos env names cs, env.cells.lookup q.1 = some q.2
  | [], _, _, hc => hc
  | (n, k) :: r, cs, h, hc => by
    unfold clos
    cases hk : k == NameKind.free with
    | true =>
      obtain ⟨c, e⟩ := h (n, k) List.mem_cons_self (eq_of_beq hk)
      refine clos_mem r _ (fun p hp => h p (List.mem_cons_of_mem _ hp)) fun q hq => ?_
      rcases List.mem_cons.mp hq with rfl | hq
      · show env.cells.lookup n = some ((env.cells.lookup n).getD 0)
        rw [show env.cells.lookup n = some c from e]; rfl
      · exact hc q hq
    | false => exact clos_mem r cs (fun p hp => h p (List.mem_cons_of_mem _ hp)) hc
theorem clos_keys {env : Env} : ∀ (names : List (Str × NameKind)) (cs : List (Str × Addr)), (clos env names cs).map (·.1) = ((names.filter fun p => p.2 == NameKind.free).map (·.1)).reverse ++ cs.map (·.1)
  | [], _ => rfl
  | (n, k) :: r, cs => by
    unfold clos
    cases hk : k == NameKind.free with
    | true => simp only [List.filter_cons, hk, if_true, clos_keys r]; simp
    | false => simp only [List.filter_cons, hk]; rw [clos_keys r]; simp
theorem nodupB_iff : ∀ {l : List Str}, nodupB l = true → l.Nodup
  | [], _ => .nil
  | x :: r, h => by
    simp only [nodupB, Bool.and_eq_true, Bool.not_eq_true'] at h
    refine List.nodup_cons.mpr ⟨fun hm => ?_, nodupB_iff h.2⟩
    have := h.1
    rw [List.contains_iff_mem.mpr hm] at this
    cases this
theorem clos_apart {env : Env} {names : List (Str × NameKind)} (hf : ∀ p ∈ names, p.2 = .free → ∃ c, env.cells.lookup p.1 = some c) (hn : nodupB (names.map (·.1)) = true) (ha : env.cells.Pairwise fun x y => x.2 ≠ y.2) : (clos env names []).Pairwise fun x y => x.2 ≠ y.2 := by
  have hk : ((clos env names []).map (·.1)).Nodup := by
    rw [clos_keys]
    simp only [List.map_nil, List.append_nil]
    exact List.pairwise_reverse.mpr (((nodupB_iff hn).sublist ((List.filter_sublist).map _)).imp fun h => h.symm)
  have hm := clos_mem names [] hf (fun q hq => nomatch hq)
  rw [List.Nodup, List.pairwise_map] at hk
  refine (List.Pairwise.and_mem.mp hk).imp fun {x y} ⟨hx, hy, ne⟩ e => ne ?_
  have e1 := hm x hx
  have e2 := hm y hy
  rw [e] at e1
  exact name_of_addr ha (mem_of_lookup e1) (mem_of_lookup e2)
theorem lookup_of_key {α : Type} : ∀ {l : List (Str × α)} {x : Str}, x ∈ l.map (·.1) → ∃ c, l.lookup x = some c
  | [], x, h => by simp at h
  | (k, v) :: r, x, h => by
    rw [List.lookup_cons]
    cases e : x == k with
    | true => exact ⟨v, rfl⟩
    | false =>
      rcases List.mem_cons.mp h with h | h
      · exact absurd h (beq_eq_false_iff_ne.mp e)
      · exact lookup_of_key h
theorem clos_lookup {env : Env} {names : List (Str × NameKind)} {x : Str} (hf : ∀ p ∈ names, p.2 = .free → ∃ c, env.cells.lookup p.1 = some c) (hx : (x, NameKind.free) ∈ names) : (clos env names []).lookup x = env.cells.lookup x := by
  have hk : x ∈ (clos env names []).map (·.1) := by
    rw [clos_keys]
    simp only [List.map_nil, List.append_nil, List.mem_reverse]
    exact List.mem_map.mpr ⟨(x, .free), List.mem_filter.mpr ⟨hx, rfl⟩, rfl⟩
  obtain ⟨c, e⟩ := lookup_of_key hk
  rw [e, clos_mem names [] hf (fun q hq => nomatch hq) _ (mem_of_lookup e)]

theorem mem_of_lookup' {α : Type} {l : List (Str × α)} {n : Str} {c : α} (h : l.lookup n = some c) : (n, c) ∈ l := mem_of_lookup h
theorem map_lookup {f : Str → NameKind → NameKind} : ∀ {l : List (Str × NameKind)} {x : Str}, (l.map fun p => (p.1, f p.1 p.2)).lookup x = (l.lookup x).map (f x)
  | [], _ => rfl
  | (k, v) :: r, x => by
    rw [List.map_cons, List.lookup_cons, List.lookup_cons]
    cases e : x == k with
    | true => rw [eq_of_beq e]; rfl
    | false => exact map_lookup
noncomputable def kindIn (outer : Scope) (x : Str) (k : NameKind) : NameKind := match k == NameKind.free && (outer.names.lookup x == some NameKind.cell) with | true => .cell | false => k
theorem compScope_names (scope outer : Scope) : (compScope scope outer).names = scope.names.map fun p => (p.1, kindIn outer p.1 p.2) := by
  unfold compScope kindIn
  refine List.map_congr_left fun p _ => ?_
  obtain ⟨x, k⟩ := p
  cases h : (k == NameKind.free && (outer.names.lookup x == some NameKind.cell)) with
  | true => simp only [h]
  | false => simp only [h]
theorem compScope_lookup {scope outer : Scope} {x : Str} : (compScope scope outer).names.lookup x = (scope.names.lookup x).map (kindIn outer x) := by rw [compScope_names, map_lookup]
theorem relabel_eq {scope : Scope} {env : Env} (ek : env.scope.kind = .function) : relabel scope env = compScope scope env.scope := by
  unfold relabel compScope
  congr 1
  refine List.map_congr_left fun p _ => ?_
  obtain ⟨x, k⟩ := p
  simp only [ek, Env.kindOf]
  have : (ScopeKind.function == ScopeKind.function) = true := rfl
  rw [this, Bool.and_true]
  cases h : (k == NameKind.free && (env.scope.names.lookup x == some NameKind.cell)) with
  | true => simp
  | false => simp
theorem drop_lookup {sc : Scope} {x : Str} : ∀ {l : List (Str × V)}, (dropLocals sc l).lookup x = if sc.names.lookup x = some .local then none else l.lookup x
  | [] => by simp [dropLocals]
  | (k, v) :: r => by
    unfold dropLocals
    cases h : sc.names.lookup k == some NameKind.local with
    | true =>
      simp only [h]
      rw [drop_lookup]
      by_cases c : sc.names.lookup x = some .local
      · rw [if_pos c, if_pos c]
      · rw [if_neg c, if_neg c, List.lookup_cons]
        cases e : x == k with
        | true => rw [eq_of_beq e] at c; exact absurd (eq_of_beq h) c
        | false => rfl
    | false =>
      simp only [h]
      rw [List.lookup_cons, List.lookup_cons, drop_lookup]
      cases e : x == k with
      | true =>
        have : ¬ sc.names.lookup x = some .local := by rw [eq_of_beq e]; exact fun c => by rw [c] at h; exact absurd h (by decide)
        simp only [if_neg this]
      | false => rfl
end Mine
end
section
open PySem PySem.W PyProof.Rows PySem.Calls
set_option Elab.async false
namespace Mine
structure EOk (env : Env) : Prop where
  kind : env.scope.kind = .function
  glob : env.globals = mainGlobals
  bi : env.builtins = builtinsNs
  cells : ∀ x c, env.cells.lookup x = some c → env.kindOf x = some .cell

section
variable {prog : Program} {w : World} {A : Around} {hT : Heap} {os : OsState} {fr : List Env} {env : Env} {σ : St} {ρ : List Addr} {s s' : Shared} {E : Value → Shared → Prop} {R : Result → Shared → Prop}

/-- the loop of a list comprehension, whatever its target -/
theorem codeAny_compLoop_own {elt target iter : PySem.Expr} {ifs : List PySem.Expr} {scope : Scope} {pos : Pos} {it acc : Value} {env : Env} (I : Nat → Shared → Prop)
    (turn : ∀ n s, I n s → wpAny (model prog w) A (pyNext it) (fun r s₁ => match r with
      | none => R (.ok .next) s₁
      | some v => wpAny (model prog w) A (letOwnedTupleGo target it v) (fun _ s₁ => wpAny (model prog w) A (assign target env v) (fun _ s₂ =>
          wpAny (model prog w) A (forIn ifs true fun c r => if r = true then do let ok ← isTrue c env (eval c env); pure (ForInStep.yield ok) else pure (ForInStep.yield r)) (fun ok s₃ =>
            if ok = true then wpAny (model prog w) A (eval elt env) (fun x s₄ =>
              wpAny (model prog w) A (call (.builtin "list.append") [acc, x]) (fun _ s₅ => ∃ m, m < n ∧ I m s₅) EF s₄) EF s₃
            else ∃ m, m < n ∧ I m s₃) EF s₂) EF s₁) EF s₁) EF s)
    (n : Nat) (h : I n s) : codeAny (model prog w) A (.compLoop (.ListComp elt [⟨target, iter, ifs, 0⟩] scope pos) 0 it acc env) R s := by
  refine codeAny_loop rfl I (fun n s hI => ?_) n h
  show wpAny _ A ((compTurn (.ListComp elt [⟨target, iter, ifs, 0⟩] scope pos) 0 it acc env).onRaise (fun x => do noteFrame x env; theTreesLotGoes x)) _ _ s
  refine wpAny_noted ?_
  rw [compTurn_list]
  refine wpAny_bind (wpAny_standAt (wpAny_bind (wpAny_mono (turn n s hI) (fun r s₁ h₁ => ?_) fun _ _ h' => h'.elim)))
  cases r with
  | none => exact wpAny_pure h₁
  | some v =>
    refine wpAny_bind (wpAny_mono h₁ (fun _ s₂ h₂ => ?_) fun _ _ h' => h'.elim)
    refine wpAny_bind (wpAny_mono h₂ (fun _ s₂ h₂ => wpAny_bind (wpAny_mono h₂ (fun ok s₃ h₃ => ?_) fun _ _ h' => h'.elim)) fun _ _ h' => h'.elim)
    cases ok with
    | false => exact wpAny_pure ⟨rfl, h₃⟩
    | true =>
      exact wpAny_bind (wpAny_bind (wpAny_mono h₃ (fun x s₄ h₄ => wpAny_bind (wpAny_mono h₄ (fun _ s₅ h₅ => wpAny_pure (wpAny_pure ⟨rfl, h₅⟩)) fun _ _ h' => h'.elim)) fun _ _ h' => h'.elim))

theorem go_idle {M : Model} {target : PySem.Expr} {I : Addr} {v : Value} {Q : Unit → Shared → Prop} (h : ∃ o vs n, s.heap.get? I = some o ∧ o.data = .fields vs ∧ o.cls = .type n ∧ idle n = true) (hQ : Q () s) : wpAny M A (letOwnedTupleGo target (.ref I) v) Q E s := by
  obtain ⟨o, vs, n, g, d, c, id⟩ := h
  have hn : (["enumerate", "zip", "dict_itemiterator", "dict_reverseitemiterator", "odict_iterator", "itertools.zip_longest", "itertools.pairwise"].contains n) = false := by
    unfold idle at id
    rw [Bool.and_eq_true, Bool.not_eq_true'] at id
    exact id.1
  have key : ∀ a : Addr, wpAny M A (do
      let o ← load I
      match o.cls, o.data with
      | .type n, .fields vs =>
        if ["enumerate", "zip", "dict_itemiterator", "dict_reverseitemiterator", "odict_iterator", "itertools.zip_longest", "itertools.pairwise"].contains n && vs[0]? == some (rawInt a) then
          rule "for.unpacks-the-owned-tuple"
          updateField I 0 .none
      | _, _ => pure ()) Q E s := fun a => by
    refine wpAny_bind (wpAny_load g ?_)
    rw [c, d]
    simp only [hn, Bool.false_and, Bool.false_eq_true, if_false]
    exact wpAny_pure hQ
  unfold letOwnedTupleGo
  split
  · cases v with
    | ref a => exact key a
    | _ => exact wpAny_pure hQ
  · cases v with
    | ref a => exact key a
    | _ => exact wpAny_pure hQ
  · exact wpAny_pure hQ

theorem Fixd.tick {cel : List (Option (List V))} {h h' : Heap} {b I : Addr} (f : Fixd cel ρ h b) (k : ∀ b o, b ∉ [I] → h.get? b = some o → h'.get? b = some o) (hI : ∃ o vs, h'.get? I = some o ∧ o.data = .fields vs) : Fixd cel ρ h' b := by
  obtain ⟨o, g, d, c, l⟩ := f
  by_cases e : b = I
  · subst e
    obtain ⟨o', vs, g', d'⟩ := hI
    exact ⟨o', g', not_dict_fields d', not_cell_fields d', l⟩
  · exact ⟨o, k b o (by simpa using e) g, d, c, l⟩

theorem Evo.dropX {X Y : Addr → Prop} {cel cel' : List (Option (List V))} {ρ' : List Addr} {h h' : Heap} (e : Evo X cel ρ h cel' ρ' h') (n : ∀ b o, h.get? b = some o → ¬ X b) : Evo Y cel ρ h cel' ρ' h' :=
  ⟨e.pre, e.live, e.lock, e.ext.there, e.ext.exact, fun b o g d _ => e.ext.dict b o g d (n b o g), e.ext.isd, fun b o g d _ => e.ext.cell b o g d (n b o g)⟩
theorem Evo.setNew {X : Addr → Prop} {cel cel' : List (Option (List V))} {ρ' : List Addr} {h h' : Heap} {N : Nat} {o : Option (List V)} (e : Evo X cel ρ h cel' ρ' h') (hN : N = ρ.length) (hl : ρ.length = cel.length) : Evo X cel ρ h (cel'.set N o) ρ' h' := by
  refine ⟨e.pre, fun k xs q lt => ?_, fun k q => ?_, e.ext⟩
  · rw [List.getElem?_set_ne (by omega)] at q; exact e.live k xs q lt
  · have lt : k < cel.length := by
      rcases Nat.lt_or_ge k cel.length with l | l
      · exact l
      · rw [List.getElem?_eq_none l] at q; cases q
    rw [List.getElem?_set_ne (by omega)]; exact e.lock k q

/-- what the end of a comprehension's loop leaves -/
structure CEnd (hT : Heap) (os : OsState) (fr : List Env) (cenv : Env) (N : Nat) (D C : Addr) (cel₀ : List (Option (List V))) (ρ : List Addr) (h₀ : Heap) (out : List V) (τ : St) (s' : Shared) : Prop where
  ex : ∃ ρ' us, Inv hT os fr cenv τ ρ' s' ∧ Evo (· = C) cel₀ ρ h₀ τ.cel ρ' s'.heap ∧ τ.cel[N]? = some none ∧ ρ'[N]? = some D ∧ s'.heap.PlainList D (List.toArray us) ∧ RVs s'.heap ρ' us out

theorem comp_loop {elt target iter : PySem.Expr} {ifs : List PySem.Expr} {scope : Scope} {pos : Pos} {cenv : Env} {turn : V → St → (Option V → St → Prop) → Prop} {cel₀ : List (Option (List V))} {ρ₀ : List Addr} {h₀ h₁ : Heap} {I D C : Addr} {N : Nat} {xs : List V}
    {fp : List Addr} {P : Nat → Value → Prop} {St' : Nat → Heap → Prop} {Kend : List V → St → Prop} {τ₀ : St} {ρ₁ : List Addr} {s₁ : Shared}
    (hh : A.handled = none) (ek : cenv.scope.kind = .function) (hC : cenv.locals = C) (c₀ : Cel cel₀ ρ₀ h₀)
    (W : WalkAt prog w A cel₀ ρ₀ h₀ h₁ xs I fp P St') (hI0 : h₀.get? I = none) (hD0 : h₀.get? D = none) (hD1 : h₁.get? D = none) (hIT : hT.get? I = none) (hsz : xs.length ≤ 16777216)
    (sT : ∀ x v τ ρ' s' (k : Option V → St → Prop), Inv hT os fr cenv τ ρ' s' → RV s'.heap ρ' v x → turn x τ k → wpAny (model prog w) A (assign target cenv v) (fun _ s₂ => ∃ τ₂ ρ₂, Inv hT os fr cenv τ₂ ρ₂ s₂ ∧ Evo (· = C) τ.cel ρ' s'.heap τ₂.cel ρ₂ s₂.heap ∧
      wpAny (model prog w) A (forIn ifs true fun c r => if r = true then do let ok ← isTrue c cenv (eval c cenv); pure (ForInStep.yield ok) else pure (ForInStep.yield r)) (fun ok s₃ => ∃ τ₃ ρ₃, Inv hT os fr cenv τ₃ ρ₃ s₃ ∧ Evo (· = C) τ₂.cel ρ₂ s₂.heap τ₃.cel ρ₃ s₃.heap ∧
        if ok = true then wpAny (model prog w) A (eval elt cenv) (PE hT os fr cenv τ₃.cel ρ₃ s₃.heap fun y τ => k (some y) τ) EF s₃ else k none τ₃) EF s₂) EF s')
    (I₁ : Inv hT os fr cenv τ₀ ρ₁ s₁) (e₁ : Evo (· = C) cel₀ ρ₀ h₀ τ₀.cel ρ₁ s₁.heap) (hN : τ₀.cel[N]? = some none) (hρN : ρ₁[N]? = some D) (hDl : s₁.heap.PlainList D #[]) (st : St' 0 s₁.heap) (fix : ∀ b ∈ fp, Fixd τ₀.cel ρ₁ s₁.heap b)
    (h : compL turn xs [] τ₀ Kend)
    (hR : ∀ out τ s', Kend out τ → CEnd hT os fr cenv N D C cel₀ ρ₀ h₀ out τ s' → R (.ok .next) s') :
    codeAny (model prog w) A (.compLoop (.ListComp elt [⟨target, iter, ifs, 0⟩] scope pos) 0 (.ref I) (.ref D) cenv) R s₁ := by
  have hlt : ∀ {l : List (Option (List V))} {k : Nat} {x}, l[k]? = some x → k < l.length := fun {l k x} e => by
    rcases Nat.lt_or_ge k l.length with q | q
    · exact q
    · rw [List.getElem?_eq_none q] at e; cases e
  have hltρ : ∀ {l : List Addr} {k : Nat} {x}, l[k]? = some x → k < l.length := fun {l k x} e => by
    rcases Nat.lt_or_ge k l.length with q | q
    · exact q
    · rw [List.getElem?_eq_none q] at e; cases e
  -- the accumulator through an evolution
  have acc : ∀ {τ τ' : St} {ρ' ρ'' : List Addr} {s' s'' : Shared} {us : List Value} {out : List V}, Inv hT os fr cenv τ ρ' s' → Evo (· = C) τ.cel ρ' s'.heap τ'.cel ρ'' s''.heap → τ.cel[N]? = some none → ρ'[N]? = some D → s'.heap.PlainList D (List.toArray us) → RVs s'.heap ρ' us out →
      τ'.cel[N]? = some none ∧ ρ''[N]? = some D ∧ s''.heap.PlainList D (List.toArray us) ∧ RVs s''.heap ρ'' us out := fun {τ τ' ρ' ρ'' s' s'' us out} i e a1 a2 a3 a4 => by
    obtain ⟨new, rfl, hn⟩ := e.pre
    refine ⟨e.lock N a1, by rw [List.getElem?_append_left (hltρ a2)]; exact a2, e.ext.plainList a3 fun l => ?_, a4.evo i.rs.cel e⟩
    obtain ⟨j, zs, q1, q2⟩ := l
    obtain rfl := nodup_inj i.rs.cel.nd a2 q2
    rw [a1] at q1; cases q1
  refine codeAny_compLoop_own (fun n s' => ∃ i τ ρ' out us, n = xs.length - i ∧ i ≤ xs.length ∧ compL turn (xs.drop i) out τ Kend ∧ Inv hT os fr cenv τ ρ' s' ∧ Evo (· = C) cel₀ ρ₀ h₀ τ.cel ρ' s'.heap ∧ τ.cel[N]? = some none ∧ ρ'[N]? = some D ∧
      s'.heap.PlainList D (List.toArray us) ∧ RVs s'.heap ρ' us out ∧ out.length ≤ i ∧ St' i s'.heap ∧ ∀ b ∈ fp, Fixd τ.cel ρ' s'.heap b) (fun n s' hI => ?_) xs.length (exI5 0 τ₀ ρ₁ [] [] ⟨rfl, Nat.zero_le _, h, I₁, e₁, hN, hρN, hDl, trivial, Nat.le_refl _, st, fix⟩)
  refine exE5 hI fun i τ ρ' out us hI => andE12 hI fun hni hi hc inv ev hn hρ hp hr hol hst hfix => ?_
  subst hni
  have hIs := W.isI i s'.heap hst
  rcases Nat.lt_or_ge i xs.length with lt | ge
  · refine W.W.item i s' _ _ lt hst fun v h' tk hP hst' hk => ?_
    have tick : Ticks [I] s'.heap h' := Ticks.one (let ⟨o, vs, n, g, d, c, id⟩ := hIs; ⟨o, vs, g, d, c ▸ idle_range id⟩) hk
    have hIs' := W.isI (i + 1) h' hst'
    have inv₁ : Inv hT os fr cenv τ ρ' { s' with heap := h', toks := tk } := Ticks.inv (s := s') (s' := { s' with heap := h', toks := tk }) tick (fun j hj => by rw [List.mem_singleton] at hj; subst hj; exact hIT) rfl rfl inv
    have ev₁ : Evo (· = C) cel₀ ρ₀ h₀ τ.cel ρ' h' := Evo.tick hI0 ev hk
    have hp₁ : h'.PlainList D (List.toArray us) := tick.plain hp
    have hr₁ : RVs h' ρ' us out := tick.rvs inv.rs.cel.pl hr
    have hfix₁ : ∀ b ∈ fp, Fixd τ.cel ρ' h' b := fun b hb => (hfix b hb).tick hk (let ⟨o, vs, _, g, d, _⟩ := hIs'; ⟨o, vs, g, d⟩)
    obtain ⟨x, hx, hv⟩ := W.val i v hP
    have hv₁ : RV h' ρ' v x := hv.evo c₀ ev₁
    have hdrop : xs.drop i = x :: xs.drop (i + 1) := by
      rw [List.drop_eq_getElem_cons lt]
      rw [List.getElem?_eq_getElem lt] at hx
      rw [Option.some.inj hx]
    rw [hdrop] at hc
    simp only [compL] at hc
    refine go_idle hIs' ?_
    refine wpAny_mono (sT x v τ ρ' _ _ inv₁ hv₁ hc) (fun _ s₂ ⟨τ₂, ρ₂, inv₂, ev₂, w₂⟩ => ?_) fun _ _ q => q
    refine wpAny_mono w₂ (fun ok s₃ ⟨τ₃, ρ₃, inv₃, ev₃, w₃⟩ => ?_) fun _ _ q => q
    have ev₂₃ := ev₂.trans ev₃
    obtain ⟨b1, b2, b3, b4⟩ := acc inv₁ ev₂₃ hn hρ hp₁ hr₁
    have hfix₃ : (∀ b ∈ fp, ∀ o, h'.get? b = some o → s₃.heap.get? b = some o) ∧ ∀ b ∈ fp, Fixd τ₃.cel ρ₃ s₃.heap b := ⟨fun b hb => ((hfix₁ b hb).evo ev₂₃).1, fun b hb => ((hfix₁ b hb).evo ev₂₃).2⟩
    cases ok with
    | false =>
      simp only [Bool.false_eq_true, if_false] at w₃ ⊢
      exact ⟨_, Nat.sub_lt_sub_left lt (Nat.lt_succ_self i), exI5 (i + 1) τ₃ ρ₃ out us ⟨rfl, lt, w₃, inv₃, ev₁.trans ev₂₃, b1, b2, b3, b4, Nat.le_succ_of_le hol, W.W.frame (i + 1) _ _ hst' hfix₃.1, hfix₃.2⟩⟩
    | true =>
      simp only [if_true] at w₃ ⊢
      refine wpAny_mono w₃ (fun y s₄ hy => ?_) fun _ _ q => q
      obtain ⟨yv, τ₄, ρ₄, hk₄, ry, inv₄, ev₄⟩ := hy
      have ev₄' : Evo (· = C) τ₃.cel ρ₃ s₃.heap τ₄.cel ρ₄ s₄.heap := ev₄.mono fun _ q => q.elim
      obtain ⟨c1, c2, c3, c4⟩ := acc inv₃ ev₄' b1 b2 b3 b4
      have hlen := c4.length
      have hfix₄ : (∀ b ∈ fp, ∀ o, h'.get? b = some o → s₄.heap.get? b = some o) ∧ ∀ b ∈ fp, Fixd τ₄.cel ρ₄ s₄.heap b :=
        ⟨fun b hb o q => ((hfix₃.2 b hb).evo ev₄').1 o (hfix₃.1 b hb o q), fun b hb => ((hfix₃.2 b hb).evo ev₄').2⟩
      refine wpAny_list_append_plain c3 (fun h₅ hp₅ hs₅ => ?_) (by rw [sizeLine_eq]; simp; omega)
      have hp₅' : h₅.PlainList D (us ++ [y]).toArray := by simpa using hp₅
      obtain ⟨inv₅, up⟩ := inv₄.turn (s' := { s₄ with heap := h₅ }) c1 c2 c3 c4 hs₅ hp₅' rfl rfl
      have keepD : ∀ b o, b ∉ [D] → s₄.heap.get? b = some o → h₅.get? b = some o := fun b o nb g => by rw [hs₅.2 b (by simpa using nb)]; exact g
      have ev₅ : Evo (· = C) cel₀ ρ₀ h₀ τ₄.cel ρ₄ h₅ := Evo.tick hD0 ((ev₁.trans ev₂₃).trans ev₄') keepD
      have nD : ∀ b ∈ fp, b ≠ D := fun b hb e => by
        subst e
        obtain ⟨o, g, _⟩ := W.fix b hb
        rw [hD1] at g; cases g
      refine ⟨_, Nat.sub_lt_sub_left lt (Nat.lt_succ_self i), exI5 (i + 1) τ₄ ρ₄ (out ++ [yv]) (us ++ [y]) ⟨rfl, lt, hk₄, inv₅, ev₅, c1, c2, hp₅', up (c4.append (RVs.one ry)), by simp; omega, ?_, ?_⟩⟩
      · exact W.W.frame (i + 1) _ _ hst' fun b hb o q => keepD b o (by simpa using nD b hb) (hfix₄.1 b hb o q)
      · intro b hb
        obtain ⟨o, g, d, c, l⟩ := hfix₄.2 b hb
        exact ⟨o, keepD b o (by simpa using nD b hb) g, d, c, l⟩
  · have : i = xs.length := Nat.le_antisymm hi ge
    subst this
    refine W.W.done s' _ _ hst fun h' tk hk => ?_
    have tick : Ticks [I] s'.heap h' := Ticks.one (let ⟨o, vs, n, g, d, c, id⟩ := hIs; ⟨o, vs, g, d, c ▸ idle_range id⟩) hk
    rw [List.drop_length] at hc
    exact hR out τ _ hc ⟨ρ', us, Ticks.inv (s := s') (s' := { s' with heap := h', toks := tk }) tick (fun j hj => by rw [List.mem_singleton] at hj; subst hj; exact hIT) rfl rfl inv, Evo.tick hI0 ev hk, hn, hρ, tick.plain hp, tick.rvs inv.rs.cel.pl hr⟩
end
end Mine
end
section
open PySem PySem.W PyProof.Rows PySem.Calls
set_option Elab.async false
namespace Mine
section
variable {prog : Program} {w : World} {A : Around} {hT : Heap} {os : OsState} {fr : List Env} {env : Env} {σ : St} {ρ : List Addr} {s s' : Shared} {E : Value → Shared → Prop} {R : Result → Shared → Prop} {K : V → St → Prop}

theorem cend_PE {cenv : Env} {it : V} {vit : Value} {xs out : List V} {D C : Addr} {N : Nat} {τ : St} (I₀ : Inv hT os fr env σ ρ s) (rit : RV s.heap ρ vit it) (ew : walkOf σ it = some xs) (hC0 : s.heap.get? C = none) (hN : N = (lock σ it).cel.length)
    (ce : CEnd hT os fr cenv N D C (lock σ it).cel ρ s.heap out τ s') (hK : K (.c N) (unlock it xs ⟨σ.loc, τ.cel.set N (some out)⟩)) : PE hT os fr env σ.cel ρ s.heap K (.ref D) s' := by
  obtain ⟨ρ', us, inv, ev, hn, hρ, hp, hr⟩ := ce.ex
  have hlen : N = ρ.length := by rw [hN, lock_len, I₀.rs.cel.len]
  have ev' : Evo noX (lock σ it).cel ρ s.heap τ.cel ρ' s'.heap := ev.dropX fun b o g e => by subst e; rw [hC0] at g; cases g
  have v₀ : Vars env σ.loc ρ' s'.heap := I₀.rs.vars.evo (I₀.lock it).rs.cel ev'
  have inv' : Inv hT os fr env ⟨σ.loc, τ.cel.set N (some out)⟩ ρ' s' := ⟨⟨v₀, inv.rs.cel.unlock hρ hp hr⟩, inv.gi, inv.own, inv.fro, I₀.me⟩
  have ev'' : Evo noX (lock σ it).cel ρ s.heap (τ.cel.set N (some out)) ρ' s'.heap := ev'.setNew hlen (I₀.lock it).rs.cel.len
  obtain ⟨i, e⟩ := unlock_ok I₀ rit ew inv' ev''
  exact ⟨_, _, ρ', hK, ⟨D, rfl, hρ⟩, i, e⟩

theorem off_of {C : Addr} {m : Str → Option Value} {h h' : Heap} (eo : EOk env) (hn : h.Ns C m) (hs : Heap.SameBut C h h') (hC0 : s.heap.get? C = none) (I₀ : Inv hT os fr env σ ρ s) : Off C env fr hT h h' := by
  obtain ⟨o, es, ep, g, d, _⟩ := id hn
  obtain ⟨m₀, hm, _⟩ := I₀.rs.vars.ns
  have is : ∃ o, h.get? C = some o ∧ (∀ vs n, o.data ≠ .seq vs n) ∧ ∀ vs, o.data ≠ .fields vs := ⟨o, g, (fun vs n q => by rw [d] at q; cases q), (fun vs q => by rw [d] at q; cases q)⟩
  refine ⟨is, fun b o nb q => by rw [hs.2 b nb]; exact q, ?_, fun c => ?_, fun x c => ?_, fun e he c => ?_⟩
  · cases q : hT.get? C with
    | none => rfl
    | some o => rw [I₀.gi.keep C o q] at hC0; cases hC0
  · subst c
    obtain ⟨o, _, _, g, _⟩ := hm
    rw [g] at hC0; cases hC0
  · obtain ⟨c', v, e1, ⟨o, g, _⟩⟩ := I₀.rs.vars.cells x (eo.cells x C c)
    rw [c] at e1
    obtain rfl := Option.some.inj e1
    rw [g] at hC0; cases hC0
  · obtain ⟨_, L, o, e1, _, e3, _⟩ := I₀.fro e he
    rw [e1] at c
    obtain rfl := Option.some.inj c
    rw [e3] at hC0; cases hC0

theorem PE.off {cel : List (Option (List V))} {ρ₀ : List Addr} {h₀ : Heap} {C : Addr} {v : Value} {h' : Heap} {m : Str → Option Value} (eo : EOk env) (p : PE hT os fr env cel ρ₀ h₀ K v s') (hn : s'.heap.Ns C m) (hs : Heap.SameBut C s'.heap h') (hC0 : s.heap.get? C = none) (I₀ : Inv hT os fr env σ ρ s) (e : s.heap = h₀) :
    PE hT os fr env cel ρ₀ h₀ K v { s' with heap := h' } := by
  subst e
  obtain ⟨x, τ, ρ', hK, hr, inv, ev⟩ := p
  have off := off_of eo hn hs hC0 I₀
  refine ⟨x, τ, ρ', hK, off.rv inv.rs.cel.pl hr, Off.inv (s := s') (s' := { s' with heap := h' }) off rfl rfl inv, Evo.tick hC0 ev fun b o nb q => off.keep b o (by simpa using nb) q⟩

theorem compOk_parts {scope outer : Scope} (h : compOk scope outer = true) : scope.kind = .function ∧ nodupB (scope.names.map (·.1)) = true ∧ (∀ p ∈ scope.names, p.2 ≠ .cell) ∧ ∀ p ∈ scope.names, p.2 = .free → outer.names.lookup p.1 = some .cell := by
  unfold compOk at h
  simp only [Bool.and_eq_true, List.all_eq_true, Bool.or_eq_true, bne_iff_ne, beq_iff_eq] at h
  exact ⟨h.1.1, h.1.2, fun p hp => (h.2 p hp).1, fun p hp e => ((h.2 p hp).2).resolve_left fun n => n e⟩
theorem lookup_unique {α : Type} : ∀ {l : List (Str × α)} {x : Str} {k : α}, (l.map (·.1)).Nodup → (x, k) ∈ l → l.lookup x = some k
  | [], _, _, _, h => nomatch h
  | (y, j) :: r, x, k, nd, h => by
    rw [List.lookup_cons]
    rcases List.mem_cons.mp h with h' | h'
    · obtain ⟨rfl, rfl⟩ := Prod.mk.inj h'
      simp
    · have ne : x ≠ y := fun e => (List.nodup_cons.mp nd).1 (List.mem_map.mpr ⟨_, h', e⟩)
      rw [beq_eq_false_iff_ne.mpr ne]
      exact lookup_unique (List.nodup_cons.mp nd).2 h'

/-- the comprehension's own names -/
theorem cenv_vars {scope : Scope} {C : Addr} {h : Heap} (eo : EOk env) (hc : compOk scope env.scope = true) (v : Vars env σ.loc ρ h) (hn : h.Ns C fun _ => none) :
    Vars (compEnvC scope (clos env scope.names []) C env) (dropLocals (compScope scope env.scope) σ.loc) ρ h := by
  obtain ⟨h1, h2, h3, h4⟩ := compOk_parts hc
  have hf : ∀ p ∈ scope.names, p.2 = .free → ∃ c, env.cells.lookup p.1 = some c := fun p hp e => by
    obtain ⟨c, u, e1, _⟩ := v.cells p.1 (h4 p hp e)
    exact ⟨c, e1⟩
  have hsc : (compEnvC scope (clos env scope.names []) C env).scope = compScope scope env.scope := relabel_eq eo.kind
  have kind : ∀ x k, (compEnvC scope (clos env scope.names []) C env).kindOf x = some k → ∃ k', scope.names.lookup x = some k' ∧ kindIn env.scope x k' = k := fun x k e => by
    unfold Env.kindOf at e
    rw [hsc, compScope_lookup] at e
    exact Option.map_eq_some_iff.mp e
  have cellOf : ∀ x, (compEnvC scope (clos env scope.names []) C env).kindOf x = some .cell → (x, NameKind.free) ∈ scope.names ∧ env.kindOf x = some .cell ∧ (clos env scope.names []).lookup x = env.cells.lookup x := fun x e => by
    obtain ⟨k', e1, e2⟩ := kind x _ e
    have hm := mem_of_lookup e1
    unfold kindIn at e2
    split at e2
    · rename_i q
      simp only [Bool.and_eq_true, beq_iff_eq] at q
      obtain rfl := q.1
      exact ⟨hm, q.2, clos_lookup hf hm⟩
    · exact absurd e2 (h3 _ hm)
  refine ⟨⟨_, hn, fun x y q k => ?_⟩, fun x y q k => ?_, fun x k => ?_, clos_apart hf h2 v.apart⟩
  · rw [drop_lookup] at q
    have : (compScope scope env.scope).names.lookup x = some .local := by rw [← hsc]; exact k
    rw [if_pos this] at q; cases q
  · obtain ⟨e1, e2, e3⟩ := cellOf x k
    rw [drop_lookup] at q
    split at q
    · cases q
    · obtain ⟨c, u, q1, q2, q3⟩ := v.ce x y q e2
      exact ⟨c, u, e3.trans q1, q2, q3⟩
  · obtain ⟨e1, e2, e3⟩ := cellOf x k
    obtain ⟨c, u, q1, q2⟩ := v.cells x e2
    exact ⟨c, u, e3.trans q1, q2⟩
theorem cenv_ok {scope : Scope} {C : Addr} (eo : EOk env) (hc : compOk scope env.scope = true) (v : Vars env σ.loc ρ s.heap) : EOk (compEnvC scope (clos env scope.names []) C env) := by
  obtain ⟨h1, h2, h3, h4⟩ := compOk_parts hc
  refine ⟨h1, eo.glob, eo.bi, fun x c e => ?_⟩
  have hm := mem_of_lookup e
  have hkeys : x ∈ (clos env scope.names []).map (·.1) := List.mem_map.mpr ⟨_, hm, rfl⟩
  rw [clos_keys] at hkeys
  simp only [List.map_nil, List.append_nil, List.mem_reverse] at hkeys
  obtain ⟨p, hp, rfl⟩ := List.mem_map.mp hkeys
  obtain ⟨hp, hk⟩ := List.mem_filter.mp hp
  have hk := eq_of_beq hk
  unfold Env.kindOf
  rw [show (compEnvC scope (clos env scope.names []) C env).scope = compScope scope env.scope from relabel_eq eo.kind, compScope_lookup, lookup_unique (nodupB_iff h2) (k := p.2) (by exact hp)]
  show some (kindIn env.scope p.1 p.2) = some .cell
  unfold kindIn
  rw [hk, h4 p hp hk]; rfl
end
end Mine
end
section
open PySem PySem.W PyProof.Rows PySem.Calls
set_option Elab.async false
namespace Mine
theorem set_last {α : Type} (l : List α) (a b : α) : (l ++ [a]).set l.length b = l ++ [b] := by
  rw [List.set_append_right _ _ (Nat.le_refl _), Nat.sub_self]; rfl
section
variable {prog : Program} {w : World} {A : Around} {hT : Heap} {os : OsState} {fr : List Env} {env : Env} {σ : St} {ρ : List Addr} {s s' : Shared} {E : Value → Shared → Prop} {R : Result → Shared → Prop} {K : V → St → Prop}

theorem comp_ok {elt target iter : PySem.Expr} {ifs : List PySem.Expr} {scope : Scope} {pos pos' : Pos} {use : Option (Value → Sem Unit)} {Q : Value → Shared → Prop} {turn : V → St → (Option V → St → Prop) → Prop} {Kit : V → St → Prop}
    (hh : A.handled = none) (eo : EOk env) (hc : compOk scope env.scope = true) (hset : ∀ x, foldedSetIterable iter env x = pure x) (I : Inv hT os fr env σ ρ s)
    (hiter : wpAny (model prog w) A (eval iter env) (PE hT os fr env σ.cel ρ s.heap Kit) EF s)
    (hKit : ∀ it σ₁, Kit it σ₁ → ∃ xs, walkOf σ₁ it = some xs ∧ xs.length ≤ 16777216 ∧ compL turn xs [] ⟨dropLocals (compScope scope env.scope) (lock σ₁ it).loc, (lock σ₁ it).cel ++ [none]⟩
      fun out τ => K (.c (lock σ₁ it).cel.length) (unlock it xs ⟨σ₁.loc, τ.cel.set (lock σ₁ it).cel.length (some out)⟩))
    (sT : ∀ C x v τ ρ' s' (k : Option V → St → Prop), Inv hT os fr (compEnvC scope (clos env scope.names []) C env) τ ρ' s' → RV s'.heap ρ' v x → turn x τ k → EOk (compEnvC scope (clos env scope.names []) C env) →
      wpAny (model prog w) A (assign target (compEnvC scope (clos env scope.names []) C env) v) (fun _ s₂ => ∃ τ₂ ρ₂, Inv hT os fr (compEnvC scope (clos env scope.names []) C env) τ₂ ρ₂ s₂ ∧ Evo (· = C) τ.cel ρ' s'.heap τ₂.cel ρ₂ s₂.heap ∧
      wpAny (model prog w) A (forIn ifs true fun c r => if r = true then do let ok ← isTrue c (compEnvC scope (clos env scope.names []) C env) (eval c (compEnvC scope (clos env scope.names []) C env)); pure (ForInStep.yield ok) else pure (ForInStep.yield r)) (fun ok s₃ => ∃ τ₃ ρ₃, Inv hT os fr (compEnvC scope (clos env scope.names []) C env) τ₃ ρ₃ s₃ ∧ Evo (· = C) τ₂.cel ρ₂ s₂.heap τ₃.cel ρ₃ s₃.heap ∧
        if ok = true then wpAny (model prog w) A (eval elt (compEnvC scope (clos env scope.names []) C env)) (PE hT os fr (compEnvC scope (clos env scope.names []) C env) τ₃.cel ρ₃ s₃.heap fun y τ => k (some y) τ) EF s₃ else k none τ₃) EF s₂) EF s')
    (hend : ∀ v C m s', PE hT os fr env σ.cel ρ s.heap K v s' → s'.heap.Ns C m → s.heap.get? C = none → compPost (model prog w) A EF use Q v C (.ok .next) s') :
    wpAny (model prog w) A (comprehension (.ListComp elt [⟨target, iter, ifs, 0⟩] scope pos) scope env pos' (newList []) false (eval iter env) use) Q EF s := by
  obtain ⟨h1, h2, h3, h4⟩ := compOk_parts hc
  have hf : ∀ p ∈ scope.names, p.2 = .free → ∃ c, env.cells.lookup p.1 = some c := fun p hp e => by
    obtain ⟨c, u, e1, _⟩ := I.rs.vars.cells p.1 (h4 p hp e)
    exact ⟨c, e1⟩
  refine wpAny_comprehension_free (cl := clos env scope.names []) rfl hset (closureFor_ok hf) h1 (fun x hx e => lookup_unique (nodupB_iff h2) (by obtain ⟨y, k⟩ := x; have e : k = .local := e; subst e; exact hx)) (wpAny_mono hiter (fun xv s₁ hp => ?_) fun _ _ q => q)
  obtain ⟨it, σ₁, ρ₁, hk, rit, inv₁, ev₁⟩ := hp
  obtain ⟨xs, ew, hsz, hcl⟩ := hKit it σ₁ hk
  refine walk_ok hh inv₁ rit ew fun o' fp P St W => ?_
  have hD : ∀ (D : Addr), D = (s₁.heap.push o').objs.size → D = (s₁.heap.push o').objs.size := fun _ e => e
  refine wpAny_newObj_type (wpAny_newFunctionEnv h3 (fun y hy => nomatch hy) (fun h₄ hns hsb => ?_) h1)
  dsimp only at hns hsb ⊢
  generalize hH1 : s₁.heap.push o' = H1 at W hns hsb ⊢
  generalize hH2 : H1.push { cls := .type "list", dict := none, data := .seq ([] : List Value).toArray } = H2 at hns hsb ⊢
  have hz1 : H1.objs.size = s₁.heap.objs.size + 1 := by rw [← hH1, Heap.size_push]
  have hz2 : H2.objs.size = H1.objs.size + 1 := by rw [← hH2, Heap.size_push]
  have k1 : ∀ b o, s₁.heap.get? b = some o → H1.get? b = some o := fun b o e => hH1 ▸ Heap.get?_push_of_some _ e
  have k2 : ∀ b o, H1.get? b = some o → H2.get? b = some o := fun b o e => hH2 ▸ Heap.get?_push_of_some _ e
  have k3 : ∀ b o, H2.get? b = some o → h₄.get? b = some o := fun b o e => by
    rw [hsb.2 b (Nat.ne_of_lt (Heap.lt_size e))]; exact Heap.get?_push_of_some _ e
  have k : ∀ b o, s₁.heap.get? b = some o → h₄.get? b = some o := fun b o e => k3 b o (k2 b o (k1 b o e))
  have nD1 : H1.get? H1.objs.size = none := Heap.get?_none_of_le (Nat.le_refl _)
  have nD : s₁.heap.get? H1.objs.size = none := Heap.get?_none_of_le (by rw [hz1]; exact Nat.le_succ _)
  have nC : s₁.heap.get? H2.objs.size = none := Heap.get?_none_of_le (by rw [hz2, hz1]; exact Nat.le_succ_of_le (Nat.le_succ _))
  have nC0 : s.heap.get? H2.objs.size = none := fresh_back ev₁.ext nC
  have nI : s₁.heap.get? s₁.heap.objs.size = none := Heap.get?_none_of_le (Nat.le_refl _)
  have hDC : H1.objs.size ≠ H2.objs.size := by rw [hz2]; exact Nat.ne_of_lt (Nat.lt_succ_self _)
  have hDl : h₄.PlainList H1.objs.size #[] := ⟨0, k3 _ _ (hH2 ▸ Heap.get?_push_size _ rfl)⟩
  have top : ∀ b, s₁.heap.get? b = none → hT.get? b = none := fun b e => by
    cases q : hT.get? b with
    | none => rfl
    | some o => rw [inv₁.gi.keep b o q] at e; cases e
  have lk := inv₁.lock it
  have hN : (lock σ₁ it).cel.length = ρ₁.length := lk.rs.cel.len.symm
  have inv₂ := lk.new (s' := { heap := h₄, gens := s₁.gens, drawn := s₁.drawn, toks := s₁.toks + ([] : List (Str × Value)).length, os := s₁.os }) (D := H1.objs.size) (vs := []) (xs := []) k rfl rfl nD hDl trivial
  have inv₃ : Inv hT os fr env ⟨(lock σ₁ it).loc, (lock σ₁ it).cel ++ [none]⟩ (ρ₁ ++ [H1.objs.size]) { heap := h₄, gens := s₁.gens, drawn := s₁.drawn, toks := s₁.toks + ([] : List (Str × Value)).length, os := s₁.os } :=
    inv₂.cel rfl (by have := inv₂.rs.cel.lock (k := (lock σ₁ it).cel.length); rw [set_last] at this; exact this)
  have ev₂ : ∀ X, Evo X (lock σ₁ it).cel ρ₁ s₁.heap ((lock σ₁ it).cel ++ [none]) (ρ₁ ++ [H1.objs.size]) h₄ := fun X => Evo.new lk.rs.cel k nD
  have hns' : h₄.Ns H2.objs.size fun _ => none := hns
  have invc : Inv hT os fr (compEnvC scope (clos env scope.names []) H2.objs.size env) ⟨dropLocals (compScope scope env.scope) (lock σ₁ it).loc, (lock σ₁ it).cel ++ [none]⟩ (ρ₁ ++ [H1.objs.size]) { heap := h₄, gens := s₁.gens, drawn := s₁.drawn, toks := s₁.toks + ([] : List (Str × Value)).length, os := s₁.os } := by
    refine ⟨⟨cenv_vars (σ := ⟨(lock σ₁ it).loc, (lock σ₁ it).cel ++ [none]⟩) eo hc inv₃.rs.vars hns', inv₃.rs.cel⟩, inv₃.gi, inv₃.own, inv₃.fro, fun b hb => ?_⟩
    rcases hb with rfl | ⟨x, hx⟩
    · exact top _ nC
    · exact I.me b (.inr ⟨x, by
        have := clos_mem scope.names [] hf (fun q hq => nomatch hq) _ (mem_of_lookup hx)
        exact this⟩)
  have eoc : EOk (compEnvC scope (clos env scope.names []) H2.objs.size env) := cenv_ok (s := s₁) (ρ := ρ₁) (σ := σ₁) eo hc inv₁.rs.vars
  have evf : Evo noX (lock σ₁ it).cel ρ₁ H1 ((lock σ₁ it).cel ++ [none]) (ρ₁ ++ [H1.objs.size]) h₄ := Evo.new (lk.rs.cel.keeps k1) (fun b o e => k3 b o (k2 b o e)) nD1
  have fix : ∀ b ∈ fp, (∀ o, H1.get? b = some o → h₄.get? b = some o) ∧ Fixd ((lock σ₁ it).cel ++ [none]) (ρ₁ ++ [H1.objs.size]) h₄ b := fun b hb => (W.fix b hb).evo evf
  have st : St 0 h₄ := W.W.frame 0 _ _ W.st fun b hb o e => (fix b hb).1 o e
  have loop : codeAny (model prog w) A (.compLoop (.ListComp elt [⟨target, iter, ifs, 0⟩] scope pos) 0 (.ref s₁.heap.objs.size) (.ref H1.objs.size) (compEnvC scope (clos env scope.names []) H2.objs.size env))
      (compPost (model prog w) A EF use Q (.ref H1.objs.size) H2.objs.size) { heap := h₄, gens := s₁.gens, drawn := s₁.drawn, toks := s₁.toks + ([] : List (Str × Value)).length, os := s₁.os } := by
    refine comp_loop (C := H2.objs.size) (N := (lock σ₁ it).cel.length) hh h1 rfl lk.rs.cel W nI nD nD1 (top _ nI) hsz (fun x v τ ρ' s' k i r t => sT H2.objs.size x v τ ρ' s' k i r t eoc) invc (ev₂ _) ?_ ?_ hDl st (fun b hb => (fix b hb).2) hcl fun out τ s' hK ce => ?_
    · simp
    · rw [hN]; simp
    · obtain ⟨ρ', us, i, _⟩ := id ce.ex
      obtain ⟨m, hm, _⟩ := i.rs.vars.ns
      exact hend _ _ m s' (PE.after ev₁ (cend_PE inv₁ rit ew nC rfl ce hK)) hm nC0
  exact codeAny_compStart_list loop (W.W.self 0 _ _ _ st loop)
end
end Mine
end
section
open PySem PySem.W PyProof.Rows PySem.Calls
set_option Elab.async false
namespace Mine
structure AOk (fr : List Env) (ℓ : Nat) (A : Around) : Prop where
  hand : A.handled = none
  frm : A.frames = some fr
  deep : A.depth + ℓ ≤ 900
  unit : A.units + 4 * ℓ ≤ 5000
/-- what a called function is known to do -/
noncomputable def FnOk (prog : Program) (w : World) (hT : Heap) (os : OsState) (ℓ : Nat) (φ : Spec) (a : Addr) : Prop :=
  ∀ (fr : List Env) (A : Around) (s : Shared) (vs : List Value) (ds : List PyData) (as : List Addr) (K : PyData → Prop), AOk fr ℓ A → GI hT os s → FrOk hT fr s.heap → ReadsAll s.heap vs ds as → noDicts ds = true →
    (∀ a ∈ as, ∃ items, s.heap.PlainList a items) → φ ds K →
    wpAny (model prog w) A (call (.ref a) vs) (fun v s' => ∃ d as', K d ∧ Reads s'.heap v d as' ∧ noDict d = true ∧ (∀ b ∈ as', s.heap.get? b = none ∧ ∃ items, s'.heap.PlainList b items) ∧ Ext noX noX s.heap s'.heap ∧ GI hT os s') EF s
structure Gr (prog : Program) (w : World) (hT : Heap) (os : OsState) (ℓ : Nat) (g : Gl) (mg mb : Str → Option Value) : Prop where
  gl : hT.Ns mainGlobals mg
  bl : hT.Ns builtinsNs mb
  lim : hT.NoLimit
  con : ∀ x d, g.con x = some d → ∃ v, mg x = some v ∧ (∀ h, Reads h v d []) ∧ noDict d = true
  fn : ∀ x φ, g.fn x = some φ → ∃ a o fd, mg x = some (.ref a) ∧ hT.get? a = some o ∧ o.data = .func fd ∧ FnOk prog w hT os ℓ φ a
  blt : ∀ f, bltOk f = true → mg f = none ∧ mb f = some (bltV f)
  enum : mg "enumerate" = none ∧ mb "enumerate" = some (.type "enumerate")

section
variable {prog : Program} {w : World} {A : Around} {hT : Heap} {os : OsState} {fr : List Env} {env : Env} {σ : St} {ρ : List Addr} {s s' : Shared} {E : Value → Shared → Prop} {K : V → St → Prop} {g : Gl} {ℓ : Nat} {mg mb : Str → Option Value}

theorem ns_keep {h h' : Heap} {a : Addr} {m : Str → Option Value} (k : ∀ b o, h.get? b = some o → h'.get? b = some o) (n : h.Ns a m) : h'.Ns a m := n.keeps k

/-- a call of a function of the program -/
theorem fn_ok {φ : Spec} {a : Addr} {vs : List Value} {xs : List V} {ds : List PyData} (hA : AOk fr ℓ A) (F : FnOk prog w hT os ℓ φ a) (I : Inv hT os fr env σ ρ s) (rv : RVs s.heap ρ vs xs) (ed : toDs σ.cel 4 xs = some ds) (h : φ ds fun d => K (.d d) σ) :
    wpAny (model prog w) A (call (.ref a) vs) (PE hT os fr env σ.cel ρ s.heap K) EF s := by
  obtain ⟨as, r, nd, pl⟩ := toDs_ok I.rs.cel rv ed
  refine wpAny_mono (F fr A s vs ds as _ hA I.gi I.fro r nd pl h) (fun v s' hp => ?_) fun _ _ q => q
  obtain ⟨d, as', hk, rd, ndd, fresh, ext, gi⟩ := hp
  have ext' : Ext (Live σ.cel ρ) noX s.heap s'.heap := ext.mono (fun _ q => q.elim) fun _ q => q
  refine ⟨.d d, σ, ρ, hk, ⟨as', rd, ndd, fun b hb => ⟨fun hm => ?_, (fresh b hb).2⟩⟩, ⟨⟨I.rs.vars.evo I.rs.cel (Evo.ofExt ext'), I.rs.cel.ext ext⟩, gi, I.own, I.fro.ext ext, I.me⟩, Evo.ofExt ext'⟩
  obtain ⟨items, n, g⟩ := I.rs.cel.pl b hm
  rw [(fresh b hb).1] at g; cases g

theorem starEach_cons {e : PySem.Expr} {rest : List PySem.Expr} (h : plainEs (e :: rest) = true) : starEach (e :: rest) env = (false, eval e env) :: starEach rest env := by
  unfold plainEs at h
  rw [List.all_cons, Bool.and_eq_true] at h
  cases e <;> first | rfl | exact Bool.noConfusion (show false = true from h.1)
theorem plain_any {pos : Pos} : ∀ {es : List PySem.Expr}, plainEs es = true → (backTo pos (starEach es env)).any (·.1) = false
  | [], _ => rfl
  | e :: rest, h => by
    rw [starEach_cons h]
    show ((false, _) :: backTo pos (starEach rest env)).any (·.1) = false
    rw [List.any_cons]
    exact plain_any (by unfold plainEs at h ⊢; rw [List.all_cons, Bool.and_eq_true] at h; exact h.2)
theorem plain_all {pos : Pos} : ∀ {es : List PySem.Expr}, plainEs es = true → (backTo pos (starEach es env)).all (fun x => !x.1) = true
  | [], _ => rfl
  | e :: rest, h => by
    rw [starEach_cons h]
    show ((false, _) :: backTo pos (starEach rest env)).all (fun x => !x.1) = true
    rw [List.all_cons]
    exact plain_all (by unfold plainEs at h ⊢; rw [List.all_cons, Bool.and_eq_true] at h; exact h.2)
theorem backTo_cons {pos : Pos} {e : PySem.Expr} {rest : List PySem.Expr} (h : plainEs (e :: rest) = true) : backTo pos (starEach (e :: rest) env) = (false, eval e env) :: backTo pos (starEach rest env) := by
  rw [starEach_cons h]; rfl

theorem callB {pos : Pos} {id : String} {first : List Value} {args : List PySem.Expr} {Q : Value → Shared → Prop} (hp : plainEs args = true)
    (h : wpAny (model prog w) A (spliced (backTo pos (starEach args env))) (fun vs s₁ => wpAny (model prog w) A (call (.builtin id) (first ++ vs)) Q E s₁) E s) : wpAny (model prog w) A (callWith pos (.builtin id) first (backTo pos (starEach args env)) []) Q E s := by
  refine callWith_builtin (plain_any hp) ?_
  cases args with
  | nil => exact PySem.evalArgs_none (fun Γ p hΓ => (h Γ p hΓ) Γ p hΓ)
  | cons e rest =>
    rw [backTo_cons hp] at h ⊢
    exact evalArgs_plain h
theorem callT {pos : Pos} {T : String} {args : List PySem.Expr} {Q : Value → Shared → Prop} (hp : plainEs args = true)
    (h : wpAny (model prog w) A (spliced (backTo pos (starEach args env))) (fun vs s₁ => wpAny (model prog w) A (call (.type T) vs) Q E s₁) E s) : wpAny (model prog w) A (callWith pos (.type T) [] (backTo pos (starEach args env)) []) Q E s := by
  refine PySem.callWith_type (plain_any hp) ?_
  cases args with
  | nil => exact PySem.evalArgs_none (fun Γ p hΓ => (h Γ p hΓ) Γ p hΓ)
  | cons e rest =>
    rw [backTo_cons hp] at h ⊢
    exact evalArgs_plain h
theorem callV {pos : Pos} {f : Str} {args : List PySem.Expr} {Q : Value → Shared → Prop} (hp : plainEs args = true)
    (h : wpAny (model prog w) A (spliced (backTo pos (starEach args env))) (fun vs s₁ => wpAny (model prog w) A (call (bltV f) vs) Q E s₁) E s) : wpAny (model prog w) A (callWith pos (bltV f) [] (backTo pos (starEach args env)) []) Q E s := by
  unfold bltV at h ⊢
  split
  · simp only [*] at h; exact callT hp h
  · simp only [*] at h
    split
    · simp only [*] at h; exact callT hp h
    · simp only [*] at h
      split
      · simp only [*] at h; exact callT hp h
      · simp only [*] at h; exact callB hp h
theorem callF {pos : Pos} {a : Addr} {o : Obj} {fd : FuncData} {args : List PySem.Expr} {Q : Value → Shared → Prop} (hp : plainEs args = true) (hd : o.data = .func fd)
    (h : wpAny (model prog w) A (spliced (backTo pos (starEach args env))) (fun vs s₁ => s₁.heap.get? a = some o ∧ wpAny (model prog w) A (call (.ref a) vs) Q E s₁) E s) (hne : 0 < args.length) : wpAny (model prog w) A (callWith pos (.ref a) [] (backTo pos (starEach args env)) []) Q E s := by
  cases args with
  | nil => cases hne
  | cons e rest => exact callWith_def hd h (starEach_cons hp)

theorem foldedSet {e : PySem.Expr} (h : noSet e = true) (x : Value) : foldedSetIterable e env x = pure x := by
  cases e <;> first | rfl | exact Bool.noConfusion (show false = true from h)
theorem noMarks {op : CmpOp} {e : PySem.Expr} (h : noSet e = true) : behindInMarks op e = false := by
  cases e <;> first | rfl | exact Bool.noConfusion (show false = true from h)
theorem wpE_notSet {n : Nat} {sc : Scope} {e : PySem.Expr} (h : wpE g n sc e σ K) : noSet e = true := by
  cases n with
  | zero => exact False.elim h
  | succ n => cases e <;> first | rfl | exact False.elim h
theorem wpE_notStar {n : Nat} {sc : Scope} {e : PySem.Expr} (h : wpE g n sc e σ K) : noStar e = true := by
  cases n with
  | zero => exact False.elim h
  | succ n => cases e <;> first | rfl | exact False.elim h
theorem base_plain {o : PySem.Expr} {m : Str} (h : plainE o = true) : attributeBase o m env (eval o env) = eval o env := by
  cases o <;> first | rfl | exact Bool.noConfusion (show false = true from h)
end
end Mine
end
section
open PySem PySem.W PyProof.Rows PySem.Calls
set_option Elab.async false
namespace Mine
/-- the evaluator's word is the model's: for expressions -/
structure Snd (prog : Program) (w : World) (A : Around) (hT : Heap) (os : OsState) (fr : List Env) (g : Gl) (n : Nat) : Prop where
  E : ∀ (env : Env) (σ : St) (ρ : List Addr) (s : Shared) (e : PySem.Expr) (K : V → St → Prop), EOk env → Inv hT os fr env σ ρ s → wpE g n env.scope e σ K → wpAny (model prog w) A (eval e env) (PE hT os fr env σ.cel ρ s.heap K) EF s
  O : ∀ (env : Env) (σ : St) (ρ : List Addr) (s : Shared) (e : Option PySem.Expr) (K : V → St → Prop), EOk env → Inv hT os fr env σ ρ s → wpO g n env.scope e σ K → wpAny (model prog w) A (evalPart e env) (PE hT os fr env σ.cel ρ s.heap K) EF s
  Es : ∀ (env : Env) (σ : St) (ρ : List Addr) (s : Shared) (es : List PySem.Expr) (pos : Pos) (K : List V → St → Prop), EOk env → Inv hT os fr env σ ρ s → wpEs g n env.scope es σ K → wpAny (model prog w) A (spliced (backTo pos (starEach es env))) (PEs hT os fr env σ.cel ρ s.heap K) EF s
  T : ∀ (env : Env) (σ : St) (ρ : List Addr) (s : Shared) (e : PySem.Expr) (K : Bool → St → Prop), EOk env → Inv hT os fr env σ ρ s → wpT g n env.scope e σ K → wpAny (model prog w) A (isTrue e env (eval e env)) (PT hT os fr env σ.cel ρ s.heap K) EF s
  B : ∀ (env : Env) (σ : St) (ρ : List Addr) (s : Shared) (op : BoolOp) (es : List PySem.Expr) (K : Bool → St → Prop), EOk env → Inv hT os fr env σ ρ s → wpB g n env.scope op es σ K → wpAny (model prog w) A (allTrue op es env) (PT hT os fr env σ.cel ρ s.heap K) EF s
  I : ∀ (env : Env) (σ : St) (ρ : List Addr) (s : Shared) (es : List PySem.Expr) (K : Bool → St → Prop), EOk env → Inv hT os fr env σ ρ s → wpI g n env.scope es σ K →
    wpAny (model prog w) A (forIn es true fun c r => if r = true then do let ok ← isTrue c env (eval c env); pure (ForInStep.yield ok) else pure (ForInStep.yield r)) (PT hT os fr env σ.cel ρ s.heap K) EF s
  C : ∀ (env : Env) (σ : St) (ρ : List Addr) (s : Shared) (elt : PySem.Expr) (gens : List Comprehension) (scope : Scope) (pos : Pos) (K : V → St → Prop) (use : Option (Value → Sem Unit)) (Q : Value → Shared → Prop), EOk env → Inv hT os fr env σ ρ s → wpC g n env.scope elt gens scope σ K →
    (∀ v C m s', PE hT os fr env σ.cel ρ s.heap K v s' → s'.heap.Ns C m → s.heap.get? C = none → compPost (model prog w) A EF use Q v C (.ok .next) s') →
    wpAny (model prog w) A (comprehension (.ListComp elt gens scope pos) scope env (firstIterPos gens pos) (newList []) (firstAsync gens) (firstIter gens env) use) Q EF s

section
variable {prog : Program} {w : World} {A : Around} {hT : Heap} {os : OsState} {fr : List Env} {env : Env} {σ : St} {ρ : List Addr} {s s' : Shared} {g : Gl} {ℓ : Nat} {mg mb : Str → Option Value} {n : Nat}

theorem AOk.room (hA : AOk fr ℓ A) : A.units + 64 < cLine := by
  have := hA.unit
  show A.units + 64 < 9900
  omega
theorem br_iff {b : Bool} {P Q : Prop} : br b P Q ↔ if b = true then P else Q := by cases b <;> simp [br]

theorem PT.toE {cel : List (Option (List V))} {h : Heap} {K : V → St → Prop} {c : Bool} (p : PT hT os fr env cel ρ h (fun c σ => K (.d (.bool c)) σ) c s) : PE hT os fr env cel ρ h K (.bool c) s := by
  obtain ⟨σ₁, ρ₁, hk, I₁, ev⟩ := p
  exact ⟨_, σ₁, ρ₁, hk, .bool, I₁, ev⟩
theorem stepO (ih : Snd prog w A hT os fr g n) (e : Option PySem.Expr) {K : V → St → Prop} (eo : EOk env) (I : Inv hT os fr env σ ρ s) (h : wpO g (n + 1) env.scope e σ K) : wpAny (model prog w) A (evalPart e env) (PE hT os fr env σ.cel ρ s.heap K) EF s := by
  cases e with
  | none => exact wpAny_pure ⟨_, σ, ρ, h, .none, I, Evo.refl ..⟩
  | some e => exact ih.E env σ ρ s e K eo I h
theorem stepEs (ih : Snd prog w A hT os fr g n) (es : List PySem.Expr) (pos : Pos) {K : List V → St → Prop} (eo : EOk env) (I : Inv hT os fr env σ ρ s) (h : wpEs g (n + 1) env.scope es σ K) :
    wpAny (model prog w) A (spliced (backTo pos (starEach es env))) (PEs hT os fr env σ.cel ρ s.heap K) EF s := by
  cases es with
  | nil => exact wpAny_pure ⟨[], σ, ρ, h, trivial, I, Evo.refl ..⟩
  | cons e es =>
    have h : wpE g n env.scope e σ fun v σ => wpEs g n env.scope es σ fun vs σ => K (v :: vs) σ := h
    have hs : starEach (e :: es) env = (false, eval e env) :: starEach es env := by
      have := wpE_notStar h
      cases e <;> first | rfl | exact Bool.noConfusion (show false = true from this)
    rw [hs]
    refine Calls.spliced_cons (wpPE (ih.E env σ ρ s e _ eo I h) (fun v s₁ x σ₁ ρ₁ hk rv I₁ ev => ?_))
    refine wpPEs (ih.Es env σ₁ ρ₁ s₁ es pos _ eo I₁ hk) (fun vs s₂ xs σ₂ ρ₂ hk₂ rvs I₂ ev₂ => ?_)
    exact ⟨x :: xs, σ₂, ρ₂, hk₂, ⟨rv.evo I₁.rs.cel ev₂, rvs⟩, I₂, ev.trans ev₂⟩

theorem cmp_step (hA : AOk fr ℓ A) (ih : Snd prog w A hT os fr g n) {l r : PySem.Expr} {op : CmpOp} {K : Bool → St → Prop} {Q : Value → Shared → Prop} (eo : EOk env) (I : Inv hT os fr env σ ρ s)
    (h : wpE g n env.scope l σ fun a σ => wpE g n env.scope r σ fun b σ => cmpK op a b σ fun c => K c σ)
    (hQ : ∀ c s₂, PT hT os fr env σ.cel ρ s.heap K c s₂ → Q (.bool c) s₂) :
    wpAny (model prog w) A (eval l env) (fun a s₁ => wpAny (model prog w) A (eval r env) (fun b s₂ => wpAny (model prog w) A (compareOp op a b) Q EF s₂) EF s₁) EF s := by
  refine wpPE (ih.E env σ ρ s l _ eo I h) (fun a s₁ x σ₁ ρ₁ hk ra I₁ ev => ?_)
  refine wpPE (ih.E env σ₁ ρ₁ s₁ r _ eo I₁ hk) (fun b s₂ y σ₂ ρ₂ hk₂ rb I₂ ev₂ => ?_)
  refine wpAny_mono (cmpK_ok hA.room I₂ (ra.evo I₁.rs.cel ev₂) rb hk₂) (fun v s₃ ⟨e, c, e1, e2⟩ => ?_) fun _ _ q => q
  subst e; subst e1
  exact hQ c _ ⟨σ₂, ρ₂, e2, I₂, ev.trans ev₂⟩
theorem value_step (ih : Snd prog w A hT os fr g n) {e : PySem.Expr} {K : Bool → St → Prop} (eo : EOk env) (I : Inv hT os fr env σ ρ s) (h : wpE g n env.scope e σ fun v σ => truthK v σ fun b => K b σ)
    (he : isTrue e env (eval e env) = (do let v ← eval e env; standAt e.pos; holding [v] (truthy v))) : wpAny (model prog w) A (isTrue e env (eval e env)) (PT hT os fr env σ.cel ρ s.heap K) EF s := by
  rw [he]
  refine wpAny_bind (wpPE (ih.E env σ ρ s e _ eo I h) (fun a s₁ x σ₁ ρ₁ hk ra I₁ ev => ?_))
  refine wpAny_bind (wpAny_standAt (wpAny_holding (wpAny_mono (truthK_ok ra hk) (fun b s₂ ⟨⟨k, e⟩, hb⟩ => ?_) fun _ _ q => q)))
  subst e
  exact ⟨σ₁, ρ₁, hb, I₁.keeps (fun _ _ q => q) rfl rfl, ev⟩

theorem one_one {α β : Type} {ops : List α} {rs : List β} (h : (∀ op r, ops = [op] → rs = [r] → False) → False) : ∃ op r, ops = [op] ∧ rs = [r] := Classical.byContradiction fun n => h fun op r e e' => n ⟨op, r, e, e'⟩
theorem stepT (hA : AOk fr ℓ A) (ih : Snd prog w A hT os fr g n) (e : PySem.Expr) {K : Bool → St → Prop} (eo : EOk env) (I : Inv hT os fr env σ ρ s) (h : wpT g (n + 1) env.scope e σ K) : wpAny (model prog w) A (isTrue e env (eval e env)) (PT hT os fr env σ.cel ρ s.heap K) EF s := by
  cases e with
  | UnaryOp op x pos =>
    cases op with
    | Not =>
      have h : wpT g n env.scope x σ fun b σ => K (!b) σ := h
      exact wpAny_isTrue_Not (wpPT (ih.T env σ ρ s x _ eo I h) (fun b s₁ σ₁ ρ₁ hk I₁ ev => ⟨σ₁, ρ₁, hk, I₁, ev⟩))
    | _ => exact value_step ih eo I h rfl
  | BoolOp op vs pos => exact wpAny_isTrue_BoolOp (ih.B env σ ρ s op vs K eo I h)
  | IfExp t b o pos => exact h.elim
  | Compare l ops rs pos =>
    obtain ⟨op, r, rfl, rfl⟩ := one_one (ops := ops) (rs := rs) (fun f => by cases ops with
      | nil => exact False.elim h
      | cons op ops => cases ops with
        | cons _ _ => exact False.elim h
        | nil => cases rs with
          | nil => exact False.elim h
          | cons r rs => cases rs with
            | cons _ _ => exact False.elim h
            | nil => exact f _ _ rfl rfl)
    have h : chk (noSet r) (wpE g n env.scope l σ fun a σ => wpE g n env.scope r σ fun b σ => cmpK op a b σ fun c => K c σ) := h
    obtain ⟨hs, h⟩ := chk_iff.mp h
    exact wpAny_isTrue_Compare1 (cmp_step hA ih eo I h fun c s₂ p => wpAny_truthy_bool p) (noMarks hs)
  | _ => exact value_step ih eo I h rfl

theorem stepB (ih : Snd prog w A hT os fr g n) (op : BoolOp) (es : List PySem.Expr) {K : Bool → St → Prop} (eo : EOk env) (I : Inv hT os fr env σ ρ s) (h : wpB g (n + 1) env.scope op es σ K) : wpAny (model prog w) A (allTrue op es env) (PT hT os fr env σ.cel ρ s.heap K) EF s := by
  cases es with
  | nil =>
    cases op with
    | And => exact wpAny_allTrue_And_nil ⟨σ, ρ, h, I, Evo.refl ..⟩
    | Or => exact wpAny_allTrue_Or_nil ⟨σ, ρ, h, I, Evo.refl ..⟩
  | cons e es =>
    cases op with
    | And =>
      have h : wpT g n env.scope e σ fun b σ => br b (wpB g n env.scope .And es σ K) (K false σ) := h
      refine wpAny_allTrue_And_cons (wpPT (ih.T env σ ρ s e _ eo I h) (fun b s₁ σ₁ ρ₁ hk I₁ ev => ?_))
      cases b with
      | true => exact wpPTa ev (ih.B env σ₁ ρ₁ s₁ .And es K eo I₁ hk)
      | false => exact ⟨σ₁, ρ₁, hk, I₁, ev⟩
    | Or =>
      have h : wpT g n env.scope e σ fun b σ => br b (K true σ) (wpB g n env.scope .Or es σ K) := h
      refine wpAny_allTrue_Or_cons (wpPT (ih.T env σ ρ s e _ eo I h) (fun b s₁ σ₁ ρ₁ hk I₁ ev => ?_))
      cases b with
      | false => exact wpPTa ev (ih.B env σ₁ ρ₁ s₁ .Or es K eo I₁ hk)
      | true => exact ⟨σ₁, ρ₁, hk, I₁, ev⟩

theorem forIn_false {M : Model} {es : List PySem.Expr} {Q : Bool → Shared → Prop} {E : Value → Shared → Prop} (h : Q false s) :
    wpAny M A (forIn es false fun c r => if r = true then do let ok ← isTrue c env (eval c env); pure (ForInStep.yield ok) else pure (ForInStep.yield r)) Q E s := by
  induction es with
  | nil => exact wpAny_pure h
  | cons e es ih =>
    rw [List.forIn_cons]
    simp only [Bool.false_eq_true, if_false, pure_bind]
    exact ih
theorem stepI (ih : Snd prog w A hT os fr g n) (es : List PySem.Expr) {K : Bool → St → Prop} (eo : EOk env) (I : Inv hT os fr env σ ρ s) (h : wpI g (n + 1) env.scope es σ K) :
    wpAny (model prog w) A (forIn es true fun c r => if r = true then do let ok ← isTrue c env (eval c env); pure (ForInStep.yield ok) else pure (ForInStep.yield r)) (PT hT os fr env σ.cel ρ s.heap K) EF s := by
  cases es with
  | nil => exact wpAny_pure ⟨σ, ρ, h, I, Evo.refl ..⟩
  | cons e es =>
    have h : wpT g n env.scope e σ fun b σ => br b (wpI g n env.scope es σ K) (K false σ) := h
    rw [List.forIn_cons]
    simp only [if_true]
    refine wpAny_bind (wpAny_bind (wpPT (ih.T env σ ρ s e _ eo I h) (fun b s₁ σ₁ ρ₁ hk I₁ ev => wpAny_pure ?_)))
    cases b with
    | true => exact wpPTa ev (ih.I env σ₁ ρ₁ s₁ es K eo I₁ hk)
    | false => exact forIn_false ⟨σ₁, ρ₁, hk, I₁, ev⟩

theorem stepC (hA : AOk fr ℓ A) (ih : Snd prog w A hT os fr g n) (elt : PySem.Expr) (gens : List Comprehension) (scope : Scope) (pos : Pos) {K : V → St → Prop} (use : Option (Value → Sem Unit)) (Q : Value → Shared → Prop) (eo : EOk env) (I : Inv hT os fr env σ ρ s) (h : wpC g (n + 1) env.scope elt gens scope σ K)
    (hend : ∀ v C m s', PE hT os fr env σ.cel ρ s.heap K v s' → s'.heap.Ns C m → s.heap.get? C = none → compPost (model prog w) A EF use Q v C (.ok .next) s') :
    wpAny (model prog w) A (comprehension (.ListComp elt gens scope pos) scope env (firstIterPos gens pos) (newList []) (firstAsync gens) (firstIter gens env) use) Q EF s := by
  cases gens with
  | nil => exact False.elim h
  | cons gen rest =>
   obtain ⟨target, iter, ifs, a⟩ := gen
   cases rest with
   | cons _ _ => exact False.elim h
   | nil =>
    have h : chk (a == 0 && compOk scope env.scope) (wpE g n env.scope iter σ fun it σ => (match walkOf σ it with
      | some xs => chk (sizeB xs.length) <|
        let sc' := compScope scope env.scope
        let σ₁ := lock σ it
        compL (fun v τ k => setT sc' target v τ fun τ => wpI g n sc' ifs τ fun ok τ => br ok (wpE g n sc' elt τ fun y τ => k (some y) τ) (k none τ)) xs []
          ⟨dropLocals sc' σ₁.loc, σ₁.cel ++ [none]⟩
          fun out τ => let τ' := unlock it xs ⟨σ.loc, τ.cel.set σ₁.cel.length (some out)⟩; K (.c σ₁.cel.length) τ'
      | none => False)) := h
    have h' := (chk_iff.mp h).2
    have ha := (chk_iff.mp h).1
    simp only [Bool.and_eq_true, beq_iff_eq] at ha
    obtain ⟨ha, hc⟩ := ha
    subst ha
    have hset := foldedSet (env := env) (wpE_notSet h')
    have hsc : ∀ C, (compEnvC scope (clos env scope.names []) C env).scope = compScope scope env.scope := fun C => relabel_eq eo.kind
    refine comp_ok (turn := fun v τ k => setT (compScope scope env.scope) target v τ fun τ => wpI g n (compScope scope env.scope) ifs τ fun ok τ => br ok (wpE g n (compScope scope env.scope) elt τ fun y τ => k (some y) τ) (k none τ)) (K := K)
      hA.hand eo hc hset I (ih.E env σ ρ s iter _ eo I h') (fun it σ₁ hk => ?_) (fun C x v τ ρ' s' k i r t eoc => ?_) hend
    · split at hk
      · rename_i xs ew
        obtain ⟨h1, h2⟩ := chk_iff.mp hk
        exact ⟨xs, ew, sizeB_le h1, h2⟩
      · cases hk
    · have t : setT (compEnvC scope (clos env scope.names []) C env).scope target x τ fun τ => wpI g n (compEnvC scope (clos env scope.names []) C env).scope ifs τ fun ok τ => br ok (wpE g n (compEnvC scope (clos env scope.names []) C env).scope elt τ fun y τ => k (some y) τ) (k none τ) := by
        rw [hsc C]; exact t
      refine wpAny_mono (setT_ok hA.hand eoc.kind i r t) (fun _ s₂ ⟨τ₂, ρ₂, hk₂, i₂, e₂⟩ => ⟨τ₂, ρ₂, i₂, e₂, ?_⟩) fun _ _ q => q
      refine wpPT (ih.I _ τ₂ ρ₂ s₂ ifs _ eoc i₂ hk₂) (fun ok s₃ τ₃ ρ₃ hk₃ i₃ e₃ => ⟨τ₃, ρ₃, i₃, e₃.mono (fun _ q => q.elim), ?_⟩)
      cases ok with
      | true => exact ih.E _ τ₃ ρ₃ s₃ elt _ eoc i₃ hk₃
      | false => exact hk₃

theorem datas_ok {h : Heap} : ∀ {vs : List Value} {xs : List V} {ds : List PyData}, RVs h ρ vs xs → datas? xs = some ds → ∃ as, ReadsAll h vs ds as ∧ noDicts ds = true ∧ Apart h ρ as
  | [], [], ds, _, e => by
    obtain rfl : [] = ds := by simpa [datas?] using e
    exact ⟨[], .nil, rfl, fun _ q => nomatch q⟩
  | v :: vs, .d x :: xs, ds, r, e => by
    simp only [datas?] at e
    split at e
    · rename_i l q
      obtain rfl : x :: l = ds := by simpa using e
      obtain ⟨as, r1, n1, a1⟩ := r.1
      obtain ⟨bs, r2, n2, a2⟩ := datas_ok r.2 q
      exact ⟨as ++ bs, .cons r1 r2, by simp [noDicts, n1, n2], fun b hb => (List.mem_append.mp hb).elim (a1 b) (a2 b)⟩
    · cases e
  | _ :: _, .c _ :: _, _, _, e => by simp [datas?] at e
  | _ :: _, .rng .. :: _, _, _, e => by simp [datas?] at e
  | [], _ :: _, _, r, _ => r.elim
  | _ :: _, [], _, r, _ => r.elim

/-- a name's arm, by the name's kind -/
noncomputable def nameK (g : Gl) (x : Str) (σ : St) (K : V → St → Prop) : Option NameKind → Prop := fun k => match k with
  | some .local | some .cell => (match σ.loc.lookup x with | some v => chk (!(x == ("__debug__" : Str))) (K v σ) | none => False)
  | some .globalImplicit => (match g.con x with | some d => chk (!(x == ("__debug__" : Str))) (K (.d d) σ) | none => False)
  | _ => False
theorem wpE_Name0 {x : Str} {pos : Pos} {sc : Scope} {K : V → St → Prop} (e : sc.names.lookup x = none) (h : wpE g (n + 1) sc (.Name x pos) σ K) : False := by
  have h : nameK g x σ K (sc.names.lookup x) := h
  rw [e] at h; exact h
theorem wpE_NameS {x : Str} {pos : Pos} {sc : Scope} {K : V → St → Prop} {k : NameKind} (e : sc.names.lookup x = some k) (h : wpE g (n + 1) sc (.Name x pos) σ K) : nameK g x σ K (some k) := by
  have h : nameK g x σ K (sc.names.lookup x) := h
  rw [e] at h; exact h
/-- a called name's arm, by the name's kind -/
noncomputable def callK (g : Gl) (n : Nat) (sc : Scope) (x : Str) (args : List PySem.Expr) (σ : St) (K : V → St → Prop) : Option NameKind → Prop := fun k => match k with
  | some .globalImplicit => (match g.fn x with
    | some φ => chk (plainEs args && Nat.blt 0 args.length && !(x == ("__debug__" : Str))) (wpEs g n sc args σ fun vs σ => (match toDs σ.cel 4 vs with | some ds => φ ds fun d => K (.d d) σ | none => False))
    | none => chk (bltOk x && plainEs args && Nat.blt 0 args.length) (wpEs g n sc args σ fun vs σ => bltK x vs σ K))
  | _ => False
theorem wpE_Call0 {x : Str} {p pos : Pos} {sc : Scope} {args : List PySem.Expr} {K : V → St → Prop} (h : wpE g (n + 1) sc (.Call (.Name x p) args [] pos) σ K) : sc.names.lookup x = some .globalImplicit ∧ callK g n sc x args σ K (some .globalImplicit) := by
  have h : callK g n sc x args σ K (sc.names.lookup x) := h
  cases e : sc.names.lookup x with
  | none => rw [e] at h; exact False.elim h
  | some k =>
    rw [e] at h
    cases k with
    | globalImplicit => exact ⟨rfl, h⟩
    | _ => exact False.elim h

theorem stepE (hA : AOk fr ℓ A) (G : Gr prog w hT os ℓ g mg mb) (ih : Snd prog w A hT os fr g n) (e : PySem.Expr) {K : V → St → Prop} (eo : EOk env) (I : Inv hT os fr env σ ρ s) (h : wpE g (n + 1) env.scope e σ K) : wpAny (model prog w) A (eval e env) (PE hT os fr env σ.cel ρ s.heap K) EF s := by
  cases e with
  | Constant c k pos =>
    cases c with
    | int i => exact wpAny_Constant_int (PE.int I h)
    | str x => exact Calls.Constant_str (PE.str I h)
    | bool b => exact wpAny_Constant_bool (PE.keep I h .bool (fun _ _ q => q) rfl rfl)
    | none => exact wpAny_Constant_none (PE.keep I h .none (fun _ _ q => q) rfl rfl)
    | _ => exact h.elim
  | Name x pos =>
    have loc : (env.kindOf x = some .local ∨ env.kindOf x = some .cell) → (match σ.loc.lookup x with | some v => chk (!(x == ("__debug__" : Str))) (K v σ) | none => False) → wpAny (model prog w) A (eval (.Name x pos) env) (PE hT os fr env σ.cel ρ s.heap K) EF s := fun hk h => by
      split at h
      · rename_i v e
        obtain ⟨h1, h2⟩ := chk_iff.mp h
        exact wpAny_Name (load_ok eo.kind I hk e fun v r => ⟨_, σ, ρ, h2, r, I, Evo.refl ..⟩) (by simpa using h1)
      · cases h
    cases hk : env.scope.names.lookup x with
    | none => exact False.elim (wpE_Name0 hk h)
    | some kd =>
      have h := wpE_NameS hk h
      cases kd with
      | «local» => exact loc (.inl hk) h
      | cell => exact loc (.inr hk) h
      | globalImplicit =>
        have h : (match g.con x with | some d => chk (!(x == ("__debug__" : Str))) (K (.d d) σ) | none => False) := h
        cases e : g.con x with
        | none => rw [e] at h; exact False.elim h
        | some d =>
          rw [e] at h
          obtain ⟨h1, h2⟩ := chk_iff.mp h
          obtain ⟨v, e1, e2, e3⟩ := G.con x d e
          refine Calls.Name_function_global eo.kind hk (Calls.loadGlobal_global (mg := mg) (by rw [eo.glob]; exact G.gl.keeps I.gi.keep) e1 ?_) (by simpa using h1)
          exact ⟨_, σ, ρ, h2, ⟨[], e2 _, e3, fun _ q => nomatch q⟩, I, Evo.refl ..⟩
      | _ => exact False.elim h
  | BinOp l op r pos =>
    have h : wpE g n env.scope l σ fun a σ => wpE g n env.scope r σ fun b σ => opB op a b σ K := h
    refine wpAny_BinOp (wpPE (ih.E env σ ρ s l _ eo I h) (fun a s₁ x σ₁ ρ₁ hk ra I₁ ev => ?_))
    refine wpPE (ih.E env σ₁ ρ₁ s₁ r _ eo I₁ hk) (fun b s₂ y σ₂ ρ₂ hk₂ rb I₂ ev₂ => ?_)
    exact wpAny_mono (opB_ok I₂ (ra.evo I₁.rs.cel ev₂) rb hk₂) (fun v s₃ p => PE.after (ev.trans ev₂) p) fun _ _ q => q
  | UnaryOp op x pos =>
    cases op with
    | USub =>
      have h : wpE g n env.scope x σ fun a σ => (match a with | .d (.int i) => K (.d (.int (-i))) σ | _ => False) := h
      refine wpAny_UnaryOp (wpPE (ih.E env σ ρ s x _ eo I h) (fun a s₁ y σ₁ ρ₁ hk ra I₁ ev => ?_))
      split at hk
      · obtain ⟨_, rfl⟩ := RV.inv ra rfl; clear ra
        exact P.neg_int (PE.after ev (PE.int I₁ hk))
      · cases hk
    | _ => exact h.elim
  | Compare l ops rs pos =>
    obtain ⟨op, r, rfl, rfl⟩ := one_one (ops := ops) (rs := rs) (fun f => by cases ops with
      | nil => exact False.elim h
      | cons op ops => cases ops with
        | cons _ _ => exact False.elim h
        | nil => cases rs with
          | nil => exact False.elim h
          | cons r rs => cases rs with
            | cons _ _ => exact False.elim h
            | nil => exact f _ _ rfl rfl)
    have h : chk (noSet r) (wpE g n env.scope l σ fun a σ => wpE g n env.scope r σ fun b σ => cmpK op a b σ fun c => K (.d (.bool c)) σ) := h
    · obtain ⟨hs, h⟩ := chk_iff.mp h
      exact wpAny_Compare1 (cmp_step hA ih (K := fun c σ => K (.d (.bool c)) σ) eo I h fun c s₂ p => PT.toE p) (noMarks hs)
  | List es pos =>
    have h : wpEs g n env.scope es σ fun vs σ => chk (sizeB vs.length) (newC σ vs K) := h
    refine wpAny_List (wpPEs (ih.Es env σ ρ s es pos _ eo I h) (fun vs s₁ xs σ₁ ρ₁ hk rv I₁ ev => ?_))
    obtain ⟨h1, h2⟩ := chk_iff.mp hk
    have hz := sizeB_le h1
    exact ⟨by rw [sizeLine_eq, rv.length]; omega, PE.after ev (PE.push (tk := s₁.toks) I₁ h2 rv)⟩
  | Tuple es k pos =>
    have h : wpEs g n env.scope es σ fun vs σ => chk (sizeB vs.length) (match datas? vs with | some ds => K (.d (.tuple ds)) σ | none => False) := h
    refine wpAny_Tuple (wpPEs (ih.Es env σ ρ s es pos _ eo I h) (fun vs s₁ xs σ₁ ρ₁ hk rv I₁ ev => ?_))
    obtain ⟨h1, h2⟩ := chk_iff.mp hk
    have hz := sizeB_le h1
    refine ⟨by rw [sizeLine_eq, rv.length]; omega, ?_⟩
    split at h2
    · rename_i ds ed
      have k : ∀ b o, s₁.heap.get? b = some o → (s₁.heap.push { cls := .type "tuple", data := .seq vs.toArray }).get? b = some o := fun b o e => Heap.get?_push_of_some _ e
      obtain ⟨as, r, nd, ap⟩ := datas_ok (rv.keeps I₁.rs.cel k) ed
      exact PE.after ev (PE.keep (s' := { s₁ with heap := s₁.heap.push { cls := .type "tuple", data := .seq vs.toArray } }) I₁ h2 ⟨as, .tuple (Heap.get?_push_size _ rfl) rfl rfl (by simpa using r), nd, ap⟩ k rfl rfl)
    · cases h2
  | Subscript v i pos =>
    have item : wpE g n env.scope v σ (fun o σ => wpE g n env.scope i σ fun j σ => itemK o j σ K) → wpAny (model prog w) A (eval (.Subscript v i pos) env) (PE hT os fr env σ.cel ρ s.heap K) EF s := fun h => by
      refine wpAny_Sub (wpPE (ih.E env σ ρ s v _ eo I h) (fun a s₁ x σ₁ ρ₁ hk ra I₁ ev => ?_))
      refine wpPE (ih.E env σ₁ ρ₁ s₁ i _ eo I₁ hk) (fun b s₂ y σ₂ ρ₂ hk₂ rb I₂ ev₂ => ?_)
      obtain ⟨T, id, e1, e2, e3⟩ := itemK_ok (prog := prog) (w := w) (A := A) (E := EF) I₂ (ra.evo I₁.rs.cel ev₂) rb hk₂
      exact ⟨T, id, e1, e2, wpAny_mono e3 (fun _ _ p => PE.after (ev.trans ev₂) p) fun _ _ q => q⟩
    cases i with
    | Slice lo hi st p =>
      have h : wpE g n env.scope v σ fun o σ => wpO g n env.scope lo σ fun a σ => wpO g n env.scope hi σ fun b σ => wpO g n env.scope st σ fun c σ => slice3K o a b c σ K := h
      refine wpAny_Sub (wpPE (ih.E env σ ρ s v _ eo I h) fun a s₁ x σ₁ ρ₁ hk ra I₁ ev => ?_)
      refine wpAny_Slice (wpPE (ih.O env σ₁ ρ₁ s₁ lo _ eo I₁ hk) fun l s₂ y σ₂ ρ₂ hk₂ rl I₂ ev₂ => ?_)
      refine wpPE (ih.O env σ₂ ρ₂ s₂ hi _ eo I₂ hk₂) fun u s₃ z σ₃ ρ₃ hk₃ ru I₃ ev₃ => ?_
      refine wpPE (ih.O env σ₃ ρ₃ s₃ st _ eo I₃ hk₃) fun c s₄ z' σ₄ ρ₄ hk₄ rc I₄ ev₄ => ?_
      have ev' := (ev.trans ev₂).trans (ev₃.trans ev₄)
      obtain ⟨T, id, e1, e2, e3⟩ := slice3_ok (prog := prog) (w := w) (A := A) (E := EF) I₄ (ra.evo I₁.rs.cel (ev₂.trans (ev₃.trans ev₄))) (rl.evo I₂.rs.cel (ev₃.trans ev₄)) (ru.evo I₃.rs.cel ev₄) rc hk₄
      exact ⟨T, id, e1, e2, wpPEa ev' e3⟩
    | _ => exact item h
  | Call f args kws pos =>
    cases kws with
    | cons _ _ => exact h.elim
    | nil =>
      cases f with
      | Attribute o m apos =>
        have h : chk (plainE o && (apos.endLine == pos.line) && plainEs args && Nat.blt args.length 20) (wpE g n env.scope o σ fun ov σ => chk (methOk m ov) (wpEs g n env.scope args σ fun vs σ => methK m ov vs σ K)) := h
        obtain ⟨h1, h⟩ := chk_iff.mp h
        simp only [Bool.and_eq_true] at h1
        have hlt : args.length < 20 := Nat.le_of_ble_eq_true h1.2
        refine wpAny_Call_method_lateS (base_plain h1.1.1.1) ?_ h1.1.1.2 (wpPE (ih.E env σ ρ s o _ eo I h) (fun ov s₁ x σ₁ ρ₁ hk ro I₁ ev => ?_))
        · rw [plain_all h1.1.2]
          show (true && true && decide (args.length + 0 + 0 < 30)) = true
          simp; omega
        · obtain ⟨h2, hk⟩ := chk_iff.mp hk
          obtain ⟨T, id, e1, e2, e3, e4, e5, e6⟩ := meth_ok (prog := prog) (w := w) (A := A) (hT := hT) (os := os) (fr := fr) (env := env) I₁.rs.cel ro h2
          refine ⟨T, id, e1, e2, e3, e4, e5, callB h1.1.2 (wpPEs (ih.Es env σ₁ ρ₁ s₁ args pos _ eo I₁ hk) (fun vs s₂ xs σ₂ ρ₂ hk₂ rv I₂ ev₂ => ?_))⟩
          exact wpPEa (ev.trans ev₂) (e6 σ₂ ρ₂ s₂ vs xs K EF I₂ (ro.evo I₁.rs.cel ev₂) rv hk₂)
      | Name x p =>
        obtain ⟨q, h⟩ := wpE_Call0 h
        · have h : (match g.fn x with
            | some φ => chk (plainEs args && Nat.blt 0 args.length && !(x == ("__debug__" : Str))) (wpEs g n env.scope args σ fun vs σ => (match toDs σ.cel 4 vs with | some ds => φ ds fun d => K (.d d) σ | none => False))
            | none => chk (bltOk x && plainEs args && Nat.blt 0 args.length) (wpEs g n env.scope args σ fun vs σ => bltK x vs σ K)) := h
          cases e : g.fn x with
          | some φ =>
            rw [e] at h
            obtain ⟨h1, h⟩ := chk_iff.mp h
            simp only [Bool.and_eq_true] at h1
            obtain ⟨a, o, fd, g1, g2, g3, g4⟩ := G.fn x φ e
            refine wpAny_Call_NameR (Calls.Name_function_global eo.kind q (Calls.loadGlobal_global (mg := mg) (by rw [eo.glob]; exact G.gl.keeps I.gi.keep) g1 ?_) (by simpa using h1.2))
            refine callF h1.1.1 g3 (wpPEs (ih.Es env σ ρ s args pos _ eo I h) (fun vs s₂ xs σ₂ ρ₂ hk₂ rv I₂ ev₂ => ?_)) (Nat.le_of_ble_eq_true h1.1.2)
            refine ⟨I₂.gi.keep _ _ g2, ?_⟩
            split at hk₂
            · rename_i ds ed
              exact wpPEa ev₂ (fn_ok hA g4 I₂ rv ed hk₂)
            · cases hk₂
          | none =>
            rw [e] at h
            obtain ⟨h1, h⟩ := chk_iff.mp h
            simp only [Bool.and_eq_true] at h1
            obtain ⟨b1, b2⟩ := G.blt x h1.1.1
            have hd : (x == ("__debug__" : Str)) = false := by
              cases q : x == ("__debug__" : Str) with
              | false => rfl
              | true => exact absurd (eq_of_beq q ▸ h1.1.1) (by decide +kernel)
            refine wpAny_Call_NameR (Calls.Name_function_global eo.kind q (Calls.loadGlobal_builtin (mg := mg) (mb := mb) (by rw [eo.glob]; exact G.gl.keeps I.gi.keep) b1 (by rw [eo.bi]; exact G.bl.keeps I.gi.keep) b2 ?_) hd)
            refine callV h1.1.2 (wpPEs (ih.Es env σ ρ s args pos _ eo I h) (fun vs s₂ xs σ₂ ρ₂ hk₂ rv I₂ ev₂ => ?_))
            exact wpPEa ev₂ (blt_ok h1.1.1 hA.hand I₂ rv hk₂)
      | _ => exact h.elim
  | ListComp elt gens scope pos =>
    have h : wpC g n env.scope elt gens scope σ K := h
    rw [eval_ListComp]
    exact ih.C env σ ρ s elt gens scope pos K none _ eo I h fun v C m s' p hn hC => ⟨m, hn, fun h' hs' => PE.off eo p hn hs' hC I rfl⟩
  | _ => exact h.elim

theorem snd_all (hA : AOk fr ℓ A) (G : Gr prog w hT os ℓ g mg mb) : ∀ n, Snd prog w A hT os fr g n
  | 0 => ⟨fun _ _ _ _ _ _ _ _ h => h.elim, fun _ _ _ _ _ _ _ _ h => h.elim, fun _ _ _ _ _ _ _ _ _ h => h.elim, fun _ _ _ _ _ _ _ _ h => h.elim, fun _ _ _ _ _ _ _ _ _ h => h.elim, fun _ _ _ _ _ _ _ _ h => h.elim, fun _ _ _ _ _ _ _ _ _ _ _ _ _ h _ => h.elim⟩
  | n + 1 =>
    have ih := snd_all hA G n
    ⟨fun env σ ρ s e K eo I h => stepE hA G ih e eo I h, fun env σ ρ s e K eo I h => stepO ih e eo I h, fun env σ ρ s es pos K eo I h => stepEs ih es pos eo I h, fun env σ ρ s e K eo I h => stepT hA ih e eo I h,
      fun env σ ρ s op es K eo I h => stepB ih op es eo I h, fun env σ ρ s es K eo I h => stepI ih es eo I h, fun env σ ρ s elt gens scope pos K use Q eo I h he => stepC hA ih elt gens scope pos use Q eo I h he⟩
end
end Mine
end
section
open PySem PySem.W PyProof.Rows PySem.Calls
set_option Elab.async false
namespace Mine
noncomputable def FlR (h : Heap) (ρ : List Addr) : Flow → Fl → Prop
  | .next, .next => True
  | .brk, .brk => True
  | .ret v, .ret x => RV h ρ v x
  | _, _ => False
noncomputable def PS (hT : Heap) (os : OsState) (fr : List Env) (env : Env) (cel : List (Option (List V))) (ρ : List Addr) (h : Heap) (K : Fl → St → Prop) (f : Flow) (s' : Shared) : Prop :=
  ∃ fl σ' ρ', K fl σ' ∧ FlR s'.heap ρ' f fl ∧ Inv hT os fr env σ' ρ' s' ∧ Evo (Own env) cel ρ h σ'.cel ρ' s'.heap

structure SndS (prog : Program) (w : World) (A : Around) (hT : Heap) (os : OsState) (fr : List Env) (g : Gl) (n : Nat) : Prop where
  S : ∀ (env : Env) (σ : St) (ρ : List Addr) (s : Shared) (st : Stmt) (K : Fl → St → Prop), EOk env → Inv hT os fr env σ ρ s → wpS g n env.scope st σ K → wpAny (model prog w) A (exec st env) (PS hT os fr env σ.cel ρ s.heap K) EF s
  Ss : ∀ (env : Env) (σ : St) (ρ : List Addr) (s : Shared) (ss : List Stmt) (K : Fl → St → Prop), EOk env → Inv hT os fr env σ ρ s → wpSs g n env.scope ss σ K → wpAny (model prog w) A (execs ss env) (PS hT os fr env σ.cel ρ s.heap K) EF s

section
variable {prog : Program} {w : World} {A : Around} {hT : Heap} {os : OsState} {fr : List Env} {env : Env} {σ : St} {ρ : List Addr} {s s' : Shared} {g : Gl} {ℓ : Nat} {mg mb : Str → Option Value} {n : Nat} {K : Fl → St → Prop}

theorem PS.after {cel cel' : List (Option (List V))} {ρ ρ' : List Addr} {h h' : Heap} {f : Flow} (e : Evo (Own env) cel ρ h cel' ρ' h') (p : PS hT os fr env cel' ρ' h' K f s') : PS hT os fr env cel ρ h K f s' := by
  obtain ⟨x, σ', ρ'', a, b, c, d⟩ := p
  exact ⟨x, σ', ρ'', a, b, c, e.trans d⟩
theorem Evo.up {X : Addr → Prop} {cel cel' : List (Option (List V))} {ρ ρ' : List Addr} {h h' : Heap} (e : Evo noX cel ρ h cel' ρ' h') : Evo X cel ρ h cel' ρ' h' := e.mono fun _ q => q.elim
theorem PS.next {cel : List (Option (List V))} {ρ₀ : List Addr} {h₀ : Heap} {τ : St} {ρ' : List Addr} (hK : K .next τ) (I : Inv hT os fr env τ ρ' s') (e : Evo (Own env) cel ρ₀ h₀ τ.cel ρ' s'.heap) : PS hT os fr env cel ρ₀ h₀ K .next s' :=
  ⟨.next, τ, ρ', hK, trivial, I, e⟩

theorem wpPS {M : Model} {A : Around} {m : Sem Flow} {cel : List (Option (List V))} {h : Heap} {E : Value → Shared → Prop} {Q : Flow → Shared → Prop} (p : wpAny M A m (PS hT os fr env cel ρ h K) E s) (f : ∀ v s₁ x σ₁ ρ₁, K x σ₁ → FlR s₁.heap ρ₁ v x → Inv hT os fr env σ₁ ρ₁ s₁ → Evo (Own env) cel ρ h σ₁.cel ρ₁ s₁.heap → Q v s₁) : wpAny M A m Q E s :=
  wpAny_mono p (fun v s₁ ⟨x, σ₁, ρ₁, a, b, c, d⟩ => f v s₁ x σ₁ ρ₁ a b c d) fun _ _ q => q
theorem wpPSa {M : Model} {A : Around} {m : Sem Flow} {cel cel' : List (Option (List V))} {ρ' : List Addr} {h h' : Heap} {E : Value → Shared → Prop} (e : Evo (Own env) cel ρ h cel' ρ' h') (p : wpAny M A m (PS hT os fr env cel' ρ' h' K) E s) : wpAny M A m (PS hT os fr env cel ρ h K) E s :=
  wpAny_mono p (fun _ _ p => PS.after e p) fun _ _ q => q

theorem stepSs (ih : SndS prog w A hT os fr g n) (ss : List Stmt) (eo : EOk env) (I : Inv hT os fr env σ ρ s) (h : wpSs g (n + 1) env.scope ss σ K) : wpAny (model prog w) A (execs ss env) (PS hT os fr env σ.cel ρ s.heap K) EF s := by
  cases ss with
  | nil => exact wpAny_execs_nil (PS.next h I (Evo.refl ..))
  | cons st r =>
    have h : wpS g n env.scope st σ fun f σ => (match f with | .next => wpSs g n env.scope r σ K | .brk => K .brk σ | .ret v => K (.ret v) σ) := h
    refine wpAny_execs_cons (wpPS (ih.S env σ ρ s st _ eo I h) (fun f s₁ fl σ₁ ρ₁ hk hf I₁ ev => ?_))
    cases f with
    | next =>
      cases fl with
      | next => exact wpPSa ev (ih.Ss env σ₁ ρ₁ s₁ r K eo I₁ hk)
      | _ => exact hf.elim
    | brk =>
      cases fl with
      | brk => exact ⟨.brk, σ₁, ρ₁, hk, trivial, I₁, ev⟩
      | _ => exact hf.elim
    | ret v =>
      cases fl with
      | ret x => exact ⟨.ret x, σ₁, ρ₁, hk, hf, I₁, ev⟩
      | _ => exact hf.elim
    | cont => cases fl <;> exact hf.elim

theorem not_inter (eo : EOk env) : interactive env = false := by
  unfold interactive
  rw [eo.kind]; rfl

/-- a name's store -/
theorem name_ok {x : Str} {p : Pos} {value : PySem.Expr} {pos : Pos} (SN : ∀ n, Snd prog w A hT os fr g n) (eo : EOk env) (I : Inv hT os fr env σ ρ s) (hx : okN env.scope x = true)
    (h : wpE g n env.scope value σ fun v σ => K .next (σ.put x v)) : wpAny (model prog w) A (exec (.Assign [.Name x p] value pos) env) (PS hT os fr env σ.cel ρ s.heap K) EF s := by
  have plain : swapsWith value (some (.Name x p)) pos.line env = pure false → wpAny (model prog w) A (exec (.Assign [.Name x p] value pos) env) (PS hT os fr env σ.cel ρ s.heap K) EF s := fun hs => by
    refine wpAny_Assign_Name (wpPE ((SN n).E env σ ρ s value _ eo I h) (fun v s₁ y σ₁ ρ₁ hk rv I₁ ev => ?_)) hs
    exact wpAny_mono (store_ok eo.kind I₁ rv (kind_okN hx)) (fun _ s₂ ⟨I₂, ev₂⟩ => PS.next hk I₂ (ev.up.trans ev₂)) fun _ _ q => q
  cases value with
  | ListComp elt gens scope vpos =>
    have hsw : ∃ b, swapsWith (.ListComp elt gens scope vpos) (some (.Name x p)) pos.line env = pure b := ⟨_, rfl⟩
    obtain ⟨b, hb⟩ := hsw
    cases b with
    | false => exact plain hb
    | true =>
      cases n with
      | zero => exact h.elim
      | succ n =>
        have h : wpC g n env.scope elt gens scope σ (fun v σ => K .next (σ.put x v)) := h
        rw [exec_Assign_Name_used _ _ _ _ hb]
        refine wpAny_bind (wpAny_standAt (wpAny_bind ?_))
        show wpAny _ A (do let _ ← comprehension (.ListComp elt gens scope vpos) scope env (firstIterPos gens vpos) (newList []) (firstAsync gens) (firstIter gens env) (some (assign (.Name x p) env))) _ _ s
        refine wpAny_bind (wpAny_mono ((SN n).C env σ ρ s elt gens scope vpos _ (some (assign (.Name x p) env)) (fun _ s' => PS hT os fr env σ.cel ρ s.heap K .next s') eo I h (fun v C m s' pe hn hC => ?_)) (fun _ _ q => wpAny_pure (wpAny_pure q)) fun _ _ q => q)
        obtain ⟨y, τ, ρ', hk, rv, I', ev⟩ := pe
        have off := off_of eo hn (Heap.SameBut.refl ..) hC I
        have nO : ¬ Own env C := by
          rintro (e | ⟨z, e⟩)
          · exact off.loc e.symm
          · exact off.cel z e
        show wpAny _ A (assign (.Name x p) env v) _ _ s'
        refine wpAny_assign_Name (wpAny_mono (store_ok eo.kind I' rv (kind_okN hx)) (fun _ s₂ ⟨I₂, ev₂⟩ => ?_) fun _ _ q => q)
        have hn₂ := ev₂.ext.ns hn nO
        refine ⟨m, hn₂, fun h' hs' => ?_⟩
        have off₂ := off_of eo hn₂ hs' hC I
        exact PS.next hk (Off.inv (s := s₂) (s' := { s₂ with heap := h' }) off₂ rfl rfl I₂) (Evo.tick hC (ev.up.trans ev₂) fun b o nb q => off₂.keep b o (by simpa using nb) q)
  | SetComp _ _ _ _ => cases n <;> exact h.elim
  | DictComp _ _ _ _ _ => cases n <;> exact h.elim
  | _ => exact plain rfl

theorem swapN_eq {sc : Scope} {line : Nat} : ∀ {ts : List PySem.Expr} {xs : List Str}, nms? ts = some xs → (ts.filterMap fun
    | .Name id pos => if (sc.names.lookup id == some .local && pos.line == line) = true then some id else none
    | _ => none).Sublist xs
  | [], xs, e => by obtain rfl : [] = xs := by simpa [nms?] using e
                    exact .slnil
  | t :: ts, xs, e => by
    cases t with
    | Name x p =>
      simp only [nms?, nm?] at e
      split at e
      · rename_i l q
        obtain rfl : x :: l = xs := by simpa using e
        have ih := swapN_eq (sc := sc) (line := line) q
        rw [List.filterMap_cons]
        cases c : (sc.names.lookup x == some NameKind.local && p.line == line) with
        | true => simp only [c, if_true]; exact ih.cons₂ x
        | false => simp only [c, Bool.false_eq_true, if_false]; exact ih.cons x
      · cases e
    | _ => exact none_some (x := xs) e
theorem nms_len : ∀ {ts : List PySem.Expr} {xs : List Str}, nms? ts = some xs → xs.length = ts.length
  | [], xs, e => by obtain rfl : [] = xs := by simpa [nms?] using e
                    rfl
  | t :: ts, xs, e => by
    simp only [nms?] at e
    split at e
    · split at e
      · rename_i l q
        rename_i x _ _
        have := nms_len q
        have e := Option.some.inj e
        rw [← e]; simp [this]
      · cases e
    · cases e

theorem swapped_ok {ts vs : List PySem.Expr} {k k' : Nat} {p p' : Pos} {xs : List Str} {b : Bool} (eo : EOk env) (hn : nms? ts = some xs) (h : swapB env.scope ts vs = some b) :
    swappedStores [.Tuple ts k p] (.Tuple vs k' p') env = pure (if b = true then some xs else none) := by
  have bk : env.blockKind = .function := by unfold Env.blockKind; rw [eo.kind]; rfl
  unfold swapB at h
  show (do
    if !(ts.length == 2 || ts.length == 3) || vs.length != ts.length || env.blockKind != .function then return none
    if vs.any starB then return none
    let names := swapN env.scope ts
    if names.length != ts.length || names.eraseDups.length != names.length then return none
    if vs.all (foldedForSure 8) then return none
    if vs.all (constantsAlone 8) then unsupported "assign.tuple-of-constant-expressions:order-of-the-stores"
    return some names : Sem (Option (List Str))) = _
  rw [bk]
  have e0 : (ScopeKind.function != ScopeKind.function) = false := rfl
  rw [e0, Bool.or_false]
  cases c1 : (!(ts.length == 2 || ts.length == 3) || vs.length != ts.length) with
  | true =>
    rw [c1] at h
    obtain rfl : false = b := by simpa using h
    rfl
  | false =>
    rw [c1] at h
    simp only [Bool.false_eq_true, if_false]
    simp only at h
    cases c2 : (vs.any starB) with
    | true => rw [c2] at h; cases h
    | false =>
      rw [c2] at h
      simp only [Bool.false_eq_true, if_false]
      simp only at h
      cases c3 : ((swapN env.scope ts).length != ts.length || (swapN env.scope ts).eraseDups.length != (swapN env.scope ts).length) with
      | true =>
        rw [c3] at h
        obtain rfl : false = b := by simpa using h
        simp [c3]
      | false =>
        rw [c3] at h
        simp only at h
        simp only [c3, Bool.false_eq_true, if_false]
        cases c4 : vs.all (foldedForSure 8) with
        | true =>
          rw [c4] at h
          obtain rfl : false = b := by simpa using h
          simp
        | false =>
          rw [c4] at h
          simp only at h
          cases c5 : vs.all (constantsAlone 8) with
          | true => rw [c5] at h; cases h
          | false =>
            rw [c5] at h
            obtain rfl : true = b := by simpa using h
            simp only [Bool.or_eq_false_iff, bne_eq_false_iff_eq] at c3
            have e1 : swapN env.scope ts = xs := (swapN_eq hn).eq_of_length (by rw [nms_len hn]; exact c3.1)
            simp [e1]
end
end Mine
end
section
open PySem PySem.W PyProof.Rows PySem.Calls
set_option Elab.async false
namespace Mine
section
variable {prog : Program} {w : World} {A : Around} {hT : Heap} {os : OsState} {fr : List Env} {env : Env} {σ : St} {ρ : List Addr} {s s' : Shared} {g : Gl} {ℓ : Nat} {mg mb : Str → Option Value} {n : Nat} {K : Fl → St → Prop}

theorem rev_zip {α β : Type} : ∀ (xs : List α) (ys : List β), xs.length = ys.length → (xs.zip ys).reverse = xs.reverse.zip ys.reverse
  | [], [], _ => rfl
  | x :: xs, y :: ys, h => by
    rw [List.zip_cons_cons, List.reverse_cons, rev_zip xs ys (by simpa using h), List.reverse_cons, List.reverse_cons, List.zip_append (by simpa using h)]; rfl
  | [], _ :: _, h => by simp at h
  | _ :: _, [], h => by simp at h
theorem tuple_ok {ts es : List PySem.Expr} {k k' : Nat} {p p' pos : Pos} {xs : List Str} (hA : AOk fr ℓ A) (SN : ∀ n, Snd prog w A hT os fr g n) (eo : EOk env) (I : Inv hT os fr env σ ρ s) (hn : nms? ts = some xs) (hx : xs.all (okN env.scope) = true)
    (h : wpEs g n env.scope es σ fun vs σ => (match swapB env.scope ts es with
            | some b => chk (xs.length == vs.length && sizeB vs.length) (match b with
              | true => K .next (putAll (xs.zip vs).reverse σ)
              | false => K .next (putAll (xs.zip vs) σ))
            | none => False)) : wpAny (model prog w) A (exec (.Assign [.Tuple ts k p] (.Tuple es k' p') pos) env) (PS hT os fr env σ.cel ρ s.heap K) EF s := by
  have okX : ∀ x ∈ xs, StoreX env (Own env) x := fun x hm => storeX_ok (List.all_eq_true.mp hx x hm)
  rw [exec_Assign_arm]
  refine wpAny_bind (wpAny_standAt ?_)
  rw [show swapsWithSole [.Tuple ts k p] (.Tuple es k' p') pos.line env = pure false from rfl]
  refine wpAny_bind (wpAny_pure ?_)
  rw [if_neg (by decide)]
  refine wpAny_bind (wpAny_Tuple (wpPEs ((SN n).Es env σ ρ s es p' _ eo I h) (fun vs s₁ ys σ₁ ρ₁ hk rv I₁ ev => ?_)))
  try dsimp only at hk
  split at hk
  · rename_i b hb
    obtain ⟨h1, hk⟩ := chk_iff.mp hk
    simp only [Bool.and_eq_true, beq_iff_eq] at h1
    have hz := sizeB_le h1.2
    have hlen := rv.length
    have kp : ∀ b o, s₁.heap.get? b = some o → (s₁.heap.push { cls := .type "tuple", data := .seq vs.toArray }).get? b = some o := fun b o e => Heap.get?_push_of_some _ e
    have I₂ : Inv hT os fr env σ₁ ρ₁ { s₁ with heap := s₁.heap.push { cls := .type "tuple", data := .seq vs.toArray } } := I₁.keeps kp rfl rfl
    have rv₂ := rv.keeps I₁.rs.cel kp
    have ht : IsTup (s₁.heap.push { cls := .type "tuple", data := .seq vs.toArray }) s₁.heap.objs.size vs.toArray := ⟨_, Heap.get?_push_size _ rfl, rfl, _, rfl⟩
    refine ⟨by rw [sizeLine_eq]; omega, ?_⟩
    rw [swapped_ok eo hn hb]
    refine wpAny_bind (wpAny_pure ?_)
    cases b with
    | false =>
      show wpAny _ A (do assign (.Tuple ts k p) env (.ref s₁.heap.objs.size); pure Flow.next) _ _ _
      refine wpAny_bind (wpAny_mono (assignTuple_ok (X := Own env) hA.hand eo.kind hn h1.1 okX I₂ ht rv₂) (fun _ s₃ ⟨I₃, ev₃⟩ => wpAny_pure ?_) fun _ _ q => q)
      refine PS.next hk I₃ ?_
      rw [putAll_cel]
      exact ev.up.trans ((Evo.of_keeps kp).trans ev₃)
    | true =>
      show wpAny _ A (do
        rule "assign.swapped-stores"
        let items ← unpackItems (.ref s₁.heap.objs.size) xs.length none
        assignInOrder (xs.reverse.map fun n => bindName env n) items.reverse
        pure Flow.next) _ _ _
      refine wpAny_bind (wpAny_rule (wpAny_bind ?_))
      have e : xs.length = vs.toArray.size := by simp; omega
      rw [e]
      refine unpackItems_tuple hA.hand ht fun h' he => ?_
      have kp' := keepsBut he
      have I₃ : Inv hT os fr env σ₁ ρ₁ { s₁ with heap := h' } := I₂.keeps (s' := { s₁ with heap := h' }) kp' rfl rfl
      have rv₃ := (rv₂.keeps I₂.rs.cel kp').rev
      refine wpAny_bind (wpAny_mono (stores_ok (X := Own env) eo.kind (fun n => bindName env n) (fun x v Q s q => wpAny_bindName q) xs.reverse vs.reverse ys.reverse σ₁ { s₁ with heap := h' } (by simp; omega) (fun x hx => okX x (List.mem_reverse.mp hx)) rv₃ I₃) (fun _ s₃ ⟨I₄, ev₄⟩ => wpAny_pure ?_) fun _ _ q => q)
      have ez : xs.reverse.zip ys.reverse = (xs.zip ys).reverse := by
        rw [rev_zip _ _ (by omega)]
      rw [ez] at I₄
      refine PS.next hk I₄ ?_
      rw [putAll_cel]
      exact ev.up.trans (((Evo.of_keeps kp).trans (Evo.of_keeps kp')).trans ev₄)
  · cases hk

theorem tupleFrom_ok {ts : List PySem.Expr} {value : PySem.Expr} {k : Nat} {p pos : Pos} {xs : List Str} (hA : AOk fr ℓ A) (SN : ∀ n, Snd prog w A hT os fr g n) (eo : EOk env) (I : Inv hT os fr env σ ρ s) (hn : nms? ts = some xs) (hx : xs.all (okN env.scope) = true)
    (hv : ∀ es k p, value ≠ .Tuple es k p)
    (h : wpE g n env.scope value σ fun v σ => (match v with
            | .d (.tuple ds) => chk (xs.length == ds.length) (K .next (putAll (xs.zip (ds.map V.d)) σ))
            | _ => False)) : wpAny (model prog w) A (exec (.Assign [.Tuple ts k p] value pos) env) (PS hT os fr env σ.cel ρ s.heap K) EF s := by
  have okX : ∀ x ∈ xs, StoreX env (Own env) x := fun x hm => storeX_ok (List.all_eq_true.mp hx x hm)
  refine wpAny_Assign_stores (wpPE ((SN n).E env σ ρ s value _ eo I h) (fun v s₁ y σ₁ ρ₁ hk rv I₁ ev => ?_)) (by cases value <;> rfl) (by cases value <;> first | rfl | exact (hv _ _ _ rfl).elim)
  try dsimp only at hk
  split at hk
  · rename_i ds
    obtain ⟨h1, hk⟩ := chk_iff.mp hk
    have h1 : xs.length = ds.length := by simpa using h1
    obtain ⟨as, r, q, nn⟩ := rv
    cases r with
    | @tuple a o vs m _ _ gg hc hd r =>
      have rr := RVs.ofAll r q nn
      show wpAny _ A (assign (.Tuple ts k p) env (.ref a)) _ _ _
      refine wpAny_mono (assignTuple_ok (X := Own env) (vs := vs.toList) (ys := ds.map V.d) hA.hand eo.kind hn (by rw [List.length_map]; exact h1) okX I₁ ⟨o, gg, hc, m, hd⟩ rr) (fun _ s₃ ⟨I₃, ev₃⟩ => ?_) fun _ _ q => q
      refine PS.next hk I₃ ?_
      rw [putAll_cel]
      exact ev.up.trans ev₃
  · cases hk

/-- loops -/
theorem whileN_ok {t : PySem.Expr} {b : List Stmt} {turn : St → (Option Fl → St → Prop) → Prop} {s₀ : Shared} {cel₀ : List (Option (List V))} {ρ₀ : List Addr}
    (hturn : ∀ σ ρ s k, Inv hT os fr env σ ρ s → turn σ k → wpAny (model prog w) A (isTrue t env (eval t env)) (fun c s₁ => ∃ σ₁ ρ₁, Inv hT os fr env σ₁ ρ₁ s₁ ∧ Evo noX σ.cel ρ s.heap σ₁.cel ρ₁ s₁.heap ∧
      if c = true then wpAny (model prog w) A (execs b env) (PS hT os fr env σ₁.cel ρ₁ s₁.heap fun f τ => k (some f) τ) EF s₁ else k none σ₁) EF s) {R : Result → Shared → Prop}
    (hR : ∀ f fl s' τ ρ', K fl τ → FlR s'.heap ρ' f fl → Inv hT os fr env τ ρ' s' → Evo (Own env) cel₀ ρ₀ s₀.heap τ.cel ρ' s'.heap → f ≠ .brk → R (.ok f) s')
    (m : Nat) (I : Inv hT os fr env σ ρ s) (ev : Evo (Own env) cel₀ ρ₀ s₀.heap σ.cel ρ s.heap) (h : whileN turn m σ K) : codeAny (model prog w) A (.whileLoop t b [] env) R s := by
  refine codeAny_whileLoop (fun m s => ∃ σ ρ, Inv hT os fr env σ ρ s ∧ Evo (Own env) cel₀ ρ₀ s₀.heap σ.cel ρ s.heap ∧ whileN turn m σ K) (fun m s ⟨σ, ρ, I, ev, h⟩ => ?_) m ⟨σ, ρ, I, ev, h⟩
  cases m with
  | zero => exact h.elim
  | succ m =>
    have h : turn σ fun f σ => (match f with | none => K .next σ | some .next => whileN turn m σ K | some .brk => K .next σ | some (.ret v) => K (.ret v) σ) := h
    refine wpAny_mono (hturn σ ρ s _ I h) (fun c s₁ ⟨σ₁, ρ₁, I₁, ev₁, hc⟩ => ?_) fun _ _ q => q.elim
    cases c with
    | false =>
      simp only [Bool.false_eq_true, if_false] at hc ⊢
      exact wpAny_execs_nil (hR .next .next s₁ σ₁ ρ₁ hc trivial I₁ (ev.trans ev₁.up) (fun e => nomatch e))
    | true =>
      simp only [if_true] at hc ⊢
      refine wpAny_mono hc (fun f s₂ ⟨fl, σ₂, ρ₂, hk, hf, I₂, ev₂⟩ => ?_) fun _ _ q => q.elim
      have ev' := (ev.trans ev₁.up).trans ev₂
      cases f with
      | next =>
        cases fl with
        | next => exact ⟨m, Nat.lt_succ_self m, σ₂, ρ₂, I₂, ev', hk⟩
        | _ => exact hf.elim
      | brk =>
        cases fl with
        | brk => exact hR .next .next s₂ σ₂ ρ₂ hk trivial I₂ ev' (fun e => nomatch e)
        | _ => exact hf.elim
      | ret v =>
        cases fl with
        | ret x => exact hR (.ret v) (.ret x) s₂ σ₂ ρ₂ hk hf I₂ ev' (fun e => nomatch e)
        | _ => exact hf.elim
      | cont => cases fl <;> exact hf.elim
end
end Mine
end
section
open PySem PySem.W PyProof.Rows PySem.Calls
set_option Elab.async false
namespace Mine
section
variable {prog : Program} {w : World} {A : Around} {hT : Heap} {os : OsState} {fr : List Env} {env : Env} {σ : St} {ρ : List Addr} {s s' : Shared} {g : Gl} {ℓ : Nat} {mg mb : Str → Option Value} {n : Nat} {K : Fl → St → Prop} {R : Result → Shared → Prop}

theorem forL_ok {x : Str} {xp : Pos} {body : List Stmt} {turn : V → St → (Fl → St → Prop) → Prop} {cel₀ : List (Option (List V))} {ρ₀ : List Addr} {h₀ h₁ : Heap} {J : Addr} {xs : List V}
    {fp : List Addr} {P : Nat → Value → Prop} {St' : Nat → Heap → Prop} (ek : env.scope.kind = .function) (hx : okN env.scope x = true) (c₀ : Cel cel₀ ρ₀ h₀)
    (W : WalkAt prog w A cel₀ ρ₀ h₀ h₁ xs J fp P St') (hI0 : h₀.get? J = none) (hIT : hT.get? J = none)
    (hturn : ∀ v τ ρ' s' k, Inv hT os fr env (τ.put x v) ρ' s' → turn v τ k → wpAny (model prog w) A (execs body env) (PS hT os fr env τ.cel ρ' s'.heap k) EF s')
    (I₁ : Inv hT os fr env σ ρ s) (e₁ : Evo (Own env) cel₀ ρ₀ h₀ σ.cel ρ s.heap) (st : St' 0 s.heap) (fix : ∀ b ∈ fp, Fixd σ.cel ρ s.heap b)
    (h : forL turn xs σ K)
    (hR : ∀ f fl s' τ ρ', K fl τ → FlR s'.heap ρ' f fl → Inv hT os fr env τ ρ' s' → Evo (Own env) cel₀ ρ₀ h₀ τ.cel ρ' s'.heap → R (.ok f) s') :
    codeAny (model prog w) A (.forLoop (.Name x xp) (.ref J) body [] env) R s := by
  refine codeAny_forLoop (fun n s' => ∃ i τ ρ', n = xs.length - i ∧ i ≤ xs.length ∧ forL turn (xs.drop i) τ K ∧ Inv hT os fr env τ ρ' s' ∧ Evo (Own env) cel₀ ρ₀ h₀ τ.cel ρ' s'.heap ∧ St' i s'.heap ∧ ∀ b ∈ fp, Fixd τ.cel ρ' s'.heap b) (fun n s' hI => ?_) xs.length ⟨0, σ, ρ, rfl, Nat.zero_le _, h, I₁, e₁, st, fix⟩
  refine exE3 hI fun i τ ρ' hI => andE7 hI fun hni hi hc inv ev hst hfix => ?_
  subst hni
  have hIs := W.isI i s'.heap hst
  rcases Nat.lt_or_ge i xs.length with lt | ge
  · refine W.W.item i s' _ _ lt hst fun v h' tk hP hst' hk => ?_
    have tick : Ticks [J] s'.heap h' := Ticks.one (let ⟨o, vs, n, g, d, c, id⟩ := hIs; ⟨o, vs, g, d, c ▸ idle_range id⟩) hk
    have hIs' := W.isI (i + 1) h' hst'
    have inv₁ : Inv hT os fr env τ ρ' { s' with heap := h', toks := tk } := Ticks.inv (s := s') (s' := { s' with heap := h', toks := tk }) tick (fun j hj => by rw [List.mem_singleton] at hj; subst hj; exact hIT) rfl rfl inv
    have ev₁ : Evo (Own env) cel₀ ρ₀ h₀ τ.cel ρ' h' := Evo.tick hI0 ev hk
    have hfix₁ : ∀ b ∈ fp, Fixd τ.cel ρ' h' b := fun b hb => (hfix b hb).tick hk (let ⟨o, vs, _, g, d, _⟩ := hIs'; ⟨o, vs, g, d⟩)
    obtain ⟨y, hy, hv⟩ := W.val i v hP
    have hv₁ : RV h' ρ' v y := hv.evo c₀ ev₁
    have hdrop : xs.drop i = y :: xs.drop (i + 1) := by
      rw [List.drop_eq_getElem_cons lt]
      rw [List.getElem?_eq_getElem lt] at hy
      rw [Option.some.inj hy]
    rw [hdrop] at hc
    simp only [forL] at hc
    refine wpAny_assign_Name (wpAny_mono (store_ok ek inv₁ hv₁ (kind_okN hx)) (fun _ s₂ ⟨inv₂, ev₂⟩ => ?_) fun _ _ q => q)
    refine wpAny_mono (hturn y τ ρ' s₂ _ inv₂ hc) (fun f s₃ ⟨fl, τ₃, ρ₃, hk₃, hf, inv₃, ev₃⟩ => ?_) fun _ _ q => q.elim
    have ev₂₃ := ev₂.trans ev₃
    have hfix₃ : (∀ b ∈ fp, ∀ o, h'.get? b = some o → s₃.heap.get? b = some o) ∧ ∀ b ∈ fp, Fixd τ₃.cel ρ₃ s₃.heap b := ⟨fun b hb => ((hfix₁ b hb).evo ev₂₃).1, fun b hb => ((hfix₁ b hb).evo ev₂₃).2⟩
    cases f with
    | next =>
      cases fl with
      | next => exact ⟨_, Nat.sub_lt_sub_left lt (Nat.lt_succ_self i), i + 1, τ₃, ρ₃, rfl, lt, hk₃, inv₃, ev₁.trans ev₂₃, W.W.frame (i + 1) _ _ hst' hfix₃.1, hfix₃.2⟩
      | _ => exact hf.elim
    | brk =>
      cases fl with
      | brk => exact hR .next .next s₃ τ₃ ρ₃ hk₃ trivial inv₃ (ev₁.trans ev₂₃)
      | _ => exact hf.elim
    | ret u =>
      cases fl with
      | ret z => exact hR (.ret u) (.ret z) s₃ τ₃ ρ₃ hk₃ hf inv₃ (ev₁.trans ev₂₃)
      | _ => exact hf.elim
    | cont => cases fl <;> exact hf.elim
  · have : i = xs.length := Nat.le_antisymm hi ge
    subst this
    refine W.W.done s' _ _ hst fun h' tk hk => ?_
    have tick : Ticks [J] s'.heap h' := Ticks.one (let ⟨o, vs, n, g, d, c, id⟩ := hIs; ⟨o, vs, g, d, c ▸ idle_range id⟩) hk
    rw [List.drop_length] at hc
    exact wpAny_execs_nil (hR .next .next _ τ ρ' hc trivial (Ticks.inv (s := s') (s' := { s' with heap := h', toks := tk }) tick (fun j hj => by rw [List.mem_singleton] at hj; subst hj; exact hIT) rfl rfl inv) (Evo.tick hI0 ev hk))

theorem for_ok {x : Str} {xp pos : Pos} {it : PySem.Expr} {body : List Stmt} (hA : AOk fr ℓ A) (SN : ∀ n, Snd prog w A hT os fr g n) (ih : SndS prog w A hT os fr g n) (eo : EOk env) (I : Inv hT os fr env σ ρ s) (hx : okN env.scope x = true)
    (h : wpE g n env.scope it σ fun v σ => (match walkOf σ v with
          | some xs => forL (fun v τ k => wpSs g n env.scope body (τ.put x v) k) xs (lock σ v) fun f τ => K f (unlock v xs τ)
          | none => False)) : wpAny (model prog w) A (exec (.For (.Name x xp) it body [] pos) env) (PS hT os fr env σ.cel ρ s.heap K) EF s := by
  refine wpAny_For (wpPE ((SN n).E env σ ρ s it _ eo I h) (fun v s₁ y σ₁ ρ₁ hk rv I₁ ev => ?_)) (foldedSet (wpE_notSet h))
  try dsimp only at hk
  split at hk
  · rename_i xs ew
    refine walk_ok hA.hand I₁ rv ew fun o' fp P St W => ?_
    have k1 : ∀ b o, s₁.heap.get? b = some o → (s₁.heap.push o').get? b = some o := fun b o e => Heap.get?_push_of_some _ e
    have nJ : s₁.heap.get? s₁.heap.objs.size = none := Heap.get?_none_of_le (Nat.le_refl _)
    have top : hT.get? s₁.heap.objs.size = none := by
      cases q : hT.get? s₁.heap.objs.size with
      | none => rfl
      | some o => rw [I₁.gi.keep _ o q] at nJ; cases nJ
    have inv : Inv hT os fr env (lock σ₁ y) ρ₁ { s₁ with heap := s₁.heap.push o' } := (I₁.lock y).keeps k1 rfl rfl
    refine forL_ok (s := { s₁ with heap := s₁.heap.push o' }) (R := fun r s' => match r with | .ok f => PS hT os fr env σ.cel ρ s.heap K f s' | .error e => cameBackBy (model prog w) A env EF e s') eo.kind hx (I₁.lock y).rs.cel W nJ top (fun v τ ρ' s' k i t => ih.Ss env (τ.put x v) ρ' s' body k eo i t) inv (Evo.of_keeps k1) W.st W.fix hk
      fun f fl s' τ ρ' hk' hf i e => ?_
    obtain ⟨i', e'⟩ := unlock_ok I₁ rv ew i e
    exact ⟨fl, _, ρ', hk', hf, i', ev.up.trans e'⟩
  · cases hk
end
end Mine
end
section
open PySem PySem.W PyProof.Rows PySem.Calls
set_option Elab.async false
namespace Mine
section
variable {prog : Program} {w : World} {A : Around} {hT : Heap} {os : OsState} {fr : List Env} {env : Env} {σ : St} {ρ : List Addr} {s s' : Shared} {g : Gl} {ℓ : Nat} {mg mb : Str → Option Value} {n : Nat} {K : Fl → St → Prop} {R : Result → Shared → Prop}

theorem enum_loop {x y : Str} {xp yp tp : Pos} {k : Nat} {body : List Stmt} {cel₁ : List (Option (List V))} {ρ₁ : List Addr} {h₁ : Heap} {e' t a : Addr} {us : List Value} {xs : List V} {Kx : Fl → St → Prop} (hA : AOk fr ℓ A) (ih : SndS prog w A hT os fr g n) (eo : EOk env) (hx : okN env.scope x = true) (hy : okN env.scope y = true)
    (c₀ : Cel cel₁ ρ₁ h₁) (rr : RVs h₁ ρ₁ us xs) (hlen : us.length = xs.length) (hee : e' ≠ t) (na : a ∉ [e', t]) (top : ∀ b ∈ [e', t], hT.get? b = none) (off0 : ∀ b ∈ [e', t], h₁.get? b = none) (inv₀ : Inv hT os fr env σ ρ s) (ev₀ : Evo (Own env) cel₁ ρ₁ h₁ σ.cel ρ s.heap)
    (he : IsEnum s.heap e' t ((0 : Nat) : Int) .none) (hit : s.heap.IsListIter t a 0) (hl : s.heap.PlainList a us.toArray) (hfx₀ : Fixd σ.cel ρ s.heap a) (hk : forE x y (fun τ k => wpSs g n env.scope body τ k) 0 xs σ Kx)
    (hR : ∀ f fl s' τ ρ', Kx fl τ → FlR s'.heap ρ' f fl → Inv hT os fr env τ ρ' s' → Evo (Own env) cel₁ ρ₁ h₁ τ.cel ρ' s'.heap → R (.ok f) s') :
    codeAny (model prog w) A (.forLoop (.Tuple [.Name x xp, .Name y yp] k tp) (.ref e') body [] env) R s := by
  refine codeAny_forLoop_any (fun m s' => ∃ (i : Nat) (τ : St) (ρ' : List Addr) (old : Value), m = xs.length - i ∧ i ≤ xs.length ∧ forE x y (fun τ k => wpSs g n env.scope body τ k) i (xs.drop i) τ Kx ∧ Inv hT os fr env τ ρ' s' ∧
    Evo (Own env) cel₁ ρ₁ h₁ τ.cel ρ' s'.heap ∧ IsEnum s'.heap e' t (i : Int) old ∧ s'.heap.IsListIter t a i ∧ s'.heap.PlainList a us.toArray ∧ Fixd τ.cel ρ' s'.heap a) (fun m s' hJ => ?_) xs.length
    (exI4 0 σ ρ .none ⟨rfl, Nat.zero_le _, hk, inv₀, ev₀, he, hit, hl, hfx₀⟩)
  refine exE4 hJ fun i τ ρ' old hJ => andE9 hJ fun hni hi hc inv ev' hen hli hpl' hfx => ?_
  subst hni
  obtain ⟨oi, goi, coi, doi⟩ := id hli
  have isT : ∀ b ∈ [e', t], ∃ o vs, s'.heap.get? b = some o ∧ o.data = .fields vs ∧ o.cls ≠ .type "range" := fun b hb => by
    rcases List.mem_cons.mp hb with rfl | hb
    · exact ⟨_, _, hen, rfl, fun c => absurd (Value.type.inj c) (by decide)⟩
    · rw [List.mem_singleton] at hb; subst hb
      exact ⟨oi, _, goi, doi, by rw [coi]; exact fun c => absurd (Value.type.inj c) (by decide)⟩
  rcases Nat.lt_or_ge i xs.length with lt | ge
  · have hui : us.toArray[i]? = some (us[i]'(by omega)) := by simp
    refine wpAny_pyNext_enum_item hen hli hpl'.isList hui hee fun h₃ heo hli₃ htup hsz₃ k₃ => ?_
    refine wpAny_letOwnedTupleGo_enum heo fun h₄ he₄ hs₄ => ?_
    have lt3 : ∀ b o, s'.heap.get? b = some o → b < s'.heap.objs.size := fun b o q => Heap.lt_size q
    have keep : ∀ b o, b ∉ [e', t] → s'.heap.get? b = some o → h₄.get? b = some o := fun b o nb q => by
      have n1 : b ≠ e' := fun c => nb (by rw [c]; exact List.mem_cons_self)
      have n2 : b ≠ t := fun c => nb (by rw [c]; exact List.mem_cons_of_mem _ List.mem_cons_self)
      rw [hs₄.2 b n1]; exact k₃ b o n1 n2 q
    have tick : Ticks [e', t] s'.heap h₄ := ⟨isT, keep⟩
    have inv₄ : Inv hT os fr env τ ρ' { s' with heap := h₄, toks := s'.toks + 1 } := Ticks.inv (s := s') (s' := { s' with heap := h₄, toks := s'.toks + 1 }) tick top rfl rfl inv
    have ev₄ : Evo (Own env) cel₁ ρ₁ h₁ τ.cel ρ' h₄ := Evo.ticks off0 ev' keep
    have hzn : s'.heap.objs.size ≠ e' := fun c => absurd (lt3 _ _ hen) (by rw [← c]; exact Nat.lt_irrefl _)
    have htup₄ : IsTup h₄ s'.heap.objs.size [.int i s'.toks, us[i]'(by omega)].toArray := ⟨_, by rw [hs₄.2 _ hzn]; exact htup, rfl, _, rfl⟩
    have hrv : RV h₁ ρ₁ (us[i]'(by omega)) (xs[i]'lt) := by
      obtain ⟨v', q1, q2⟩ := rr.get (List.getElem?_eq_getElem lt)
      rw [List.getElem?_eq_getElem (by omega)] at q1
      rw [Option.some.inj q1]; exact q2
    have hrv₄ : RV h₄ ρ' (us[i]'(by omega)) (xs[i]'lt) := hrv.evo c₀ ev₄
    have hdrop : xs.drop i = xs[i] :: xs.drop (i + 1) := List.drop_eq_getElem_cons lt
    rw [hdrop] at hc
    simp only [forE] at hc
    have rr₄ : RVs h₄ ρ' [.int i s'.toks, us[i]'(by omega)] [.d (.int i), xs[i]'lt] := ⟨.int, hrv₄, trivial⟩
    refine wpAny_mono (assignTuple_ok (X := Own env) (xs := [x, y]) (s := { s' with heap := h₄, toks := s'.toks + 1 }) hA.hand eo.kind rfl rfl (fun z hz => by
      rcases List.mem_cons.mp hz with rfl | hz
      · exact storeX_ok hx
      · rw [List.mem_singleton] at hz; subst hz; exact storeX_ok hy) inv₄ htup₄ rr₄) (fun _ s₅ ⟨inv₅, ev₅⟩ => ?_) fun _ _ q => q
    refine wpAny_mono (ih.Ss env _ ρ' s₅ body _ eo inv₅ hc) (fun f s₆ ⟨fl, τ₆, ρ₆, hk₆, hf, inv₆, ev₆⟩ => ?_) fun _ _ q => q.elim
    have ev₅₆ : Evo (Own env) τ.cel ρ' h₄ τ₆.cel ρ₆ s₆.heap := Evo.trans ev₅ ev₆
    have ev₆' := ev₄.trans ev₅₆
    -- what is fixed
    have nliveI : ∀ b (o : Obj), h₄.get? b = some o → (∃ vs, o.data = .fields vs) → Fixd τ.cel ρ' h₄ b := fun b o q ⟨vs, d⟩ => ⟨o, q, not_dict_fields d, not_cell_fields d, fun l => by
      obtain ⟨items, nn, gg⟩ := inv₄.rs.cel.pl b (live_mem l)
      have gg : h₄.get? b = _ := gg
      rw [q] at gg; obtain rfl := Option.some.inj gg
      cases d⟩
    have hli₄ : h₄.IsListIter t a (i + 1) := by
      obtain ⟨o, q1, q2, q3⟩ := hli₃
      exact ⟨o, by rw [hs₄.2 t hee.symm]; exact q1, q2, q3⟩
    obtain ⟨o4, q41, q42, q43⟩ := id hli₄
    have fe := (nliveI e' _ he₄ ⟨_, rfl⟩).evo ev₅₆
    have ft := (nliveI t _ q41 ⟨_, q43⟩).evo ev₅₆
    have fa₄ : Fixd τ.cel ρ' h₄ a := by
      obtain ⟨o, q1, q2, q3, q4⟩ := hfx
      exact ⟨o, keep a o na q1, q2, q3, q4⟩
    have fa := fa₄.evo ev₅₆
    have hpl₆ : s₆.heap.PlainList a us.toArray := by
      obtain ⟨c, q⟩ := hpl'
      exact ⟨c, fa.1 _ (keep a _ na q)⟩
    have hi1 : ((i + 1 : Nat) : Int) = (i : Int) + 1 := by push_cast; rfl
    have fin : ∀ fl' f', Kx fl' τ₆ → FlR s₆.heap ρ₆ f' fl' → R (.ok f') s₆ := fun fl' f' hk' hf' => hR f' fl' s₆ τ₆ ρ₆ hk' hf' inv₆ ev₆'
    cases f with
    | next =>
      cases fl with
      | next =>
        refine ⟨_, Nat.sub_lt_sub_left lt (Nat.lt_succ_self i), exI4 (i + 1) τ₆ ρ₆ (us[i]'(by omega)) ⟨rfl, lt, hk₆, inv₆, ev₆', ?_, ?_, hpl₆, fa.2⟩⟩
        · rw [hi1]; exact fe.1 _ he₄
        · exact ⟨o4, ft.1 _ q41, q42, q43⟩
      | _ => exact hf.elim
    | brk =>
      cases fl with
      | brk => exact fin .next .next hk₆ trivial
      | _ => exact hf.elim
    | ret u =>
      cases fl with
      | ret zz => exact fin (.ret zz) (.ret u) hk₆ hf
      | _ => exact hf.elim
    | cont => cases fl <;> exact hf.elim
  · have : i = xs.length := Nat.le_antisymm hi ge
    subst this
    rw [List.drop_length] at hc
    refine wpAny_pyNext_enum_end hA.hand hen hli hpl'.isList (by simp; omega) fun h₃ hx₃ => ?_
    have keep : ∀ b o, b ∉ [e', t] → s'.heap.get? b = some o → h₃.get? b = some o := fun b o nb q => hx₃ b o (fun c => nb (by rw [c]; exact List.mem_cons_of_mem _ List.mem_cons_self)) q
    have inv₃ : Inv hT os fr env τ ρ' { s' with heap := h₃ } := Ticks.inv (s := s') (s' := { s' with heap := h₃ }) ⟨isT, keep⟩ top rfl rfl inv
    exact wpAny_execs_nil (hR .next .next _ τ ρ' hc trivial inv₃ (Evo.ticks off0 ev' keep))

theorem enum_ok {x y : Str} {xp yp tp p pos apos : Pos} {k : Nat} {e : PySem.Expr} {body : List Stmt} (hA : AOk fr ℓ A) (G : Gr prog w hT os ℓ g mg mb) (SN : ∀ n, Snd prog w A hT os fr g n) (ih : SndS prog w A hT os fr g n) (eo : EOk env) (I : Inv hT os fr env σ ρ s) (hx : okN env.scope x = true) (hy : okN env.scope y = true)
    (hg : env.scope.names.lookup ("enumerate" : Str) = some .globalImplicit) (hpl : plainEs [e] = true)
    (h : wpE g n env.scope e σ fun v σ => (match items σ.cel v with
          | some xs => forE x y (fun τ k => wpSs g n env.scope body τ k) 0 xs (lock σ v) fun f τ => K f (unlock v xs τ)
          | none => False)) : wpAny (model prog w) A (exec (.For (.Tuple [.Name x xp, .Name y yp] k tp) (.Call (.Name "enumerate" p) [e] [] apos) body [] pos) env) (PS hT os fr env σ.cel ρ s.heap K) EF s := by
  refine wpAny_For ?_ (fun _ => rfl)
  refine wpAny_Call_NameR (Calls.Name_function_global eo.kind hg (Calls.loadGlobal_builtin (mg := mg) (mb := mb) (by rw [eo.glob]; exact G.gl.keeps I.gi.keep) G.enum.1 (by rw [eo.bi]; exact G.bl.keeps I.gi.keep) G.enum.2 ?_) (by decide +kernel))
  refine callT hpl ?_
  rw [backTo_cons hpl]
  refine Calls.spliced_cons (wpPE ((SN n).E env σ ρ s e _ eo I h) (fun v s₁ z σ₁ ρ₁ hk rv I₁ ev => Calls.spliced_nil ?_))
  try dsimp only at hk
  split at hk
  · rename_i xs ex
    have ew : walkOf σ₁ z = some xs := by
      unfold items at ex
      split at ex
      · exact ex
      · exact ex
      · cases ex
    obtain ⟨a, us, rfl, hl, rr⟩ := items_ok I₁.rs.cel rv ex
    refine call_enumerate_list hl.isList fun h₂ he hit hsz kp => ?_
    refine wpAny_pyIter_enum he ?_
    -- the addresses
    generalize hE : s₁.heap.objs.size + 1 = e' at he ⊢
    generalize hI : s₁.heap.objs.size = t at he hit ⊢
    have nt : s₁.heap.get? t = none := Heap.get?_none_of_le (Nat.le_of_eq hI)
    have ne' : s₁.heap.get? e' = none := Heap.get?_none_of_le (by rw [← hE]; exact Nat.le_succ _)
    have hee : e' ≠ t := by rw [← hE, hI]; exact Nat.succ_ne_self _
    have ale : ∀ b o, s₁.heap.get? b = some o → b ≠ e' ∧ b ≠ t := fun b o q => ⟨(fun c => by rw [c, ne'] at q; cases q), (fun c => by rw [c, nt] at q; cases q)⟩
    have top : ∀ b ∈ [e', t], hT.get? b = none := fun b hb => by
      cases q : hT.get? b with
      | none => rfl
      | some o =>
        have := ale b o (I₁.gi.keep b o q)
        rcases List.mem_cons.mp hb with rfl | hb
        · exact absurd rfl this.1
        · rw [List.mem_singleton] at hb; exact absurd hb this.2
    have off0 : ∀ b ∈ [e', t], s₁.heap.get? b = none := fun b hb => by
      rcases List.mem_cons.mp hb with rfl | hb
      · exact ne'
      · rw [List.mem_singleton] at hb; subst hb; exact nt
    have inv₀ : Inv hT os fr env (lock σ₁ z) ρ₁ { s₁ with heap := h₂ } := (I₁.lock z).keeps kp rfl rfl
    obtain ⟨cnt, gl⟩ := hl
    have nal : ¬ Live (lock σ₁ z).cel ρ₁ a := by
      cases z with
      | c j =>
        intro l
        obtain ⟨b, e1, e2⟩ := rv
        cases e1
        obtain ⟨i, zs, q1, q2⟩ := l
        obtain rfl := nodup_inj I₁.rs.cel.nd q2 e2
        have q1 : (σ₁.cel.set i none)[i]? = some (some zs) := q1
        rw [List.getElem?_set] at q1; simp at q1
      | d d =>
        intro l
        obtain ⟨as, r, q, nn⟩ := rv
        cases d with
        | list ds => cases r with | list g hc hd r => exact (nn a List.mem_cons_self).1 (live_mem l)
        | _ => cases ex
      | rng _ _ => cases ex
    have hlen := rr.length
    refine enum_loop (s := { s₁ with heap := h₂ }) (R := _) (Kx := fun f τ => K f (unlock z xs τ)) hA ih eo hx hy (I₁.lock z).rs.cel rr rr.length hee (fun c => ?_) top off0 inv₀ (Evo.of_keeps kp) he hit ⟨cnt, kp _ _ gl⟩ ⟨_, kp _ _ gl, not_dict_seq rfl, not_cell_seq rfl, nal⟩ hk
      (fun f fl s' τ ρ' hk' hf i e => ?_)
    · have := ale a _ gl
      rcases List.mem_cons.mp c with rfl | c
      · exact this.1 rfl
      · rw [List.mem_singleton] at c; exact this.2 c
    · obtain ⟨i', e'⟩ := unlock_ok I₁ rv ew i e
      exact ⟨fl, _, ρ', hk', hf, i', ev.up.trans e'⟩
  · cases hk
end
end Mine
end
section
open PySem PySem.W PyProof.Rows PySem.Calls
set_option Elab.async false
namespace Mine
section
variable {prog : Program} {w : World} {A : Around} {hT : Heap} {os : OsState} {fr : List Env} {env : Env} {σ : St} {ρ : List Addr} {s s' : Shared} {g : Gl} {ℓ : Nat} {mg mb : Str → Option Value} {n : Nat} {K : Fl → St → Prop} {R : Result → Shared → Prop}

theorem one_of {α : Type} {ts : List α} (h : (∀ t, ts = [t] → False) → False) : ∃ t, ts = [t] := Classical.byContradiction fun n => h fun t e => n ⟨t, e⟩
theorem del_of {ts : List PySem.Expr} (h : (∀ o i p, ts = [.Subscript o i p] → False) → False) : ∃ o i p, ts = [PySem.Expr.Subscript o i p] := Classical.byContradiction fun n => h fun o i p e => n ⟨o, i, p, e⟩
noncomputable def tupA (g : Gl) (n : Nat) (sc : Scope) (ts : List PySem.Expr) (value : PySem.Expr) (σ : St) (K : Fl → St → Prop) : Option (List Str) → Prop := fun o => match o with
  | some xs => chk (xs.all (okN sc)) (match value with
          | .Tuple es _ _ => wpEs g n sc es σ fun vs σ => (match swapB sc ts es with
            | some b => chk (xs.length == vs.length && sizeB vs.length) (match b with
              | true => K .next (putAll (xs.zip vs).reverse σ)
              | false => K .next (putAll (xs.zip vs) σ))
            | none => False)
          | value => wpE g n sc value σ fun v σ => (match v with
            | .d (.tuple ds) => chk (xs.length == ds.length) (K .next (putAll (xs.zip (ds.map V.d)) σ))
            | _ => False))
  | none => False
noncomputable def augA (g : Gl) (n : Nat) (sc : Scope) (x : Str) (op : Operator) (value : PySem.Expr) (σ : St) (K : Fl → St → Prop) : Option NameKind → Prop := fun o => match o with
  | some .local | some .cell => (match σ.loc.lookup x with
          | some old => chk (okN sc x) <| wpE g n sc value σ fun v σ => opI op old v σ fun r σ => K .next (σ.put x r)
          | none => False)
  | _ => False
noncomputable def enumC (g : Gl) (n : Nat) (sc : Scope) (x y f : Str) (e : PySem.Expr) (b : List Stmt) (σ : St) (K : Fl → St → Prop) : Prop :=
  chk (f == ("enumerate" : Str) && (sc.names.lookup f == some .globalImplicit) && okN sc x && okN sc y && plainEs [e]) (wpE g n sc e σ fun v σ => (match items σ.cel v with
          | some xs => forE x y (fun τ k => wpSs g n sc b τ k) 0 xs (lock σ v) fun f τ => K f (unlock v xs τ)
          | none => False))
theorem for_inv' {sc : Scope} {ts : List PySem.Expr} {it : PySem.Expr} {b : List Stmt} {k : Nat} {p pos : Pos} (f : ∀ x xp y yp f fp e ap, ts = [.Name x xp, .Name y yp] → it = .Call (.Name f fp) [e] [] ap → False) (h : wpS g (n + 1) sc (.For (.Tuple ts k p) it b [] pos) σ K) : False := by
  cases ts with
  | nil => exact h
  | cons a ts => cases a with
    | Name x xp => cases ts with
      | nil => exact h
      | cons a ts => cases a with
        | Name y yp => cases ts with
          | cons _ _ => exact h
          | nil => cases it with
            | Call f' args kws ap => cases f' with
              | Name _ _ => cases args with
                | nil => exact h
                | cons e args => cases args with
                  | cons _ _ => exact h
                  | nil => cases kws with
                    | cons _ _ => exact h
                    | nil => exact f _ _ _ _ _ _ _ _ rfl rfl
              | _ => exact h
            | _ => exact h
        | _ => exact h
    | _ => exact h
theorem for_inv {sc : Scope} {ts : List PySem.Expr} {it : PySem.Expr} {b : List Stmt} {k : Nat} {p pos : Pos} (h : wpS g (n + 1) sc (.For (.Tuple ts k p) it b [] pos) σ K) : ∃ x xp y yp f fp e ap, ts = [.Name x xp, .Name y yp] ∧ it = .Call (.Name f fp) [e] [] ap :=
  Classical.byContradiction fun n => for_inv' (fun _ _ _ _ _ _ _ _ e1 e2 => n ⟨_, _, _, _, _, _, _, _, e1, e2⟩) h
theorem stepS (hA : AOk fr ℓ A) (G : Gr prog w hT os ℓ g mg mb) (SN : ∀ n, Snd prog w A hT os fr g n) (ih : SndS prog w A hT os fr g n) (st : Stmt) (eo : EOk env) (I : Inv hT os fr env σ ρ s) (h : wpS g (n + 1) env.scope st σ K) :
    wpAny (model prog w) A (exec st env) (PS hT os fr env σ.cel ρ s.heap K) EF s := by
  cases st with
  | Expr e pos =>
    cases e with
    | Call f args kws p =>
      have h : wpE g n env.scope (.Call f args kws p) σ fun _ σ => K .next σ := h
      exact wpAny_Expr_any (wpPE ((SN n).E env σ ρ s _ _ eo I h) (fun v s₁ x σ₁ ρ₁ hk _ I₁ ev => PS.next hk I₁ ev.up)) (not_inter eo)
    | _ => exact h.elim
  | Assign ts value pos =>
    obtain ⟨t, rfl⟩ := one_of (ts := ts) (fun f => by cases ts with
      | nil => exact False.elim h
      | cons t ts => cases ts with
        | cons _ _ => exact False.elim h
        | nil => exact f _ rfl)
    cases t with
    | Name x p =>
      have h : chk (okN env.scope x) (wpE g n env.scope value σ fun v σ => K .next (σ.put x v)) := h
      obtain ⟨h1, h⟩ := chk_iff.mp h
      exact name_ok SN eo I h1 h
    | Subscript o i p =>
      have h : wpE g n env.scope value σ fun v σ => wpE g n env.scope o σ fun ov σ => wpE g n env.scope i σ fun iv σ => storeK ov iv v σ fun σ => K .next σ := h
      refine wpAny_Assign_Subscript (wpPE ((SN n).E env σ ρ s value _ eo I h) fun v s₁ x σ₁ ρ₁ hk rv I₁ ev => ?_) (by cases value <;> rfl)
      refine wpPE ((SN n).E env σ₁ ρ₁ s₁ _ _ eo I₁ hk) fun o s₂ y σ₂ ρ₂ hk₂ ro I₂ ev₂ => ?_
      refine wpPE ((SN n).E env σ₂ ρ₂ s₂ _ _ eo I₂ hk₂) fun i s₃ z σ₃ ρ₃ hk₃ ri I₃ ev₃ => ?_
      refine wpAny_mono (storeK_ok (X := Own env) I₃ (ro.evo I₂.rs.cel ev₃) ri (rv.evo I₁.rs.cel (ev₂.trans ev₃)) hk₃) (fun _ s₄ ⟨σ₄, ρ₄, hk₄, I₄, ev₄⟩ => ?_) fun _ _ q => q
      exact PS.next hk₄ I₄ (((ev.trans ev₂).trans ev₃).up.trans ev₄)
    | Tuple ts k p =>
      have h : tupA g n env.scope ts value σ K (nms? ts) := h
      cases hn : nms? ts with
      | none => rw [hn] at h; exact False.elim h
      | some xs =>
        rw [hn] at h
        obtain ⟨h1, h⟩ := chk_iff.mp h
        have tf : ∀ value, (∀ es k p, value ≠ .Tuple es k p) → (wpE g n env.scope value σ fun v σ => (match v with
            | .d (.tuple ds) => chk (xs.length == ds.length) (K .next (putAll (xs.zip (ds.map V.d)) σ))
            | _ => False)) → wpAny (model prog w) A (exec (.Assign [.Tuple ts k p] value pos) env) (PS hT os fr env σ.cel ρ s.heap K) EF s := fun value hv h => tupleFrom_ok hA SN eo I hn h1 hv h
        cases value with
        | Tuple es k' p' => exact tuple_ok hA SN eo I hn h1 h
        | _ => exact tf _ (fun _ _ _ e => PySem.Expr.noConfusion e) h
    | _ => exact False.elim h
  | AugAssign t op value pos =>
    cases t with
    | Name x p =>
      have key : (match σ.loc.lookup x with | some old => chk (okN env.scope x) (wpE g n env.scope value σ fun v σ => opI op old v σ fun r σ => K .next (σ.put x r)) | none => False) → wpAny (model prog w) A (exec (.AugAssign (.Name x p) op value pos) env) (PS hT os fr env σ.cel ρ s.heap K) EF s := fun h => by
        split at h
        · rename_i old e
          obtain ⟨h1, h⟩ := chk_iff.mp h
          refine wpAny_AugAssign_Name (load_ok eo.kind I (kind_okN h1) e fun ov rv => ?_)
          refine wpPE ((SN n).E env σ ρ s value _ eo I h) (fun v s₁ y σ₁ ρ₁ hk rv₁ I₁ ev => ?_)
          refine wpPE (opI_ok I₁ (rv.evo I.rs.cel ev) rv₁ hk) (fun r s₂ z σ₂ ρ₂ hk₂ rr I₂ ev₂ => ?_)
          exact wpAny_mono (store_ok eo.kind I₂ rr (kind_okN h1)) (fun _ s₃ ⟨I₃, ev₃⟩ => PS.next hk₂ I₃ ((ev.trans ev₂).up.trans ev₃)) fun _ _ q => q
        · cases h
      have h : augA g n env.scope x op value σ K (env.scope.names.lookup x) := h
      cases e : env.scope.names.lookup x with
      | none => rw [e] at h; exact False.elim h
      | some k =>
        rw [e] at h
        cases k with
        | «local» => exact key h
        | cell => exact key h
        | _ => exact False.elim h
    | _ => exact h.elim
  | If t b o pos =>
    have h : wpT g n env.scope t σ fun c σ => br c (wpSs g n env.scope b σ K) (wpSs g n env.scope o σ K) := h
    refine wpAny_If (wpPT ((SN n).T env σ ρ s t _ eo I h) (fun c s₁ σ₁ ρ₁ hk I₁ ev => ?_))
    cases c with
    | true => exact wpPSa ev.up (ih.Ss env σ₁ ρ₁ s₁ b K eo I₁ hk)
    | false => exact wpPSa ev.up (ih.Ss env σ₁ ρ₁ s₁ o K eo I₁ hk)
  | While t b o pos =>
    cases o with
    | nil =>
      have h : ∃ m, whileN (fun τ k => wpT g n env.scope t τ fun c τ => br c (wpSs g n env.scope b τ fun f τ => k (some f) τ) (k none τ)) m σ K := h
      obtain ⟨m, h⟩ := h
      refine wpAny_While (whileN_ok (s₀ := s) (cel₀ := σ.cel) (ρ₀ := ρ) (fun σ ρ s k I h => ?_) (fun f fl s' τ ρ' hk hf I' ev _ => ⟨fl, τ, ρ', hk, hf, I', ev⟩) m I (Evo.refl ..) h)
      refine wpPT ((SN n).T env σ ρ s t _ eo I h) (fun c s₁ σ₁ ρ₁ hk I₁ ev => ⟨σ₁, ρ₁, I₁, ev, ?_⟩)
      cases c with
      | true => exact ih.Ss env σ₁ ρ₁ s₁ b _ eo I₁ hk
      | false => exact hk
    | cons _ _ => exact h.elim
  | For t it b o pos =>
    cases o with
    | nil =>
      cases t with
      | Name x p =>
        have h : chk (okN env.scope x) (wpE g n env.scope it σ fun v σ => (match walkOf σ v with
          | some xs => forL (fun v τ k => wpSs g n env.scope b (τ.put x v) k) xs (lock σ v) fun f τ => K f (unlock v xs τ)
          | none => False)) := h
        obtain ⟨h1, h⟩ := chk_iff.mp h
        exact for_ok hA SN ih eo I h1 h
      | Tuple ts k p =>
        obtain ⟨x, xp, y, yp, f, fp, e, ap, rfl, rfl⟩ := for_inv h
        have h : enumC g n env.scope x y f e b σ K := h
        have h' := (chk_iff.mp h).2
        have h1 := (chk_iff.mp h).1
        simp only [Bool.and_eq_true, beq_iff_eq] at h1
        obtain ⟨⟨⟨⟨rfl, h2⟩, h3⟩, h4⟩, h5⟩ := h1
        exact enum_ok hA G SN ih eo I h3 h4 h2 h5 h'
      | _ => exact False.elim h
    | cons _ _ => exact h.elim
  | Return v pos =>
    cases v with
    | none => exact wpAny_Return_none ⟨.ret (.d .none), σ, ρ, h, .none, I, Evo.refl ..⟩
    | some e => exact wpAny_Return_some (wpPE ((SN n).E env σ ρ s e _ eo I h) (fun v s₁ x σ₁ ρ₁ hk rv I₁ ev => ⟨.ret x, σ₁, ρ₁, hk, rv, I₁, ev.up⟩))
  | Break pos => exact wpAny_Break ⟨.brk, σ, ρ, h, trivial, I, Evo.refl ..⟩
  | Assert t m pos =>
    have h : wpT g n env.scope t σ fun c σ => chk c (K .next σ) := h
    refine wpAny_Assert_holds (wpPT ((SN n).T env σ ρ s t _ eo I h) (fun c s₁ σ₁ ρ₁ hk I₁ ev => ?_))
    obtain ⟨h1, h2⟩ := chk_iff.mp hk
    exact ⟨h1, PS.next h2 I₁ ev.up⟩
  | Delete ts pos =>
    obtain ⟨o, i, p, rfl⟩ := del_of (ts := ts) (fun f => by cases ts with
      | nil => exact False.elim h
      | cons t ts => cases ts with
        | cons _ _ => exact False.elim h
        | nil => cases t with
          | Subscript o i p => exact f o i p rfl
          | _ => exact False.elim h)
    have h : wpE g n env.scope o σ fun ov σ => wpE g n env.scope i σ fun iv σ => delK ov iv σ fun σ => K .next σ := h
    · refine wpAny_Delete (wpAny_deleteEach_cons ?_)
      rw [arm_delete_Subscript]
      refine wpAny_bind (wpPE ((SN n).E env σ ρ s _ _ eo I h) (fun o s₁ x σ₁ ρ₁ hk ro I₁ ev => ?_))
      refine wpAny_bind (wpAny_holding (wpPE ((SN n).E env σ₁ ρ₁ s₁ _ _ eo I₁ hk) (fun i s₂ y σ₂ ρ₂ hk₂ ri I₂ ev₂ => ?_)))
      refine wpAny_bind (wpAny_standAt (wpAny_bind (wpAny_holding (wpAny_mono (delK_ok (X := Own env) I₂ (ro.evo I₁.rs.cel ev₂) ri hk₂) (fun _ s₃ ⟨σ₃, ρ₃, hk₃, I₃, ev₃⟩ => ?_) fun _ _ q => q))))
      exact wpAny_release (wpAny_deleteEach_nil (PS.next hk₃ I₃ ((ev.trans ev₂).up.trans ev₃)))
  | _ => exact h.elim

theorem sndS_all (hA : AOk fr ℓ A) (G : Gr prog w hT os ℓ g mg mb) : ∀ n, SndS prog w A hT os fr g n
  | 0 => ⟨fun _ _ _ _ _ _ _ _ h => h.elim, fun _ _ _ _ _ _ _ _ h => h.elim⟩
  | n + 1 =>
    have ih := sndS_all hA G n
    ⟨fun env σ ρ s st K eo I h => stepS hA G (snd_all hA G) ih st eo I h, fun env σ ρ s ss K eo I h => stepSs ih ss eo I h⟩
end
end Mine
end
section
open PySem PySem.W PyProof.Rows PySem.Calls
set_option Elab.async false
namespace Mine
mutual
theorem nodict_flat : ∀ {x : PyData}, noList x = true → noDict x = true
  | .none, _ | .bool _, _ | .int _, _ | .str _, _ => rfl
  | .tuple xs, q => nodicts_flat (xs := xs) q
  | .list _, q => Bool.noConfusion q
  | .dict _, q => Bool.noConfusion q
theorem nodicts_flat : ∀ {xs : List PyData}, noLists xs = true → noDicts xs = true
  | [], _ => rfl
  | _ :: _, q => by
    have q' := Bool.and_eq_true_iff.mp q
    exact Bool.and_eq_true_iff.mpr ⟨nodict_flat q'.1, nodicts_flat q'.2⟩
end
theorem reads_flat {h : Heap} {v : Value} {x : PyData} {as : List Addr} (r : Reads h v x as) (q : noList x = true) : as = [] :=
  (reads_ind (h := h) (P := fun _ x as => noList x = true → as = []) (Q := fun _ xs as => noLists xs = true → as = [])
    (fun _ => rfl) (fun _ _ => rfl) (fun _ _ _ => rfl) (fun _ _ _ => rfl) (fun _ _ _ _ _ _ q => Bool.noConfusion q) (fun _ _ _ _ ih => ih) (fun _ => rfl)
    (fun _ _ ih ih' q => by
      have q' := Bool.and_eq_true_iff.mp q
      rw [ih q'.1, ih' q'.2]; rfl)).1 r (nodict_flat q) q
theorem flat_all {h : Heap} {ρ : List Addr} {cel : List (Option (List V))} : ∀ {vs : List Value} {xs : List V} {ds : List PyData} {n : Nat}, RVs h ρ vs xs → xs.all flatV = true → toDs cel n xs = some ds → ReadsAll h vs ds [] ∧ noDicts ds = true
  | [], [], ds, n, _, _, e => by
    obtain rfl : [] = ds := by simpa [toDs, mapO] using e
    exact ⟨.nil, rfl⟩
  | v :: vs, x :: xs, ds, n, r, f, e => by
    rw [List.all_cons, Bool.and_eq_true] at f
    cases x with
    | d x =>
      rw [toDs_cons] at e
      have e1 : toD cel n (.d x) = some x := by cases n <;> simp [toD]
      rw [e1] at e
      simp only at e
      split at e
      · rename_i l q
        obtain rfl : x :: l = ds := by simpa using e
        obtain ⟨r2, n2⟩ := flat_all r.2 f.2 q
        obtain ⟨as, r1, n1, _⟩ := r.1
        obtain rfl := reads_flat r1 f.1
        exact ⟨.cons r1 r2, by simp [noDicts, n1, n2]⟩
      · cases e
    | _ => exact Bool.noConfusion f.1
  | [], _ :: _, _, _, r, _, _ => r.elim
  | _ :: _, [], _, _, r, _, _ => r.elim

theorem bindL_lookup {kindOf : Str → Option NameKind} : ∀ {l : List (Str × Value)} {m : Str → Option Value} {x : Str}, (l.map (·.1)).Nodup → kindOf x = some .local → bindL kindOf l m x = (l.lookup x).or (m x)
  | [], _, _, _, _ => rfl
  | (k, v) :: r, m, x, nd, hk => by
    have nd' := List.nodup_cons.mp nd
    unfold bindL
    rw [bindL_lookup nd'.2 hk, List.lookup_cons]
    cases e : x == k with
    | true =>
      have e := eq_of_beq e
      subst e
      have : r.lookup x = none := by
        cases q : r.lookup x with
        | none => rfl
        | some u => exact absurd (List.mem_map.mpr ⟨_, mem_of_lookup q, rfl⟩) nd'.1
      rw [this, if_pos hk]; simp
    | false =>
      have ne : x ≠ k := beq_eq_false_iff_ne.mp e
      congr 1
      split
      · simp [ne]
      · rfl
theorem bindC_lookup {kindOf : Str → Option NameKind} : ∀ {l : List (Str × Value)} {m : Str → Option Value} {x : Str}, (l.map (·.1)).Nodup → kindOf x = some .cell → bindC kindOf l m x = (l.lookup x).or (m x)
  | [], _, _, _, _ => rfl
  | (k, v) :: r, m, x, nd, hk => by
    have nd' := List.nodup_cons.mp nd
    unfold bindC
    rw [bindC_lookup nd'.2 hk, List.lookup_cons]
    cases e : x == k with
    | true =>
      have e := eq_of_beq e
      subst e
      have : r.lookup x = none := by
        cases q : r.lookup x with
        | none => rfl
        | some u => exact absurd (List.mem_map.mpr ⟨_, mem_of_lookup q, rfl⟩) nd'.1
      rw [this, hk, if_neg (by decide)]; simp
    | false =>
      have ne : x ≠ k := beq_eq_false_iff_ne.mp e
      congr 1
      split
      · rfl
      · simp [ne]
theorem cells_key : ∀ {names : List (Str × NameKind)} {n : Nat} {acc : List (Str × Addr)} {x : Str}, ((x, NameKind.cell) ∈ names ∨ x ∈ acc.map (·.1)) → x ∈ (cellsFrom n names acc).map (·.1)
  | [], _, _, _, h => h.resolve_left (fun q => nomatch q)
  | (k, kd) :: r, n, acc, x, h => by
    unfold cellsFrom
    split
    · rename_i c
      refine cells_key ?_
      rcases h with h | h
      · rcases List.mem_cons.mp h with e | h
        · exact .inr (by rw [(Prod.mk.inj e).1]; exact List.mem_cons_self)
        · exact .inl h
      · exact .inr (List.mem_cons_of_mem _ h)
    · rename_i c
      refine cells_key ?_
      rcases h with h | h
      · rcases List.mem_cons.mp h with e | h
        · exact absurd (by rw [← (Prod.mk.inj e).2]; rfl) c
        · exact .inl h
      · exact .inr h
theorem cells_kind : ∀ {names : List (Str × NameKind)} {n : Nat} {acc : List (Str × Addr)} {x : Str}, x ∈ (cellsFrom n names acc).map (·.1) → (x, NameKind.cell) ∈ names ∨ x ∈ acc.map (·.1)
  | [], _, _, _, h => .inr h
  | (k, kd) :: r, n, acc, x, h => by
    unfold cellsFrom at h
    split at h
    · rename_i c
      have c := eq_of_beq c
      rcases cells_kind h with h | h
      · exact .inl (List.mem_cons_of_mem _ h)
      · rcases List.mem_cons.mp h with e | h
        · exact .inl (by rw [e, c]; exact List.mem_cons_self)
        · exact .inr h
    · rcases cells_kind h with h | h
      · exact .inl (List.mem_cons_of_mem _ h)
      · exact .inr h

section
variable {prog : Program} {w : World} {hT : Heap} {os : OsState} {g : Gl} {ℓ : Nat} {mg mb : Str → Option Value}
/-- what a function object must be -/
structure FdOk (hT : Heap) (fd : FuncData) (sc : Scope) (ps : List Str) (body : List Stmt) (a : Addr) : Prop where
  at_ : ∃ o, hT.get? a = some o ∧ o.data = .func fd
  cd : hT.CodeRec fd.code fd.qualname
  body : fd.body = .stmts body
  clo : fd.closure = []
  glob : fd.globals = mainGlobals
  bi : fd.builtins = builtinsNs
  scope : fd.scope = sc
  bind : ∀ vals : List Value, vals.length = ps.length → bindArgs fd ⟨vals, []⟩ = pure (ps.zip vals)

theorem fnSc_parts {sc : Scope} {ps : List Str} (h : fnSc sc ps = true) : sc.kind = .function ∧ sc.isGenerator = false ∧ sc.isCoroutine = false ∧ ps.Nodup ∧ (sc.names.map (·.1)).Nodup ∧ ∀ x ∈ ps, okN sc x = true := by
  unfold fnSc at h
  simp only [Bool.and_eq_true, Bool.not_eq_true', beq_iff_eq, List.all_eq_true] at h
  obtain ⟨⟨⟨⟨⟨h1, h2⟩, h3⟩, h4⟩, h5⟩, h6⟩ := h
  exact ⟨h1, h2, h3, nodupB_iff h4, nodupB_iff h5, h6⟩
theorem zip_keys {α : Type} : ∀ {ps : List Str} {vs : List α}, ps.length = vs.length → (ps.zip vs).map (·.1) = ps
  | [], [], _ => rfl
  | p :: ps, v :: vs, h => by rw [List.zip_cons_cons, List.map_cons, zip_keys (by simpa using h)]
  | [], _ :: _, h => by simp at h
  | _ :: _, [], h => by simp at h
theorem zip_lookup {h : Heap} {ρ : List Addr} : ∀ {ps : List Str} {vs : List Value} {xs : List V} {x : Str} {y : V}, ps.length = vs.length → RVs h ρ vs xs → (ps.zip xs).lookup x = some y → ∃ v, (ps.zip vs).lookup x = some v ∧ RV h ρ v y
  | [], _, _, _, _, _, _, e => by simp at e
  | p :: ps, v :: vs, z :: xs, x, y, hl, r, e => by
    rw [List.zip_cons_cons, List.lookup_cons] at e
    rw [List.zip_cons_cons, List.lookup_cons]
    cases c : x == p with
    | true =>
      rw [c] at e
      obtain rfl : z = y := by simpa using e
      exact ⟨v, rfl, r.1⟩
    | false => rw [c] at e; exact zip_lookup (by simpa using hl) r.2 e
  | p :: ps, [], _, _, _, hl, _, _ => by simp at hl
  | _ :: _, _ :: _, [], _, _, _, r, _ => r.elim

theorem fn_enter2 {fd : FuncData} {sc : Scope} {ps : List Str} {body : List Stmt} {a : Addr} {φ : Spec} (lim : hT.NoLimit) (F : FdOk hT fd sc ps body a) (hsc : fnSc sc ps = true) (hlen : ∀ ds K, φ ds K → ps.length = ds.length)
    (hb : ∀ (fr : List Env) (env : Env) (A : Around) (s : Shared) (ds : List PyData) (K : PyData → Prop), (∃ out, fr = env :: out) → env.frame = some env.locals → AOk fr ℓ A → EOk env → env.scope = sc → Inv hT os fr env ⟨ps.zip (ds.map V.d), []⟩ [] s → φ ds K → wpAny (model prog w) A (execs body env) (PS hT os fr env [] [] s.heap (finK K)) EF s) :
    FnOk prog w hT os (ℓ + 1) φ a := by
  intro fr A s vs ds as K hA gi fro r nd pl h
  have h1 : ps.length = ds.length := hlen ds K h
  obtain ⟨c1, c2, c3, c4, c5, c6⟩ := fnSc_parts hsc
  obtain ⟨o, ho, hd⟩ := F.at_
  have rv₀ : RVs s.heap [] vs (ds.map V.d) := RVs.ofAll r nd fun b hb => ⟨(fun q => nomatch q), pl b hb⟩
  have hl : ps.length = vs.length := by rw [rv₀.length, List.length_map]; exact h1
  have hkeys : ((ps.zip vs).map (·.1)).Nodup := by rw [zip_keys hl]; exact c4
  have hscope := F.scope
  have kinds : ∀ x, x ∈ ps → sc.names.lookup x = some .local ∨ sc.names.lookup x = some .cell := fun x hx => by
    have := c6 x hx
    unfold okN at this
    rcases Bool.or_eq_true_iff.mp this with q | q
    · exact .inl (eq_of_beq q)
    · exact .inr (eq_of_beq q)
  have cellKey : ∀ m x, sc.names.lookup x = some .cell → ∃ c, (cellsFrom m sc.names []).lookup x = some c := fun m x e => lookup_of_key (cells_key (.inl (mem_of_lookup e)))
  refine wpAny_call (codeAny_call_cells (body := body) (binds := ps.zip vs) (by have := hA.deep; show A.depth < 1000; omega) (gi.keep _ _ ho) hd (lim.keeps gi.keep) ?_ F.body (F.bind vs hl.symm) F.clo (fun x hx => ?_) (fun s₁ X => ?_) (by rw [hscope]; exact c3) (by rw [hscope]; exact c2) (by rw [hscope]; exact c1))
  · exact F.cd.keeps gi.keep
  · have hx' : x.1 ∈ ps := by rw [← zip_keys hl]; exact List.mem_map.mpr ⟨x, hx, rfl⟩
    rw [hscope]
    rcases kinds x.1 hx' with q | q
    · exact .inl q
    · obtain ⟨c, e⟩ := cellKey (s.heap.objs.size + 1) x.1 q
      exact .inr ⟨q, by rw [e]; rfl⟩
  · generalize hE : callEnvC fd s.heap.objs.size a = env at X ⊢
    have eS : env.scope = sc := by rw [← hE]; exact hscope
    have eL : env.locals = s.heap.objs.size := by rw [← hE]; rfl
    have eC : env.cells = cellsFrom (s.heap.objs.size + 1) sc.names [] := by rw [← hE, ← hscope]; rfl
    have eF : env.frame = some s.heap.objs.size := by rw [← hE]; rfl
    have kOf : ∀ x, env.kindOf x = sc.names.lookup x := fun x => by unfold Env.kindOf; rw [eS]
    have eo : EOk env := by
      refine ⟨by rw [eS]; exact c1, by rw [← hE]; exact F.glob, by rw [← hE]; exact F.bi, fun x c e => ?_⟩
      rw [eC] at e
      rcases cells_kind (List.mem_map.mpr ⟨_, mem_of_lookup e, rfl⟩) with q | q
      · rw [kOf]; exact lookup_unique c5 q
      · simp at q
    have keep := X.toInCall.keep
    have fresh : ∀ b, s.heap.objs.size ≤ b → s.heap.get? b = none := fun b hb => Heap.get?_none_of_le hb
    have top : ∀ b, s.heap.get? b = none → hT.get? b = none := fun b e => by
      cases q : hT.get? b with
      | none => rfl
      | some o => rw [gi.keep b o q] at e; cases e
    have ownF : ∀ b, Own env b → s.heap.get? b = none := fun b hb => by
      rcases hb with rfl | ⟨x, e⟩
      · exact fresh _ (by rw [eL]; exact Nat.le_refl _)
      · have := X.above x b (mem_of_lookup e)
        rw [eL] at this
        exact fresh b (Nat.le_of_lt this)
    obtain ⟨h', tk, es⟩ := X.toInCall.same
    have hg : s₁.gens = s.gens := by rw [es]
    have hos : s₁.os = s.os := by rw [es]
    have rv₁ : RVs s₁.heap [] vs (ds.map V.d) := by
      have c0 : Cel [] [] s.heap := ⟨rfl, List.nodup_nil, (fun _ q => nomatch q), (fun k xs e => by simp at e)⟩
      exact rv₀.keeps c0 keep
    have inv : Inv hT os (env :: fr) env ⟨ps.zip (ds.map V.d), []⟩ [] s₁ := by
      refine ⟨⟨⟨⟨_, X.toInCall.ns, fun x y e k => ?_⟩, fun x y e k => ?_, fun x k => ?_, X.apart⟩, ⟨rfl, List.nodup_nil, (fun _ q => nomatch q), (fun k xs e => by simp at e)⟩⟩, ⟨fun b o q => keep b o (gi.keep b o q), hg ▸ gi.bare, hos.trans gi.os⟩, (fun _ q => nomatch q), ?_, fun b hb => top b (ownF b hb)⟩
      · obtain ⟨v, e1, e2⟩ := zip_lookup hl rv₁ e
        exact ⟨v, by rw [bindL_lookup hkeys k, e1]; rfl, e2⟩
      · obtain ⟨v, e1, e2⟩ := zip_lookup hl rv₁ e
        obtain ⟨c, e3⟩ := cellKey (s.heap.objs.size + 1) x (by rw [← kOf]; exact k)
        rw [← eC] at e3
        refine ⟨c, v, e3, ?_, e2⟩
        have := X.cell x c e3
        rw [bindC_lookup hkeys k, e1] at this
        exact this
      · obtain ⟨c, e3⟩ := cellKey (s.heap.objs.size + 1) x (by rw [← kOf]; exact k)
        rw [← eC] at e3
        exact ⟨c, _, e3, X.cell x c e3⟩
      · intro e he
        rcases List.mem_cons.mp he with rfl | he
        · obtain ⟨o', g', d'⟩ := ns_isDict X.toInCall.ns
          rw [eL] at g'
          exact ⟨by rw [eo.kind]; decide, _, o', eF, top _ (fresh _ (Nat.le_refl _)), g', d'⟩
        · obtain ⟨q1, L, o', q2, q3, q4, q5⟩ := fro e he
          exact ⟨q1, L, o', q2, q3, keep _ _ q4, q5⟩
    have hA' : AOk (env :: fr) ℓ (A.deeper env) := by
      have := hA.deep; have := hA.unit
      refine ⟨hA.hand, ?_, ?_, ?_⟩
      · show A.frames.map (env :: ·) = _
        rw [hA.frm]; rfl
      · show A.depth + 1 + ℓ ≤ 900; omega
      · show A.units + 3 + 4 * ℓ ≤ 5000; omega
    refine wpAny_mono (hb (env :: fr) env _ s₁ ds K ⟨fr, rfl⟩ (by rw [eF, eL]) hA' eo eS inv h) (fun f s₂ ⟨fl, σ₂, ρ₂, hk, hf, I₂, ev⟩ => ?_) fun _ _ q => q.elim
    have ext : Ext noX noX s.heap s₂.heap := (Ext.of_keeps (P := noX) (X := noX) keep).comp ev.ext (fun b o _ ⟨k, xs, q, _⟩ => by simp at q) fun b o q own => by rw [ownF b own] at q; cases q
    have rf : ∀ b ∈ ρ₂, s.heap.get? b = none := fun b hb => by
      obtain ⟨new, rfl, hn⟩ := ev.pre
      exact fresh_back (Ext.of_keeps (P := noX) (X := noX) keep) (hn b (by simpa using hb))
    cases f with
    | next =>
      cases fl with
      | next => exact ⟨.none, [], hk, .none, rfl, (fun _ q => nomatch q), ext, I₂.gi⟩
      | _ => exact hf.elim
    | brk => cases fl <;> first | exact hk.elim | exact hf.elim
    | cont => cases fl <;> exact hf.elim
    | ret v =>
      cases fl with
      | ret x =>
        dsimp only [finK] at hk
        obtain ⟨ho, hk⟩ := chk_iff.mp hk
        split at hk
        · rename_i d ed
          cases x with
          | d y =>
            obtain rfl : y = d := by simpa [toD] using ed
            obtain ⟨as', rd, ndd, _⟩ := hf
            obtain rfl := reads_flat rd ho
            exact ⟨y, [], hk, rd, ndd, (fun _ q => nomatch q), ext, I₂.gi⟩
          | c k =>
            obtain ⟨b, rfl, ek⟩ := hf
            simp only [toD] at ed
            split at ed
            · rename_i xs q
              split at ed
              · rename_i l ql
                obtain rfl : PyData.list l = d := by simpa using ed
                have ho : (match σ₂.cel[k]? with | some (some xs) => xs.all flatV | _ => false) = true := ho
                rw [q] at ho
                obtain ⟨b', us, e1, ⟨m, e2⟩, e3⟩ := I₂.rs.cel.here k xs q
                rw [ek] at e1
                obtain rfl : b = b' := by simpa using e1
                obtain ⟨ra, na⟩ := flat_all e3 ho ql
                refine ⟨.list l, [b], hk, .list e2 rfl rfl (by simpa using ra), na, fun z hz => ?_, ext, I₂.gi⟩
                rw [List.mem_singleton] at hz; subst hz
                exact ⟨rf _ (List.mem_of_getElem? ek), _, m, e2⟩
              · cases ed
            · cases ed
          | rng _ _ => cases ho
        · cases hk
      | _ => exact hf.elim
theorem fn_of {fd : FuncData} {sc : Scope} {ps : List Str} {body : List Stmt} {a : Addr} {n : Nat} (G : Gr prog w hT os ℓ g mg mb) (F : FdOk hT fd sc ps body a) (hsc : fnSc sc ps = true) : FnOk prog w hT os (ℓ + 1) (wpF g n sc ps body) a := by
  refine fn_enter2 G.lim F hsc (fun ds K h => ?_) (fun fr env A s ds K _ _ hA eo es I h => ?_)
  · have h1 := (chk_iff.mp h).1
    simpa using h1
  · have h2 := (chk_iff.mp h).2
    rw [← es] at h2
    exact (sndS_all hA G n).Ss env _ [] s body _ eo I h2
end
/-- an expression's two first parts and its place; a statement's value, body, place and targets -/
noncomputable def ev : PySem.Expr → PySem.Expr × PySem.Expr × Pos
  | .Call f (a :: _) _ p => (a, f, p)
  | .Call f [] _ p => (f, f, p)
  | .Compare l _ (r :: _) p => (l, r, p)
  | .BinOp l _ r p => (l, r, p)
  | .Subscript o i p => (o, i, p)
  | .Attribute o a p => (o, .Name a p, p)
  | .ListComp e a b p => (e, .ListComp e a b p, p)
  | .Name x p => (.Name x p, .Name x p, p)
  | e => (e, e, ⟨0, 0, 0, 0⟩)
noncomputable def sv4 : Stmt → PySem.Expr × List Stmt × Pos × List PySem.Expr
  | .Assign ts v p => (v, [], p, ts)
  | .Return (some v) p => (v, [], p, [])
  | .If t b _ p => (t, b, p, [])
  | .For _ v b _ p => (v, b, p, [])
  | .While t b _ p => (t, b, p, [])
  | .Try b _ _ _ p => (.Constant .none 0 p, b, p, [])
  | _ => (.Constant .none 0 ⟨0, 0, 0, 0⟩, [], ⟨0, 0, 0, 0⟩, [])
noncomputable def tgt (s : Stmt) : PySem.Expr := match (sv4 s).2.2.2 with | t :: _ => t | [] => .Constant .none 0 ⟨0, 0, 0, 0⟩
noncomputable def posN (e : PySem.Expr) : Pos := (ev e).2.2
end Mine
end
section
open PySem PySem.W PyProof.Rows PySem.Calls
set_option Elab.async false
namespace Mine
noncomputable abbrev P2 : Program := PySem.Challenge.pw_wr0041_02
noncomputable def bodyOf (p : Program) (i : Nat) : List Stmt := match p.main.body[i]? with | some (.FunctionDef _ _ b _ _ _ _ _ _ _) => b | _ => []
noncomputable def scOf (p : Program) (i : Nat) : Scope := match p.main.body[i]? with | some (.FunctionDef _ _ _ _ _ _ s _ _ _) => s | _ => default
noncomputable def psOf (p : Program) (i : Nat) : List Str := match p.main.body[i]? with | some (.FunctionDef _ a _ _ _ _ _ _ _ _) => a.args.map (·.arg) | _ => []
noncomputable def nameOf (p : Program) (i : Nat) : Str := match p.main.body[i]? with | some (.FunctionDef n _ _ _ _ _ _ _ _ _) => n | _ => "?"
end Mine
end
section
open PySem PySem.W PyProof.Rows PySem.Calls
set_option Elab.async false
namespace Mine
noncomputable def con2 : Str → Option PyData := fun x => match x == ("ELLIPSIS_MARKER" : Str) with | true => some (.str "...") | false => none
noncomputable def mkGl (l : List (Str × Spec)) : Gl := ⟨fun x => l.lookup x, con2⟩
noncomputable def G0 : Gl := mkGl []
/-! _ellipsis_match -/
noncomputable def ellFor (got : Str) (en : Int) : List Str → Int → (Bool → Prop) → Prop
  | [], _, K => K true
  | w :: r, st, K => chk (decide (0 ≤ st) && decide (st ≤ got.length) && decide (0 ≤ en) && decide (en ≤ got.length) && sizeB got.length)
      (br (decide (firstAt got w st.toNat en.toNat < 0)) (K false) (chk (sizeB w.length) (ellFor got en r (firstAt got w st.toNat en.toNat + w.length) K)))
noncomputable def ellMid (got : Str) (ws : List Str) (st en : Int) (K : Bool → Prop) : Prop := br (decide (en < st)) (K false) (ellFor got en ws st K)
noncomputable def ellBack (got : Str) (ws : List Str) (st : Int) (K : Bool → Prop) : Prop := match ws.getLast? with
  | none => False
  | some wl => chk (sizeB wl.length) (br (!(wl.cps.toList.isEmpty)) (br (Txt.endswith got wl) (chk (sizeB wl.length) (ellMid got ws.dropLast st (got.length - wl.length) K)) (K false)) (ellMid got ws st got.length K))
noncomputable def ellK (got : Str) (ws : List Str) (K : Bool → Prop) : Prop := chk (sizeB got.length) (match ws with
  | [] => False
  | w0 :: r => chk (sizeB w0.length) (br (!(w0.cps.toList.isEmpty)) (br (Txt.startswith got w0) (chk (sizeB w0.length) (ellBack got r w0.length K)) (K false)) (ellBack got (w0 :: r) 0 K)))
noncomputable def ellRest (g : Gl) (want got : Str) (ws : List Str) (K : PyData → Prop) : Prop := wpSs g 28 (scOf P2 2) ((bodyOf P2 2).drop 2) ⟨[("want", .d (.str want)), ("got", .d (.str got)), ("ws", .c 0)], [some (ws.map fun z => .d (.str z))]⟩ (finK K)
theorem ell_1 (want got : Str) (K : PyData → Prop) : wpF G0 30 (scOf P2 2) (psOf P2 2) (bodyOf P2 2) [.str want, .str got] K =
    br (!Txt.contains want "...") (K (.bool (want.cps.toList == got.cps.toList))) (chk (sizeB (want.length + 2) && (Str.length "..." != 0)) (ellRest G0 want got (Txt.split want "...") K)) := by kernel_rfl!
theorem ell_2 (want got a b : Str) (K : PyData → Prop) : ellRest G0 want got [a, b] K = ellK got [a, b] fun c => K (.bool c) := by kernel_rfl!
theorem ell_3 (want got a b c : Str) (K : PyData → Prop) : ellRest G0 want got [a, b, c] K = ellK got [a, b, c] fun c => K (.bool c) := by kernel_rfl!
theorem ell_4 (want got a b c d : Str) (K : PyData → Prop) : ellRest G0 want got [a, b, c, d] K = ellK got [a, b, c, d] fun c => K (.bool c) := by kernel_rfl!
end Mine
end
section
open PySem PySem.W PyProof.Rows PySem.Calls
set_option Elab.async false
namespace Mine
noncomputable def whOf (b : List Stmt) (i : Nat) : PySem.Expr × List Stmt := match b[i]? with | some s => ((sv4 s).1, (sv4 s).2.1) | none => (.Constant .none 0 ⟨0,0,0,0⟩, [])
/-! parse257 -/
noncomputable def tP (τ : St) (k : Option Fl → St → Prop) : Prop := wpT G0 23 (scOf P2 6) (whOf (bodyOf P2 6) 5).1 τ fun c τ => br c (wpSs G0 23 (scOf P2 6) (whOf (bodyOf P2 6) 5).2 τ fun f τ => k (some f) τ) (k none τ)
noncomputable def stP (resp dir : Str) (i : Int) : List (Str × V) := [("resp", .d (.str resp)), ("dirname", .d (.str dir)), ("i", .d (.int i)), ("n", .d (.int resp.length))]
noncomputable def stC (resp dir : Str) (i : Int) (c : Str) : List (Str × V) := stP resp dir i ++ ([("c", .d (.str c))] : List (Str × V))
noncomputable def xP (resp dir : Str) (i : Int) (τ : St) (k : Option Fl → St → Prop) : Prop :=
  br (decide (i < resp.length)) (chk (smallI i) (match Txt.charAt resp i with
    | none => False
    | some c => br ([c] == [34])
      (br (decide ((resp.length : Int) ≤ i + 1)) (k (some .brk) ⟨stC resp dir (i + 1) (mkS [c]), []⟩)
        (chk (smallI (i + 1)) (match Txt.charAt resp (i + 1) with
          | none => False
          | some d => br (!([d] == [34])) (k (some .brk) ⟨stC resp dir (i + 1) (mkS [c]), []⟩)
            (chk (sizeB (dir.length + 1)) (k (some .next) ⟨stC resp (mkS (dir.cps.toList ++ [c])) (i + 1 + 1) (mkS [c]), []⟩)))))
      (chk (sizeB (dir.length + 1)) (k (some .next) ⟨stC resp (mkS (dir.cps.toList ++ [c])) (i + 1) (mkS [c]), []⟩)))) (k none τ)
theorem tP_0 (resp dir : Str) (i : Int) (k : Option Fl → St → Prop) : tP ⟨stP resp dir i, []⟩ k = xP resp dir i ⟨stP resp dir i, []⟩ k := by kernel_rfl!
theorem tP_1 (resp dir : Str) (i : Int) (c : Str) (k : Option Fl → St → Prop) : tP ⟨stC resp dir i c, []⟩ k = xP resp dir i ⟨stC resp dir i c, []⟩ k := by kernel_rfl!
theorem p257_1 (resp : Str) (K : PyData → Prop) : wpF G0 30 (scOf P2 6) (psOf P2 6) (bodyOf P2 6) [.str resp] K =
    chk (sizeB resp.length) (br (!(cut none (some 3) resp.cps.toList == [50, 53, 55])) False
      (chk (sizeB resp.length) (br (!(cut (some 3) (some 5) resp.cps.toList == [32, 34])) (K (.str ""))
        (chk (sizeB resp.length) (∃ m, whileN tP m ⟨stP resp "" 5, []⟩ fun f σ => match f with
          | .next => wpSs G0 24 (scOf P2 6) ((bodyOf P2 6).drop 6) σ (finK K) | .brk => finK K .brk σ | .ret v => finK K (.ret v) σ))))) := by kernel_rfl!
theorem p257_0 (resp dir : Str) (i : Int) (K : PyData → Prop) : wpSs G0 24 (scOf P2 6) ((bodyOf P2 6).drop 6) ⟨stP resp dir i, []⟩ (finK K) = K (.str dir) := by kernel_rfl!
theorem p257_2 (resp dir : Str) (i : Int) (c : Str) (K : PyData → Prop) : wpSs G0 24 (scOf P2 6) ((bodyOf P2 6).drop 6) ⟨stC resp dir i c, []⟩ (finK K) = K (.str dir) := by kernel_rfl!
end Mine
end
section
open PySem PySem.W PyProof.Rows PySem.Calls
set_option Elab.async false
namespace Mine
noncomputable def scan : List Nat → List Nat
  | [] => []
  | c :: r => if c = 34 then (match r with | d :: r' => if d = 34 then 34 :: scan r' else [] | [] => []) else c :: scan r
noncomputable def p257 (x : List Nat) : List Nat := if cut (some 3) (some 5) x = [32, 34] then scan (x.drop 5) else []

theorem len_toList (x : Str) : x.cps.toList.length = x.length := by simp [Str.length]
theorem charAt_nat (x : Str) (p : Nat) : Txt.charAt x (p : Int) = x.cps.toList[p]? := by
  unfold Txt.charAt seqIndex?
  have e : ¬ ((p : Int) < 0) := by omega
  simp only [if_neg e]
  by_cases h : p < x.length
  · have : (decide (0 ≤ (p : Int)) && decide ((p : Int) < (x.length : Int))) = true := by simp; omega
    rw [if_pos this]; simp
  · have : ¬ ((decide (0 ≤ (p : Int)) && decide ((p : Int) < (x.length : Int))) = true) := by simp; omega
    rw [if_neg this]
    rw [List.getElem?_eq_none (by rw [len_toList]; omega)]; rfl
theorem smallI_nat {p : Nat} (h : p < 1000000000) : smallI (p : Int) = true := by
  unfold smallI; simp; omega
theorem drop_head {α : Type} {l r : List α} {p : Nat} {c : α} (h : l.drop p = c :: r) : l[p]? = some c ∧ l.drop (p + 1) = r := by
  have h1 : (l.drop p)[0]? = some c := by rw [h]; rfl
  rw [List.getElem?_drop] at h1
  refine ⟨by simpa using h1, ?_⟩
  rw [← List.drop_drop, h]; rfl

theorem scan_cons (c : Nat) (r : List Nat) (h : c ≠ 34) : scan (c :: r) = c :: scan r := by
  rw [scan.eq_def]; simp [h]
theorem br_t {P Q : Prop} : br true P Q = P := rfl
theorem br_f {P Q : Prop} : br false P Q = Q := rfl
theorem chk_t {P : Prop} : chk true P = P := rfl
theorem p257_loop (resp : Str) (hz : resp.length ≤ 1000000) (Q : Fl → St → Prop) (D : List Nat) (hQ : ∀ i : Int, Q .next ⟨stP resp (mkS D) i, []⟩ ∧ ∀ c, Q .next ⟨stC resp (mkS D) i c, []⟩) :
    ∀ (n p : Nat) (l dir : List Nat), l.length ≤ n → resp.cps.toList.drop p = l → dir ++ scan l = D → dir.length + l.length ≤ 1000000 → p ≤ resp.length →
      ∀ τ : St, (τ = ⟨stP resp (mkS dir) p, []⟩ ∨ ∃ c, τ = ⟨stC resp (mkS dir) p c, []⟩) → whileN tP (n + 1) τ Q := by
  intro n
  induction n using Nat.strongRecOn with
  | ind n ih =>
    intro p l dir hl hd hD hs hp τ hτ
    have hx : ∀ k, tP τ k = xP resp (mkS dir) p τ k := fun k => by
      rcases hτ with rfl | ⟨c, rfl⟩
      · exact tP_0 ..
      · exact tP_1 ..
    show tP τ _
    rw [hx]
    unfold xP
    have hlen : l.length = resp.length - p := by rw [← hd, List.length_drop, len_toList]
    have sd : (mkS dir).length = dir.length := by simp [mkS, Str.length]
    cases l with
    | nil =>
      have : decide ((p : Int) < resp.length) = false := by simp at hlen; simp; omega
      rw [this]
      have hD : dir = D := by simpa [scan] using hD
      subst hD
      rcases hτ with rfl | ⟨c, rfl⟩
      · exact (hQ _).1
      · exact (hQ _).2 c
    | cons c r =>
      have lt : p < resp.length := by simp at hlen; omega
      have : decide ((p : Int) < resp.length) = true := by simp; omega
      rw [this]
      have e1 := (drop_head hd).1
      have e2 := (drop_head hd).2
      rw [br_t, smallI_nat (by omega), chk_t, charAt_nat, e1]
      dsimp only
      cases n with
      | zero => simp at hl
      | succ n =>
        have sz : sizeB ((mkS dir).length + 1) = true := by
          unfold sizeB; rw [sd]; exact Nat.ble_eq_true_of_le (by simp at hs; omega)
        have e3 : (mkS dir).cps.toList = dir := rfl
        by_cases h34 : c = 34
        · subst h34
          rw [show (([34] : List Nat) == [34]) = true from rfl, br_t]
          cases r with
          | nil =>
            have : decide ((resp.length : Int) ≤ p + 1) = true := by simp at hlen; simp; omega
            rw [this, br_t]
            have hD : dir = D := by simpa [scan] using hD
            subst hD
            exact (hQ _).2 _
          | cons d r' =>
            have : decide ((resp.length : Int) ≤ p + 1) = false := by simp at hlen; simp; omega
            rw [this, br_f]
            have e4 := (drop_head e2).1
            have e5 := (drop_head e2).2
            have ep : ((p : Int) + 1) = ((p + 1 : Nat) : Int) := by push_cast; rfl
            rw [ep, smallI_nat (by simp at hlen; omega), chk_t, charAt_nat, e4]
            dsimp only
            by_cases hd34 : d = 34
            · subst hd34
              rw [show (!(([34] : List Nat) == [34])) = false from rfl, br_f, sz, chk_t]
              have ep2 : (((p + 1 : Nat) : Int) + 1) = ((p + 2 : Nat) : Int) := by push_cast; omega
              rw [ep2]
              cases n with
              | zero => simp at hl
              | succ n =>
                refine (ih (n+1) (by omega) (p + 2) r' (dir ++ [34]) (by simp at hl; omega) e5 ?_ (by simp at hs ⊢; omega) (by simp at hlen; omega) _ (.inr ⟨_, rfl⟩))
                rw [← hD]
                simp [scan]
            · have hb : ([d] == [34]) = false := by simpa using hd34
              rw [hb, show (!false) = true from rfl, br_t]
              have hD : dir = D := by simpa [scan, hd34] using hD
              subst hD
              exact (hQ _).2 _
        · have hb : ([c] == [34]) = false := by simpa using h34
          rw [hb, br_f, sz, chk_t]
          have ep : ((p : Int) + 1) = ((p + 1 : Nat) : Int) := by push_cast; rfl
          rw [ep]
          refine ih n (by omega) (p + 1) r (dir ++ [c]) (by simpa using hl) e2 ?_ (by simp at hs ⊢; omega) lt _ (.inr ⟨_, rfl⟩)
          rw [← hD, scan_cons _ _ h34]; simp
end Mine
end
section
open PySem PySem.W PyProof.Rows PySem.Calls PySem.Builtin.Str
set_option Elab.async false
namespace Mine
/-! plain lists of signs for the model's words on strings -/
noncomputable def atB (x y : List Nat) (i : Nat) : Bool := (x.drop i).take y.length == y
noncomputable def occGo (x y : List Nat) (hi : Nat) : Nat → Nat → Nat → Nat → List Nat
  | 0, _, _, _ => []
  | n + 1, i, free, lim => match Nat.blt 0 lim && Nat.ble free i && Nat.ble (i + y.length) hi && atB x y i with
    | true => i :: occGo x y hi n (i + 1) (i + y.length) (lim - 1)
    | false => occGo x y hi n (i + 1) free lim
theorem blt_dec (a b : Nat) : Nat.blt a b = decide (a < b) := by
  cases h : Nat.blt a b with
  | true => rw [decide_eq_true]; exact Nat.le_of_ble_eq_true h
  | false => rw [decide_eq_false]; exact fun c => by rw [show Nat.blt a b = true from Nat.ble_eq_true_of_le c] at h; cases h
theorem ble_dec (a b : Nat) : Nat.ble a b = decide (a ≤ b) := by
  cases h : Nat.ble a b with
  | true => rw [decide_eq_true]; exact Nat.le_of_ble_eq_true h
  | false => rw [decide_eq_false]; exact fun c => by rw [Nat.ble_eq_true_of_le c] at h; cases h
theorem occGo_run (x y : Str) (hi limit : Nat) : ∀ (n i free : Nat) (found : Array Nat), found.size ≤ limit →
    (forIn (List.range' i n) (found, free) (StrLaws.occBody x y hi limit)).run.fst.toList = found.toList ++ occGo x.cps.toList y.cps.toList hi n i free (limit - found.size)
  | 0, i, free, found, _ => by simp [occGo]
  | n + 1, i, free, found, hf => by
    rw [List.range'_succ, List.forIn_cons]
    unfold occGo
    have hy : y.cps.toList.length = y.length := len_toList y
    by_cases c : ((found.size < limit ∧ free ≤ i) ∧ i + y.length ≤ hi) ∧ subAt x y i = true
    · have e : StrLaws.occBody x y hi limit i (found, free) = pure (ForInStep.yield (found.push i, i + y.length)) := by unfold StrLaws.occBody; rw [if_pos c]
      rw [e]
      have b : (Nat.blt 0 (limit - found.size) && Nat.ble free i && Nat.ble (i + y.cps.toList.length) hi && atB x.cps.toList y.cps.toList i) = true := by
        rw [blt_dec, ble_dec, ble_dec, hy]
        have := c.2
        rw [StrLaws.subAt_eq] at this
        unfold atB
        rw [hy, this]
        have h1 := c.1.1.1; have h2 := c.1.1.2; have h3 := c.1.2
        simp; omega
      rw [b]
      show (forIn (List.range' (i + 1) n) (found.push i, i + y.length) (StrLaws.occBody x y hi limit)).run.fst.toList = _
      rw [occGo_run x y hi limit n (i + 1) (i + y.length) (found.push i) (by rw [Array.size_push]; omega)]
      simp [hy, Nat.sub_sub]
    · have e : StrLaws.occBody x y hi limit i (found, free) = pure (ForInStep.yield (found, free)) := by unfold StrLaws.occBody; rw [if_neg c]
      rw [e]
      have b : (Nat.blt 0 (limit - found.size) && Nat.ble free i && Nat.ble (i + y.cps.toList.length) hi && atB x.cps.toList y.cps.toList i) = false := by
        rw [blt_dec, ble_dec, ble_dec, hy]
        apply Bool.eq_false_iff.mpr
        intro h
        apply c
        simp only [Bool.and_eq_true, decide_eq_true_eq] at h
        refine ⟨⟨⟨by omega, h.1.1.2⟩, h.1.2⟩, ?_⟩
        rw [StrLaws.subAt_eq]
        have := h.2
        unfold atB at this
        rw [hy] at this; exact this
      rw [b]
      show (forIn (List.range' (i + 1) n) (found, free) (StrLaws.occBody x y hi limit)).run.fst.toList = _
      exact occGo_run x y hi limit n (i + 1) free found hf
theorem occ_go (x y : Str) (lo hi limit : Nat) : occurrences x y lo hi limit = occGo x.cps.toList y.cps.toList hi (hi + 1 - lo) lo lo limit := by
  rw [StrLaws.occ_eq, occGo_run x y hi limit _ _ _ _ (Nat.zero_le _)]; simp

/-- the first place -/
noncomputable def findL (x y : List Nat) (hi : Nat) : Nat → Nat → Option Nat
  | 0, _ => none
  | n + 1, i => match Nat.ble (i + y.length) hi && atB x y i with
    | true => some i
    | false => findL x y hi n (i + 1)
theorem occ_find (x y : List Nat) (hi : Nat) : ∀ (n i free : Nat), free ≤ i → (match occGo x y hi n i free 1 with | k :: _ => some k | [] => none) = findL x y hi n i
  | 0, _, _, _ => rfl
  | n + 1, i, free, h => by
    unfold occGo findL
    rw [show Nat.blt 0 1 = true from rfl, show Nat.ble free i = true from Nat.ble_eq_true_of_le h, Bool.true_and, Bool.true_and]
    cases (Nat.ble (i + y.length) hi && atB x y i) with
    | true => rfl
    | false => exact occ_find x y hi n (i + 1) free (by omega)
theorem firstAt_eq (x y : Str) (lo hi : Nat) : firstAt x y lo hi = (match findL x.cps.toList y.cps.toList hi (hi + 1 - lo) lo with | some k => (k : Int) | none => -1) := by
  unfold firstAt
  rw [occ_go, ← occ_find _ _ _ _ _ lo (Nat.le_refl _)]
  cases occGo x.cps.toList y.cps.toList hi (hi + 1 - lo) lo lo 1 <;> rfl

/-! split at three dots -/
noncomputable def splitL : List Nat → List (List Nat)
  | [] => [[]]
  | c :: r => match (match c :: r with | 46 :: 46 :: 46 :: _ => true | _ => false) with
    | true => (match r with | _ :: _ :: r' => [] :: splitL r' | _ => [[]])
    | false => (match splitL r with | h :: t => (c :: h) :: t | [] => [[c]])
end Mine
end
section
open PySem PySem.W PyProof.Rows PySem.Calls PySem.Builtin.Str
set_option Elab.async false
namespace Mine
noncomputable abbrev dots : List Nat := [46, 46, 46]
theorem splitL_ne : ∀ l : List Nat, ∃ h t, splitL l = h :: t
  | [] => ⟨_, _, rfl⟩
  | c :: r => by
    rw [splitL.eq_def]
    dsimp only
    split
    · split
      · exact ⟨_, _, rfl⟩
      · exact ⟨_, _, rfl⟩
    · split
      · exact ⟨_, _, rfl⟩
      · exact ⟨_, _, rfl⟩
theorem splitL_dots (r : List Nat) : splitL (46 :: 46 :: 46 :: r) = [] :: splitL r := by rw [splitL.eq_def]; rfl
theorem splitL_cons {c : Nat} {r h : List Nat} {t : List (List Nat)} (hc : (c :: r).take 3 ≠ dots) (e : splitL r = h :: t) : splitL (c :: r) = (c :: h) :: t := by
  rw [splitL.eq_def]
  dsimp only
  split
  · rename_i q
    exfalso
    split at q
    · rename_i heq
      apply hc
      rw [heq]; rfl
    · cases q
  · rw [e]
theorem sub_eq {x : Str} {a i : Nat} : strSub x a i = mkS ((x.cps.toList.drop a).take (i - a)) := by
  have := StrLaws.strSub_toList x a i
  rw [← mkS_toList (strSub x a i), this]
theorem take_snoc {l : List Nat} {a i c : Nat} {r : List Nat} (ha : a ≤ i) (hd : l.drop i = c :: r) : (l.drop a).take (i + 1 - a) = (l.drop a).take (i - a) ++ [c] := by
  have e : i + 1 - a = (i - a) + 1 := Nat.succ_sub ha
  rw [e, List.take_add_one, List.getElem?_drop]
  have : a + (i - a) = i := Nat.add_sub_of_le ha
  rw [this, (drop_head hd).1]; rfl
theorem parts_go (x : Str) : ∀ (m : Nat) (l : List Nat) (i a free lim : Nat), l.length ≤ m → x.cps.toList.drop i = l → i ≤ x.length → a ≤ i → free ≤ i → l.length < lim → ∀ h t, splitL l = h :: t →
    StrLaws.partsFrom x 3 a (occGo x.cps.toList dots x.length (l.length + 1) i free lim) = mkS ((x.cps.toList.drop a).take (i - a) ++ h) :: t.map mkS := by
  intro m
  induction m with
  | zero =>
    intro l i a free lim hl hd hi ha hf hlim h t e
    have : l = [] := List.eq_nil_of_length_eq_zero (by omega)
    subst this
    have hlen : x.cps.toList.length - i = 0 := by rw [← List.length_drop, hd]; rfl
    rw [len_toList] at hlen
    obtain ⟨rfl, rfl⟩ : [] = h ∧ [] = t := by simpa [splitL] using e
    have hb : Nat.ble (i + dots.length) x.length = false := by rw [ble_dec]; simp; omega
    have : occGo x.cps.toList dots x.length 1 i free lim = [] := by
      unfold occGo
      rw [hb]; simp [occGo]
    show StrLaws.partsFrom x 3 a (occGo x.cps.toList dots x.length 1 i free lim) = _
    rw [this]
    show [strSub x a x.length] = _
    have : i = x.length := by omega
    rw [sub_eq, this]; simp
  | succ m ih =>
    intro l i a free lim hl hd hi ha hf hlim h t e
    cases l with
    | nil => exact ih [] i a free lim (Nat.zero_le _) hd hi ha hf hlim h t e
    | cons c r =>
      have hlen : (c :: r).length = x.length - i := by rw [← hd, List.length_drop, len_toList]
      have e2 := (drop_head hd).2
      have at3 : atB x.cps.toList dots i = ((c :: r).take 3 == dots) := by unfold atB; rw [hd]; rfl
      have b1 : Nat.blt 0 lim = true := Nat.ble_eq_true_of_le (by omega)
      have b2 : Nat.ble free i = true := Nat.ble_eq_true_of_le hf
      show StrLaws.partsFrom x 3 a (occGo x.cps.toList dots x.length ((r.length + 1) + 1) i free lim) = _
      by_cases hc : (c :: r).take 3 = dots
      · -- three dots here
        match r, hc, hl, hd, hlim, e, hlen, e2, at3 with
        | d :: f :: r', hc, hl, hd, hlim, e, hlen, e2, at3 =>
          have hc' : c = 46 ∧ d = 46 ∧ f = 46 := by simpa [dots] using hc
          obtain ⟨rfl, rfl, rfl⟩ := hc'
          rw [splitL_dots] at e
          obtain ⟨h', t', e'⟩ := splitL_ne r'
          rw [e'] at e
          obtain ⟨rfl, rfl⟩ := List.cons.inj e
          have b3 : Nat.ble (i + dots.length) x.length = true := Nat.ble_eq_true_of_le (by simp at hlen ⊢; omega)
          have b4 : atB x.cps.toList dots i = true := by rw [at3]; rfl
          have e3 := (drop_head e2).2
          have e4 := (drop_head e3).2
          have step : occGo x.cps.toList dots x.length (((46 :: 46 :: r').length + 1) + 1) i free lim = i :: occGo x.cps.toList dots x.length (r'.length + 1) (i + 3) (i + 3) (lim - 1) := by
            show occGo x.cps.toList dots x.length (((r'.length + 1) + 1 + 1) + 1) i free lim = _
            rw [occGo, b1, b2, b3, b4]
            simp only [Bool.and_self]
            have f1 : Nat.ble (i + 3) (i + 1) = false := by rw [ble_dec]; simp
            have f2 : Nat.ble (i + 3) (i + 1 + 1) = false := by rw [ble_dec]; simp
            show i :: occGo x.cps.toList dots x.length ((r'.length + 1) + 1 + 1) (i + 1) (i + 3) (lim - 1) = _
            rw [occGo, f1]
            simp only [Bool.and_false, Bool.false_and]
            rw [occGo, f2]
            simp only [Bool.and_false, Bool.false_and]
          rw [step]
          show strSub x a i :: StrLaws.partsFrom x 3 (i + 3) _ = _
          rw [ih r' (i + 3) (i + 3) (i + 3) (lim - 1) (by simp at hl; omega) e4 (by simp at hlen; omega) (Nat.le_refl _) (Nat.le_refl _) (by simp at hlim; omega) h' t' e']
          rw [sub_eq]; simp
        | [], hc, _, _, _, _, _, _, _ => simp [dots] at hc
        | [d], hc, _, _, _, _, _, _, _ => simp [dots] at hc
      · have b4 : atB x.cps.toList dots i = false := by rw [at3]; exact beq_eq_false_iff_ne.mpr hc
        have step : occGo x.cps.toList dots x.length ((r.length + 1) + 1) i free lim = occGo x.cps.toList dots x.length (r.length + 1) (i + 1) free lim := by
          rw [occGo, b4]; simp
        obtain ⟨h', t', e'⟩ := splitL_ne r
        rw [splitL_cons hc e'] at e
        obtain ⟨rfl, rfl⟩ := List.cons.inj e
        rw [step, ih r (i + 1) a free lim (by simp at hl; omega) e2 (by simp at hlen; omega) (by omega) (by omega) (by simp at hlim; omega) h' t' e', take_snoc ha hd]
        simp
theorem splitL_short : ∀ l : List Nat, l.length < 3 → splitL l = [l]
  | [], _ => rfl
  | [a], _ => by rw [splitL_cons (h := []) (t := []) (by simp [dots]) rfl]
  | [a, b], _ => by rw [splitL_cons (h := [b]) (t := []) (by simp [dots]) (splitL_short [b] (by simp))]
  | _ :: _ :: _ :: _, h => by simp at h; omega
theorem split_eq (x : Str) : Txt.split x "..." = (splitL x.cps.toList).map mkS := by
  unfold Txt.split
  have hl : Str.length ("..." : Str) = 3 := by decide +kernel
  have hd : (("..." : Str).cps.toList) = dots := by decide +kernel
  have hk : (decide (Builtin.Str.strKind x < Builtin.Str.strKind "...")) = false := by
    have : Builtin.Str.strKind ("..." : Str) = 1 := by decide +kernel
    rw [this]
    unfold Builtin.Str.strKind
    split
    · decide
    · split <;> decide
  rw [hk, Bool.or_false, hl]
  obtain ⟨h, t, e⟩ := splitL_ne x.cps.toList
  by_cases c : x.length < 3
  · rw [if_pos (decide_eq_true c), splitL_short _ (by rw [len_toList]; exact c)]
    simp [mkS_toList]
  · rw [if_neg (by simpa using c)]
    have key := parts_go x x.cps.toList.length x.cps.toList 0 0 0 (x.length + 1) (Nat.le_refl _) rfl (Nat.zero_le _) (Nat.le_refl _) (Nat.le_refl _) (by rw [len_toList]; omega) h t e
    have eo : occurrences x "..." 0 x.length (x.length + 1) = occGo x.cps.toList dots x.length (x.cps.toList.length + 1) 0 0 (x.length + 1) := by
      rw [occ_go, hd, len_toList]; rfl
    have res : StrLaws.partsFrom x 3 0 (occurrences x "..." 0 x.length (x.length + 1)) = (splitL x.cps.toList).map mkS := by
      rw [eo, key, e]; simp
    split
    · rename_i q
      have : occurrences x "..." 0 x.length (x.length + 1) = [] := by simpa using q
      rw [this] at res
      rw [← res]
      show [x] = [strSub x 0 x.length]
      rw [StrLaws.sub_whole]
    · rw [StrLaws.partsBetween_eq]; exact res
end Mine
end
section
open PySem PySem.W PyProof.Rows PySem.Calls PySem.Builtin.Str
set_option Elab.async false
namespace Mine
/-! _ellipsis_match on plain lists -/
noncomputable def ellForL (got : List Nat) (en : Nat) : List (List Nat) → Nat → Bool
  | [], _ => true
  | w :: r, st => match findL got w en (en + 1 - st) st with
    | some k => ellForL got en r (k + w.length)
    | none => false
noncomputable def ellMidL (got : List Nat) (ws : List (List Nat)) (st en : Nat) : Bool := match Nat.blt en st with
  | true => false
  | false => ellForL got en ws st
noncomputable def startsB (got w : List Nat) : Bool := Nat.ble w.length got.length && atB got w 0
noncomputable def endsB (got w : List Nat) : Bool := Nat.ble w.length got.length && atB got w (got.length - w.length)
noncomputable def ellBackL (got : List Nat) (ws : List (List Nat)) (st : Nat) : Bool := match ws.getLast? with
  | none => false
  | some wl => match wl.isEmpty with
    | true => ellMidL got ws st got.length
    | false => match endsB got wl with
      | true => ellMidL got ws.dropLast st (got.length - wl.length)
      | false => false
noncomputable def ellL (ws : List (List Nat)) (got : List Nat) : Bool := match ws with
  | [] => false
  | w0 :: r => match w0.isEmpty with
    | true => ellBackL got (w0 :: r) 0
    | false => match startsB got w0 with
      | true => ellBackL got r w0.length
      | false => false

theorem findL_bound {x y : List Nat} {hi : Nat} : ∀ {n i k : Nat}, findL x y hi n i = some k → i ≤ k ∧ k + y.length ≤ hi
  | 0, _, _, e => by cases e
  | n + 1, i, k, e => by
    unfold findL at e
    split at e
    · rename_i q
      obtain rfl := Option.some.inj e
      rw [Bool.and_eq_true] at q
      exact ⟨Nat.le_refl _, Nat.le_of_ble_eq_true q.1⟩
    · have := findL_bound e
      exact ⟨by omega, this.2⟩
theorem starts_eq (x y : Str) : Txt.startswith x y = startsB x.cps.toList y.cps.toList := by
  unfold Txt.startswith startsB atB
  rw [StrLaws.subAt_eq, ble_dec, len_toList, len_toList]; simp
theorem ends_eq (x y : Str) : Txt.endswith x y = endsB x.cps.toList y.cps.toList := by
  unfold Txt.endswith endsB atB
  rw [StrLaws.subAt_eq, ble_dec, len_toList, len_toList]; simp
theorem mkS_len (l : List Nat) : (mkS l).length = l.length := by simp [mkS, Str.length]
theorem mkS_cps (l : List Nat) : (mkS l).cps.toList = l := rfl
theorem sizeB_of {n : Nat} (h : n ≤ 1000000) : sizeB n = true := Nat.ble_eq_true_of_le (by omega)

theorem ellFor_ok {got : List Nat} {en : Nat} (hg : got.length ≤ 1000000) (he : en ≤ got.length) {K : Bool → Prop} : ∀ {ws : List (List Nat)} {st : Nat}, (∀ w ∈ ws, w.length ≤ 1000000) → st ≤ en → K (ellForL got en ws st) → ellFor (mkS got) en (ws.map mkS) st K
  | [], _, _, _, h => h
  | w :: r, st, hw, hs, h => by
    show chk _ _
    have c1 : (decide (0 ≤ (st : Int)) && decide ((st : Int) ≤ (mkS got).length) && decide (0 ≤ (en : Int)) && decide ((en : Int) ≤ (mkS got).length) && sizeB (mkS got).length) = true := by
      rw [mkS_len, sizeB_of hg]; simp; omega
    rw [c1, chk_t]
    have hf : firstAt (mkS got) (mkS w) (st : Int).toNat (en : Int).toNat = (match findL got w en (en + 1 - st) st with | some k => (k : Int) | none => -1) := by
      rw [firstAt_eq]; rfl
    rw [hf, mkS_len]
    unfold ellForL at h
    cases q : findL got w en (en + 1 - st) st with
    | none =>
      rw [q] at h
      show br (decide ((-1 : Int) < 0)) _ _
      exact h
    | some k =>
      rw [q] at h
      have b := findL_bound q
      have : decide ((k : Int) < 0) = false := by simp
      dsimp only
      rw [this, br_f, sizeB_of (hw w List.mem_cons_self), chk_t]
      have e : (k : Int) + (w.length : Int) = ((k + w.length : Nat) : Int) := by push_cast; rfl
      rw [e]
      exact ellFor_ok hg he (fun w hm => hw w (List.mem_cons_of_mem _ hm)) b.2 h
theorem ellMid_ok {got : List Nat} {en st : Nat} {ws : List (List Nat)} (hg : got.length ≤ 1000000) (he : en ≤ got.length) {K : Bool → Prop} (hw : ∀ w ∈ ws, w.length ≤ 1000000) (h : K (ellMidL got ws st en)) : ellMid (mkS got) (ws.map mkS) st en K := by
  unfold ellMid
  unfold ellMidL at h
  by_cases c : en < st
  · have : Nat.blt en st = true := Nat.ble_eq_true_of_le c
    rw [this] at h
    rw [decide_eq_true (by omega : (en : Int) < st), br_t]; exact h
  · have : Nat.blt en st = false := by rw [blt_dec]; exact decide_eq_false c
    rw [this] at h
    rw [decide_eq_false (by omega : ¬ (en : Int) < st), br_f]
    exact ellFor_ok hg he hw (by omega) h
theorem ellBack_ok {got : List Nat} {st : Nat} {ws : List (List Nat)} (hg : got.length ≤ 1000000) {K : Bool → Prop} (hne : ws ≠ []) (hw : ∀ w ∈ ws, w.length ≤ 1000000) (h : K (ellBackL got ws st)) : ellBack (mkS got) (ws.map mkS) st K := by
  unfold ellBack
  unfold ellBackL at h
  rw [List.getLast?_map]
  cases q : ws.getLast? with
  | none => exact absurd (List.getLast?_eq_none_iff.mp q) hne
  | some wl =>
    rw [q] at h
    dsimp only at h
    have hm : wl ∈ ws := List.mem_of_getLast? q
    show chk (sizeB (mkS wl).length) _
    rw [mkS_len, sizeB_of (hw wl hm), chk_t, chk_t, mkS_cps, ends_eq, mkS_cps, mkS_cps]
    cases c : wl.isEmpty with
    | true =>
      rw [c] at h
      show ellMid _ _ _ _ _
      rw [mkS_len]
      exact ellMid_ok hg (Nat.le_refl _) hw h
    | false =>
      rw [c] at h
      show br (endsB got wl) _ _
      cases d : endsB got wl with
      | false => rw [d] at h; exact h
      | true =>
        rw [d] at h
        unfold endsB at d
        rw [Bool.and_eq_true] at d
        have hl := Nat.le_of_ble_eq_true d.1
        rw [br_t, mkS_len, ← List.map_dropLast]
        have e : (got.length : Int) - (wl.length : Int) = ((got.length - wl.length : Nat) : Int) := by omega
        rw [e]
        exact ellMid_ok hg (by omega) (fun w hm => hw w (List.dropLast_subset _ hm)) h
theorem ellK_ok {got : List Nat} {ws : List (List Nat)} (hg : got.length ≤ 1000000) {K : Bool → Prop} (h2 : 2 ≤ ws.length) (hw : ∀ w ∈ ws, w.length ≤ 1000000) (h : K (ellL ws got)) : ellK (mkS got) (ws.map mkS) K := by
  unfold ellK
  rw [mkS_len, sizeB_of hg, chk_t]
  match ws, h2, hw, h with
  | w0 :: w1 :: r, _, hw, h =>
    show chk (sizeB (mkS w0).length) _
    rw [mkS_len, sizeB_of (hw w0 List.mem_cons_self), chk_t, chk_t, mkS_cps, starts_eq, mkS_cps, mkS_cps]
    unfold ellL at h
    dsimp only at h
    cases c : w0.isEmpty with
    | true =>
      rw [c] at h
      rw [show (!true) = false from rfl, br_f]
      exact ellBack_ok (st := 0) (ws := w0 :: w1 :: r) hg (by simp) hw h
    | false =>
      rw [c] at h
      show br (startsB got w0) _ _
      cases d : startsB got w0 with
      | false => rw [d] at h; exact h
      | true =>
        rw [d] at h
        exact ellBack_ok (ws := w1 :: r) hg (by simp) (fun w hm => hw w (List.mem_cons_of_mem _ hm)) h
end Mine
end
section
open PySem PySem.W PyProof.Rows PySem.Calls PySem.Builtin.Str
set_option Elab.async false
namespace Mine
/-! contracts of the shared functions -/
theorem FnOk.weaken {prog : Program} {w : World} {hT : Heap} {os : OsState} {ℓ : Nat} {φ ψ : Spec} {a : Addr} (h : FnOk prog w hT os ℓ φ a) (f : ∀ ds K, ψ ds K → φ ds K) : FnOk prog w hT os ℓ ψ a :=
  fun fr A s vs ds as K hA gi fro r nd pl hk => h fr A s vs ds as K hA gi fro r nd pl (f ds K hk)
theorem FnOk.up {prog : Program} {w : World} {hT : Heap} {os : OsState} {ℓ m : Nat} {φ : Spec} {a : Addr} (h : FnOk prog w hT os ℓ φ a) (le : ℓ ≤ m) : FnOk prog w hT os m φ a :=
  fun fr A s vs ds as K hA => h fr A s vs ds as K ⟨hA.hand, hA.frm, by have := hA.deep; omega, by have := hA.unit; omega⟩
noncomputable def okL (n : Nat) : Bool := Nat.ble n 100000
theorem okL_le {n : Nat} (h : okL n = true) : n ≤ 100000 := Nat.le_of_ble_eq_true h
/-- _strcoll -/
noncomputable def sSpec : Spec := fun ds K => match ds with
  | [.str a, .str b] => K (.int (b2i (decide (b.cps.toList < a.cps.toList)) - b2i (decide (a.cps.toList < b.cps.toList))))
  | _ => False
theorem s_ok : ∀ ds K, sSpec ds K → wpF G0 30 (scOf P2 8) (psOf P2 8) (bodyOf P2 8) ds K := fun ds K h => by
  unfold sSpec at h
  split at h
  · rename_i a b
    rw [show wpF G0 30 (scOf P2 8) (psOf P2 8) (bodyOf P2 8) [.str a, .str b] K = K (.int (b2i (decide (b.cps.toList < a.cps.toList)) - b2i (decide (a.cps.toList < b.cps.toList)))) by kernel_rfl!]
    exact h
  · cases h
/-- parse257, where it gives something back -/
noncomputable def pSpec : Spec := fun ds K => match ds with
  | [.str x] => chk (okL x.length && (cut none (some 3) x.cps.toList == [50, 53, 55])) (K (.str (mkS (p257 x.cps.toList))))
  | _ => False
theorem min3_le (a n : Nat) : min a (n - min 3 n) ≤ n - 3 := Nat.le_trans (Nat.min_le_right _ _) (by omega)
theorem p_ok : ∀ ds K, pSpec ds K → wpF G0 30 (scOf P2 6) (psOf P2 6) (bodyOf P2 6) ds K := fun ds K h => by
  unfold pSpec at h
  split at h
  · rename_i x
    have h1 := (chk_iff.mp h).1
    have h2 := (chk_iff.mp h).2
    rw [Bool.and_eq_true] at h1
    have hz := okL_le h1.1
    rw [p257_1, sizeB_of (by omega), chk_t, h1.2, show (!true) = false from rfl, br_f, chk_t]
    unfold p257 at h2
    by_cases c : cut (some 3) (some 5) x.cps.toList = [32, 34]
    · rw [if_pos c] at h2
      rw [show (cut (some 3) (some 5) x.cps.toList == [32, 34]) = true from beq_iff_eq.mpr c, show (!true) = false from rfl, br_f, chk_t]
      have hlen : 5 ≤ x.length := by
        rcases Nat.lt_or_ge x.length 5 with l | l
        · exfalso
          have : (cut (some 3) (some 5) x.cps.toList).length ≤ x.length - 3 := by
            unfold cut
            rw [List.length_take, List.length_drop, len_toList]
            have : kms_lo (some 3) x.length = min 3 x.length := rfl
            rw [this]; exact min3_le _ _
          rw [c] at this
          exact absurd (Nat.le_trans this (Nat.sub_le_sub_right (Nat.le_of_lt_succ l) 3)) (by decide)
        · exact l
      refine ⟨_, p257_loop x (by omega) _ (scan (x.cps.toList.drop 5)) (fun i => ⟨?_, fun c => ?_⟩) (x.cps.toList.drop 5).length 5 (x.cps.toList.drop 5) [] (Nat.le_refl _) rfl rfl (by rw [List.length_drop, len_toList]; simp; omega) hlen _ (.inl rfl)⟩
      · show wpSs G0 24 _ _ _ _
        rw [p257_0]; exact h2
      · show wpSs G0 24 _ _ _ _
        rw [p257_2]; exact h2
    · rw [if_neg c] at h2
      rw [show (cut (some 3) (some 5) x.cps.toList == [32, 34]) = false from beq_eq_false_iff_ne.mpr c, show (!false) = true from rfl, br_t]
      exact h2
  · cases h
/-- _ellipsis_match -/
noncomputable def eSpec : Spec := fun ds K => match ds with
  | [.str want, .str got] => chk (okL want.length && okL got.length) (match splitL want.cps.toList with
    | [] => False
    | [_] => K (.bool (want.cps.toList == got.cps.toList))
    | w0 :: w1 :: r => chk (Nat.ble r.length 2) (K (.bool (ellL (w0 :: w1 :: r) got.cps.toList))))
  | _ => False

theorem splitL_len : ∀ (n : Nat) (l : List Nat), l.length ≤ n → ∀ w ∈ splitL l, w.length ≤ l.length := by
  intro n
  induction n with
  | zero =>
    intro l hl w hw
    have : l = [] := List.eq_nil_of_length_eq_zero (by omega)
    subst this
    have : w = [] := by simpa [splitL] using hw
    rw [this]; simp
  | succ n ih =>
    intro l hl w hw
    cases l with
    | nil =>
      have : w = [] := by simpa [splitL] using hw
      rw [this]; simp
    | cons c r =>
      by_cases hc : (c :: r).take 3 = dots
      · match r, hc, hl, hw with
        | d :: f :: r', hc, hl, hw =>
          have hc' : c = 46 ∧ d = 46 ∧ f = 46 := by simpa [dots] using hc
          obtain ⟨rfl, rfl, rfl⟩ := hc'
          rw [splitL_dots] at hw
          rcases List.mem_cons.mp hw with rfl | hw
          · simp
          · have := ih r' (by simp at hl; omega) w hw
            simp; omega
        | [], hc, _, _ => simp [dots] at hc
        | [d], hc, _, _ => simp [dots] at hc
      · obtain ⟨h, t, e⟩ := splitL_ne r
        rw [splitL_cons hc e] at hw
        have ih' := ih r (by simp at hl; omega)
        rw [e] at ih'
        rcases List.mem_cons.mp hw with rfl | hw
        · have := ih' h List.mem_cons_self
          simp; omega
        · have := ih' w (List.mem_cons_of_mem _ hw)
          simp; omega
theorem splitL_no : ∀ (l : List Nat), (∀ i, (l.drop i).take 3 ≠ dots) → splitL l = [l]
  | [], _ => rfl
  | c :: r, h => by
    have := splitL_no r fun i => by have := h (i + 1); simpa using this
    exact splitL_cons (h := r) (t := []) (h 0) this
theorem splitL_yes : ∀ (l h : List Nat), splitL l = [h] → ∀ i, (l.drop i).take 3 ≠ dots
  | [], _, _, i => by simp [dots]
  | c :: r, h, e, i => by
    by_cases hc : (c :: r).take 3 = dots
    · exfalso
      match r, hc, e with
      | d :: f :: r', hc, e =>
        have hc' : c = 46 ∧ d = 46 ∧ f = 46 := by simpa [dots] using hc
        obtain ⟨rfl, rfl, rfl⟩ := hc'
        rw [splitL_dots] at e
        obtain ⟨h', t', e'⟩ := splitL_ne r'
        rw [e'] at e; simp at e
      | [], hc, _ => simp [dots] at hc
      | [d], hc, _ => simp [dots] at hc
    · obtain ⟨h', t, e'⟩ := splitL_ne r
      rw [splitL_cons hc e'] at e
      obtain ⟨_, rfl⟩ := List.cons.inj e
      cases i with
      | zero => exact hc
      | succ i => have := splitL_yes r h' e' i; simpa using this
theorem contains_split (x : Str) : Txt.contains x "..." = (match splitL x.cps.toList with | [_] => false | _ => true) := by
  have hd : (("..." : Str).cps.toList) = dots := by decide +kernel
  have hl : Str.length ("..." : Str) = 3 := by decide +kernel
  have iff : Txt.contains x "..." = true ↔ ∃ i, (x.cps.toList.drop i).take 3 = dots := by
    unfold Txt.contains
    rw [StrLaws.found_iff]
    constructor
    · rintro ⟨i, _, h⟩
      rw [StrLaws.subAt_eq, hd, hl] at h
      exact ⟨i, eq_of_beq h⟩
    · rintro ⟨i, h⟩
      refine ⟨i, ?_, ?_⟩
      · have := congrArg List.length h
        rw [List.length_take, List.length_drop, len_toList] at this
        rw [hl]
        simp [dots] at this; omega
      · rw [StrLaws.subAt_eq, hd, hl, h]; rfl
  obtain ⟨h, t, e⟩ := splitL_ne x.cps.toList
  cases t with
  | nil =>
    rw [e]
    cases c : Txt.contains x "..." with
    | false => rfl
    | true =>
      obtain ⟨i, q⟩ := iff.mp c
      exact absurd q (splitL_yes _ h e i)
  | cons w t =>
    rw [e]
    cases c : Txt.contains x "..." with
    | true => rfl
    | false =>
      exfalso
      have : splitL x.cps.toList = [x.cps.toList] := splitL_no _ fun i q => by
        rw [iff.mpr ⟨i, q⟩] at c; cases c
      rw [this] at e; simp at e
theorem e_ok : ∀ ds K, eSpec ds K → wpF G0 30 (scOf P2 2) (psOf P2 2) (bodyOf P2 2) ds K := fun ds K h => by
  unfold eSpec at h
  split at h
  · rename_i want got
    have h1 := (chk_iff.mp h).1
    have h2 := (chk_iff.mp h).2
    rw [Bool.and_eq_true] at h1
    have z1 := okL_le h1.1
    have z2 := okL_le h1.2
    rw [ell_1, contains_split]
    have hn : (Str.length ("..." : Str) != 0) = true := by decide +kernel
    rw [sizeB_of (by omega : want.length + 2 ≤ 1000000), hn, Bool.true_and, chk_t, split_eq]
    have hw := splitL_len _ want.cps.toList (Nat.le_refl _)
    have hg : got.cps.toList.length ≤ 1000000 := by rw [len_toList]; omega
    have hw' : ∀ w ∈ splitL want.cps.toList, w.length ≤ 1000000 := fun w hm => by have := hw w hm; rw [len_toList] at this; omega
    generalize splitL want.cps.toList = L at h2 hw' ⊢
    match L, h2, hw' with
    | [], h2, _ => exact h2.elim
    | [_], h2, _ =>
      rw [show (!false) = true from rfl, br_t]; exact h2
    | w0 :: w1 :: r, h2, hw' =>
      have h3 := (chk_iff.mp h2).1
      have h4 := (chk_iff.mp h2).2
      have hr : r.length ≤ 2 := Nat.le_of_ble_eq_true h3
      dsimp only
      rw [show (!true) = false from rfl, br_f]
      have key := ellK_ok (got := got.cps.toList) (K := fun c => K (.bool c)) hg (by simp) hw' h4
      rw [mkS_toList] at key
      match r, hr, key with
      | [], _, key => show ellRest G0 want got [mkS w0, mkS w1] K; rw [ell_2]; exact key
      | [a], _, key => show ellRest G0 want got [mkS w0, mkS w1, mkS a] K; rw [ell_3]; exact key
      | [a, b], _, key => show ellRest G0 want got [mkS w0, mkS w1, mkS a, mkS b] K; rw [ell_4]; exact key
      | _ :: _ :: _ :: _, hr, _ => simp at hr;
  · cases h
end Mine
end
section
open PySem PySem.W PyProof.Rows PySem.Calls
set_option Elab.async false
namespace Mine
/-! comprehensions by their tail -/
noncomputable def turnOf (g : Gl) (n : Nat) (sc' : Scope) (ifs : List PySem.Expr) (elt : PySem.Expr) (τ : St) (k : Option V → St → Prop) : Prop := wpI g n sc' ifs τ fun ok τ => br ok (wpE g n sc' elt τ fun y τ => k (some y) τ) (k none τ)
noncomputable def compFrom (g : Gl) (n : Nat) (sc : Scope) (elt : PySem.Expr) (target : PySem.Expr) (ifs : List PySem.Expr) (scope : Scope) (it : V) (σ : St) (K : V → St → Prop) : Prop := match walkOf σ it with
  | some xs => chk (sizeB xs.length) (compL (fun v τ k => setT (compScope scope sc) target v τ fun τ => turnOf g n (compScope scope sc) ifs elt τ k) xs [] ⟨dropLocals (compScope scope sc) (lock σ it).loc, (lock σ it).cel ++ [none]⟩
      fun out τ => K (.c (lock σ it).cel.length) (unlock it xs ⟨σ.loc, τ.cel.set (lock σ it).cel.length (some out)⟩))
  | none => False
theorem wpC_eq {g : Gl} {n : Nat} {sc : Scope} {elt target iter : PySem.Expr} {ifs : List PySem.Expr} {scope : Scope} {σ : St} {K : V → St → Prop} :
    wpC g (n + 1) sc elt [⟨target, iter, ifs, 0⟩] scope σ K = chk (compOk scope sc) (wpE g n sc iter σ fun it σ => compFrom g n sc elt target ifs scope it σ K) := rfl
noncomputable def lcElt (e : PySem.Expr) : PySem.Expr := (ev e).1
noncomputable def lcGen : PySem.Expr → Comprehension | .ListComp _ (g :: _) _ _ => g | _ => ⟨.Constant .none 0 ⟨0,0,0,0⟩, .Constant .none 0 ⟨0,0,0,0⟩, [], 1⟩
noncomputable def lcScope : PySem.Expr → Scope | .ListComp _ _ s _ => s | _ => default
/-- the tail of the comprehension e -/
noncomputable def compE (g : Gl) (n : Nat) (sc : Scope) (e : PySem.Expr) (it : V) (σ : St) (K : V → St → Prop) : Prop := compFrom g n sc (lcElt e) (lcGen e).target (lcGen e).ifs (lcScope e) it σ K

theorem put_put (x : Str) (u v : V) : ∀ l : List (Str × V), put x v (put x u l) = put x v l
  | [] => by
    have : (x == x) = true := beq_self_eq_true x
    simp only [put, this]
  | p :: r => by
    obtain ⟨k, w⟩ := p
    have un : ∀ (z : V) (q : Str × V) (t : List (Str × V)), put x z (q :: t) = (match (q.1 == x) with | true => (x, z) :: t | false => q :: put x z t) := fun _ _ _ => rfl
    cases e : (k == x) with
    | true =>
      have h1 : put x u ((k, w) :: r) = (x, u) :: r := by rw [un]; show (match (k == x) with | true => _ | false => _) = _; rw [e]
      have h2 : put x v ((k, w) :: r) = (x, v) :: r := by rw [un]; show (match (k == x) with | true => _ | false => _) = _; rw [e]
      rw [h1, h2, un]
      show (match (x == x) with | true => _ | false => _) = _
      rw [beq_self_eq_true x]
    | false =>
      have h1 : put x u ((k, w) :: r) = (k, w) :: put x u r := by rw [un]; show (match (k == x) with | true => _ | false => _) = _; rw [e]
      have h2 : put x v ((k, w) :: r) = (k, w) :: put x v r := by rw [un]; show (match (k == x) with | true => _ | false => _) = _; rw [e]
      rw [h1, h2, un]
      show (match (k == x) with | true => _ | false => _) = _
      rw [e]
      show (k, w) :: put x v (put x u r) = _
      rw [put_put x u v r]
theorem unlock_lock {σ : St} {it : V} {xs : List V} (hw : walkOf σ it = some xs) (out : List V) (L : List (Option (List V))) (hL : L = ((lock σ it).cel ++ [none]).set (lock σ it).cel.length (some out)) : unlock it xs ⟨σ.loc, L⟩ = ⟨σ.loc, σ.cel ++ [some out]⟩ := by
  subst hL
  rw [set_last]
  cases it with
  | c k =>
    simp only [walkOf] at hw
    split at hw
    · rename_i ys q
      obtain rfl : ys = xs := by simpa using hw
      have lt : k < σ.cel.length := by
        rcases Nat.lt_or_ge k σ.cel.length with l | l
        · exact l
        · rw [List.getElem?_eq_none l] at q; cases q
      show (⟨σ.loc, ((σ.cel.set k none) ++ [some out]).set k (some ys)⟩ : St) = _
      congr 1
      rw [List.set_append_left _ _ (by rw [List.length_set]; exact lt), List.set_set]
      congr 1
      apply List.ext_getElem?
      intro j
      by_cases d : k = j
      · subst d; rw [List.getElem?_set_self lt, q]
      · rw [List.getElem?_set_ne d]
    · cases hw
  | _ => rfl
theorem compL_pure {x : Str} {xp : Pos} {sc' : Scope} {turn : St → (Option V → St → Prop) → Prop} {loc : List (Str × V)} {cel : List (Option (List V))} {f : V → Option V} (hx : lcN sc' x = true) :
    ∀ (xs : List V) (out : List V) (l : List (Str × V)) (K : List V → St → Prop), (∀ v, put x v l = put x v loc) → (∀ v ∈ xs, ∀ k, k (f v) ⟨put x v loc, cel⟩ → turn ⟨put x v loc, cel⟩ k) → (∀ l, K (out ++ xs.filterMap f) ⟨l, cel⟩) →
      compL (fun v τ k => setT sc' (.Name x xp) v τ fun τ => turn τ k) xs out ⟨l, cel⟩ K
  | [], out, l, K, _, _, hK => by have := hK l; simpa [compL] using this
  | v :: r, out, l, K, hl, hb, hK => by
    rw [compL]
    refine chk_iff.mpr ⟨hx, ?_⟩
    show turn ⟨put x v l, cel⟩ _
    rw [hl v]
    refine hb v List.mem_cons_self _ ?_
    have hl' : ∀ u, put x u (put x v loc) = put x u loc := fun u => put_put x v u loc
    cases q : f v with
    | none =>
      show compL _ r out ⟨put x v loc, cel⟩ K
      refine compL_pure hx r out _ K hl' (fun u hu => hb u (List.mem_cons_of_mem _ hu)) fun l => ?_
      have := hK l
      rwa [List.filterMap_cons_none q] at this
    | some y =>
      show compL _ r (out ++ [y]) ⟨put x v loc, cel⟩ K
      refine compL_pure hx r _ _ K hl' (fun u hu => hb u (List.mem_cons_of_mem _ hu)) fun l => ?_
      have := hK l
      rw [List.filterMap_cons_some q] at this
      simpa using this
theorem compFrom_pure {g : Gl} {n : Nat} {sc scope : Scope} {elt : PySem.Expr} {x : Str} {xp : Pos} {ifs : List PySem.Expr} {it : V} {σ : St} {K : V → St → Prop} {xs : List V} (f : V → Option V) (hw : walkOf σ it = some xs) (hz : xs.length ≤ 1000000) (hx : lcN (compScope scope sc) x = true)
    (hb : ∀ v ∈ xs, ∀ k : Option V → St → Prop, k (f v) ⟨put x v (dropLocals (compScope scope sc) (lock σ it).loc), (lock σ it).cel ++ [none]⟩ → turnOf g n (compScope scope sc) ifs elt ⟨put x v (dropLocals (compScope scope sc) (lock σ it).loc), (lock σ it).cel ++ [none]⟩ k)
    (hK : K (.c σ.cel.length) ⟨σ.loc, σ.cel ++ [some (xs.filterMap f)]⟩) : compFrom g n sc elt (.Name x xp) ifs scope it σ K := by
  unfold compFrom
  rw [hw]
  refine chk_iff.mpr ⟨Nat.ble_eq_true_of_le (by omega), ?_⟩
  refine compL_pure (turn := fun τ k => turnOf g n (compScope scope sc) ifs elt τ k) (f := f) hx xs [] _ _ (fun _ => rfl) hb fun l => ?_
  rw [List.nil_append, unlock_lock hw _ _ rfl, lock_len]
  exact hK
end Mine
end
section
open PySem PySem.W PyProof.Rows PySem.Calls
set_option Elab.async false
namespace Mine
/-- the first argument of the call that statement i's value is -/
noncomputable def valE (s : Stmt) : PySem.Expr := (sv4 s).1
noncomputable def argE (e : PySem.Expr) : PySem.Expr := (ev e).1
noncomputable def stAt (b : List Stmt) (i : Nat) : Stmt := match b[i]? with | some s => s | none => .Break ⟨0,0,0,0⟩
/-! _law_typed -/
noncomputable abbrev b18 := bodyOf P2 18
noncomputable def tyE1 : PySem.Expr := argE (valE (stAt b18 2))
noncomputable def tyE2 : PySem.Expr := argE (valE (stAt b18 3))
noncomputable def startsI : List Int := [97, 65, 119808, 119860, 119912, 120016, 120172, 120224, 120276, 120328, 120380, 120432]
noncomputable def hidI : List Int := [173, 847, 6150, 6155, 6156, 6157, 8203, 8204, 8205, 8288, 65279] ++ (range 65024 65040)
noncomputable def vi (l : List Int) : List V := l.map fun k => .d (.int k)
noncomputable def tyj (n : Int) : Int := (n.fdiv 12).fmod 28
noncomputable def tyCel (n : Int) : List (Option (List V)) := [some (vi startsI), some (vi [173, 847, 6150, 6155, 6156, 6157, 8203, 8204, 8205, 8288, 65279]), some (vi (range 65024 65040)), some (vi hidI), some (cut (some (tyj n)) none (vi hidI)), some (cut none (some 1) (cut (some (tyj n)) none (vi hidI)))]
noncomputable def tyLoc (pack : Str) (n : Int) : List (Str × V) := [("pack", .d (.str pack)), ("n", .d (.int n)), ("starts", .c 0), ("hidden", .c 3)]
noncomputable def joinTo (g : Gl) (f : Nat) (sc : Scope) (rest : List Stmt) (x : Str) (K : PyData → Prop) (v : V) (τ : St) : Prop := mJoin (.d (.str "")) [v] τ fun r τ => wpSs g f sc rest (τ.put x r) (finK K)
theorem ty_1 (pack : Str) (n : Int) (K : PyData → Prop) : wpF G0 30 (scOf P2 18) (psOf P2 18) b18 [.str pack, .int n] K =
    chk (sizeB (cut (some (tyj n)) none (vi hidI)).length) (compE G0 22 (scOf P2 18) tyE1 (.c 5) ⟨tyLoc pack n, tyCel n⟩ (joinTo G0 27 (scOf P2 18) (b18.drop 3) "knot" K)) := by kernel_rfl!
theorem ty_2 (pack : Str) (n c : Int) (L : List (Option (List V))) (k : Option V → St → Prop) : turnOf G0 22 (compScope (lcScope tyE1) (scOf P2 18)) (lcGen tyE1).ifs (lcElt tyE1) ⟨put "code" (.d (.int c)) (dropLocals (compScope (lcScope tyE1) (scOf P2 18)) (tyLoc pack n)), L⟩ k =
    chk (decide (0 ≤ c) && decide (c < 1114112)) (k (some (.d (.str (mkS [c.toNat])))) ⟨put "code" (.d (.int c)) (dropLocals (compScope (lcScope tyE1) (scOf P2 18)) (tyLoc pack n)), L⟩) := by kernel_rfl!
theorem ty_t1 : (lcGen tyE1).target = .Name "code" (posN (lcGen tyE1).target) := by kernel_rfl!
theorem ty_l1 : lcN (compScope (lcScope tyE1) (scOf P2 18)) "code" = true := by kernel_rfl!
noncomputable def tyLoc2 (pack knot : Str) (n : Int) : List (Str × V) := [("pack", .d (.str pack)), ("n", .d (.int n)), ("starts", .c 0), ("hidden", .c 3), ("knot", .d (.str knot))]
theorem ty_3 (pack : Str) (n : Int) (K : PyData → Prop) (out : List V) : joinTo G0 27 (scOf P2 18) (b18.drop 3) "knot" K (.c 6) ⟨tyLoc pack n, tyCel n ++ [some out]⟩ =
    (match strs? out with | some l => chk (JoinOk "" l) (chk (sizeB pack.length) (chk (decide (-1000000 ≤ (pack.length : Int)) && decide ((pack.length : Int) ≤ 1000000)) (compE G0 21 (scOf P2 18) tyE2 (.rng 0 pack.length) ⟨tyLoc2 pack (mkS (l.map fun y => y.cps.toList).flatten) n, tyCel n ++ [some out]⟩ (fun v τ => mJoin (.d (.str "")) [v] τ fun r τ => finK K (.ret r) τ)))) | none => False) := by kernel_rfl!
noncomputable def tyτ (pack knot : Str) (n k : Int) (L : List (Option (List V))) : St := ⟨put "k" (.d (.int k)) (dropLocals (compScope (lcScope tyE2) (scOf P2 18)) (tyLoc2 pack knot n)), some (vi startsI) :: L⟩
theorem ty_4 (pack knot : Str) (n k : Int) (L : List (Option (List V))) (q : Option V → St → Prop) : turnOf G0 21 (compScope (lcScope tyE2) (scOf P2 18)) (lcGen tyE2).ifs (lcElt tyE2) (tyτ pack knot n k L) q =
    chk (smallI (5:Int) || smallI k) (chk (smallI ((n + 5 * k).fmod 12)) (match (seqIndex? ((n + 5 * k).fmod 12) 12).bind (fun x => (vi startsI)[x]?) with
      | some v => chk (smallI k) (match Txt.charAt pack k with
        | some c => opB .Add v (.d (.int c)) (tyτ pack knot n k L) fun r τ => opB .Sub r (.d (.int 97)) τ fun r τ => bChr [r] τ fun r τ => opB .Add (.d (.str knot)) r τ fun r τ => q (some r) τ
        | none => False)
      | none => False)) := by kernel_rfl!
theorem ty_t2 : (lcGen tyE2).target = .Name "k" (posN (lcGen tyE2).target) := by kernel_rfl!
theorem ty_l2 : lcN (compScope (lcScope tyE2) (scOf P2 18)) "k" = true := by kernel_rfl!
end Mine
end
section
open PySem PySem.W PyProof.Rows PySem.Calls
set_option Elab.async false
namespace Mine
theorem joinOk_of {l : List Str} (h : (l.map (·.length)).sum ≤ 1000000) : JoinOk "" l = true := by
  have key : ∀ (l : List Str) (a : Nat), l.foldl (· + ·.length + Str.length "") a = a + (l.map (·.length)).sum := by
    intro l
    induction l with
    | nil => intro a; rfl
    | cons x l ih =>
      intro a
      rw [List.foldl_cons, ih, List.map_cons, List.sum_cons]
      have : Str.length "" = 0 := rfl
      omega
  unfold JoinOk PySem.Builtin.Str.tooLong PySem.sizeLine
  rw [← Array.foldl_toList]
  show (!_) = true
  rw [key l 0]
  simp; omega
theorem cut_map {α β : Type} (lo hi : Option Int) (f : α → β) (l : List α) : cut lo hi (l.map f) = (cut lo hi l).map f := by
  unfold cut
  rw [List.length_map, List.map_take, List.map_drop]
theorem cut_mem {α : Type} {lo hi : Option Int} {l : List α} {x : α} (h : x ∈ cut lo hi l) : x ∈ l := List.mem_of_mem_drop (List.mem_of_mem_take h)
theorem cut_length_le {α : Type} {lo hi : Option Int} {l : List α} : (cut lo hi l).length ≤ l.length := by
  unfold cut
  rw [List.length_take, List.length_drop]; exact Nat.le_trans (Nat.min_le_right _ _) (Nat.sub_le _ _)
theorem strs_map {α : Type} (f : α → Str) : ∀ l : List α, strs? (l.map fun x => .d (.str (f x))) = some (l.map f)
  | [] => rfl
  | x :: r => by
    show (match strs? (r.map fun x => V.d (.str (f x))) with | some l => some (f x :: l) | none => none) = _
    rw [strs_map f r]; rfl
theorem seq_nat {i len : Nat} (h : i < len) : seqIndex? (i : Int) len = some i := by
  unfold seqIndex?
  have : ¬ ((i : Int) < 0) := by omega
  simp [this, h]
/-- a spec's V function of a comprehension: each element some -/
theorem filterMap_all {α : Type} (f : V → Option V) (g : α → V) (h : α → V) (l : List α) (e : ∀ x ∈ l, f (g x) = some (h x)) : (l.map g).filterMap f = l.map h := by
  induction l with
  | nil => rfl
  | cons x r ih =>
    rw [List.map_cons, List.filterMap_cons_some (e x List.mem_cons_self), List.map_cons, ih fun y hy => e y (List.mem_cons_of_mem _ hy)]
end Mine
end
section
open PySem PySem.W PyProof.Rows PySem.Calls
set_option Elab.async false
namespace Mine
noncomputable def knotL (n : Int) : List Nat := (cut none (some 1) (cut (some (tyj n)) none hidI)).map Int.toNat
noncomputable def startN (n : Int) (k : Nat) : Nat := (startsI.getD ((n + 5 * k).fmod 12).toNat 0).toNat
noncomputable def typedL (p : List Nat) (n : Int) : List Nat := ((List.range p.length).map fun k => knotL n ++ [startN n k + p.getD k 97 - 97]).flatten
noncomputable def tySpec : Spec := fun ds K => match ds with
  | [.str x, .int n] => chk (Nat.ble x.length 100 && x.cps.toList.all (fun c => Nat.ble 97 c && Nat.ble c 122) && decide (0 ≤ n) && decide (n ≤ 1000000)) (K (.str (mkS (typedL x.cps.toList n))))
  | _ => False
noncomputable def f1 : V → Option V
  | .d (.int c) => some (.d (.str (mkS [c.toNat])))
  | _ => none
noncomputable def f2 (p : List Nat) (n : Int) : V → Option V
  | .d (.int k) => some (.d (.str (mkS (knotL n ++ [startN n k.toNat + p.getD k.toNat 97 - 97]))))
  | _ => none
theorem hid_all : ∀ c ∈ hidI, 0 ≤ c ∧ c < 1114112 := by decide +kernel
theorem starts_all : ∀ i, i < 12 → ∃ s : Nat, startsI[i]? = some (s : Int) ∧ s ≤ 120432 := by
  have : ∀ i : Nat, i < 12 → (match startsI[i]? with | some s => decide (0 ≤ s) && decide (s ≤ 120432) | none => false) = true := by decide +kernel
  intro i h
  have := this i h
  split at this
  · rename_i s q
    have h0 : 0 ≤ s ∧ s ≤ 120432 := by simpa using this
    exact ⟨s.toNat, by rw [q]; congr 1; omega, by omega⟩
  · cases this
theorem tyj_lt (n : Int) : 0 ≤ tyj n ∧ tyj n < 28 := by
  unfold tyj
  exact ⟨Int.fmod_nonneg_of_pos _ (by omega), Int.fmod_lt_of_pos _ (by omega)⟩
theorem knot_len (n : Int) : (knotL n).length ≤ 1 := by
  unfold knotL
  rw [List.length_map]
  unfold cut
  rw [List.length_take]
  exact Nat.le_trans (Nat.min_le_left _ _) (Nat.le_trans (Nat.sub_le _ _) (Nat.min_le_left 1 _))
theorem sum_le {m : Nat} : ∀ l : List Nat, (∀ x ∈ l, x ≤ m) → l.sum ≤ l.length * m
  | [], _ => by simp
  | x :: r, h => by
    have := sum_le r fun y hy => h y (List.mem_cons_of_mem _ hy)
    have := h x List.mem_cons_self
    rw [List.sum_cons, List.length_cons, Nat.add_mul]; omega
theorem ty_5 (pack knot : Str) (n : Int) (a out : List V) (K : PyData → Prop) : (mJoin (.d (.str "")) [.c 7] ⟨tyLoc2 pack knot n, tyCel n ++ [some a] ++ [some out]⟩ fun r τ => finK K (.ret r) τ) =
    (match strs? out with | some l => chk (JoinOk "" l) (K (.str (mkS (l.map fun y => y.cps.toList).flatten))) | none => False) := by kernel_rfl!
theorem ty_ok : ∀ ds K, tySpec ds K → wpF G0 30 (scOf P2 18) (psOf P2 18) (bodyOf P2 18) ds K := fun ds K h => by
  unfold tySpec at h
  split at h
  · rename_i x n
    have h1 := (chk_iff.mp h).1
    have h2 := (chk_iff.mp h).2
    simp only [Bool.and_eq_true, decide_eq_true_eq, List.all_eq_true] at h1
    obtain ⟨⟨⟨hl, hc⟩, hn0⟩, hn1⟩ := h1
    have hl : x.length ≤ 100 := Nat.le_of_ble_eq_true hl
    have hc : ∀ c ∈ x.cps.toList, 97 ≤ c ∧ c ≤ 122 := fun c m => ⟨Nat.le_of_ble_eq_true (hc c m).1, Nat.le_of_ble_eq_true (hc c m).2⟩
    rw [ty_1]
    have hz : (vi hidI).length = 27 := by decide +kernel
    refine chk_iff.mpr ⟨sizeB_of (by have := @cut_length_le V (some (tyj n)) none (vi hidI); omega), ?_⟩
    unfold compE
    rw [ty_t1]
    have hcut : cut none (some 1) (cut (some (tyj n)) none (vi hidI)) = vi (cut none (some 1) (cut (some (tyj n)) none hidI)) := by
      unfold vi
      rw [cut_map, cut_map]
    have hmem : ∀ c ∈ cut none (some 1) (cut (some (tyj n)) none hidI), 0 ≤ c ∧ c < 1114112 := fun c m => hid_all c (cut_mem (cut_mem m))
    refine compFrom_pure (xs := cut none (some 1) (cut (some (tyj n)) none (vi hidI))) f1 rfl ?_ ty_l1 ?_ ?_
    · have := @cut_length_le V none (some 1) (cut (some (tyj n)) none (vi hidI))
      have := @cut_length_le V (some (tyj n)) none (vi hidI)
      omega
    · rw [hcut]
      intro v hv k hk
      obtain ⟨c, hcm, rfl⟩ := List.mem_map.mp hv
      have := hmem c hcm
      refine Eq.mpr (ty_2 x n c _ k) ?_
      refine chk_iff.mpr ⟨?_, hk⟩
      simp [this]
    · rw [hcut, show (vi (cut none (some 1) (cut (some (tyj n)) none hidI))).filterMap f1 = (cut none (some 1) (cut (some (tyj n)) none hidI)).map fun c => V.d (.str (mkS [c.toNat])) from filterMap_all f1 (fun k => V.d (.int k)) _ _ fun c _ => rfl]
      refine Eq.mpr (ty_3 x n K _) ?_
      rw [strs_map (fun c : Int => mkS [c.toNat])]
      dsimp only
      have hlen1 : (cut none (some 1) (cut (some (tyj n)) none hidI)).length ≤ 1 := by have := knot_len n; unfold knotL at this; rwa [List.length_map] at this
      have hk : ((cut none (some 1) (cut (some (tyj n)) none hidI)).map fun c => mkS [c.toNat]).map (fun y => y.cps.toList) = (cut none (some 1) (cut (some (tyj n)) none hidI)).map fun c => [c.toNat] := by
        rw [List.map_map]; rfl
      have hflat : (((cut none (some 1) (cut (some (tyj n)) none hidI)).map fun c => mkS [c.toNat]).map (fun y => y.cps.toList)).flatten = knotL n := by
        rw [hk]; unfold knotL
        generalize cut none (some 1) (cut (some (tyj n)) none hidI) = l
        induction l with
        | nil => rfl
        | cons c r ih => rw [List.map_cons, List.flatten_cons, ih]; rfl
      refine chk_iff.mpr ⟨joinOk_of ?_, chk_iff.mpr ⟨sizeB_of (by omega), chk_iff.mpr ⟨by simp; omega, ?_⟩⟩⟩
      · rw [List.map_map]
        have := sum_le (m := 1) ((cut none (some 1) (cut (some (tyj n)) none hidI)).map ((fun z : Str => z.length) ∘ fun c => mkS [c.toNat])) (fun y hy => by
          obtain ⟨c, _, rfl⟩ := List.mem_map.mp hy
          show (mkS [c.toNat]).length ≤ 1
          rw [mkS_len]; simp)
        rw [List.length_map] at this
        omega
      · rw [hflat]
        unfold compE
        rw [ty_t2]
        have hr : range 0 (x.length : Int) = (List.range x.length).map fun k => ((k : Nat) : Int) := by
          unfold range
          simp
        refine compFrom_pure (xs := (range 0 x.length).map fun k => V.d (.int k)) (f2 x.cps.toList n) ?_ ?_ ty_l2 ?_ ?_
        · show (match decide (-1000000 ≤ (0:Int)) && decide ((0:Int) ≤ 1000000) && decide (-1000000 ≤ (x.length : Int)) && decide ((x.length : Int) ≤ 1000000) with | true => some ((range 0 x.length).map fun k => V.d (.int k)) | false => none) = _
          rw [show (decide (-1000000 ≤ (0:Int)) && decide ((0:Int) ≤ 1000000) && decide (-1000000 ≤ (x.length : Int)) && decide ((x.length : Int) ≤ 1000000)) = true by simp; omega]
        · rw [hr]; simp; omega
        · rw [hr]
          intro v hv q hq
          obtain ⟨k', hk', rfl⟩ := List.mem_map.mp hv
          obtain ⟨k, hkm, rfl⟩ := List.mem_map.mp hk'
          have hkl : k < x.length := List.mem_range.mp hkm
          refine Eq.mpr (ty_4 x (mkS (knotL n)) n k _ q) ?_
          have hm : 0 ≤ (n + 5 * (k:Int)).fmod 12 ∧ (n + 5 * (k:Int)).fmod 12 < 12 := ⟨Int.fmod_nonneg_of_pos _ (by omega), Int.fmod_lt_of_pos _ (by omega)⟩
          obtain ⟨s, hs, hsl⟩ := starts_all ((n + 5 * (k:Int)).fmod 12).toNat (by omega)
          have hsq : seqIndex? ((n + 5 * (k:Int)).fmod 12) 12 = some ((n + 5 * (k:Int)).fmod 12).toNat := by
            have := @seq_nat ((n + 5 * (k:Int)).fmod 12).toNat 12 (by omega)
            rwa [Int.toNat_of_nonneg hm.1] at this
          have hv : (vi startsI)[((n + 5 * (k:Int)).fmod 12).toNat]? = some (.d (.int s)) := by
            unfold vi
            rw [List.getElem?_map, hs]; rfl
          have hst : startN n k = s := by
            unfold startN
            rw [List.getD_eq_getElem?_getD, hs]; rfl
          have hkx : k < x.cps.toList.length := by rw [len_toList]; exact hkl
          have hch : x.cps.toList[k]? = some x.cps.toList[k] := List.getElem?_eq_getElem hkx
          have hcb := hc _ (List.getElem_mem hkx)
          have hpd : x.cps.toList.getD k 97 = x.cps.toList[k] := by rw [List.getD_eq_getElem?_getD, hch]; rfl
          refine chk_iff.mpr ⟨by rw [show smallI (5:Int) = true from by decide +kernel]; rfl, chk_iff.mpr ⟨?_, ?_⟩⟩
          · unfold smallI; simp; omega
          rw [hsq]
          rw [show (some ((n + 5 * (k:Int)).fmod 12).toNat).bind (fun x => (vi startsI)[x]?) = some (.d (.int s)) from hv]
          dsimp only
          rw [smallI_nat (by omega : k < 1000000000), chk_t, charAt_nat, hch]
          dsimp only
          have hq' : q (some (.d (.str (mkS (knotL n ++ [startN n k + x.cps.toList.getD k 97 - 97]))))) (tyτ x (mkS (knotL n)) n k ((lock ⟨tyLoc2 x (mkS (knotL n)) n, tyCel n ++ [some ((cut none (some 1) (cut (some (tyj n)) none hidI)).map fun c => V.d (.str (mkS [c.toNat])))]⟩ (.rng 0 x.length)).cel.drop 1 ++ [none])) := hq
          have he : ((s : Int) + (x.cps.toList[k] : Int) - 97).toNat = startN n k + x.cps.toList.getD k 97 - 97 := by rw [hst, hpd]; omega
          rw [← he] at hq'
          refine chk_iff.mpr ⟨by rw [Bool.and_eq_true, decide_eq_true_eq, decide_eq_true_eq]; omega, ?_⟩
          refine chk_iff.mpr ⟨?_, hq'⟩
          rw [mkS_len]
          have := knot_len n
          exact sizeB_of (by simp [mkS_len]; omega)
        · have hfm : ((range 0 x.length).map fun k => V.d (.int k)).filterMap (f2 x.cps.toList n) = (List.range x.length).map fun k => V.d (.str (mkS (knotL n ++ [startN n k + x.cps.toList.getD k 97 - 97]))) := by
            rw [hr, List.map_map]
            exact filterMap_all (f2 x.cps.toList n) (fun k : Nat => V.d (.int ((k : Nat) : Int))) (fun k => V.d (.str (mkS (knotL n ++ [startN n k + x.cps.toList.getD k 97 - 97])))) _ fun k _ => rfl
          rw [hfm]
          refine Eq.mpr (ty_5 x (mkS (knotL n)) n _ _ K) ?_
          rw [strs_map (fun k : Nat => mkS (knotL n ++ [startN n k + x.cps.toList.getD k 97 - 97]))]
          dsimp only
          refine chk_iff.mpr ⟨joinOk_of ?_, ?_⟩
          · rw [List.map_map]
            have := sum_le (m := 2) ((List.range x.length).map ((fun z : Str => z.length) ∘ fun k => mkS (knotL n ++ [startN n k + x.cps.toList.getD k 97 - 97]))) (fun y hy => by
              obtain ⟨c, _, rfl⟩ := List.mem_map.mp hy
              show (mkS _).length ≤ 2
              rw [mkS_len, List.length_append]
              have := knot_len n
              simp; omega)
            rw [List.length_map, List.length_range] at this
            omega
          · rw [List.map_map]
            have : (fun y : Str => y.cps.toList) ∘ (fun k : Nat => mkS (knotL n ++ [startN n k + x.cps.toList.getD k 97 - 97])) = fun k => knotL n ++ [startN n k + x.cps.toList.getD k 97 - 97] := rfl
            rw [this]
            unfold typedL at h2
            rw [len_toList] at h2
            exact h2
  · cases h
end Mine
end
section
open PySem PySem.W PyProof.Rows PySem.Calls
set_option Elab.async false
namespace Mine
noncomputable def G1 : Gl := mkGl [("parse257", pSpec)]
noncomputable abbrev b19 := bodyOf P2 20
noncomputable def tR (τ : St) (k : Option Fl → St → Prop) : Prop := wpT G1 27 (scOf P2 20) (whOf b19 1).1 τ fun c τ => br c (wpSs G1 27 (scOf P2 20) (whOf b19 1).2 τ fun f τ => k (some f) τ) (k none τ)
noncomputable def rdQ (K : PyData → Prop) : Fl → St → Prop := fun f σ => match f with
  | .next => wpSs G1 28 (scOf P2 20) (b19.drop 2) σ (finK K) | .brk => finK K .brk σ | .ret v => finK K (.ret v) σ
noncomputable def rdS (n : Int) (s told : Str) (times : Int) : St := ⟨[("number", .d (.int n)), ("sign", .d (.str s)), ("times", .d (.int times)), ("told", .d (.str told))], []⟩
theorem rd_1 (n : Int) (s : Str) (K : PyData → Prop) : wpF G1 30 (scOf P2 20) (psOf P2 20) b19 [.int n, .str s] K =
    chk (decide (0 ≤ n) && decide (n ≤ 1000000) && sizeB (Str.length "\"" * n.toNat)) (chk (sizeB ((mkS (rep n.toNat [34])).length + s.length)) (∃ m, whileN tR m (rdS n s (mkS (rep n.toNat [34] ++ s.cps.toList)) (-1)) (rdQ K))) := by kernel_rfl!
theorem rd_1_0 (K : PyData → Prop) : wpF G1 30 (scOf P2 20) (psOf P2 20) b19 [.int 1, .str "z"] K = ∃ m, whileN tR m (rdS 1 "z" (mkS (rep (Int.toNat 1) [34] ++ Array.toList (Str.cps "z"))) (-1)) (rdQ K) := by kernel_rfl!
theorem rw_1_0 (K : PyData → Prop) : whileN tR 6 (rdS 1 "z" (mkS (rep (Int.toNat 1) [34] ++ Array.toList (Str.cps "z"))) (-1)) (rdQ K) = K (.tuple [.int 0, .int 0]) := by kernel_rfl!
theorem rd_1_1 (K : PyData → Prop) : wpF G1 30 (scOf P2 20) (psOf P2 20) b19 [.int 1, .str " "] K = ∃ m, whileN tR m (rdS 1 " " (mkS (rep (Int.toNat 1) [34] ++ Array.toList (Str.cps " "))) (-1)) (rdQ K) := by kernel_rfl!
theorem rw_1_1 (K : PyData → Prop) : whileN tR 6 (rdS 1 " " (mkS (rep (Int.toNat 1) [34] ++ Array.toList (Str.cps " "))) (-1)) (rdQ K) = K (.tuple [.int 0, .int 0]) := by kernel_rfl!
theorem rd_1_2 (K : PyData → Prop) : wpF G1 30 (scOf P2 20) (psOf P2 20) b19 [.int 1, .str "\n"] K = ∃ m, whileN tR m (rdS 1 "\n" (mkS (rep (Int.toNat 1) [34] ++ Array.toList (Str.cps "\n"))) (-1)) (rdQ K) := by kernel_rfl!
theorem rw_1_2 (K : PyData → Prop) : whileN tR 6 (rdS 1 "\n" (mkS (rep (Int.toNat 1) [34] ++ Array.toList (Str.cps "\n"))) (-1)) (rdQ K) = K (.tuple [.int 0, .int 0]) := by kernel_rfl!
theorem rd_1_3 (K : PyData → Prop) : wpF G1 30 (scOf P2 20) (psOf P2 20) b19 [.int 1, .str "'"] K = ∃ m, whileN tR m (rdS 1 "'" (mkS (rep (Int.toNat 1) [34] ++ Array.toList (Str.cps "'"))) (-1)) (rdQ K) := by kernel_rfl!
theorem rw_1_3 (K : PyData → Prop) : whileN tR 6 (rdS 1 "'" (mkS (rep (Int.toNat 1) [34] ++ Array.toList (Str.cps "'"))) (-1)) (rdQ K) = K (.tuple [.int 0, .int 0]) := by kernel_rfl!
theorem rd_2_0 (K : PyData → Prop) : wpF G1 30 (scOf P2 20) (psOf P2 20) b19 [.int 2, .str "z"] K = ∃ m, whileN tR m (rdS 2 "z" (mkS (rep (Int.toNat 2) [34] ++ Array.toList (Str.cps "z"))) (-1)) (rdQ K) := by kernel_rfl!
theorem rw_2_0 (K : PyData → Prop) : whileN tR 6 (rdS 2 "z" (mkS (rep (Int.toNat 2) [34] ++ Array.toList (Str.cps "z"))) (-1)) (rdQ K) = K (.tuple [.int 1, .int 0]) := by kernel_rfl!
theorem rd_2_1 (K : PyData → Prop) : wpF G1 30 (scOf P2 20) (psOf P2 20) b19 [.int 2, .str " "] K = ∃ m, whileN tR m (rdS 2 " " (mkS (rep (Int.toNat 2) [34] ++ Array.toList (Str.cps " "))) (-1)) (rdQ K) := by kernel_rfl!
theorem rw_2_1 (K : PyData → Prop) : whileN tR 6 (rdS 2 " " (mkS (rep (Int.toNat 2) [34] ++ Array.toList (Str.cps " "))) (-1)) (rdQ K) = K (.tuple [.int 1, .int 0]) := by kernel_rfl!
theorem rd_2_2 (K : PyData → Prop) : wpF G1 30 (scOf P2 20) (psOf P2 20) b19 [.int 2, .str "\n"] K = ∃ m, whileN tR m (rdS 2 "\n" (mkS (rep (Int.toNat 2) [34] ++ Array.toList (Str.cps "\n"))) (-1)) (rdQ K) := by kernel_rfl!
theorem rw_2_2 (K : PyData → Prop) : whileN tR 6 (rdS 2 "\n" (mkS (rep (Int.toNat 2) [34] ++ Array.toList (Str.cps "\n"))) (-1)) (rdQ K) = K (.tuple [.int 1, .int 0]) := by kernel_rfl!
theorem rd_2_3 (K : PyData → Prop) : wpF G1 30 (scOf P2 20) (psOf P2 20) b19 [.int 2, .str "'"] K = ∃ m, whileN tR m (rdS 2 "'" (mkS (rep (Int.toNat 2) [34] ++ Array.toList (Str.cps "'"))) (-1)) (rdQ K) := by kernel_rfl!
theorem rw_2_3 (K : PyData → Prop) : whileN tR 6 (rdS 2 "'" (mkS (rep (Int.toNat 2) [34] ++ Array.toList (Str.cps "'"))) (-1)) (rdQ K) = K (.tuple [.int 1, .int 0]) := by kernel_rfl!
theorem rd_3_0 (K : PyData → Prop) : wpF G1 30 (scOf P2 20) (psOf P2 20) b19 [.int 3, .str "z"] K = ∃ m, whileN tR m (rdS 3 "z" (mkS (rep (Int.toNat 3) [34] ++ Array.toList (Str.cps "z"))) (-1)) (rdQ K) := by kernel_rfl!
theorem rw_3_0 (K : PyData → Prop) : whileN tR 6 (rdS 3 "z" (mkS (rep (Int.toNat 3) [34] ++ Array.toList (Str.cps "z"))) (-1)) (rdQ K) = K (.tuple [.int 0, .int 1]) := by kernel_rfl!
theorem rd_3_1 (K : PyData → Prop) : wpF G1 30 (scOf P2 20) (psOf P2 20) b19 [.int 3, .str " "] K = ∃ m, whileN tR m (rdS 3 " " (mkS (rep (Int.toNat 3) [34] ++ Array.toList (Str.cps " "))) (-1)) (rdQ K) := by kernel_rfl!
theorem rw_3_1 (K : PyData → Prop) : whileN tR 6 (rdS 3 " " (mkS (rep (Int.toNat 3) [34] ++ Array.toList (Str.cps " "))) (-1)) (rdQ K) = K (.tuple [.int 0, .int 1]) := by kernel_rfl!
theorem rd_3_2 (K : PyData → Prop) : wpF G1 30 (scOf P2 20) (psOf P2 20) b19 [.int 3, .str "\n"] K = ∃ m, whileN tR m (rdS 3 "\n" (mkS (rep (Int.toNat 3) [34] ++ Array.toList (Str.cps "\n"))) (-1)) (rdQ K) := by kernel_rfl!
theorem rw_3_2 (K : PyData → Prop) : whileN tR 6 (rdS 3 "\n" (mkS (rep (Int.toNat 3) [34] ++ Array.toList (Str.cps "\n"))) (-1)) (rdQ K) = K (.tuple [.int 0, .int 1]) := by kernel_rfl!
theorem rd_3_3 (K : PyData → Prop) : wpF G1 30 (scOf P2 20) (psOf P2 20) b19 [.int 3, .str "'"] K = ∃ m, whileN tR m (rdS 3 "'" (mkS (rep (Int.toNat 3) [34] ++ Array.toList (Str.cps "'"))) (-1)) (rdQ K) := by kernel_rfl!
theorem rw_3_3 (K : PyData → Prop) : whileN tR 6 (rdS 3 "'" (mkS (rep (Int.toNat 3) [34] ++ Array.toList (Str.cps "'"))) (-1)) (rdQ K) = K (.tuple [.int 0, .int 1]) := by kernel_rfl!
theorem rd_4_0 (K : PyData → Prop) : wpF G1 30 (scOf P2 20) (psOf P2 20) b19 [.int 4, .str "z"] K = ∃ m, whileN tR m (rdS 4 "z" (mkS (rep (Int.toNat 4) [34] ++ Array.toList (Str.cps "z"))) (-1)) (rdQ K) := by kernel_rfl!
theorem rw_4_0 (K : PyData → Prop) : whileN tR 6 (rdS 4 "z" (mkS (rep (Int.toNat 4) [34] ++ Array.toList (Str.cps "z"))) (-1)) (rdQ K) = K (.tuple [.int 2, .int 0]) := by kernel_rfl!
theorem rd_4_1 (K : PyData → Prop) : wpF G1 30 (scOf P2 20) (psOf P2 20) b19 [.int 4, .str " "] K = ∃ m, whileN tR m (rdS 4 " " (mkS (rep (Int.toNat 4) [34] ++ Array.toList (Str.cps " "))) (-1)) (rdQ K) := by kernel_rfl!
theorem rw_4_1 (K : PyData → Prop) : whileN tR 6 (rdS 4 " " (mkS (rep (Int.toNat 4) [34] ++ Array.toList (Str.cps " "))) (-1)) (rdQ K) = K (.tuple [.int 2, .int 0]) := by kernel_rfl!
theorem rd_4_2 (K : PyData → Prop) : wpF G1 30 (scOf P2 20) (psOf P2 20) b19 [.int 4, .str "\n"] K = ∃ m, whileN tR m (rdS 4 "\n" (mkS (rep (Int.toNat 4) [34] ++ Array.toList (Str.cps "\n"))) (-1)) (rdQ K) := by kernel_rfl!
theorem rw_4_2 (K : PyData → Prop) : whileN tR 6 (rdS 4 "\n" (mkS (rep (Int.toNat 4) [34] ++ Array.toList (Str.cps "\n"))) (-1)) (rdQ K) = K (.tuple [.int 2, .int 0]) := by kernel_rfl!
theorem rd_4_3 (K : PyData → Prop) : wpF G1 30 (scOf P2 20) (psOf P2 20) b19 [.int 4, .str "'"] K = ∃ m, whileN tR m (rdS 4 "'" (mkS (rep (Int.toNat 4) [34] ++ Array.toList (Str.cps "'"))) (-1)) (rdQ K) := by kernel_rfl!
theorem rw_4_3 (K : PyData → Prop) : whileN tR 6 (rdS 4 "'" (mkS (rep (Int.toNat 4) [34] ++ Array.toList (Str.cps "'"))) (-1)) (rdQ K) = K (.tuple [.int 2, .int 0]) := by kernel_rfl!
theorem rd_5_0 (K : PyData → Prop) : wpF G1 30 (scOf P2 20) (psOf P2 20) b19 [.int 5, .str "z"] K = ∃ m, whileN tR m (rdS 5 "z" (mkS (rep (Int.toNat 5) [34] ++ Array.toList (Str.cps "z"))) (-1)) (rdQ K) := by kernel_rfl!
theorem rw_5_0 (K : PyData → Prop) : whileN tR 6 (rdS 5 "z" (mkS (rep (Int.toNat 5) [34] ++ Array.toList (Str.cps "z"))) (-1)) (rdQ K) = K (.tuple [.int 0, .int 2]) := by kernel_rfl!
theorem rd_5_1 (K : PyData → Prop) : wpF G1 30 (scOf P2 20) (psOf P2 20) b19 [.int 5, .str " "] K = ∃ m, whileN tR m (rdS 5 " " (mkS (rep (Int.toNat 5) [34] ++ Array.toList (Str.cps " "))) (-1)) (rdQ K) := by kernel_rfl!
theorem rw_5_1 (K : PyData → Prop) : whileN tR 6 (rdS 5 " " (mkS (rep (Int.toNat 5) [34] ++ Array.toList (Str.cps " "))) (-1)) (rdQ K) = K (.tuple [.int 0, .int 2]) := by kernel_rfl!
theorem rd_5_2 (K : PyData → Prop) : wpF G1 30 (scOf P2 20) (psOf P2 20) b19 [.int 5, .str "\n"] K = ∃ m, whileN tR m (rdS 5 "\n" (mkS (rep (Int.toNat 5) [34] ++ Array.toList (Str.cps "\n"))) (-1)) (rdQ K) := by kernel_rfl!
theorem rw_5_2 (K : PyData → Prop) : whileN tR 6 (rdS 5 "\n" (mkS (rep (Int.toNat 5) [34] ++ Array.toList (Str.cps "\n"))) (-1)) (rdQ K) = K (.tuple [.int 0, .int 2]) := by kernel_rfl!
theorem rd_5_3 (K : PyData → Prop) : wpF G1 30 (scOf P2 20) (psOf P2 20) b19 [.int 5, .str "'"] K = ∃ m, whileN tR m (rdS 5 "'" (mkS (rep (Int.toNat 5) [34] ++ Array.toList (Str.cps "'"))) (-1)) (rdQ K) := by kernel_rfl!
theorem rw_5_3 (K : PyData → Prop) : whileN tR 6 (rdS 5 "'" (mkS (rep (Int.toNat 5) [34] ++ Array.toList (Str.cps "'"))) (-1)) (rdQ K) = K (.tuple [.int 0, .int 2]) := by kernel_rfl!
theorem rd_6_0 (K : PyData → Prop) : wpF G1 30 (scOf P2 20) (psOf P2 20) b19 [.int 6, .str "z"] K = ∃ m, whileN tR m (rdS 6 "z" (mkS (rep (Int.toNat 6) [34] ++ Array.toList (Str.cps "z"))) (-1)) (rdQ K) := by kernel_rfl!
theorem rw_6_0 (K : PyData → Prop) : whileN tR 6 (rdS 6 "z" (mkS (rep (Int.toNat 6) [34] ++ Array.toList (Str.cps "z"))) (-1)) (rdQ K) = K (.tuple [.int 1, .int 1]) := by kernel_rfl!
theorem rd_6_1 (K : PyData → Prop) : wpF G1 30 (scOf P2 20) (psOf P2 20) b19 [.int 6, .str " "] K = ∃ m, whileN tR m (rdS 6 " " (mkS (rep (Int.toNat 6) [34] ++ Array.toList (Str.cps " "))) (-1)) (rdQ K) := by kernel_rfl!
theorem rw_6_1 (K : PyData → Prop) : whileN tR 6 (rdS 6 " " (mkS (rep (Int.toNat 6) [34] ++ Array.toList (Str.cps " "))) (-1)) (rdQ K) = K (.tuple [.int 1, .int 1]) := by kernel_rfl!
theorem rd_6_2 (K : PyData → Prop) : wpF G1 30 (scOf P2 20) (psOf P2 20) b19 [.int 6, .str "\n"] K = ∃ m, whileN tR m (rdS 6 "\n" (mkS (rep (Int.toNat 6) [34] ++ Array.toList (Str.cps "\n"))) (-1)) (rdQ K) := by kernel_rfl!
theorem rw_6_2 (K : PyData → Prop) : whileN tR 6 (rdS 6 "\n" (mkS (rep (Int.toNat 6) [34] ++ Array.toList (Str.cps "\n"))) (-1)) (rdQ K) = K (.tuple [.int 1, .int 1]) := by kernel_rfl!
theorem rd_6_3 (K : PyData → Prop) : wpF G1 30 (scOf P2 20) (psOf P2 20) b19 [.int 6, .str "'"] K = ∃ m, whileN tR m (rdS 6 "'" (mkS (rep (Int.toNat 6) [34] ++ Array.toList (Str.cps "'"))) (-1)) (rdQ K) := by kernel_rfl!
theorem rw_6_3 (K : PyData → Prop) : whileN tR 6 (rdS 6 "'" (mkS (rep (Int.toNat 6) [34] ++ Array.toList (Str.cps "'"))) (-1)) (rdQ K) = K (.tuple [.int 1, .int 1]) := by kernel_rfl!
theorem rd_7_0 (K : PyData → Prop) : wpF G1 30 (scOf P2 20) (psOf P2 20) b19 [.int 7, .str "z"] K = ∃ m, whileN tR m (rdS 7 "z" (mkS (rep (Int.toNat 7) [34] ++ Array.toList (Str.cps "z"))) (-1)) (rdQ K) := by kernel_rfl!
theorem rw_7_0 (K : PyData → Prop) : whileN tR 6 (rdS 7 "z" (mkS (rep (Int.toNat 7) [34] ++ Array.toList (Str.cps "z"))) (-1)) (rdQ K) = K (.tuple [.int 0, .int 3]) := by kernel_rfl!
theorem rd_7_1 (K : PyData → Prop) : wpF G1 30 (scOf P2 20) (psOf P2 20) b19 [.int 7, .str " "] K = ∃ m, whileN tR m (rdS 7 " " (mkS (rep (Int.toNat 7) [34] ++ Array.toList (Str.cps " "))) (-1)) (rdQ K) := by kernel_rfl!
theorem rw_7_1 (K : PyData → Prop) : whileN tR 6 (rdS 7 " " (mkS (rep (Int.toNat 7) [34] ++ Array.toList (Str.cps " "))) (-1)) (rdQ K) = K (.tuple [.int 0, .int 3]) := by kernel_rfl!
theorem rd_7_2 (K : PyData → Prop) : wpF G1 30 (scOf P2 20) (psOf P2 20) b19 [.int 7, .str "\n"] K = ∃ m, whileN tR m (rdS 7 "\n" (mkS (rep (Int.toNat 7) [34] ++ Array.toList (Str.cps "\n"))) (-1)) (rdQ K) := by kernel_rfl!
theorem rw_7_2 (K : PyData → Prop) : whileN tR 6 (rdS 7 "\n" (mkS (rep (Int.toNat 7) [34] ++ Array.toList (Str.cps "\n"))) (-1)) (rdQ K) = K (.tuple [.int 0, .int 3]) := by kernel_rfl!
theorem rd_7_3 (K : PyData → Prop) : wpF G1 30 (scOf P2 20) (psOf P2 20) b19 [.int 7, .str "'"] K = ∃ m, whileN tR m (rdS 7 "'" (mkS (rep (Int.toNat 7) [34] ++ Array.toList (Str.cps "'"))) (-1)) (rdQ K) := by kernel_rfl!
theorem rw_7_3 (K : PyData → Prop) : whileN tR 6 (rdS 7 "'" (mkS (rep (Int.toNat 7) [34] ++ Array.toList (Str.cps "'"))) (-1)) (rdQ K) = K (.tuple [.int 0, .int 3]) := by kernel_rfl!
theorem rd_8_0 (K : PyData → Prop) : wpF G1 30 (scOf P2 20) (psOf P2 20) b19 [.int 8, .str "z"] K = ∃ m, whileN tR m (rdS 8 "z" (mkS (rep (Int.toNat 8) [34] ++ Array.toList (Str.cps "z"))) (-1)) (rdQ K) := by kernel_rfl!
theorem rw_8_0 (K : PyData → Prop) : whileN tR 6 (rdS 8 "z" (mkS (rep (Int.toNat 8) [34] ++ Array.toList (Str.cps "z"))) (-1)) (rdQ K) = K (.tuple [.int 3, .int 0]) := by kernel_rfl!
theorem rd_8_1 (K : PyData → Prop) : wpF G1 30 (scOf P2 20) (psOf P2 20) b19 [.int 8, .str " "] K = ∃ m, whileN tR m (rdS 8 " " (mkS (rep (Int.toNat 8) [34] ++ Array.toList (Str.cps " "))) (-1)) (rdQ K) := by kernel_rfl!
theorem rw_8_1 (K : PyData → Prop) : whileN tR 6 (rdS 8 " " (mkS (rep (Int.toNat 8) [34] ++ Array.toList (Str.cps " "))) (-1)) (rdQ K) = K (.tuple [.int 3, .int 0]) := by kernel_rfl!
theorem rd_8_2 (K : PyData → Prop) : wpF G1 30 (scOf P2 20) (psOf P2 20) b19 [.int 8, .str "\n"] K = ∃ m, whileN tR m (rdS 8 "\n" (mkS (rep (Int.toNat 8) [34] ++ Array.toList (Str.cps "\n"))) (-1)) (rdQ K) := by kernel_rfl!
theorem rw_8_2 (K : PyData → Prop) : whileN tR 6 (rdS 8 "\n" (mkS (rep (Int.toNat 8) [34] ++ Array.toList (Str.cps "\n"))) (-1)) (rdQ K) = K (.tuple [.int 3, .int 0]) := by kernel_rfl!
theorem rd_8_3 (K : PyData → Prop) : wpF G1 30 (scOf P2 20) (psOf P2 20) b19 [.int 8, .str "'"] K = ∃ m, whileN tR m (rdS 8 "'" (mkS (rep (Int.toNat 8) [34] ++ Array.toList (Str.cps "'"))) (-1)) (rdQ K) := by kernel_rfl!
theorem rw_8_3 (K : PyData → Prop) : whileN tR 6 (rdS 8 "'" (mkS (rep (Int.toNat 8) [34] ++ Array.toList (Str.cps "'"))) (-1)) (rdQ K) = K (.tuple [.int 3, .int 0]) := by kernel_rfl!
theorem rd_9_0 (K : PyData → Prop) : wpF G1 30 (scOf P2 20) (psOf P2 20) b19 [.int 9, .str "z"] K = ∃ m, whileN tR m (rdS 9 "z" (mkS (rep (Int.toNat 9) [34] ++ Array.toList (Str.cps "z"))) (-1)) (rdQ K) := by kernel_rfl!
theorem rw_9_0 (K : PyData → Prop) : whileN tR 6 (rdS 9 "z" (mkS (rep (Int.toNat 9) [34] ++ Array.toList (Str.cps "z"))) (-1)) (rdQ K) = K (.tuple [.int 0, .int 4]) := by kernel_rfl!
theorem rd_9_1 (K : PyData → Prop) : wpF G1 30 (scOf P2 20) (psOf P2 20) b19 [.int 9, .str " "] K = ∃ m, whileN tR m (rdS 9 " " (mkS (rep (Int.toNat 9) [34] ++ Array.toList (Str.cps " "))) (-1)) (rdQ K) := by kernel_rfl!
theorem rw_9_1 (K : PyData → Prop) : whileN tR 6 (rdS 9 " " (mkS (rep (Int.toNat 9) [34] ++ Array.toList (Str.cps " "))) (-1)) (rdQ K) = K (.tuple [.int 0, .int 4]) := by kernel_rfl!
theorem rd_9_2 (K : PyData → Prop) : wpF G1 30 (scOf P2 20) (psOf P2 20) b19 [.int 9, .str "\n"] K = ∃ m, whileN tR m (rdS 9 "\n" (mkS (rep (Int.toNat 9) [34] ++ Array.toList (Str.cps "\n"))) (-1)) (rdQ K) := by kernel_rfl!
theorem rw_9_2 (K : PyData → Prop) : whileN tR 6 (rdS 9 "\n" (mkS (rep (Int.toNat 9) [34] ++ Array.toList (Str.cps "\n"))) (-1)) (rdQ K) = K (.tuple [.int 0, .int 4]) := by kernel_rfl!
theorem rd_9_3 (K : PyData → Prop) : wpF G1 30 (scOf P2 20) (psOf P2 20) b19 [.int 9, .str "'"] K = ∃ m, whileN tR m (rdS 9 "'" (mkS (rep (Int.toNat 9) [34] ++ Array.toList (Str.cps "'"))) (-1)) (rdQ K) := by kernel_rfl!
theorem rw_9_3 (K : PyData → Prop) : whileN tR 6 (rdS 9 "'" (mkS (rep (Int.toNat 9) [34] ++ Array.toList (Str.cps "'"))) (-1)) (rdQ K) = K (.tuple [.int 0, .int 4]) := by kernel_rfl!
theorem rd_10_0 (K : PyData → Prop) : wpF G1 30 (scOf P2 20) (psOf P2 20) b19 [.int 10, .str "z"] K = ∃ m, whileN tR m (rdS 10 "z" (mkS (rep (Int.toNat 10) [34] ++ Array.toList (Str.cps "z"))) (-1)) (rdQ K) := by kernel_rfl!
theorem rw_10_0 (K : PyData → Prop) : whileN tR 6 (rdS 10 "z" (mkS (rep (Int.toNat 10) [34] ++ Array.toList (Str.cps "z"))) (-1)) (rdQ K) = K (.tuple [.int 1, .int 2]) := by kernel_rfl!
theorem rd_10_1 (K : PyData → Prop) : wpF G1 30 (scOf P2 20) (psOf P2 20) b19 [.int 10, .str " "] K = ∃ m, whileN tR m (rdS 10 " " (mkS (rep (Int.toNat 10) [34] ++ Array.toList (Str.cps " "))) (-1)) (rdQ K) := by kernel_rfl!
theorem rw_10_1 (K : PyData → Prop) : whileN tR 6 (rdS 10 " " (mkS (rep (Int.toNat 10) [34] ++ Array.toList (Str.cps " "))) (-1)) (rdQ K) = K (.tuple [.int 1, .int 2]) := by kernel_rfl!
theorem rd_10_2 (K : PyData → Prop) : wpF G1 30 (scOf P2 20) (psOf P2 20) b19 [.int 10, .str "\n"] K = ∃ m, whileN tR m (rdS 10 "\n" (mkS (rep (Int.toNat 10) [34] ++ Array.toList (Str.cps "\n"))) (-1)) (rdQ K) := by kernel_rfl!
theorem rw_10_2 (K : PyData → Prop) : whileN tR 6 (rdS 10 "\n" (mkS (rep (Int.toNat 10) [34] ++ Array.toList (Str.cps "\n"))) (-1)) (rdQ K) = K (.tuple [.int 1, .int 2]) := by kernel_rfl!
theorem rd_10_3 (K : PyData → Prop) : wpF G1 30 (scOf P2 20) (psOf P2 20) b19 [.int 10, .str "'"] K = ∃ m, whileN tR m (rdS 10 "'" (mkS (rep (Int.toNat 10) [34] ++ Array.toList (Str.cps "'"))) (-1)) (rdQ K) := by kernel_rfl!
theorem rw_10_3 (K : PyData → Prop) : whileN tR 6 (rdS 10 "'" (mkS (rep (Int.toNat 10) [34] ++ Array.toList (Str.cps "'"))) (-1)) (rdQ K) = K (.tuple [.int 1, .int 2]) := by kernel_rfl!
theorem rd_11_0 (K : PyData → Prop) : wpF G1 30 (scOf P2 20) (psOf P2 20) b19 [.int 11, .str "z"] K = ∃ m, whileN tR m (rdS 11 "z" (mkS (rep (Int.toNat 11) [34] ++ Array.toList (Str.cps "z"))) (-1)) (rdQ K) := by kernel_rfl!
theorem rw_11_0 (K : PyData → Prop) : whileN tR 6 (rdS 11 "z" (mkS (rep (Int.toNat 11) [34] ++ Array.toList (Str.cps "z"))) (-1)) (rdQ K) = K (.tuple [.int 0, .int 5]) := by kernel_rfl!
theorem rd_11_1 (K : PyData → Prop) : wpF G1 30 (scOf P2 20) (psOf P2 20) b19 [.int 11, .str " "] K = ∃ m, whileN tR m (rdS 11 " " (mkS (rep (Int.toNat 11) [34] ++ Array.toList (Str.cps " "))) (-1)) (rdQ K) := by kernel_rfl!
theorem rw_11_1 (K : PyData → Prop) : whileN tR 6 (rdS 11 " " (mkS (rep (Int.toNat 11) [34] ++ Array.toList (Str.cps " "))) (-1)) (rdQ K) = K (.tuple [.int 0, .int 5]) := by kernel_rfl!
theorem rd_11_2 (K : PyData → Prop) : wpF G1 30 (scOf P2 20) (psOf P2 20) b19 [.int 11, .str "\n"] K = ∃ m, whileN tR m (rdS 11 "\n" (mkS (rep (Int.toNat 11) [34] ++ Array.toList (Str.cps "\n"))) (-1)) (rdQ K) := by kernel_rfl!
theorem rw_11_2 (K : PyData → Prop) : whileN tR 6 (rdS 11 "\n" (mkS (rep (Int.toNat 11) [34] ++ Array.toList (Str.cps "\n"))) (-1)) (rdQ K) = K (.tuple [.int 0, .int 5]) := by kernel_rfl!
theorem rd_11_3 (K : PyData → Prop) : wpF G1 30 (scOf P2 20) (psOf P2 20) b19 [.int 11, .str "'"] K = ∃ m, whileN tR m (rdS 11 "'" (mkS (rep (Int.toNat 11) [34] ++ Array.toList (Str.cps "'"))) (-1)) (rdQ K) := by kernel_rfl!
theorem rw_11_3 (K : PyData → Prop) : whileN tR 6 (rdS 11 "'" (mkS (rep (Int.toNat 11) [34] ++ Array.toList (Str.cps "'"))) (-1)) (rdQ K) = K (.tuple [.int 0, .int 5]) := by kernel_rfl!
theorem rd_12_0 (K : PyData → Prop) : wpF G1 30 (scOf P2 20) (psOf P2 20) b19 [.int 12, .str "z"] K = ∃ m, whileN tR m (rdS 12 "z" (mkS (rep (Int.toNat 12) [34] ++ Array.toList (Str.cps "z"))) (-1)) (rdQ K) := by kernel_rfl!
theorem rw_12_0 (K : PyData → Prop) : whileN tR 6 (rdS 12 "z" (mkS (rep (Int.toNat 12) [34] ++ Array.toList (Str.cps "z"))) (-1)) (rdQ K) = K (.tuple [.int 2, .int 1]) := by kernel_rfl!
theorem rd_12_1 (K : PyData → Prop) : wpF G1 30 (scOf P2 20) (psOf P2 20) b19 [.int 12, .str " "] K = ∃ m, whileN tR m (rdS 12 " " (mkS (rep (Int.toNat 12) [34] ++ Array.toList (Str.cps " "))) (-1)) (rdQ K) := by kernel_rfl!
theorem rw_12_1 (K : PyData → Prop) : whileN tR 6 (rdS 12 " " (mkS (rep (Int.toNat 12) [34] ++ Array.toList (Str.cps " "))) (-1)) (rdQ K) = K (.tuple [.int 2, .int 1]) := by kernel_rfl!
theorem rd_12_2 (K : PyData → Prop) : wpF G1 30 (scOf P2 20) (psOf P2 20) b19 [.int 12, .str "\n"] K = ∃ m, whileN tR m (rdS 12 "\n" (mkS (rep (Int.toNat 12) [34] ++ Array.toList (Str.cps "\n"))) (-1)) (rdQ K) := by kernel_rfl!
theorem rw_12_2 (K : PyData → Prop) : whileN tR 6 (rdS 12 "\n" (mkS (rep (Int.toNat 12) [34] ++ Array.toList (Str.cps "\n"))) (-1)) (rdQ K) = K (.tuple [.int 2, .int 1]) := by kernel_rfl!
theorem rd_12_3 (K : PyData → Prop) : wpF G1 30 (scOf P2 20) (psOf P2 20) b19 [.int 12, .str "'"] K = ∃ m, whileN tR m (rdS 12 "'" (mkS (rep (Int.toNat 12) [34] ++ Array.toList (Str.cps "'"))) (-1)) (rdQ K) := by kernel_rfl!
theorem rw_12_3 (K : PyData → Prop) : whileN tR 6 (rdS 12 "'" (mkS (rep (Int.toNat 12) [34] ++ Array.toList (Str.cps "'"))) (-1)) (rdQ K) = K (.tuple [.int 2, .int 1]) := by kernel_rfl!
theorem rd_13_0 (K : PyData → Prop) : wpF G1 30 (scOf P2 20) (psOf P2 20) b19 [.int 13, .str "z"] K = ∃ m, whileN tR m (rdS 13 "z" (mkS (rep (Int.toNat 13) [34] ++ Array.toList (Str.cps "z"))) (-1)) (rdQ K) := by kernel_rfl!
theorem rw_13_0 (K : PyData → Prop) : whileN tR 6 (rdS 13 "z" (mkS (rep (Int.toNat 13) [34] ++ Array.toList (Str.cps "z"))) (-1)) (rdQ K) = K (.tuple [.int 0, .int 6]) := by kernel_rfl!
theorem rd_13_1 (K : PyData → Prop) : wpF G1 30 (scOf P2 20) (psOf P2 20) b19 [.int 13, .str " "] K = ∃ m, whileN tR m (rdS 13 " " (mkS (rep (Int.toNat 13) [34] ++ Array.toList (Str.cps " "))) (-1)) (rdQ K) := by kernel_rfl!
theorem rw_13_1 (K : PyData → Prop) : whileN tR 6 (rdS 13 " " (mkS (rep (Int.toNat 13) [34] ++ Array.toList (Str.cps " "))) (-1)) (rdQ K) = K (.tuple [.int 0, .int 6]) := by kernel_rfl!
theorem rd_13_2 (K : PyData → Prop) : wpF G1 30 (scOf P2 20) (psOf P2 20) b19 [.int 13, .str "\n"] K = ∃ m, whileN tR m (rdS 13 "\n" (mkS (rep (Int.toNat 13) [34] ++ Array.toList (Str.cps "\n"))) (-1)) (rdQ K) := by kernel_rfl!
theorem rw_13_2 (K : PyData → Prop) : whileN tR 6 (rdS 13 "\n" (mkS (rep (Int.toNat 13) [34] ++ Array.toList (Str.cps "\n"))) (-1)) (rdQ K) = K (.tuple [.int 0, .int 6]) := by kernel_rfl!
theorem rd_13_3 (K : PyData → Prop) : wpF G1 30 (scOf P2 20) (psOf P2 20) b19 [.int 13, .str "'"] K = ∃ m, whileN tR m (rdS 13 "'" (mkS (rep (Int.toNat 13) [34] ++ Array.toList (Str.cps "'"))) (-1)) (rdQ K) := by kernel_rfl!
theorem rw_13_3 (K : PyData → Prop) : whileN tR 6 (rdS 13 "'" (mkS (rep (Int.toNat 13) [34] ++ Array.toList (Str.cps "'"))) (-1)) (rdQ K) = K (.tuple [.int 0, .int 6]) := by kernel_rfl!
end Mine
end
section
open PySem PySem.W PyProof.Rows PySem.Calls
set_option Elab.async false
namespace Mine
noncomputable def rtab : List (Int × Int × Int) := [(1, 0, 0), (2, 1, 0), (3, 0, 1), (4, 2, 0), (5, 0, 2), (6, 1, 1), (7, 0, 3), (8, 3, 0), (9, 0, 4), (10, 1, 2), (11, 0, 5), (12, 2, 1), (13, 0, 6)]
noncomputable def oddTab : List (Int × Int × Int) := [(1, 3, 0), (2, 3, 1), (1, 5, 0), (2, 5, 1), (3, 5, 1), (4, 5, 0), (1, 7, 0), (2, 7, 0), (3, 7, 1), (4, 7, 0), (5, 7, 1), (6, 7, 1), (1, 9, 0), (2, 9, 0), (4, 9, 0), (5, 9, 0), (7, 9, 0), (8, 9, 0), (1, 11, 0), (2, 11, 1), (3, 11, 0), (4, 11, 0), (5, 11, 0), (6, 11, 1), (7, 11, 1), (8, 11, 1), (9, 11, 0), (10, 11, 1), (1, 13, 0), (2, 13, 1), (3, 13, 0), (4, 13, 0), (5, 13, 1), (6, 13, 1), (7, 13, 1), (8, 13, 1), (9, 13, 0), (10, 13, 0), (11, 13, 1), (12, 13, 0)]
noncomputable def sgns : List Str := ["z", " ", "\n", "'"]
noncomputable def sgnB (s : Str) : Bool := s.cps.toList == [122] || s.cps.toList == [32] || s.cps.toList == [10] || s.cps.toList == [39]
theorem sgn_mem {s : Str} (h : sgnB s = true) : s ∈ sgns := by
  obtain ⟨⟨l⟩⟩ := s
  have e1 : ("z" : Str) = ⟨⟨[122]⟩⟩ := by decide +kernel
  have e2 : (" " : Str) = ⟨⟨[32]⟩⟩ := by decide +kernel
  have e3 : ("\n" : Str) = ⟨⟨[10]⟩⟩ := by decide +kernel
  have e4 : ("'" : Str) = ⟨⟨[39]⟩⟩ := by decide +kernel
  unfold sgns
  rw [e1, e2, e3, e4]
  unfold sgnB at h
  simp only [Bool.or_eq_true, beq_iff_eq] at h
  rcases h with ((rfl | rfl) | rfl) | rfl <;> simp
noncomputable def lookN : List (Int × Int × Int) → Int → Option (Int × Int)
  | [], _ => none
  | e :: r, n => match decide (e.1 = n) with | true => some e.2 | false => lookN r n
theorem lookN_mem {n : Int} {p : Int × Int} : ∀ {l : List (Int × Int × Int)}, lookN l n = some p → (n, p) ∈ l
  | [], h => by cases h
  | e :: r, h => by
    unfold lookN at h
    split at h
    · rename_i q
      obtain rfl : e.1 = n := by simpa using q
      obtain rfl : e.2 = p := by simpa using h
      exact List.mem_cons_self
    · exact List.mem_cons_of_mem _ (lookN_mem h)
noncomputable def rSpec : Spec := fun ds K => match ds with
  | [.int n, .str s] => chk (sgnB s) (match lookN rtab n with | some p => K (.tuple [.int p.1, .int p.2]) | none => False)
  | _ => False
noncomputable def rOne (n t r : Int) (s : Str) : Prop := ∀ K : PyData → Prop, K (.tuple [.int t, .int r]) → wpF G1 30 (scOf P2 20) (psOf P2 20) (bodyOf P2 20) [.int n, .str s] K
noncomputable def rGood (n t r : Int) : Prop := ∀ s ∈ sgns, rOne n t r s
theorem sg4 {P : Str → Prop} (a : P "z") (b : P " ") (c : P "\n") (d : P "'") : ∀ s ∈ sgns, P s := List.forall_mem_cons.mpr ⟨a, List.forall_mem_cons.mpr ⟨b, List.forall_mem_cons.mpr ⟨c, List.forall_mem_cons.mpr ⟨d, nofun⟩⟩⟩⟩
theorem rg_1_0 : rOne 1 0 0 "z" := fun K h => by
  rw [rd_1_0 K]; exact ⟨6, Eq.mpr (rw_1_0 K) h⟩
theorem rg_1_1 : rOne 1 0 0 " " := fun K h => by
  rw [rd_1_1 K]; exact ⟨6, Eq.mpr (rw_1_1 K) h⟩
theorem rg_1_2 : rOne 1 0 0 "\n" := fun K h => by
  rw [rd_1_2 K]; exact ⟨6, Eq.mpr (rw_1_2 K) h⟩
theorem rg_1_3 : rOne 1 0 0 "'" := fun K h => by
  rw [rd_1_3 K]; exact ⟨6, Eq.mpr (rw_1_3 K) h⟩
theorem rp_1 : rGood 1 0 0 := sg4 rg_1_0 rg_1_1 rg_1_2 rg_1_3
theorem rg_2_0 : rOne 2 1 0 "z" := fun K h => by
  rw [rd_2_0 K]; exact ⟨6, Eq.mpr (rw_2_0 K) h⟩
theorem rg_2_1 : rOne 2 1 0 " " := fun K h => by
  rw [rd_2_1 K]; exact ⟨6, Eq.mpr (rw_2_1 K) h⟩
theorem rg_2_2 : rOne 2 1 0 "\n" := fun K h => by
  rw [rd_2_2 K]; exact ⟨6, Eq.mpr (rw_2_2 K) h⟩
theorem rg_2_3 : rOne 2 1 0 "'" := fun K h => by
  rw [rd_2_3 K]; exact ⟨6, Eq.mpr (rw_2_3 K) h⟩
theorem rp_2 : rGood 2 1 0 := sg4 rg_2_0 rg_2_1 rg_2_2 rg_2_3
theorem rg_3_0 : rOne 3 0 1 "z" := fun K h => by
  rw [rd_3_0 K]; exact ⟨6, Eq.mpr (rw_3_0 K) h⟩
theorem rg_3_1 : rOne 3 0 1 " " := fun K h => by
  rw [rd_3_1 K]; exact ⟨6, Eq.mpr (rw_3_1 K) h⟩
theorem rg_3_2 : rOne 3 0 1 "\n" := fun K h => by
  rw [rd_3_2 K]; exact ⟨6, Eq.mpr (rw_3_2 K) h⟩
theorem rg_3_3 : rOne 3 0 1 "'" := fun K h => by
  rw [rd_3_3 K]; exact ⟨6, Eq.mpr (rw_3_3 K) h⟩
theorem rp_3 : rGood 3 0 1 := sg4 rg_3_0 rg_3_1 rg_3_2 rg_3_3
theorem rg_4_0 : rOne 4 2 0 "z" := fun K h => by
  rw [rd_4_0 K]; exact ⟨6, Eq.mpr (rw_4_0 K) h⟩
theorem rg_4_1 : rOne 4 2 0 " " := fun K h => by
  rw [rd_4_1 K]; exact ⟨6, Eq.mpr (rw_4_1 K) h⟩
theorem rg_4_2 : rOne 4 2 0 "\n" := fun K h => by
  rw [rd_4_2 K]; exact ⟨6, Eq.mpr (rw_4_2 K) h⟩
theorem rg_4_3 : rOne 4 2 0 "'" := fun K h => by
  rw [rd_4_3 K]; exact ⟨6, Eq.mpr (rw_4_3 K) h⟩
theorem rp_4 : rGood 4 2 0 := sg4 rg_4_0 rg_4_1 rg_4_2 rg_4_3
theorem rg_5_0 : rOne 5 0 2 "z" := fun K h => by
  rw [rd_5_0 K]; exact ⟨6, Eq.mpr (rw_5_0 K) h⟩
theorem rg_5_1 : rOne 5 0 2 " " := fun K h => by
  rw [rd_5_1 K]; exact ⟨6, Eq.mpr (rw_5_1 K) h⟩
theorem rg_5_2 : rOne 5 0 2 "\n" := fun K h => by
  rw [rd_5_2 K]; exact ⟨6, Eq.mpr (rw_5_2 K) h⟩
theorem rg_5_3 : rOne 5 0 2 "'" := fun K h => by
  rw [rd_5_3 K]; exact ⟨6, Eq.mpr (rw_5_3 K) h⟩
theorem rp_5 : rGood 5 0 2 := sg4 rg_5_0 rg_5_1 rg_5_2 rg_5_3
theorem rg_6_0 : rOne 6 1 1 "z" := fun K h => by
  rw [rd_6_0 K]; exact ⟨6, Eq.mpr (rw_6_0 K) h⟩
theorem rg_6_1 : rOne 6 1 1 " " := fun K h => by
  rw [rd_6_1 K]; exact ⟨6, Eq.mpr (rw_6_1 K) h⟩
theorem rg_6_2 : rOne 6 1 1 "\n" := fun K h => by
  rw [rd_6_2 K]; exact ⟨6, Eq.mpr (rw_6_2 K) h⟩
theorem rg_6_3 : rOne 6 1 1 "'" := fun K h => by
  rw [rd_6_3 K]; exact ⟨6, Eq.mpr (rw_6_3 K) h⟩
theorem rp_6 : rGood 6 1 1 := sg4 rg_6_0 rg_6_1 rg_6_2 rg_6_3
theorem rg_7_0 : rOne 7 0 3 "z" := fun K h => by
  rw [rd_7_0 K]; exact ⟨6, Eq.mpr (rw_7_0 K) h⟩
theorem rg_7_1 : rOne 7 0 3 " " := fun K h => by
  rw [rd_7_1 K]; exact ⟨6, Eq.mpr (rw_7_1 K) h⟩
theorem rg_7_2 : rOne 7 0 3 "\n" := fun K h => by
  rw [rd_7_2 K]; exact ⟨6, Eq.mpr (rw_7_2 K) h⟩
theorem rg_7_3 : rOne 7 0 3 "'" := fun K h => by
  rw [rd_7_3 K]; exact ⟨6, Eq.mpr (rw_7_3 K) h⟩
theorem rp_7 : rGood 7 0 3 := sg4 rg_7_0 rg_7_1 rg_7_2 rg_7_3
theorem rg_8_0 : rOne 8 3 0 "z" := fun K h => by
  rw [rd_8_0 K]; exact ⟨6, Eq.mpr (rw_8_0 K) h⟩
theorem rg_8_1 : rOne 8 3 0 " " := fun K h => by
  rw [rd_8_1 K]; exact ⟨6, Eq.mpr (rw_8_1 K) h⟩
theorem rg_8_2 : rOne 8 3 0 "\n" := fun K h => by
  rw [rd_8_2 K]; exact ⟨6, Eq.mpr (rw_8_2 K) h⟩
theorem rg_8_3 : rOne 8 3 0 "'" := fun K h => by
  rw [rd_8_3 K]; exact ⟨6, Eq.mpr (rw_8_3 K) h⟩
theorem rp_8 : rGood 8 3 0 := sg4 rg_8_0 rg_8_1 rg_8_2 rg_8_3
theorem rg_9_0 : rOne 9 0 4 "z" := fun K h => by
  rw [rd_9_0 K]; exact ⟨6, Eq.mpr (rw_9_0 K) h⟩
theorem rg_9_1 : rOne 9 0 4 " " := fun K h => by
  rw [rd_9_1 K]; exact ⟨6, Eq.mpr (rw_9_1 K) h⟩
theorem rg_9_2 : rOne 9 0 4 "\n" := fun K h => by
  rw [rd_9_2 K]; exact ⟨6, Eq.mpr (rw_9_2 K) h⟩
theorem rg_9_3 : rOne 9 0 4 "'" := fun K h => by
  rw [rd_9_3 K]; exact ⟨6, Eq.mpr (rw_9_3 K) h⟩
theorem rp_9 : rGood 9 0 4 := sg4 rg_9_0 rg_9_1 rg_9_2 rg_9_3
theorem rg_10_0 : rOne 10 1 2 "z" := fun K h => by
  rw [rd_10_0 K]; exact ⟨6, Eq.mpr (rw_10_0 K) h⟩
theorem rg_10_1 : rOne 10 1 2 " " := fun K h => by
  rw [rd_10_1 K]; exact ⟨6, Eq.mpr (rw_10_1 K) h⟩
theorem rg_10_2 : rOne 10 1 2 "\n" := fun K h => by
  rw [rd_10_2 K]; exact ⟨6, Eq.mpr (rw_10_2 K) h⟩
theorem rg_10_3 : rOne 10 1 2 "'" := fun K h => by
  rw [rd_10_3 K]; exact ⟨6, Eq.mpr (rw_10_3 K) h⟩
theorem rp_10 : rGood 10 1 2 := sg4 rg_10_0 rg_10_1 rg_10_2 rg_10_3
theorem rg_11_0 : rOne 11 0 5 "z" := fun K h => by
  rw [rd_11_0 K]; exact ⟨6, Eq.mpr (rw_11_0 K) h⟩
theorem rg_11_1 : rOne 11 0 5 " " := fun K h => by
  rw [rd_11_1 K]; exact ⟨6, Eq.mpr (rw_11_1 K) h⟩
theorem rg_11_2 : rOne 11 0 5 "\n" := fun K h => by
  rw [rd_11_2 K]; exact ⟨6, Eq.mpr (rw_11_2 K) h⟩
theorem rg_11_3 : rOne 11 0 5 "'" := fun K h => by
  rw [rd_11_3 K]; exact ⟨6, Eq.mpr (rw_11_3 K) h⟩
theorem rp_11 : rGood 11 0 5 := sg4 rg_11_0 rg_11_1 rg_11_2 rg_11_3
theorem rg_12_0 : rOne 12 2 1 "z" := fun K h => by
  rw [rd_12_0 K]; exact ⟨6, Eq.mpr (rw_12_0 K) h⟩
theorem rg_12_1 : rOne 12 2 1 " " := fun K h => by
  rw [rd_12_1 K]; exact ⟨6, Eq.mpr (rw_12_1 K) h⟩
theorem rg_12_2 : rOne 12 2 1 "\n" := fun K h => by
  rw [rd_12_2 K]; exact ⟨6, Eq.mpr (rw_12_2 K) h⟩
theorem rg_12_3 : rOne 12 2 1 "'" := fun K h => by
  rw [rd_12_3 K]; exact ⟨6, Eq.mpr (rw_12_3 K) h⟩
theorem rp_12 : rGood 12 2 1 := sg4 rg_12_0 rg_12_1 rg_12_2 rg_12_3
theorem rg_13_0 : rOne 13 0 6 "z" := fun K h => by
  rw [rd_13_0 K]; exact ⟨6, Eq.mpr (rw_13_0 K) h⟩
theorem rg_13_1 : rOne 13 0 6 " " := fun K h => by
  rw [rd_13_1 K]; exact ⟨6, Eq.mpr (rw_13_1 K) h⟩
theorem rg_13_2 : rOne 13 0 6 "\n" := fun K h => by
  rw [rd_13_2 K]; exact ⟨6, Eq.mpr (rw_13_2 K) h⟩
theorem rg_13_3 : rOne 13 0 6 "'" := fun K h => by
  rw [rd_13_3 K]; exact ⟨6, Eq.mpr (rw_13_3 K) h⟩
theorem rp_13 : rGood 13 0 6 := sg4 rg_13_0 rg_13_1 rg_13_2 rg_13_3
theorem r_all : ∀ e ∈ rtab, rGood e.1 e.2.1 e.2.2 := by
  unfold rtab
  refine List.forall_mem_cons.mpr ⟨rp_1, ?_⟩
  refine List.forall_mem_cons.mpr ⟨rp_2, ?_⟩
  refine List.forall_mem_cons.mpr ⟨rp_3, ?_⟩
  refine List.forall_mem_cons.mpr ⟨rp_4, ?_⟩
  refine List.forall_mem_cons.mpr ⟨rp_5, ?_⟩
  refine List.forall_mem_cons.mpr ⟨rp_6, ?_⟩
  refine List.forall_mem_cons.mpr ⟨rp_7, ?_⟩
  refine List.forall_mem_cons.mpr ⟨rp_8, ?_⟩
  refine List.forall_mem_cons.mpr ⟨rp_9, ?_⟩
  refine List.forall_mem_cons.mpr ⟨rp_10, ?_⟩
  refine List.forall_mem_cons.mpr ⟨rp_11, ?_⟩
  refine List.forall_mem_cons.mpr ⟨rp_12, ?_⟩
  refine List.forall_mem_cons.mpr ⟨rp_13, ?_⟩
  nofun
theorem r_ok : ∀ ds K, rSpec ds K → wpF G1 30 (scOf P2 20) (psOf P2 20) (bodyOf P2 20) ds K := fun ds K h => by
  unfold rSpec at h
  split at h
  · rename_i n s
    have h1 := (chk_iff.mp h).1
    have h2 := (chk_iff.mp h).2
    cases e : lookN rtab n with
    | none => rw [e] at h2; cases h2
    | some p => rw [e] at h2; exact r_all (n, p) (lookN_mem e) s (sgn_mem h1) K h2
  · cases h
noncomputable def G2 : Gl := mkGl [("_law_reading", rSpec)]
noncomputable def nestC : Nat → Str → Prop → Prop
  | 0, _, P => P
  | m + 1, s, P => chk (sgnB s) (nestC m s P)
theorem nestC_of {s : Str} (h : sgnB s = true) {P : Prop} (p : P) : ∀ m, nestC m s P
  | 0 => p
  | m + 1 => chk_iff.mpr ⟨h, nestC_of h p m⟩
theorem od_1_3 (s : Str) (K : PyData → Prop) : wpF G2 30 (scOf P2 21) (psOf P2 21) (bodyOf P2 21) [.int 1, .int 3, .str s] K = nestC 2 s (K (.int 0)) := by kernel_rfl!
theorem od_2_3 (s : Str) (K : PyData → Prop) : wpF G2 30 (scOf P2 21) (psOf P2 21) (bodyOf P2 21) [.int 2, .int 3, .str s] K = nestC 2 s (K (.int 1)) := by kernel_rfl!
theorem od_1_5 (s : Str) (K : PyData → Prop) : wpF G2 30 (scOf P2 21) (psOf P2 21) (bodyOf P2 21) [.int 1, .int 5, .str s] K = nestC 2 s (K (.int 0)) := by kernel_rfl!
theorem od_2_5 (s : Str) (K : PyData → Prop) : wpF G2 30 (scOf P2 21) (psOf P2 21) (bodyOf P2 21) [.int 2, .int 5, .str s] K = nestC 2 s (K (.int 1)) := by kernel_rfl!
theorem od_3_5 (s : Str) (K : PyData → Prop) : wpF G2 30 (scOf P2 21) (psOf P2 21) (bodyOf P2 21) [.int 3, .int 5, .str s] K = nestC 4 s (K (.int 1)) := by kernel_rfl!
theorem od_4_5 (s : Str) (K : PyData → Prop) : wpF G2 30 (scOf P2 21) (psOf P2 21) (bodyOf P2 21) [.int 4, .int 5, .str s] K = nestC 2 s (K (.int 0)) := by kernel_rfl!
theorem od_1_7 (s : Str) (K : PyData → Prop) : wpF G2 30 (scOf P2 21) (psOf P2 21) (bodyOf P2 21) [.int 1, .int 7, .str s] K = nestC 2 s (K (.int 0)) := by kernel_rfl!
theorem od_2_7 (s : Str) (K : PyData → Prop) : wpF G2 30 (scOf P2 21) (psOf P2 21) (bodyOf P2 21) [.int 2, .int 7, .str s] K = nestC 2 s (K (.int 0)) := by kernel_rfl!
theorem od_3_7 (s : Str) (K : PyData → Prop) : wpF G2 30 (scOf P2 21) (psOf P2 21) (bodyOf P2 21) [.int 3, .int 7, .str s] K = nestC 4 s (K (.int 1)) := by kernel_rfl!
theorem od_4_7 (s : Str) (K : PyData → Prop) : wpF G2 30 (scOf P2 21) (psOf P2 21) (bodyOf P2 21) [.int 4, .int 7, .str s] K = nestC 2 s (K (.int 0)) := by kernel_rfl!
theorem od_5_7 (s : Str) (K : PyData → Prop) : wpF G2 30 (scOf P2 21) (psOf P2 21) (bodyOf P2 21) [.int 5, .int 7, .str s] K = nestC 4 s (K (.int 1)) := by kernel_rfl!
theorem od_6_7 (s : Str) (K : PyData → Prop) : wpF G2 30 (scOf P2 21) (psOf P2 21) (bodyOf P2 21) [.int 6, .int 7, .str s] K = nestC 4 s (K (.int 1)) := by kernel_rfl!
theorem od_1_9 (s : Str) (K : PyData → Prop) : wpF G2 30 (scOf P2 21) (psOf P2 21) (bodyOf P2 21) [.int 1, .int 9, .str s] K = nestC 2 s (K (.int 0)) := by kernel_rfl!
theorem od_2_9 (s : Str) (K : PyData → Prop) : wpF G2 30 (scOf P2 21) (psOf P2 21) (bodyOf P2 21) [.int 2, .int 9, .str s] K = nestC 2 s (K (.int 0)) := by kernel_rfl!
theorem od_4_9 (s : Str) (K : PyData → Prop) : wpF G2 30 (scOf P2 21) (psOf P2 21) (bodyOf P2 21) [.int 4, .int 9, .str s] K = nestC 2 s (K (.int 0)) := by kernel_rfl!
theorem od_5_9 (s : Str) (K : PyData → Prop) : wpF G2 30 (scOf P2 21) (psOf P2 21) (bodyOf P2 21) [.int 5, .int 9, .str s] K = nestC 4 s (K (.int 0)) := by kernel_rfl!
theorem od_7_9 (s : Str) (K : PyData → Prop) : wpF G2 30 (scOf P2 21) (psOf P2 21) (bodyOf P2 21) [.int 7, .int 9, .str s] K = nestC 4 s (K (.int 0)) := by kernel_rfl!
theorem od_8_9 (s : Str) (K : PyData → Prop) : wpF G2 30 (scOf P2 21) (psOf P2 21) (bodyOf P2 21) [.int 8, .int 9, .str s] K = nestC 2 s (K (.int 0)) := by kernel_rfl!
theorem od_1_11 (s : Str) (K : PyData → Prop) : wpF G2 30 (scOf P2 21) (psOf P2 21) (bodyOf P2 21) [.int 1, .int 11, .str s] K = nestC 2 s (K (.int 0)) := by kernel_rfl!
theorem od_2_11 (s : Str) (K : PyData → Prop) : wpF G2 30 (scOf P2 21) (psOf P2 21) (bodyOf P2 21) [.int 2, .int 11, .str s] K = nestC 2 s (K (.int 1)) := by kernel_rfl!
theorem od_3_11 (s : Str) (K : PyData → Prop) : wpF G2 30 (scOf P2 21) (psOf P2 21) (bodyOf P2 21) [.int 3, .int 11, .str s] K = nestC 4 s (K (.int 0)) := by kernel_rfl!
theorem od_4_11 (s : Str) (K : PyData → Prop) : wpF G2 30 (scOf P2 21) (psOf P2 21) (bodyOf P2 21) [.int 4, .int 11, .str s] K = nestC 2 s (K (.int 0)) := by kernel_rfl!
theorem od_5_11 (s : Str) (K : PyData → Prop) : wpF G2 30 (scOf P2 21) (psOf P2 21) (bodyOf P2 21) [.int 5, .int 11, .str s] K = nestC 4 s (K (.int 0)) := by kernel_rfl!
theorem od_6_11 (s : Str) (K : PyData → Prop) : wpF G2 30 (scOf P2 21) (psOf P2 21) (bodyOf P2 21) [.int 6, .int 11, .str s] K = nestC 4 s (K (.int 1)) := by kernel_rfl!
theorem od_7_11 (s : Str) (K : PyData → Prop) : wpF G2 30 (scOf P2 21) (psOf P2 21) (bodyOf P2 21) [.int 7, .int 11, .str s] K = nestC 4 s (K (.int 1)) := by kernel_rfl!
theorem od_8_11 (s : Str) (K : PyData → Prop) : wpF G2 30 (scOf P2 21) (psOf P2 21) (bodyOf P2 21) [.int 8, .int 11, .str s] K = nestC 2 s (K (.int 1)) := by kernel_rfl!
theorem od_9_11 (s : Str) (K : PyData → Prop) : wpF G2 30 (scOf P2 21) (psOf P2 21) (bodyOf P2 21) [.int 9, .int 11, .str s] K = nestC 4 s (K (.int 0)) := by kernel_rfl!
theorem od_10_11 (s : Str) (K : PyData → Prop) : wpF G2 30 (scOf P2 21) (psOf P2 21) (bodyOf P2 21) [.int 10, .int 11, .str s] K = nestC 4 s (K (.int 1)) := by kernel_rfl!
theorem od_1_13 (s : Str) (K : PyData → Prop) : wpF G2 30 (scOf P2 21) (psOf P2 21) (bodyOf P2 21) [.int 1, .int 13, .str s] K = nestC 2 s (K (.int 0)) := by kernel_rfl!
theorem od_2_13 (s : Str) (K : PyData → Prop) : wpF G2 30 (scOf P2 21) (psOf P2 21) (bodyOf P2 21) [.int 2, .int 13, .str s] K = nestC 2 s (K (.int 1)) := by kernel_rfl!
theorem od_3_13 (s : Str) (K : PyData → Prop) : wpF G2 30 (scOf P2 21) (psOf P2 21) (bodyOf P2 21) [.int 3, .int 13, .str s] K = nestC 4 s (K (.int 0)) := by kernel_rfl!
theorem od_4_13 (s : Str) (K : PyData → Prop) : wpF G2 30 (scOf P2 21) (psOf P2 21) (bodyOf P2 21) [.int 4, .int 13, .str s] K = nestC 2 s (K (.int 0)) := by kernel_rfl!
theorem od_5_13 (s : Str) (K : PyData → Prop) : wpF G2 30 (scOf P2 21) (psOf P2 21) (bodyOf P2 21) [.int 5, .int 13, .str s] K = nestC 6 s (K (.int 1)) := by kernel_rfl!
theorem od_6_13 (s : Str) (K : PyData → Prop) : wpF G2 30 (scOf P2 21) (psOf P2 21) (bodyOf P2 21) [.int 6, .int 13, .str s] K = nestC 4 s (K (.int 1)) := by kernel_rfl!
theorem od_7_13 (s : Str) (K : PyData → Prop) : wpF G2 30 (scOf P2 21) (psOf P2 21) (bodyOf P2 21) [.int 7, .int 13, .str s] K = nestC 6 s (K (.int 1)) := by kernel_rfl!
theorem od_8_13 (s : Str) (K : PyData → Prop) : wpF G2 30 (scOf P2 21) (psOf P2 21) (bodyOf P2 21) [.int 8, .int 13, .str s] K = nestC 2 s (K (.int 1)) := by kernel_rfl!
theorem od_9_13 (s : Str) (K : PyData → Prop) : wpF G2 30 (scOf P2 21) (psOf P2 21) (bodyOf P2 21) [.int 9, .int 13, .str s] K = nestC 4 s (K (.int 0)) := by kernel_rfl!
theorem od_10_13 (s : Str) (K : PyData → Prop) : wpF G2 30 (scOf P2 21) (psOf P2 21) (bodyOf P2 21) [.int 10, .int 13, .str s] K = nestC 6 s (K (.int 0)) := by kernel_rfl!
theorem od_11_13 (s : Str) (K : PyData → Prop) : wpF G2 30 (scOf P2 21) (psOf P2 21) (bodyOf P2 21) [.int 11, .int 13, .str s] K = nestC 4 s (K (.int 1)) := by kernel_rfl!
theorem od_12_13 (s : Str) (K : PyData → Prop) : wpF G2 30 (scOf P2 21) (psOf P2 21) (bodyOf P2 21) [.int 12, .int 13, .str s] K = nestC 4 s (K (.int 0)) := by kernel_rfl!
noncomputable def oGood (a b v : Int) : Prop := ∀ (s : Str), sgnB s = true → ∀ K : PyData → Prop, K (.int v) → wpF G2 30 (scOf P2 21) (psOf P2 21) (bodyOf P2 21) [.int a, .int b, .str s] K
theorem op_1_3 : oGood 1 3 0 := fun s hs K h => Eq.mpr (od_1_3 s K) (nestC_of hs h _)
theorem op_2_3 : oGood 2 3 1 := fun s hs K h => Eq.mpr (od_2_3 s K) (nestC_of hs h _)
theorem op_1_5 : oGood 1 5 0 := fun s hs K h => Eq.mpr (od_1_5 s K) (nestC_of hs h _)
theorem op_2_5 : oGood 2 5 1 := fun s hs K h => Eq.mpr (od_2_5 s K) (nestC_of hs h _)
theorem op_3_5 : oGood 3 5 1 := fun s hs K h => Eq.mpr (od_3_5 s K) (nestC_of hs h _)
theorem op_4_5 : oGood 4 5 0 := fun s hs K h => Eq.mpr (od_4_5 s K) (nestC_of hs h _)
theorem op_1_7 : oGood 1 7 0 := fun s hs K h => Eq.mpr (od_1_7 s K) (nestC_of hs h _)
theorem op_2_7 : oGood 2 7 0 := fun s hs K h => Eq.mpr (od_2_7 s K) (nestC_of hs h _)
theorem op_3_7 : oGood 3 7 1 := fun s hs K h => Eq.mpr (od_3_7 s K) (nestC_of hs h _)
theorem op_4_7 : oGood 4 7 0 := fun s hs K h => Eq.mpr (od_4_7 s K) (nestC_of hs h _)
theorem op_5_7 : oGood 5 7 1 := fun s hs K h => Eq.mpr (od_5_7 s K) (nestC_of hs h _)
theorem op_6_7 : oGood 6 7 1 := fun s hs K h => Eq.mpr (od_6_7 s K) (nestC_of hs h _)
theorem op_1_9 : oGood 1 9 0 := fun s hs K h => Eq.mpr (od_1_9 s K) (nestC_of hs h _)
theorem op_2_9 : oGood 2 9 0 := fun s hs K h => Eq.mpr (od_2_9 s K) (nestC_of hs h _)
theorem op_4_9 : oGood 4 9 0 := fun s hs K h => Eq.mpr (od_4_9 s K) (nestC_of hs h _)
theorem op_5_9 : oGood 5 9 0 := fun s hs K h => Eq.mpr (od_5_9 s K) (nestC_of hs h _)
theorem op_7_9 : oGood 7 9 0 := fun s hs K h => Eq.mpr (od_7_9 s K) (nestC_of hs h _)
theorem op_8_9 : oGood 8 9 0 := fun s hs K h => Eq.mpr (od_8_9 s K) (nestC_of hs h _)
theorem op_1_11 : oGood 1 11 0 := fun s hs K h => Eq.mpr (od_1_11 s K) (nestC_of hs h _)
theorem op_2_11 : oGood 2 11 1 := fun s hs K h => Eq.mpr (od_2_11 s K) (nestC_of hs h _)
theorem op_3_11 : oGood 3 11 0 := fun s hs K h => Eq.mpr (od_3_11 s K) (nestC_of hs h _)
theorem op_4_11 : oGood 4 11 0 := fun s hs K h => Eq.mpr (od_4_11 s K) (nestC_of hs h _)
theorem op_5_11 : oGood 5 11 0 := fun s hs K h => Eq.mpr (od_5_11 s K) (nestC_of hs h _)
theorem op_6_11 : oGood 6 11 1 := fun s hs K h => Eq.mpr (od_6_11 s K) (nestC_of hs h _)
theorem op_7_11 : oGood 7 11 1 := fun s hs K h => Eq.mpr (od_7_11 s K) (nestC_of hs h _)
theorem op_8_11 : oGood 8 11 1 := fun s hs K h => Eq.mpr (od_8_11 s K) (nestC_of hs h _)
theorem op_9_11 : oGood 9 11 0 := fun s hs K h => Eq.mpr (od_9_11 s K) (nestC_of hs h _)
theorem op_10_11 : oGood 10 11 1 := fun s hs K h => Eq.mpr (od_10_11 s K) (nestC_of hs h _)
theorem op_1_13 : oGood 1 13 0 := fun s hs K h => Eq.mpr (od_1_13 s K) (nestC_of hs h _)
theorem op_2_13 : oGood 2 13 1 := fun s hs K h => Eq.mpr (od_2_13 s K) (nestC_of hs h _)
theorem op_3_13 : oGood 3 13 0 := fun s hs K h => Eq.mpr (od_3_13 s K) (nestC_of hs h _)
theorem op_4_13 : oGood 4 13 0 := fun s hs K h => Eq.mpr (od_4_13 s K) (nestC_of hs h _)
theorem op_5_13 : oGood 5 13 1 := fun s hs K h => Eq.mpr (od_5_13 s K) (nestC_of hs h _)
theorem op_6_13 : oGood 6 13 1 := fun s hs K h => Eq.mpr (od_6_13 s K) (nestC_of hs h _)
theorem op_7_13 : oGood 7 13 1 := fun s hs K h => Eq.mpr (od_7_13 s K) (nestC_of hs h _)
theorem op_8_13 : oGood 8 13 1 := fun s hs K h => Eq.mpr (od_8_13 s K) (nestC_of hs h _)
theorem op_9_13 : oGood 9 13 0 := fun s hs K h => Eq.mpr (od_9_13 s K) (nestC_of hs h _)
theorem op_10_13 : oGood 10 13 0 := fun s hs K h => Eq.mpr (od_10_13 s K) (nestC_of hs h _)
theorem op_11_13 : oGood 11 13 1 := fun s hs K h => Eq.mpr (od_11_13 s K) (nestC_of hs h _)
theorem op_12_13 : oGood 12 13 0 := fun s hs K h => Eq.mpr (od_12_13 s K) (nestC_of hs h _)
theorem o_all : ∀ e ∈ oddTab, oGood e.1 e.2.1 e.2.2 := by
  unfold oddTab
  refine List.forall_mem_cons.mpr ⟨op_1_3, ?_⟩
  refine List.forall_mem_cons.mpr ⟨op_2_3, ?_⟩
  refine List.forall_mem_cons.mpr ⟨op_1_5, ?_⟩
  refine List.forall_mem_cons.mpr ⟨op_2_5, ?_⟩
  refine List.forall_mem_cons.mpr ⟨op_3_5, ?_⟩
  refine List.forall_mem_cons.mpr ⟨op_4_5, ?_⟩
  refine List.forall_mem_cons.mpr ⟨op_1_7, ?_⟩
  refine List.forall_mem_cons.mpr ⟨op_2_7, ?_⟩
  refine List.forall_mem_cons.mpr ⟨op_3_7, ?_⟩
  refine List.forall_mem_cons.mpr ⟨op_4_7, ?_⟩
  refine List.forall_mem_cons.mpr ⟨op_5_7, ?_⟩
  refine List.forall_mem_cons.mpr ⟨op_6_7, ?_⟩
  refine List.forall_mem_cons.mpr ⟨op_1_9, ?_⟩
  refine List.forall_mem_cons.mpr ⟨op_2_9, ?_⟩
  refine List.forall_mem_cons.mpr ⟨op_4_9, ?_⟩
  refine List.forall_mem_cons.mpr ⟨op_5_9, ?_⟩
  refine List.forall_mem_cons.mpr ⟨op_7_9, ?_⟩
  refine List.forall_mem_cons.mpr ⟨op_8_9, ?_⟩
  refine List.forall_mem_cons.mpr ⟨op_1_11, ?_⟩
  refine List.forall_mem_cons.mpr ⟨op_2_11, ?_⟩
  refine List.forall_mem_cons.mpr ⟨op_3_11, ?_⟩
  refine List.forall_mem_cons.mpr ⟨op_4_11, ?_⟩
  refine List.forall_mem_cons.mpr ⟨op_5_11, ?_⟩
  refine List.forall_mem_cons.mpr ⟨op_6_11, ?_⟩
  refine List.forall_mem_cons.mpr ⟨op_7_11, ?_⟩
  refine List.forall_mem_cons.mpr ⟨op_8_11, ?_⟩
  refine List.forall_mem_cons.mpr ⟨op_9_11, ?_⟩
  refine List.forall_mem_cons.mpr ⟨op_10_11, ?_⟩
  refine List.forall_mem_cons.mpr ⟨op_1_13, ?_⟩
  refine List.forall_mem_cons.mpr ⟨op_2_13, ?_⟩
  refine List.forall_mem_cons.mpr ⟨op_3_13, ?_⟩
  refine List.forall_mem_cons.mpr ⟨op_4_13, ?_⟩
  refine List.forall_mem_cons.mpr ⟨op_5_13, ?_⟩
  refine List.forall_mem_cons.mpr ⟨op_6_13, ?_⟩
  refine List.forall_mem_cons.mpr ⟨op_7_13, ?_⟩
  refine List.forall_mem_cons.mpr ⟨op_8_13, ?_⟩
  refine List.forall_mem_cons.mpr ⟨op_9_13, ?_⟩
  refine List.forall_mem_cons.mpr ⟨op_10_13, ?_⟩
  refine List.forall_mem_cons.mpr ⟨op_11_13, ?_⟩
  refine List.forall_mem_cons.mpr ⟨op_12_13, ?_⟩
  nofun
noncomputable def oSpec : Spec := fun ds K => match ds with
  | [.int a, .int b, .str s] => chk (sgnB s) (∃ v, (a, b, v) ∈ oddTab ∧ K (.int v))
  | _ => False
theorem o_ok : ∀ ds K, oSpec ds K → wpF G2 30 (scOf P2 21) (psOf P2 21) (bodyOf P2 21) ds K := fun ds K h => by
  unfold oSpec at h
  split at h
  · rename_i a b s
    have h1 := (chk_iff.mp h).1
    obtain ⟨v, hm, hk⟩ := (chk_iff.mp h).2
    exact o_all (a, b, v) hm s h1 K hk
  · cases h
end Mine
end
section
open PySem PySem.W PyProof.Rows PySem.Calls
set_option Elab.async false
namespace Mine
/-- what _law_told gives back -/
noncomputable def toldV (x : Str) : PyData := match (cut none (some 3) x.cps.toList == [50, 53, 55]) with
  | true => .list [.str (mkS (p257 x.cps.toList))]
  | false => .str x
noncomputable def tdSpec : Spec := fun ds K => match ds with
  | [.str x] => chk (okL x.length) (K (toldV x))
  | _ => False
noncomputable def b1B (c : Nat) : Bool := hidI.any fun (k : Int) => k == (c : Int)
noncomputable def inSpec : Spec := fun ds K => match ds with
  | [.str x] => (match x.cps.toList with | [c] => K (.bool (b1B c)) | _ => False)
  | _ => False
noncomputable def letB (c : Nat) : Bool := startsI.any fun (k : Int) => decide (k ≤ (c : Int)) && decide ((c : Int) ≤ k + 25)
noncomputable def letV (c : Nat) : Nat := match startsI.find? fun (k : Int) => decide (k ≤ (c : Int)) && decide ((c : Int) ≤ k + 25) with | some k => ((c : Int) - k + 97).toNat | none => 0
noncomputable def mpSpec : Spec := fun ds K => match ds with
  | [.str x] => (match x.cps.toList with | [c] => chk (letB c) (K (.str (mkS [letV c]))) | _ => False)
  | _ => False
noncomputable def dealtL (p : List Nat) (first step : Int) : List Nat := (List.range p.length).map fun (i : Nat) => p.getD ((first - 1 + (i : Int) * step).fmod p.length).toNat 0
noncomputable def dlSpec : Spec := fun ds K => match ds with
  | [.str x, .int a, .int b] => chk (Nat.ble 1 x.length && Nat.ble x.length 100 && decide (1 ≤ a) && decide (a ≤ 100) && decide (1 ≤ b) && decide (b ≤ 100)) (K (.str (mkS (dealtL x.cps.toList a b))))
  | _ => False
noncomputable def G3 : Gl := mkGl [("_law_typed", tySpec), ("_law_told", tdSpec), ("in_table_b1", inSpec), ("map_table_b3", mpSpec), ("_law_dealt", dlSpec), ("_ellipsis_match", eSpec), ("_strcoll", sSpec), ("_law_odd", oSpec)]
noncomputable abbrev bL := bodyOf P2 22
noncomputable abbrev sL := scOf P2 22
noncomputable def forB (s : Stmt) : List Stmt := (sv4 s).2.1
noncomputable def drT (τ : St) (k : Fl → St → Prop) : Prop := wpSs G3 58 sL (forB (stAt bL 1)) τ k
noncomputable def ls0 (ds : List PyData) : List (Str × V) := [("script", .d (.list ds)), ("draws", .c 0)]
noncomputable def drv : List V := [.d (.int 50), .d (.int 1052), .d (.int 419), .d (.int 40005)]
theorem law_1 (ds : List PyData) (K : PyData → Prop) : wpF G3 60 sL (psOf P2 22) bL [.list ds] K =
    chk (sizeB (ds.map V.d).length) (forE "place" "number" drT 0 (cut none (some 63) (ds.map V.d)) ⟨ls0 ds, [some drv, none]⟩ fun f τ => match f with
      | .next => wpSs G3 58 sL (bL.drop 2) (unlock (.c 1) (cut none (some 63) (ds.map V.d)) τ) (finK K)
      | .brk => finK K .brk (unlock (.c 1) (cut none (some 63) (ds.map V.d)) τ)
      | .ret v => finK K (.ret v) (unlock (.c 1) (cut none (some 63) (ds.map V.d)) τ)) := by kernel_rfl!
end Mine
end
section
open PySem PySem.W PyProof.Rows PySem.Calls
set_option Elab.async false
namespace Mine
noncomputable def tgO (s : Stmt) : PySem.Expr := (ev (tgt s)).1
noncomputable def tgI (s : Stmt) : PySem.Expr := (ev (tgt s)).2.1
noncomputable def drS : Stmt := stAt (forB (stAt bL 1)) 0
noncomputable def lsB (b : Bool) (ds : List PyData) (pl nm : V) : List (Str × V) := match b with
  | true => [("script", .d (.list ds)), ("draws", .c 0), ("place", pl), ("number", nm)]
  | false => [("script", .d (.list ds)), ("draws", .c 0)]
noncomputable def drX (r : V) (τ : St) (k : Fl → St → Prop) : Prop := wpE G3 56 sL (tgO drS) τ fun ov τ => wpE G3 56 sL (tgI drS) τ fun iv τ => storeK ov iv r τ fun τ => k .next τ
noncomputable def drτ (ds : List PyData) (i m : Int) (xs : List V) : St := ⟨lsB true ds (.d (.int i)) (.d (.int m)), [some xs, none]⟩
theorem dr_1 (ds : List PyData) (i m : Int) (xs : List V) (k : Fl → St → Prop) : drT (drτ ds i m xs) k =
    chk (smallI (i.fmod 4)) (match (seqIndex? (i.fmod 4) xs.length).bind (xs[·]?) with
      | some v => opB .Add v (.d (.int m)) (drτ ds i m xs) fun r τ => opB .Mod r (.d (.int 1000000)) τ fun r τ => drX r τ k
      | none => False) := by kernel_rfl!
theorem dr_2 (ds : List PyData) (i m : Int) (xs : List V) (r : V) (k : Fl → St → Prop) : drX r (drτ ds i m xs) k =
    chk (decide (0 ≤ i.fmod 4) && decide (i.fmod 4 < xs.length) && sizeB xs.length) (k .next (drτ ds i m (xs.set (i.fmod 4).toNat r))) := by kernel_rfl!
theorem dr_3 (b : Bool) (ds : List PyData) (pl nm : V) (i m : Int) (xs : List V) : ((St.mk (lsB b ds pl nm) [some xs, none]).put "place" (.d (.int i))).put "number" (.d (.int m)) = drτ ds i m xs := by cases b <;> kernel_rfl!
noncomputable def inR (x : Int) : Prop := 0 ≤ x ∧ x < 1000000
theorem dr_all (ds : List PyData) (Q : Fl → St → Prop) (hQ : ∀ b pl nm l, l.length = 4 → (∀ x ∈ l, inR x) → Q .next ⟨lsB b ds pl nm, [some (vi l), none]⟩) :
    ∀ (is : List Int) (i : Nat) (b : Bool) (pl nm : V) (l : List Int), l.length = 4 → (∀ x ∈ l, inR x) → i + is.length < 1000 →
      forE "place" "number" drT i (vi is) ⟨lsB b ds pl nm, [some (vi l), none]⟩ Q
  | [], i, b, pl, nm, l, hl, hr, _ => hQ b pl nm l hl hr
  | m :: is, i, b, pl, nm, l, hl, hr, hi => by
    show drT (((St.mk (lsB b ds pl nm) [some (vi l), none]).put "place" (.d (.int i))).put "number" (.d (.int m))) _
    rw [dr_3, dr_1]
    have hm : 0 ≤ (i : Int).fmod 4 ∧ (i : Int).fmod 4 < 4 := ⟨Int.fmod_nonneg_of_pos _ (by omega), Int.fmod_lt_of_pos _ (by omega)⟩
    have hsq : seqIndex? ((i : Int).fmod 4) 4 = some ((i : Int).fmod 4).toNat := by
      have := @seq_nat ((i : Int).fmod 4).toNat 4 (by omega)
      rwa [Int.toNat_of_nonneg hm.1] at this
    have hvl : (vi l).length = 4 := by unfold vi; rw [List.length_map, hl]
    have hj : ((i : Int).fmod 4).toNat < l.length := by omega
    have hx : l[((i : Int).fmod 4).toNat]? = some l[((i : Int).fmod 4).toNat] := List.getElem?_eq_getElem hj
    generalize l[((i : Int).fmod 4).toNat] = x at hx
    have hv : (vi l)[((i : Int).fmod 4).toNat]? = some (.d (.int x)) := by
      unfold vi
      rw [List.getElem?_map, hx]; rfl
    refine chk_iff.mpr ⟨by unfold smallI; rw [Bool.and_eq_true, decide_eq_true_eq, decide_eq_true_eq]; omega, ?_⟩
    rw [hvl, hsq, show (some ((i : Int).fmod 4).toNat).bind (fun x => (vi l)[x]?) = some (.d (.int x)) from hv]
    dsimp only [opB]
    rw [show decide ((1000000 : Int) ≠ 0) = true by decide, chk_t, dr_2, hvl]
    refine chk_iff.mpr ⟨by simp [hm.1]; exact ⟨hm.2, by decide +kernel⟩, ?_⟩
    have hset : (vi l).set ((i : Int).fmod 4).toNat (.d (.int ((x + m).fmod 1000000))) = vi (l.set ((i : Int).fmod 4).toNat ((x + m).fmod 1000000)) := by
      unfold vi; rw [List.map_set]
    rw [hset]
    refine dr_all ds Q hQ is (i + 1) true _ _ _ (by rw [List.length_set, hl]) ?_ (by simp at hi; omega)
    intro y hy
    rcases List.mem_or_eq_of_mem_set hy with h | h
    · exact hr y h
    · rw [h]; exact ⟨Int.fmod_nonneg_of_pos _ (by omega), Int.fmod_lt_of_pos _ (by omega)⟩
end Mine
end
section
open PySem PySem.W PyProof.Rows PySem.Calls
set_option Elab.async false
namespace Mine
noncomputable def lcel (d0 d1 d2 d3 : Int) (Z : Option (List V)) : List (Option (List V)) := [some (vi [d0, d1, d2, d3]), Z]
noncomputable def lsN (b : Bool) (ds : List PyData) (pl nm : V) (look gap size low : Int) (r : List (Str × V)) : List (Str × V) := match b with
  | true => ("script", .d (.list ds)) :: ("draws", .c 0) :: ("place", pl) :: ("number", nm) :: ("look", .d (.int look)) :: ("size", .d (.int size)) :: ("gap", .d (.int gap)) :: ("low", .d (.int low)) :: r
  | false => ("script", .d (.list ds)) :: ("draws", .c 0) :: ("look", .d (.int look)) :: ("size", .d (.int size)) :: ("gap", .d (.int gap)) :: ("low", .d (.int low)) :: r
noncomputable def lsL (b : Bool) (ds : List PyData) (pl nm : V) (look : Int) (r : List (Str × V)) : List (Str × V) := match b with
  | true => ("script", .d (.list ds)) :: ("draws", .c 0) :: ("place", pl) :: ("number", nm) :: ("look", .d (.int look)) :: r
  | false => ("script", .d (.list ds)) :: ("draws", .c 0) :: ("look", .d (.int look)) :: r
theorem law_2 (b : Bool) (ds : List PyData) (pl nm : V) (d0 d1 d2 d3 : Int) (Z : Option (List V)) (K : PyData → Prop) : wpSs G3 58 sL (bL.drop 2) ⟨lsB b ds pl nm, lcel d0 d1 d2 d3 Z⟩ (finK K) = wpSs G3 57 sL (bL.drop 3) ⟨lsL b ds pl nm d3 [], lcel d0 d1 d2 d3 Z⟩ (finK K) := by cases b <;> kernel_rfl!
noncomputable def lsG (b : Bool) (ds : List PyData) (pl nm : V) (look gap size : Int) (r : List (Str × V)) : List (Str × V) := match b with
  | true => ("script", .d (.list ds)) :: ("draws", .c 0) :: ("place", pl) :: ("number", nm) :: ("look", .d (.int look)) :: ("size", .d (.int size)) :: ("gap", .d (.int gap)) :: r
  | false => ("script", .d (.list ds)) :: ("draws", .c 0) :: ("look", .d (.int look)) :: ("size", .d (.int size)) :: ("gap", .d (.int gap)) :: r
theorem law_3 (b : Bool) (ds : List PyData) (pl nm : V) (d0 d1 d2 d3 look : Int) (Z : Option (List V)) (K : PyData → Prop) : wpSs G3 57 sL (bL.drop 3) ⟨lsL b ds pl nm look [], lcel d0 d1 d2 d3 Z⟩ (finK K) = wpSs G3 56 sL (bL.drop 4) ⟨lsG b ds pl nm look (1 + look.fmod 2) (3 + 2 * d0.fmod 6) [], lcel d0 d1 d2 d3 Z⟩ (finK K) := by cases b <;> kernel_rfl!
theorem law_4 (b : Bool) (ds : List PyData) (pl nm : V) (look gap size : Int) (L : List (Option (List V))) (K : PyData → Prop) : wpSs G3 56 sL (bL.drop 4) ⟨lsG b ds pl nm look gap size [], L⟩ (finK K) =
  chk (smallI gap || smallI (size - 1)) (chk (decide (26 - gap * (size - 1) ≠ 0)) (wpSs G3 55 sL (bL.drop 5) ⟨lsN b ds pl nm look gap size (97 + (look.fdiv 2).fmod (26 - gap * (size - 1))) [], L⟩ (finK K))) := by cases b <;> kernel_rfl!
noncomputable def cmA (i : Nat) : PySem.Expr := argE (valE (stAt bL i))
theorem law_5 (b : Bool) (ds : List PyData) (pl nm : V) (look gap size low : Int) (d0 d1 d2 d3 : Int) (Z : Option (List V)) (K : PyData → Prop) : wpSs G3 55 sL (bL.drop 5) ⟨lsN b ds pl nm look gap size low [], lcel d0 d1 d2 d3 Z⟩ (finK K) =
    chk (decide (-1000000 ≤ size) && decide (size ≤ 1000000)) (compE G3 49 sL (cmA 5) (.rng 0 size) ⟨lsN b ds pl nm look gap size low [], lcel d0 d1 d2 d3 Z⟩ (joinTo G3 54 sL (bL.drop 6) "pack" K)) := by cases b <;> kernel_rfl!
noncomputable def tuN (i : Nat) (n : Nat) (τ : St) (k : Option V → St → Prop) : Prop := turnOf G3 n (compScope (lcScope (cmA i)) sL) (lcGen (cmA i)).ifs (lcElt (cmA i)) τ k
theorem law_t5 : (lcGen (cmA 5)).target = .Name "k" (posN (lcGen (cmA 5)).target) := by kernel_rfl!
theorem law_l5 : lcN (compScope (lcScope (cmA 5)) sL) "k" = true := by kernel_rfl!
noncomputable def lτ (i : Nat) (x : Str) (v : V) (loc : List (Str × V)) (L : List (Option (List V))) : St := ⟨put x v (dropLocals (compScope (lcScope (cmA i)) sL) loc), L⟩
theorem law_c5 (b : Bool) (ds : List PyData) (pl nm : V) (look gap size low j : Int) (L : List (Option (List V))) (q : Option V → St → Prop) : tuN 5 49 (lτ 5 "k" (.d (.int j)) (lsN b ds pl nm look gap size low []) L) q =
    chk (smallI gap || smallI j) (chk (decide (0 ≤ low + gap * j) && decide (low + gap * j < 1114112)) (q (some (.d (.str (mkS [(low + gap * j).toNat])))) (lτ 5 "k" (.d (.int j)) (lsN b ds pl nm look gap size low []) L))) := by cases b <;> kernel_rfl!
/-- after pack -/
noncomputable def lsP (b : Bool) (ds : List PyData) (pl nm : V) (look gap size low : Int) (pack : Str) (r : List (Str × V)) : List (Str × V) := lsN b ds pl nm look gap size low (("pack", .d (.str pack)) :: r)
theorem law_6 (b : Bool) (ds : List PyData) (pl nm : V) (look gap size low : Int) (d0 d1 d2 d3 : Int) (Z : Option (List V)) (out : List V) (K : PyData → Prop) :
    joinTo G3 54 sL (bL.drop 6) "pack" K (.c 2) ⟨lsN b ds pl nm look gap size low [], lcel d0 d1 d2 d3 Z ++ [some out]⟩ =
    (match strs? out with | some l => chk (JoinOk "" l) (wpSs G3 54 sL (bL.drop 6) ⟨lsP b ds pl nm look gap size low (mkS (l.map fun y => y.cps.toList).flatten) [], lcel d0 d1 d2 d3 Z ++ [some out]⟩ (finK K)) | none => False) := by cases b <;> kernel_rfl!
end Mine
end
section
open PySem PySem.W PyProof.Rows PySem.Calls
set_option Elab.async false
namespace Mine
noncomputable def sv (x : Str) : V := .d (.str x)
theorem law_7 (b : Bool) (ds : List PyData) (pl nm : V) (look gap size low : Int) (pack : Str) (L : List (Option (List V))) (K : PyData → Prop) : wpSs G3 54 sL (bL.drop 6) ⟨lsP b ds pl nm look gap size low pack [], L⟩ (finK K) =
    tySpec [.str pack, .int (look.fdiv 52)] fun d => wpSs G3 53 sL (bL.drop 7) ⟨lsP b ds pl nm look gap size low pack [("typed", .d d)], L⟩ (finK K) := by cases b <;> kernel_rfl!
noncomputable def cl3 (d0 d1 d2 d3 : Int) (Z : Option (List V)) (o : List V) (r : List (Option (List V))) : List (Option (List V)) := some (vi [d0, d1, d2, d3]) :: Z :: some o :: r
theorem law_8 (b : Bool) (ds : List PyData) (pl nm : V) (look gap size low : Int) (pack typed : Str) (d0 d1 d2 d3 : Int) (Z : Option (List V)) (o : List V) (K : PyData → Prop) : wpSs G3 53 sL (bL.drop 7) ⟨lsP b ds pl nm look gap size low pack [("typed", sv typed)], cl3 d0 d1 d2 d3 Z o []⟩ (finK K) =
    chk (sizeB (Str.length "257 \"" + typed.length)) (chk (sizeB ((mkS ([50, 53, 55, 32, 34] ++ typed.cps.toList)).length + Str.length "\"")) (chk (smallI (look.fmod 3)) (match (seqIndex? (look.fmod 3) 3).bind (([sv "", sv " dealt", sv "\n"] : List V)[·]?) with
      | some v => opB .Add (sv (mkS ([50, 53, 55, 32, 34] ++ typed.cps.toList ++ [34]))) v ⟨lsP b ds pl nm look gap size low pack [("typed", sv typed)], cl3 d0 d1 d2 d3 Z o [some [sv "", sv " dealt", sv "\n"]]⟩ fun r τ => wpSs G3 52 sL (bL.drop 8) (τ.put "reply" r) (finK K)
      | none => False))) := by cases b <;> kernel_rfl!
end Mine
end
section
open PySem PySem.W PyProof.Rows PySem.Calls
set_option Elab.async false
namespace Mine
noncomputable def tls : Option (List V) := some [sv "", sv " dealt", sv "\n"]
/-- the rest of law from statement i on -/
noncomputable def lawR (f i : Nat) (K : PyData → Prop) (τ : St) : Prop := wpSs G3 f sL (bL.drop i) τ (finK K)
noncomputable def nxt (f i : Nat) (K : PyData → Prop) : Fl → St → Prop := fun fl σ => match fl with
  | .next => lawR f (i + 1) K σ
  | .brk => False
  | .ret v => finK K (.ret v) σ
theorem ss_step {f i : Nat} {K : PyData → Prop} {τ : St} (hi : bL.drop i = stAt bL i :: bL.drop (i + 1)) (h : wpS G3 f sL (stAt bL i) τ (nxt f i K)) : lawR (f + 1) i K τ := by
  unfold lawR
  rw [hi]
  exact h
theorem dr_8 : bL.drop 8 = stAt bL 8 :: bL.drop 9 := by kernel_rfl!
theorem dr_9 : bL.drop 9 = stAt bL 9 :: bL.drop 10 := by kernel_rfl!
noncomputable def otS (look : Int) (reply : Str) : Str := mkS ((Str.ofString (toString (100 + (158 + look.fmod 899).fmod 900))).cps.toList ++ cut (some 3) none reply.cps.toList)
theorem law_9 (b : Bool) (ds : List PyData) (pl nm : V) (look gap size low : Int) (pack typed reply : Str) (L : List (Option (List V))) (K : Fl → St → Prop) : wpS G3 51 sL (stAt bL 8) ⟨lsP b ds pl nm look gap size low pack [("typed", sv typed), ("reply", sv reply)], L⟩ K =
  chk (smallI (100 + (158 + look.fmod 899).fmod 900)) (chk (sizeB reply.length) (chk (sizeB ((Str.ofString (toString (100 + (158 + look.fmod 899).fmod 900))).length + (mkS (cut (some 3) none reply.cps.toList)).length))
    (K .next ⟨lsP b ds pl nm look gap size low pack [("typed", sv typed), ("reply", sv reply), ("other", sv (otS look reply))], L⟩))) := by cases b <;> kernel_rfl!
noncomputable def ba1 (reply : Str) : Str := mkS ([50, 53, 55, 45] ++ cut (some 4) none reply.cps.toList)
noncomputable def ba2 (reply : Str) : Str := mkS ([50, 53, 55, 32, 120] ++ cut (some 5) none reply.cps.toList)
noncomputable def cl4 (d0 d1 d2 d3 : Int) (Z : Option (List V)) (o : List V) (r : List (Option (List V))) : List (Option (List V)) := some (vi [d0, d1, d2, d3]) :: Z :: some o :: tls :: r
/-- the locals from bare on -/
noncomputable def lsB4 (b : Bool) (ds : List PyData) (pl nm : V) (look gap size low : Int) (pack typed reply other : Str) (r : List (Str × V)) : List (Str × V) := lsP b ds pl nm look gap size low pack (("typed", sv typed) :: ("reply", sv reply) :: ("other", sv other) :: r)
theorem law_10 (b : Bool) (ds : List PyData) (pl nm : V) (look gap size low : Int) (pack typed reply other : Str) (d0 d1 d2 d3 : Int) (Z : Option (List V)) (o : List V) (K : Fl → St → Prop) : wpS G3 50 sL (stAt bL 9) ⟨lsB4 b ds pl nm look gap size low pack typed reply other [], cl4 d0 d1 d2 d3 Z o []⟩ K =
    chk (sizeB reply.length) (chk (sizeB (Str.length "257-" + (mkS (cut (some 4) none reply.cps.toList)).length)) (chk (sizeB reply.length) (chk (sizeB (Str.length "257 x" + (mkS (cut (some 5) none reply.cps.toList)).length))
      (K .next ⟨lsB4 b ds pl nm look gap size low pack typed reply other [("bare", .c 4)], cl4 d0 d1 d2 d3 Z o [some [sv (ba1 reply), sv (ba2 reply)]]⟩)))) := by cases b <;> kernel_rfl!
end Mine
end
section
open PySem PySem.W PyProof.Rows PySem.Calls
set_option Elab.async false
namespace Mine
noncomputable def binL (e : PySem.Expr) : PySem.Expr := (ev e).1
noncomputable def binR (e : PySem.Expr) : PySem.Expr := (ev e).2.1
noncomputable def cmpLe (e : PySem.Expr) : PySem.Expr := (ev e).1
noncomputable def cmpRe (e : PySem.Expr) : PySem.Expr := (ev e).2.1
theorem dr_10 : bL.drop 10 = stAt bL 10 :: bL.drop 11 := by kernel_rfl!
noncomputable def t10 : PySem.Expr := valE (stAt bL 10)
noncomputable def e10 : PySem.Expr := binR (cmpLe t10)
noncomputable def aft10 (K : Fl → St → Prop) (v : V) (τ : St) : Prop := opB .Add (.c 5) v τ fun a τ => wpE G3 47 sL (cmpRe t10) τ fun b τ => cmpK .NotEq a b τ fun c => br c (K (.ret (.d (.bool false))) τ) (K .next τ)
section
variable (b : Bool) (ds : List PyData) (pl nm : V) (look gap size low : Int) (pack typed reply other : Str) (d0 d1 d2 d3 : Int) (Z : Option (List V)) (o : List V)
theorem law_11 (cb : Option (List V)) (K : Fl → St → Prop) : wpS G3 49 sL (stAt bL 10) ⟨lsB4 b ds pl nm look gap size low pack typed reply other [("bare", .c 4)], cl4 d0 d1 d2 d3 Z o [cb]⟩ K =
    tdSpec [.str reply] fun x => tdSpec [.str other] fun y => compE G3 44 sL e10 (.c 4) ⟨lsB4 b ds pl nm look gap size low pack typed reply other [("bare", .c 4)], cl4 d0 d1 d2 d3 Z o [cb, some [.d x, .d y]]⟩ (aft10 K) := by cases b <;> kernel_rfl!
theorem law_12 (cb : Option (List V)) (l1 l2 : List V) (K : Fl → St → Prop) : aft10 K (.c 6) ⟨lsB4 b ds pl nm look gap size low pack typed reply other [("bare", .c 4)], cl4 d0 d1 d2 d3 Z o [cb, some l1, some l2]⟩ =
    chk (sizeB (l1.length + l2.length)) (eqK (.c 7) (.c 11) ⟨lsB4 b ds pl nm look gap size low pack typed reply other [("bare", .c 4)], cl4 d0 d1 d2 d3 Z o [cb, some l1, some l2, some (l1 ++ l2), some [sv typed], some [sv ""], some [sv ""], some [.c 8, sv other, .c 9, .c 10]]⟩ fun c =>
      br (!c) (K (.ret (.d (.bool false))) ⟨lsB4 b ds pl nm look gap size low pack typed reply other [("bare", .c 4)], cl4 d0 d1 d2 d3 Z o [cb, some l1, some l2, some (l1 ++ l2), some [sv typed], some [sv ""], some [sv ""], some [.c 8, sv other, .c 9, .c 10]]⟩)
        (K .next ⟨lsB4 b ds pl nm look gap size low pack typed reply other [("bare", .c 4)], cl4 d0 d1 d2 d3 Z o [cb, some l1, some l2, some (l1 ++ l2), some [sv typed], some [sv ""], some [sv ""], some [.c 8, sv other, .c 9, .c 10]]⟩)) := by cases b <;> kernel_rfl!
theorem law_t10 : (lcGen e10).target = .Name "one" (posN (lcGen e10).target) := by kernel_rfl!
theorem law_l10 : lcN (compScope (lcScope e10) sL) "one" = true := by kernel_rfl!
theorem law_c10 (x : Str) (L : List (Option (List V))) (q : Option V → St → Prop) : turnOf G3 44 (compScope (lcScope e10) sL) (lcGen e10).ifs (lcElt e10) ⟨put "one" (sv x) (dropLocals (compScope (lcScope e10) sL) (lsB4 b ds pl nm look gap size low pack typed reply other [("bare", .c 4)])), L⟩ q =
    tdSpec [.str x] fun d => q (some (.d d)) ⟨put "one" (sv x) (dropLocals (compScope (lcScope e10) sL) (lsB4 b ds pl nm look gap size low pack typed reply other [("bare", .c 4)])), L⟩ := by cases b <;> kernel_rfl!
end
end Mine
end
section
open PySem PySem.W PyProof.Rows PySem.Calls
set_option Elab.async false
namespace Mine
theorem dr_11 : bL.drop 11 = stAt bL 11 :: bL.drop 12 := by kernel_rfl!
theorem dr_12 : bL.drop 12 = stAt bL 12 :: bL.drop 13 := by kernel_rfl!
theorem dr_13 : bL.drop 13 = stAt bL 13 :: bL.drop 14 := by kernel_rfl!
theorem dr_14 : bL.drop 14 = stAt bL 14 :: bL.drop 15 := by kernel_rfl!
theorem dr_15 : bL.drop 15 = stAt bL 15 :: bL.drop 16 := by kernel_rfl!
noncomputable abbrev OC := Option (List V)
/-- twelve own lists, the draws first -/
structure C12 where
  z1 : OC
  z2 : OC
  z3 : OC
  z4 : OC
  z5 : OC
  z6 : OC
  z7 : OC
  z8 : OC
  z9 : OC
  z10 : OC
  z11 : OC
noncomputable def c12 (d0 d1 d2 d3 : Int) (z : C12) (r : List OC) : List OC := some (vi [d0, d1, d2, d3]) :: z.z1 :: z.z2 :: z.z3 :: z.z4 :: z.z5 :: z.z6 :: z.z7 :: z.z8 :: z.z9 :: z.z10 :: z.z11 :: r
set_option genInjectivity false in
set_option genSizeOf false in
structure LV where
  b : Bool
  ds : List PyData
  pl : V
  nm : V
  look : Int
  gap : Int
  size : Int
  low : Int
  pack : Str
  typed : Str
  reply : Str
  other : Str
  d0 : Int
  d1 : Int
  d2 : Int
  d3 : Int
  z : C12
noncomputable def LV.loc (x : LV) (r : List (Str × V)) : List (Str × V) := lsB4 x.b x.ds x.pl x.nm x.look x.gap x.size x.low x.pack x.typed x.reply x.other (("bare", .c 4) :: r)
noncomputable def LV.st (x : LV) (r : List (Str × V)) (q : List OC) : St := ⟨x.loc r, c12 x.d0 x.d1 x.d2 x.d3 x.z q⟩
noncomputable def retF (K : Fl → St → Prop) (τ : St) : Prop := K (.ret (.d (.bool false))) τ
noncomputable def t11 : PySem.Expr := valE (stAt bL 11)
noncomputable def e11 : PySem.Expr := argE (cmpLe t11)
noncomputable def aft11 (K : Fl → St → Prop) (v : V) (τ : St) : Prop := mJoin (sv "") [v] τ fun s τ => wpE G3 46 sL (cmpRe t11) τ fun b τ => cmpK .NotEq s b τ fun c => br c (retF K τ) (K .next τ)
section
variable (x : LV)
theorem law_13 (K : Fl → St → Prop) : wpS G3 48 sL (stAt bL 11) (x.st [] []) K = compE G3 42 sL e11 (sv x.typed) (x.st [] []) (aft11 K) := by
  obtain ⟨b, ds, pl, nm, look, gap, size, low, pack, typed, reply, other, d0, d1, d2, d3, z⟩ := x
  cases b <;> kernel_rfl!
theorem law_14 (out : List V) (K : Fl → St → Prop) : aft11 K (.c 12) (x.st [] [some out]) =
    (match strs? out with | some l => chk (JoinOk "" l) (br (!((l.map fun y => y.cps.toList).flatten == x.pack.cps.toList)) (retF K (x.st [] [some out])) (K .next (x.st [] [some out]))) | none => False) := by
  obtain ⟨b, ds, pl, nm, look, gap, size, low, pack, typed, reply, other, d0, d1, d2, d3, z⟩ := x
  cases b <;> kernel_rfl!
theorem law_t11 : (lcGen e11).target = .Name "sign" (posN (lcGen e11).target) := by kernel_rfl!
theorem law_l11 : lcN (compScope (lcScope e11) sL) "sign" = true := by kernel_rfl!
theorem law_c11 (s : Str) (L : List OC) (q : Option V → St → Prop) : turnOf G3 42 (compScope (lcScope e11) sL) (lcGen e11).ifs (lcElt e11) ⟨put "sign" (sv s) (dropLocals (compScope (lcScope e11) sL) (x.loc [])), L⟩ q =
    inSpec [.str s] fun d => truthK (.d d) ⟨put "sign" (sv s) (dropLocals (compScope (lcScope e11) sL) (x.loc [])), L⟩ fun c => br (!c) (mpSpec [.str s] fun d => q (some (.d d)) ⟨put "sign" (sv s) (dropLocals (compScope (lcScope e11) sL) (x.loc [])), L⟩) (q none ⟨put "sign" (sv s) (dropLocals (compScope (lcScope e11) sL) (x.loc [])), L⟩) := by
  obtain ⟨b, ds, pl, nm, look, gap, size, low, pack, typed, reply, other, d0, d1, d2, d3, z⟩ := x
  cases b <;> kernel_rfl!
noncomputable def e12 : PySem.Expr := valE (stAt bL 12)
theorem law_15 (o1 : List V) (K : Fl → St → Prop) : wpS G3 47 sL (stAt bL 12) (x.st [] [some o1]) K = chk (decide (-1000000 ≤ (1:Int)) && decide ((1:Int) ≤ 1000000) && decide (-1000000 ≤ x.size) && decide (x.size ≤ 1000000)) (compE G3 44 sL e12 (.rng 1 x.size) (x.st [] [some o1]) fun v τ => K .next (τ.put "steps" v)) := by
  obtain ⟨b, ds, pl, nm, look, gap, size, low, pack, typed, reply, other, d0, d1, d2, d3, z⟩ := x
  cases b <;> kernel_rfl!
theorem law_t12 : (lcGen e12).target = .Name "step" (posN (lcGen e12).target) := by kernel_rfl!
theorem law_l12 : lcN (compScope (lcScope e12) sL) "step" = true := by kernel_rfl!
theorem law_c12 (j : Int) (L : List OC) (q : Option V → St → Prop) : turnOf G3 44 (compScope (lcScope e12) sL) (lcGen e12).ifs (lcElt e12) ⟨put "step" (.d (.int j)) (dropLocals (compScope (lcScope e12) sL) (x.loc [])), L⟩ q =
    br (!decide (x.size = 9)) (q (some (.d (.int j))) ⟨put "step" (.d (.int j)) (dropLocals (compScope (lcScope e12) sL) (x.loc [])), L⟩)
      (br (decide (0 < j.fmod 3)) (q (some (.d (.int j))) ⟨put "step" (.d (.int j)) (dropLocals (compScope (lcScope e12) sL) (x.loc [])), L⟩) (q none ⟨put "step" (.d (.int j)) (dropLocals (compScope (lcScope e12) sL) (x.loc [])), L⟩)) := by
  obtain ⟨b, ds, pl, nm, look, gap, size, low, pack, typed, reply, other, d0, d1, d2, d3, z⟩ := x
  cases b <;> kernel_rfl!
theorem law_15b (v : V) (q : List OC) : (x.st [] q).put "steps" v = x.st [("steps", v)] q := by
  obtain ⟨b, ds, pl, nm, look, gap, size, low, pack, typed, reply, other, d0, d1, d2, d3, z⟩ := x
  cases b <;> kernel_rfl!
theorem law_16 (o1 st : List V) (K : Fl → St → Prop) : wpS G3 46 sL (stAt bL 13) (x.st [("steps", .c 13)] [some o1, some st]) K =
    chk (sizeB st.length) (chk (decide ((st.length : Int) ≠ 0)) (chk (smallI (x.d1.fmod st.length)) (match (seqIndex? (x.d1.fmod st.length) st.length).bind (st[·]?) with
      | some v => chk (smallI ((x.look.fdiv 17472).fmod 4)) (match Txt.charAt "z \n'" ((x.look.fdiv 17472).fmod 4) with
        | some c => K .next (x.st [("steps", .c 13), ("sign", sv (mkS [c])), ("step", v)] [some o1, some st])
        | none => False)
      | none => False))) := by
  obtain ⟨b, ds, pl, nm, look, gap, size, low, pack, typed, reply, other, d0, d1, d2, d3, z⟩ := x
  cases b <;> kernel_rfl!
theorem law_17 (sg : Str) (v : V) (q : List OC) (K : Fl → St → Prop) : wpS G3 45 sL (stAt bL 14) (x.st [("steps", .c 13), ("sign", sv sg), ("step", v)] q) K =
    chk (decide (x.size ≠ 0)) (K .next (x.st [("steps", .c 13), ("sign", sv sg), ("step", v), ("cut", .d (.int (x.d2.fmod x.size)))] q)) := by
  obtain ⟨b, ds, pl, nm, look, gap, size, low, pack, typed, reply, other, d0, d1, d2, d3, z⟩ := x
  cases b <;> kernel_rfl!
theorem law_18 (sg : Str) (st ct : Int) (q : List OC) (K : Fl → St → Prop) : wpS G3 44 sL (stAt bL 15) (x.st [("steps", .c 13), ("sign", sv sg), ("step", .d (.int st)), ("cut", .d (.int ct))] q) K =
    dlSpec [.str x.pack, .int (ct + 1), .int st] fun d => K .next (x.st [("steps", .c 13), ("sign", sv sg), ("step", .d (.int st)), ("cut", .d (.int ct)), ("dealt", .d d)] q) := by
  obtain ⟨b, ds, pl, nm, look, gap, size, low, pack, typed, reply, other, d0, d1, d2, d3, z⟩ := x
  cases b <;> kernel_rfl!
end
end Mine
end
section
open PySem PySem.W PyProof.Rows PySem.Calls
set_option Elab.async false
namespace Mine
theorem dr_16 : bL.drop 16 = stAt bL 16 :: bL.drop 17 := by kernel_rfl!
theorem dr_17 : bL.drop 17 = stAt bL 17 :: bL.drop 18 := by kernel_rfl!
theorem dr_18 : bL.drop 18 = stAt bL 18 :: bL.drop 19 := by kernel_rfl!
theorem dr_19 : bL.drop 19 = stAt bL 19 :: bL.drop 20 := by kernel_rfl!
theorem dr_20 : bL.drop 20 = stAt bL 20 :: bL.drop 21 := by kernel_rfl!
theorem dr_21 : bL.drop 21 = stAt bL 21 :: bL.drop 22 := by kernel_rfl!
theorem dr_22 : bL.drop 22 = stAt bL 22 :: bL.drop 23 := by kernel_rfl!
theorem dr_23 : bL.drop 23 = stAt bL 23 :: bL.drop 24 := by kernel_rfl!
theorem dr_24 : bL.drop 24 = [stAt bL 24] := by kernel_rfl!
/-- two texts joined -/
noncomputable def cat (x y : Str) (P : Str → Prop) : Prop := chk (sizeB (x.length + y.length)) (P (mkS (x.cps.toList ++ y.cps.toList)))
/-- texts joined from the left -/
noncomputable def joinGo (a : Str) : List Str → (Str → Prop) → Prop
  | [], P => P a
  | b :: r, P => cat a b fun s => joinGo s r P
set_option genInjectivity false in
set_option genSizeOf false in
structure LV2 extends LV where
  sg : Str
  stp : Int
  ct : Int
  dealt : Str
noncomputable def LV2.locD (x : LV2) (r : List (Str × V)) : List (Str × V) := x.loc (("steps", .c 13) :: ("sign", sv x.sg) :: ("step", .d (.int x.stp)) :: ("cut", .d (.int x.ct)) :: ("dealt", sv x.dealt) :: r)
noncomputable def LV2.sd (x : LV2) (r : List (Str × V)) (q : List OC) : St := ⟨x.locD r, c12 x.d0 x.d1 x.d2 x.d3 x.z q⟩
section
variable (x : LV2)
theorem law_19 (o1 st : List V) (K : Fl → St → Prop) : wpS G3 43 sL (stAt bL 16) (x.sd [] [some o1, some st]) K =
    chk (Nat.ble x.dealt.length 60) (∀ l : List Nat, l.Perm x.dealt.cps.toList → l.Pairwise (· ≤ ·) → match strs? (l.map fun c => V.d (.str (mkS [c]))) with
      | some ls => chk (JoinOk "" ls) (br (!((ls.map fun y => y.cps.toList).flatten == x.pack.cps.toList)) (retF K (x.sd [] [some o1, some st, some (l.map fun c => V.d (.str (mkS [c])))])) (K .next (x.sd [] [some o1, some st, some (l.map fun c => V.d (.str (mkS [c])))])))
      | none => False) := by
  obtain ⟨⟨b, ds, pl, nm, look, gap, size, low, pack, typed, reply, other, d0, d1, d2, d3, z⟩, sg, stp, ct, dealt⟩ := x
  cases b <;> kernel_rfl!
theorem law_20 (q : List OC) (K : Fl → St → Prop) : wpS G3 42 sL (stAt bL 17) (x.sd [] q) K =
    chk (sizeB x.dealt.length) (chk (smallI x.ct) (match Txt.charAt x.dealt x.ct with
      | some c => chk (sizeB x.dealt.length) (K .next (x.sd [("back", sv (mkS (cut (some (x.ct + 1)) none x.dealt.cps.toList))), ("card", sv (mkS [c])), ("front", sv (mkS (cut none (some x.ct) x.dealt.cps.toList)))] q))
      | none => False)) := by
  obtain ⟨⟨b, ds, pl, nm, look, gap, size, low, pack, typed, reply, other, d0, d1, d2, d3, z⟩, sg, stp, ct, dealt⟩ := x
  cases b <;> kernel_rfl!
end
set_option genInjectivity false in
set_option genSizeOf false in
structure LV3 extends LV2 where
  bk : Str
  ca : Str
  fr : Str
noncomputable def LV3.locF (x : LV3) (r : List (Str × V)) : List (Str × V) := x.locD (("back", sv x.bk) :: ("card", sv x.ca) :: ("front", sv x.fr) :: r)
noncomputable def LV3.sf (x : LV3) (r : List (Str × V)) (q : List OC) : St := ⟨x.locF r, c12 x.d0 x.d1 x.d2 x.d3 x.z q⟩
noncomputable abbrev dt3 : Str := mkS [46, 46, 46]
section
variable (x : LV3)
theorem law_21 (o1 o2 o3 : OC) (K : Fl → St → Prop) : wpS G3 41 sL (stAt bL 18) (x.sf [] [o1, o2, o3]) K =
    (joinGo x.fr [dt3, x.ca, x.bk] fun f3 => joinGo x.fr [dt3, x.ca, dt3, x.bk] fun f4 =>
      K .next (x.sf [("fit", .c 15)] [o1, o2, o3, some [sv dt3, sv x.dealt, sv f3, sv f4]])) := by
  obtain ⟨⟨⟨b, ds, pl, nm, look, gap, size, low, pack, typed, reply, other, d0, d1, d2, d3, z⟩, sg, stp, ct, dealt⟩, bk, ca, fr⟩ := x
  cases b <;> kernel_rfl!
theorem law_22 (o1 o2 o3 o4 : OC) (K : Fl → St → Prop) : wpS G3 40 sL (stAt bL 19) (x.sf [("fit", .c 15)] [o1, o2, o3, o4]) K =
    (joinGo x.fr [x.ca, dt3, x.ca, x.bk] fun p1 => joinGo x.fr [dt3, x.ca, dt3, x.ca, x.bk] fun p2 => joinGo x.fr [x.ca, dt3, x.ca, dt3] fun p3 => joinGo dt3 [x.fr, x.ca, dt3, x.ca, x.bk, dt3] fun p4 =>
     chk (sizeB x.dealt.length) (chk (sizeB x.dealt.length) (chk (sizeB x.dealt.length) (cat (mkS (cut (some 1) none x.dealt.cps.toList)) dt3 fun p7 => chk (sizeB x.dealt.length) (cat dt3 (mkS (cut none (some (-1)) x.dealt.cps.toList)) fun p8 =>
      K .next (x.sf [("fit", .c 15), ("lap", .c 16)] [o1, o2, o3, o4, some [sv p1, sv p2, sv p3, sv p4, sv (mkS (cut (some 1) none x.dealt.cps.toList)), sv (mkS (cut none (some (-1)) x.dealt.cps.toList)), sv p7, sv p8]])))))) := by
  obtain ⟨⟨⟨b, ds, pl, nm, look, gap, size, low, pack, typed, reply, other, d0, d1, d2, d3, z⟩, sg, stp, ct, dealt⟩, bk, ca, fr⟩ := x
  cases b <;> kernel_rfl!
noncomputable def lfl : List (Str × V) := [("fit", .c 15), ("lap", .c 16)]
noncomputable def t20 : PySem.Expr := valE (stAt bL 20)
noncomputable def e20 : PySem.Expr := cmpLe t20
noncomputable def aft20 (K : Fl → St → Prop) (v : V) (τ : St) : Prop := wpE G3 37 sL (cmpRe t20) τ fun b τ => cmpK .NotEq v b τ fun c => br c (retF K τ) (K .next τ)
theorem law_23 (o1 o2 o3 o4 o5 : OC) (K : Fl → St → Prop) : wpS G3 39 sL (stAt bL 20) (x.sf lfl [o1, o2, o3, o4, o5]) K = compE G3 35 sL e20 (.c 15) (x.sf lfl [o1, o2, o3, o4, o5]) (aft20 K) := by
  obtain ⟨⟨⟨b, ds, pl, nm, look, gap, size, low, pack, typed, reply, other, d0, d1, d2, d3, z⟩, sg, stp, ct, dealt⟩, bk, ca, fr⟩ := x
  cases b <;> kernel_rfl!
theorem law_t20 : (lcGen e20).target = .Name "want" (posN (lcGen e20).target) := by kernel_rfl!
theorem law_l20 : lcN (compScope (lcScope e20) sL) "want" = true := by kernel_rfl!
theorem law_c20 (w : Str) (L : List OC) (q : Option V → St → Prop) : turnOf G3 35 (compScope (lcScope e20) sL) (lcGen e20).ifs (lcElt e20) ⟨put "want" (sv w) (dropLocals (compScope (lcScope e20) sL) (x.locF lfl)), L⟩ q =
    eSpec [.str w, .str x.dealt] fun d => isK (.d d) (.d (.bool true)) fun c => br (!c) (q (some (sv w)) ⟨put "want" (sv w) (dropLocals (compScope (lcScope e20) sL) (x.locF lfl)), L⟩) (q none ⟨put "want" (sv w) (dropLocals (compScope (lcScope e20) sL) (x.locF lfl)), L⟩) := by
  obtain ⟨⟨⟨b, ds, pl, nm, look, gap, size, low, pack, typed, reply, other, d0, d1, d2, d3, z⟩, sg, stp, ct, dealt⟩, bk, ca, fr⟩ := x
  cases b <;> kernel_rfl!
theorem law_24 (o1 o2 o3 o4 o5 : OC) (K : Fl → St → Prop) : aft20 K (.c 17) (x.sf lfl [o1, o2, o3, o4, o5, some []]) = K .next (x.sf lfl [o1, o2, o3, o4, o5, some [], some []]) := by
  obtain ⟨⟨⟨b, ds, pl, nm, look, gap, size, low, pack, typed, reply, other, d0, d1, d2, d3, z⟩, sg, stp, ct, dealt⟩, bk, ca, fr⟩ := x
  cases b <;> kernel_rfl!
noncomputable def t21 : PySem.Expr := valE (stAt bL 21)
noncomputable def e21 : PySem.Expr := cmpLe t21
noncomputable def aft21 (K : Fl → St → Prop) (v : V) (τ : St) : Prop := wpE G3 36 sL (cmpRe t21) τ fun b τ => cmpK .NotEq v b τ fun c => br c (retF K τ) (K .next τ)
theorem law_25 (o1 o2 o3 o4 o5 o6 o7 : OC) (K : Fl → St → Prop) : wpS G3 38 sL (stAt bL 21) (x.sf lfl [o1, o2, o3, o4, o5, o6, o7]) K = compE G3 34 sL e21 (.c 16) (x.sf lfl [o1, o2, o3, o4, o5, o6, o7]) (aft21 K) := by
  obtain ⟨⟨⟨b, ds, pl, nm, look, gap, size, low, pack, typed, reply, other, d0, d1, d2, d3, z⟩, sg, stp, ct, dealt⟩, bk, ca, fr⟩ := x
  cases b <;> kernel_rfl!
theorem law_t21 : (lcGen e21).target = .Name "want" (posN (lcGen e21).target) := by kernel_rfl!
theorem law_l21 : lcN (compScope (lcScope e21) sL) "want" = true := by kernel_rfl!
theorem law_c21 (w : Str) (L : List OC) (q : Option V → St → Prop) : turnOf G3 34 (compScope (lcScope e21) sL) (lcGen e21).ifs (lcElt e21) ⟨put "want" (sv w) (dropLocals (compScope (lcScope e21) sL) (x.locF lfl)), L⟩ q =
    eSpec [.str w, .str x.dealt] fun d => isK (.d d) (.d (.bool false)) fun c => br (!c) (q (some (sv w)) ⟨put "want" (sv w) (dropLocals (compScope (lcScope e21) sL) (x.locF lfl)), L⟩) (q none ⟨put "want" (sv w) (dropLocals (compScope (lcScope e21) sL) (x.locF lfl)), L⟩) := by
  obtain ⟨⟨⟨b, ds, pl, nm, look, gap, size, low, pack, typed, reply, other, d0, d1, d2, d3, z⟩, sg, stp, ct, dealt⟩, bk, ca, fr⟩ := x
  cases b <;> kernel_rfl!
theorem law_26 (o1 o2 o3 o4 o5 o6 o7 : OC) (K : Fl → St → Prop) : aft21 K (.c 19) (x.sf lfl [o1, o2, o3, o4, o5, o6, o7, some []]) = K .next (x.sf lfl [o1, o2, o3, o4, o5, o6, o7, some [], some []]) := by
  obtain ⟨⟨⟨b, ds, pl, nm, look, gap, size, low, pack, typed, reply, other, d0, d1, d2, d3, z⟩, sg, stp, ct, dealt⟩, bk, ca, fr⟩ := x
  cases b <;> kernel_rfl!
theorem law_27 (q : List OC) (K : Fl → St → Prop) : wpS G3 37 sL (stAt bL 22) (x.sf lfl q) K = K .next (x.sf (lfl ++ ([("out", .d (.int 0))] : List (Str × V))) q) := by
  obtain ⟨⟨⟨b, ds, pl, nm, look, gap, size, low, pack, typed, reply, other, d0, d1, d2, d3, z⟩, sg, stp, ct, dealt⟩, bk, ca, fr⟩ := x
  cases b <;> kernel_rfl!
end
end Mine
end
section
open PySem PySem.W PyProof.Rows PySem.Calls
set_option Elab.async false
namespace Mine
/-! the double loop -/
noncomputable abbrev fB : List Stmt := forB (stAt bL 23)
noncomputable abbrev gB : List Stmt := forB (stAt fB 2)
/-- the locals in the loop -/
inductive KT where
  | n0
  | n1 (k : V) (w : V)
  | n2 (k : V) (w : V) (l : V) (t : V)
noncomputable def KT.l : KT → List (Str × V)
  | .n0 => []
  | .n1 k w => [("k", k), ("below", w)]
  | .n2 k w l t => [("k", k), ("below", w), ("lower", l), ("told", t)]
/-- k just stored -/
noncomputable def KT.atK : KT → V → List (Str × V)
  | .n0, v => [("k", v)]
  | .n1 _ w, v => [("k", v), ("below", w)]
  | .n2 _ w l t, v => [("k", v), ("below", w), ("lower", l), ("told", t)]
/-- k and below stored -/
noncomputable def KT.atB : KT → V → V → List (Str × V)
  | .n0, v, u => [("k", v), ("below", u)]
  | .n1 _ _, v, u => [("k", v), ("below", u)]
  | .n2 _ _ l t, v, u => [("k", v), ("below", u), ("lower", l), ("told", t)]
noncomputable def KT.toB : KT → V → V → KT
  | .n0, v, u => .n1 v u
  | .n1 _ _, v, u => .n1 v u
  | .n2 _ _ l t, v, u => .n2 v u l t
theorem KT.toB_l (t : KT) (v u : V) : (t.toB v u).l = t.atB v u := by cases t <;> rfl
noncomputable def LV3.sk (x : LV3) (ov : Int) (r : List (Str × V)) (L : List OC) : St := ⟨x.locF (("fit", .c 15) :: ("lap", .c 16) :: ("out", .d (.int ov)) :: r), L⟩
noncomputable def outT (v : V) (τ : St) (k : Fl → St → Prop) : Prop := wpSs G3 35 sL fB (τ.put "k" v) k
section
variable (x : LV3)
theorem law_28 (q : List OC) (K : Fl → St → Prop) : wpS G3 36 sL (stAt bL 23) (x.sk 0 [] q) K = chk (decide (-1000000 ≤ x.size) && decide (x.size ≤ 1000000)) (match walkOf (x.sk 0 [] q) (.rng 0 x.size) with | some xs => forL outT xs (x.sk 0 [] q) K | none => False) := by
  obtain ⟨⟨⟨b, ds, pl, nm, look, gap, size, low, pack, typed, reply, other, d0, d1, d2, d3, z⟩, sg, stp, ct, dealt⟩, bk, ca, fr⟩ := x
  cases b <;> kernel_rfl!
theorem lp_k (t : KT) (v : V) (ov : Int) (L : List OC) : (x.sk ov t.l L).put "k" v = x.sk ov (t.atK v) L := by
  obtain ⟨⟨⟨b, ds, pl, nm, look, gap, size, low, pack, typed, reply, other, d0, d1, d2, d3, z⟩, sg, stp, ct, dealt⟩, bk, ca, fr⟩ := x
  cases b <;> cases t <;> kernel_rfl!
theorem lp_0 (t : KT) (k : Int) (ov : Int) (L : List OC) (K : Fl → St → Prop) : wpS G3 34 sL (stAt fB 0) (x.sk ov (t.atK (.d (.int k))) L) K =
    chk (sizeB x.pack.length) (K .next (x.sk ov (t.atB (.d (.int k)) (sv (mkS (cut none (some k) x.pack.cps.toList)))) L)) := by
  obtain ⟨⟨⟨b, ds, pl, nm, look, gap, size, low, pack, typed, reply, other, d0, d1, d2, d3, z⟩, sg, stp, ct, dealt⟩, bk, ca, fr⟩ := x
  cases b <;> cases t <;> kernel_rfl!
noncomputable def sN (a b : Str) : Int := b2i (decide (b.cps.toList < a.cps.toList)) - b2i (decide (a.cps.toList < b.cps.toList))
noncomputable def nS (n : Int) : Str := Str.ofString (toString n)
noncomputable def tB : PySem.Expr := valE (stAt fB 1)
noncomputable def eB : PySem.Expr := binL (cmpLe tB)
noncomputable def aftB3 (K : Fl → St → Prop) (a : V) (τ : St) : Prop := wpE G3 31 sL (cmpRe tB) τ fun b τ => cmpK .NotEq a b τ fun c => br c (retF K τ) (K .next τ)
noncomputable def aftB (K : Fl → St → Prop) (v : V) (τ : St) : Prop := wpE G3 30 sL (binR (cmpLe tB)) τ fun b τ => opB .Add v b τ fun a τ => aftB3 K a τ
theorem lp_1 (t : KT) (k ov : Int) (w : Str) (L : List OC) (K : Fl → St → Prop) : wpS G3 33 sL (stAt fB 1) (x.sk ov (t.atB (.d (.int k)) (sv w)) L) K =
    chk (sizeB x.pack.length) (compE G3 28 sL eB (.c L.length) (x.sk ov (t.atB (.d (.int k)) (sv w)) (L ++ [some [sv w, sv (mkS (cut none (some (k + 1)) x.pack.cps.toList))]])) (aftB K)) := by
  obtain ⟨⟨⟨b, ds, pl, nm, look, gap, size, low, pack, typed, reply, other, d0, d1, d2, d3, z⟩, sg, stp, ct, dealt⟩, bk, ca, fr⟩ := x
  cases b <;> cases t <;> kernel_rfl!
theorem lp_tB : (lcGen eB).target = .Name "one" (posN (lcGen eB).target) := by kernel_rfl!
theorem lp_lB : lcN (compScope (lcScope eB) sL) "one" = true := by kernel_rfl!
theorem lp_cB (t : KT) (k ov : Int) (w s : Str) (L L' : List OC) (q : Option V → St → Prop) : turnOf G3 28 (compScope (lcScope eB) sL) (lcGen eB).ifs (lcElt eB) ⟨put "one" (sv s) (dropLocals (compScope (lcScope eB) sL) (x.sk ov (t.atB (.d (.int k)) (sv w)) L).loc), L'⟩ q =
    chk (smallI (sN w s)) (q (some (sv (nS (sN w s)))) ⟨put "one" (sv s) (dropLocals (compScope (lcScope eB) sL) (x.sk ov (t.atB (.d (.int k)) (sv w)) L).loc), L'⟩) := by
  obtain ⟨⟨⟨b, ds, pl, nm, look, gap, size, low, pack, typed, reply, other, d0, d1, d2, d3, z⟩, sg, stp, ct, dealt⟩, bk, ca, fr⟩ := x
  cases b <;> cases t <;> kernel_rfl!
theorem lp_2 (t : KT) (k ov : Int) (w : Str) (v : V) (L : List OC) (K : Fl → St → Prop) : aftB K v (x.sk ov (t.atB (.d (.int k)) (sv w)) L) =
    chk (smallI k) (match Txt.charAt x.pack k with
      | some c => chk (smallI (sN (mkS [c]) w)) (opB .Add v (.c L.length) (x.sk ov (t.atB (.d (.int k)) (sv w)) (L ++ [some [sv (nS (sN (mkS [c]) w))]])) (aftB3 K))
      | none => False) := by
  obtain ⟨⟨⟨b, ds, pl, nm, look, gap, size, low, pack, typed, reply, other, d0, d1, d2, d3, z⟩, sg, stp, ct, dealt⟩, bk, ca, fr⟩ := x
  cases b <;> cases t <;> kernel_rfl!
theorem lp_3 (t : KT) (k ov : Int) (w : Str) (v : V) (L : List OC) (K : Fl → St → Prop) : aftB3 K v (x.sk ov (t.atB (.d (.int k)) (sv w)) L) =
    cmpK .NotEq v (.c L.length) (x.sk ov (t.atB (.d (.int k)) (sv w)) (L ++ [some [sv "0", sv "-1", sv "1"]])) fun c => br c (retF K (x.sk ov (t.atB (.d (.int k)) (sv w)) (L ++ [some [sv "0", sv "-1", sv "1"]]))) (K .next (x.sk ov (t.atB (.d (.int k)) (sv w)) (L ++ [some [sv "0", sv "-1", sv "1"]]))) := by
  obtain ⟨⟨⟨b, ds, pl, nm, look, gap, size, low, pack, typed, reply, other, d0, d1, d2, d3, z⟩, sg, stp, ct, dealt⟩, bk, ca, fr⟩ := x
  cases b <;> cases t <;> kernel_rfl!
noncomputable def inT (v : V) (τ : St) (k : Fl → St → Prop) : Prop := wpSs G3 31 sL gB (τ.put "lower" v) k
theorem lp_4 (t : KT) (k ov : Int) (w : Str) (L : List OC) (K : Fl → St → Prop) : wpS G3 32 sL (stAt fB 2) (x.sk ov (t.atB (.d (.int k)) (sv w)) L) K =
    forL inT (w.cps.toList.map fun c => .d (.str (mkS [c]))) (x.sk ov (t.atB (.d (.int k)) (sv w)) L) K := by
  obtain ⟨⟨⟨b, ds, pl, nm, look, gap, size, low, pack, typed, reply, other, d0, d1, d2, d3, z⟩, sg, stp, ct, dealt⟩, bk, ca, fr⟩ := x
  cases b <;> cases t <;> kernel_rfl!
theorem lp_f : fB = [stAt fB 0, stAt fB 1, stAt fB 2] := by kernel_rfl!
theorem lp_g : gB = [stAt gB 0, stAt gB 1, stAt gB 2, stAt gB 3] := by kernel_rfl!
end
end Mine
end
section
open PySem PySem.W PyProof.Rows PySem.Calls
set_option Elab.async false
namespace Mine
inductive KU where
  | u0
  | u1 (l : V) (t : V)
noncomputable def KU.l : KU → V → V → List (Str × V)
  | .u0, k, w => [("k", k), ("below", w)]
  | .u1 l t, k, w => [("k", k), ("below", w), ("lower", l), ("told", t)]
noncomputable def KU.atL : KU → V → V → V → List (Str × V)
  | .u0, k, w, l => [("k", k), ("below", w), ("lower", l)]
  | .u1 _ t, k, w, l => [("k", k), ("below", w), ("lower", l), ("told", t)]
noncomputable def tC : PySem.Expr := valE (stAt gB 0)
section
variable (x : LV3)
theorem lq_l (u : KU) (k w l : V) (ov : Int) (L : List OC) : (x.sk ov (u.l k w) L).put "lower" l = x.sk ov (u.atL k w l) L := by
  obtain ⟨⟨⟨b, ds, pl, nm, look, gap, size, low, pack, typed, reply, other, d0, d1, d2, d3, z⟩, sg, stp, ct, dealt⟩, bk, ca, fr⟩ := x
  cases b <;> cases u <;> kernel_rfl!
theorem lq_0 (u : KU) (k ov : Int) (w : V) (lw : Str) (L : List OC) (K : Fl → St → Prop) : wpS G3 30 sL (stAt gB 0) (x.sk ov (u.atL (.d (.int k)) w (sv lw)) L) K =
    chk (smallI k) (match Txt.charAt x.pack k with
      | some c => chk (smallI (sN (mkS [c]) lw)) (chk (smallI k) (match Txt.charAt x.pack k with
        | some c' => chk (smallI (sN lw (mkS [c']))) (cmpK .NotEq (.c L.length) (.c (L ++ [some [sv (nS (sN (mkS [c]) lw)), sv (nS (sN lw (mkS [c'])))]]).length) (x.sk ov (u.atL (.d (.int k)) w (sv lw)) (L ++ [some [sv (nS (sN (mkS [c]) lw)), sv (nS (sN lw (mkS [c'])))]] ++ [some [sv "1", sv "-1"]])) fun q =>
          br q (retF K (x.sk ov (u.atL (.d (.int k)) w (sv lw)) (L ++ [some [sv (nS (sN (mkS [c]) lw)), sv (nS (sN lw (mkS [c'])))]] ++ [some [sv "1", sv "-1"]])))
            (K .next (x.sk ov (u.atL (.d (.int k)) w (sv lw)) (L ++ [some [sv (nS (sN (mkS [c]) lw)), sv (nS (sN lw (mkS [c'])))]] ++ [some [sv "1", sv "-1"]]))))
        | none => False))
      | none => False) := by
  obtain ⟨⟨⟨b, ds, pl, nm, look, gap, size, low, pack, typed, reply, other, d0, d1, d2, d3, z⟩, sg, stp, ct, dealt⟩, bk, ca, fr⟩ := x
  cases b <;> cases u <;> kernel_rfl!
theorem lq_1 (u : KU) (k ov : Int) (w : V) (lw : Str) (L : List OC) (K : Fl → St → Prop) : wpS G3 29 sL (stAt gB 1) (x.sk ov (u.atL (.d (.int k)) w (sv lw)) L) K =
    chk (smallI k) (match Txt.charAt x.pack k with
      | some c => cat dt3 (mkS [c]) fun a => cat a dt3 fun a => cat a lw fun a => cat a dt3 fun a => eSpec [.str a, .str x.dealt] fun d => K .next (x.sk ov ((KU.u1 (sv lw) (.d d)).l (.d (.int k)) w) L)
      | none => False) := by
  obtain ⟨⟨⟨b, ds, pl, nm, look, gap, size, low, pack, typed, reply, other, d0, d1, d2, d3, z⟩, sg, stp, ct, dealt⟩, bk, ca, fr⟩ := x
  cases b <;> cases u <;> kernel_rfl!
theorem lq_2 (k ov : Int) (w : V) (lw : Str) (tb : Bool) (L : List OC) (K : Fl → St → Prop) : wpS G3 28 sL (stAt gB 2) (x.sk ov ((KU.u1 (sv lw) (.d (.bool tb))).l (.d (.int k)) w) L) K =
    chk (smallI k) (match Txt.charAt x.pack k with
      | some c => (match Builtin.Str.occurrences x.dealt (mkS [c]) 0 x.dealt.length 1 with
        | i :: _ => (match Builtin.Str.occurrences x.dealt lw 0 x.dealt.length 1 with
          | j :: _ => br (!(tb == decide ((i : Int) < (j : Int)))) (retF K (x.sk ov ((KU.u1 (sv lw) (.d (.bool tb))).l (.d (.int k)) w) L)) (K .next (x.sk ov ((KU.u1 (sv lw) (.d (.bool tb))).l (.d (.int k)) w) L))
          | [] => False)
        | [] => False)
      | none => False) := by
  obtain ⟨⟨⟨b, ds, pl, nm, look, gap, size, low, pack, typed, reply, other, d0, d1, d2, d3, z⟩, sg, stp, ct, dealt⟩, bk, ca, fr⟩ := x
  cases b <;> kernel_rfl!
theorem lq_3 (k ov : Int) (w l : V) (tb : Bool) (L : List OC) (K : Fl → St → Prop) : wpS G3 27 sL (stAt gB 3) (x.sk ov ((KU.u1 l (.d (.bool tb))).l (.d (.int k)) w) L) K =
    K .next (x.sk (ov + b2i tb) ((KU.u1 l (.d (.bool tb))).l (.d (.int k)) w) L) := by
  obtain ⟨⟨⟨b, ds, pl, nm, look, gap, size, low, pack, typed, reply, other, d0, d1, d2, d3, z⟩, sg, stp, ct, dealt⟩, bk, ca, fr⟩ := x
  cases b <;> kernel_rfl!
theorem law_29 (t : KT) (ov : Int) (L : List OC) (K : Fl → St → Prop) : wpS G3 35 sL (stAt bL 24) (x.sk ov t.l L) K =
    oSpec [.int x.stp, .int x.size, .str x.sg] fun d => cmpK .Eq (.d (.int (ov.fmod 2))) (.d d) (x.sk ov t.l L) fun c => K (.ret (.d (.bool c))) (x.sk ov t.l L) := by
  obtain ⟨⟨⟨b, ds, pl, nm, look, gap, size, low, pack, typed, reply, other, d0, d1, d2, d3, z⟩, sg, stp, ct, dealt⟩, bk, ca, fr⟩ := x
  cases b <;> cases t <;> kernel_rfl!
end
end Mine
end
section
open PySem PySem.W PyProof.Rows PySem.Calls
set_option Elab.async false
set_option linter.unusedVariables false
namespace Mine
/-! steps of the top's run, by continuation -/
section
variable {p : Program} {w : World} {n₀ : Nat} {ann : Option Value} {b : List Stmt} {env : Env} {q : Pos}
structure Tp where
  p : Program
  w : World
  n₀ : Nat
  ann : Option Value
  b : List Stmt
  env : Env
  q : Pos
noncomputable def Tp.thr (X : Tp) (cur : Sem Fin) (pos : Pos) : Thread := ⟨cur, .body X.b X.env, pos, [topFrame X.q]⟩
noncomputable def Tp.run (X : Tp) (R : Nat) (s : Shared) (t : Thread) : Option Shared := topRun treeTable X.p X.w X.n₀ X.ann R s t
noncomputable def Rn (X : Tp) {α : Type} (N : Nat) (m : Sem α) (s : Shared) (pos : Pos) (a : α) (s' : Shared) (pos' : Pos) : Prop :=
  ∀ (K : α → Sem Fin) (H : Value → Sem Fin) (gd : Bool → Bool) (lv : List Value → List Value) (R : Nat) (r : Shared), X.run R s' (X.thr (K a) pos') = some r → X.run (R + N) s (X.thr (m.wrap K H gd lv) pos) = some r
variable {X : Tp} {α β : Type} {s s' s'' : Shared} {pos pos' pos'' : Pos}
theorem Rn.pure {a : α} : Rn X 0 (Pure.pure a) s pos a s pos := fun K H gd lv R r h => h
theorem Rn.pure' {a : α} : Rn X 0 (Sem.pure a) s pos a s pos := fun K H gd lv R r h => h
theorem Rn.bind {N M : Nat} {m : Sem α} {f : α → Sem β} {a : α} {c : β} (h1 : Rn X N m s pos a s' pos') (h2 : Rn X M (f a) s' pos' c s'' pos'') : Rn X (M + N) (m >>= f) s pos c s'' pos'' := fun K H gd lv R r h => by
  rw [Sem.bind_eq_wrap', Sem.wrap_wrap, ← Nat.add_assoc]
  exact h1 _ _ _ _ _ r (h2 K H gd lv R r h)
theorem Rn.keep {N : Nat} {vs : List Value} {m : Sem α} {a : α} (h : Rn X N m s pos a s' pos') : Rn X N (holding vs m) s pos a s' pos' := by
  unfold holding
  split
  · exact h
  · intro K H gd lv R r hr
    rw [Sem.keep_eq_wrap, Sem.wrap_wrap]
    exact h _ _ _ _ R r hr
theorem Rn.onRaise {N : Nat} {m : Sem α} {f : Value → Sem Unit} {a : α} (h : Rn X N m s pos a s' pos') : Rn X N (m.onRaise f) s pos a s' pos' := fun K H gd lv R r hr => by
  rw [Sem.onRaise_eq_wrap, Sem.wrap_wrap]
  exact h _ _ _ _ R r hr
theorem run_step {R : Nat} {s s' : Shared} {t t' : Thread} (h1 : through t = false) (h2 : stepOk X.n₀ X.ann t = true) (h3 : step (denote treeTable) X.p X.w s t = .go s' t') : X.run (R + 1) s t = X.run R s' t' := by
  unfold Tp.run
  rw [topRun, h1, h2, h3]
theorem Rn.load {a : Addr} {part : Option Value} {o : Obj} (h : s.heap.get? a = some o) : Rn X 1 (loadPart a part) s pos o s pos := fun K H gd lv R r hr => by
  rw [run_step (s' := s) (t' := X.thr (K o) pos) rfl rfl]
  · exact hr
  · obtain ⟨heap, gens, drawn, toks, os⟩ := s
    show step _ _ _ _ ⟨.load a part fun x => (Sem.pure x : Sem Obj).wrap K H gd lv, _, _, _⟩ = _
    simp only [step]
    rw [show heap.get? a = some o from h]
    rfl
theorem Rn.rule {t : String} : Rn X 1 (PySem.rule t) s pos () s pos := fun K H gd lv R r hr => by
  rw [run_step (s' := s) (t' := X.thr (K ()) pos) rfl rfl]
  · exact hr
  · rfl
theorem Rn.at {p' : Pos} : Rn X 1 (standAt p') s pos () s p' := fun K H gd lv R r hr => by
  rw [run_step (s' := s) (t' := X.thr (K ()) p') rfl rfl]
  · exact hr
  · rfl
theorem Rn.fresh : Rn X 1 PySem.fresh s pos s.toks { s with toks := s.toks + 1 } pos := fun K H gd lv R r hr => by
  rw [run_step (s' := { s with toks := s.toks + 1 }) (t' := X.thr (K s.toks) pos) rfl rfl]
  · exact hr
  · rfl
theorem Rn.alloc {o : Obj} : Rn X 1 (PySem.alloc o) s pos s.heap.objs.size { s with heap := s.heap.push o } pos := fun K H gd lv R r hr => by
  rw [run_step (s' := { s with heap := s.heap.push o }) (t' := X.thr (K s.heap.objs.size) pos) rfl rfl]
  · exact hr
  · rfl
theorem Rn.update {a : Addr} {part : Option Value} {f : Obj → Obj} {o : Obj} (h : s.heap.get? a = some o) (ha : X.n₀ ≤ a) : Rn X 1 (updatePart a part f) s pos () { s with heap := s.heap.update a f } pos := fun K H gd lv R r hr => by
  rw [run_step (s' := { s with heap := s.heap.update a f }) (t' := X.thr (K ()) pos) rfl ?_]
  · exact hr
  · obtain ⟨heap, gens, drawn, toks, os⟩ := s
    show step _ _ _ _ ⟨.update a part f fun x => (Sem.pure x : Sem Unit).wrap K H gd lv, _, _, _⟩ = _
    simp only [step]
    rw [show heap.get? a = some o from h]
    rfl
  · unfold stepOk
    rw [Bool.and_eq_true]
    refine ⟨rfl, ?_⟩
    show (Nat.ble X.n₀ a || a == mainNs || a == cStatics || X.ann == some (.ref a)) = true
    rw [Nat.ble_eq_true_of_le ha]; rfl

/-! the heap as a list -/
noncomputable def hp (l : List Obj) (life : Life) : Heap := ⟨l.toArray, life⟩
noncomputable def dO (l : List DictEntry) (n : Nat) : Obj := ⟨.type "dict", none, .dict l.toArray n, #[]⟩
theorem hp_get {l : List Obj} {life : Life} {a : Nat} {es : List DictEntry} {n : Nat} (h : l[a]? = some (dO es n)) : (hp l life).get? a = some (dO es n) := by
  unfold hp Heap.get?
  rw [List.getElem?_toArray, h]
  rfl
theorem hp_push {l : List Obj} {life : Life} {o : Obj} : (hp l life).push o = hp (l ++ [o]) life := by
  show Heap.mk (l.toArray.push o) life = Heap.mk (l ++ [o]).toArray life
  rw [List.push_toArray]
theorem hp_upd {l : List Obj} {life : Life} {a : Nat} {es : List DictEntry} {n : Nat} {e : DictEntry} (h : l[a]? = some (dO es n)) :
    (hp l life).update a (Obj.mapDictKeys (·.push e)) = hp (l.set a (dO (es ++ [e]) (n + 1))) life := by
  show Heap.mk (l.toArray.modify a (Obj.mapDictKeys (·.push e))) life = Heap.mk (l.set a (dO (es ++ [e]) (n + 1))).toArray life
  refine congrArg (Heap.mk · life) ?_
  apply Array.ext_getElem?
  intro i
  rw [Array.getElem?_modify, List.getElem?_toArray, List.getElem?_toArray, List.getElem?_set]
  by_cases c : a = i
  · subst c
    have lt : a < l.length := by
      rcases Nat.lt_or_ge a l.length with q | q
      · exact q
      · rw [List.getElem?_eq_none q] at h; cases h
    rw [if_pos rfl, if_pos rfl, if_pos lt, h]
    show some (dO es n |>.mapDictKeys (·.push e)) = _
    unfold dO Obj.mapDictKeys
    simp
  · rw [if_neg c, if_neg c]

/-! dict writes -/
theorem places_none {es : List DictEntry} {h : Int} (hn : ∀ e ∈ es, e.hash ≠ h) : placesWithHash es.toArray.size (fun i => es.toArray[i]?.map (·.hash)) h = [] := by
  unfold placesWithHash
  rw [List.filter_eq_nil_iff]
  intro i hi
  rw [List.mem_range] at hi
  have hi' : i < es.length := by simpa using hi
  show ¬((Option.map (fun (x : DictEntry) => x.hash) es.toArray[i]?) == some h) = true
  rw [List.getElem?_toArray, List.getElem?_eq_getElem hi']
  have := hn es[i] (List.getElem_mem hi')
  simpa using this
variable {L : List Obj} {life : Life} {gens : Array GenState} {dr : Drawn} {tk : Nat} {os : OsState} {d : Nat} {es : List DictEntry} {n : Nat} {k : Int} {t : Tok}
noncomputable abbrev sh (L : List Obj) (life : Life) (gens : Array GenState) (dr : Drawn) (tk : Nat) (os : OsState) : Shared := ⟨hp L life, gens, dr, tk, os⟩
theorem find_none {h : Int} (hd : L[d]? = some (dO es n)) (hn : ∀ e ∈ es, e.hash ≠ h) : Rn X 1 (dictFind d (.int k t) h) (sh L life gens dr tk os) pos none (sh L life gens dr tk os) pos := by
  unfold dictFind
  refine Rn.keep ?_
  refine Rn.bind (N := 1) (M := 0) (a := es.toArray) (s' := sh L life gens dr tk os) (pos' := pos) ?_ ?_
  · unfold dictEntries
    exact Rn.bind (N := 1) (M := 0) (Rn.load (hp_get hd)) Rn.pure
  · dsimp only
    rw [places_none hn]
    exact Rn.pure
theorem upd_keys {part : Option Value} {e : DictEntry} (hd : L[d]? = some (dO es n)) (hz : es.length < 1000000) (hm : X.n₀ ≤ d) :
    Rn X 3 (updateDictKeys d (·.push e) part) (sh L life gens dr tk os) pos () (sh (L.set d (dO (es ++ [e]) (n + 1))) life gens dr tk os) pos := by
  unfold updateDictKeys
  refine Rn.bind (N := 1) (M := 2) (Rn.load (hp_get hd)) ?_
  show Rn X 2 (updatePart d part _ >>= fun _ => lookBehind d part) _ _ _ _ _
  have hd' : (L.set d (dO (es ++ [e]) (n + 1)))[d]? = some (dO (es ++ [e]) (n + 1)) := by
    have lt : d < L.length := by
      rcases Nat.lt_or_ge d L.length with q | q
      · exact q
      · rw [List.getElem?_eq_none q] at hd; cases hd
    rw [List.getElem?_set_self lt]
  refine Rn.bind (N := 1) (M := 1) (a := ()) (s' := sh (L.set d (dO (es ++ [e]) (n + 1))) life gens dr tk os) (pos' := pos) ?_ ?_
  · have := Rn.update (X := X) (s := sh L life gens dr tk os) (pos := pos) (part := part) (f := Obj.mapDictKeys (·.push e)) (hp_get hd) hm
    have e1 : (sh L life gens dr tk os).heap.update d (Obj.mapDictKeys (·.push e)) = hp (L.set d (dO (es ++ [e]) (n + 1))) life := hp_upd hd
    rw [e1] at this
    exact this
  · unfold lookBehind
    refine Rn.bind (N := 1) (M := 0) (Rn.load (hp_get hd')) ?_
    have : (dO (es ++ [e]) (n + 1)).data.pastItsLine = none := by
      unfold dO Data.pastItsLine
      have : ¬ ((es ++ [e]).toArray.size > sizeLine + 1) := by
        have : sizeLine = 16777216 := by decide
        simp; omega
      simp only [this, if_false]
    rw [this]
    exact Rn.pure
theorem set_hashed {h : Int} {v : Value} (hd : L[d]? = some (dO es n)) (hn : ∀ e ∈ es, e.hash ≠ h) (hz : es.length < 1000000) (hm : X.n₀ ≤ d) :
    Rn X 5 (dictSetHashed d (.int k t) h v) (sh L life gens dr tk os) pos () (sh (L.set d (dO (es ++ [⟨h, .int k t, v⟩]) (n + 1))) life gens dr tk os) pos := by
  unfold dictSetHashed
  refine Rn.keep (Rn.bind (N := 1) (M := 4) (find_none hd hn) ?_)
  exact Rn.bind (N := 1) (M := 3) Rn.rule (upd_keys hd hz hm)
theorem put_none {h : Int} {v : Value} (hd : L[d]? = some (dO es n)) (hn : ∀ e ∈ es, e.hash ≠ h) (hz : es.length < 1000000) (hm : X.n₀ ≤ d) :
    Rn X 4 (dictPut d h (.int k t) v) (sh L life gens dr tk os) pos () (sh (L.set d (dO (es ++ [⟨h, .int k t, v⟩]) (n + 1))) life gens dr tk os) pos := by
  unfold dictPut
  exact Rn.bind (N := 1) (M := 3) (find_none hd hn) (upd_keys hd hz hm)
/-! the hash of an int -/
theorem reduced_small (h0 : 0 ≤ k) (h1 : k < 1000000000) : pyHashByItsType.reduced k = Pure.pure k := by
  unfold pyHashByItsType.reduced
  have e : (decide (-(2 ^ 63 : Int) ≤ k) && decide (k < 2 ^ 63)) = true := by
    rw [Bool.and_eq_true, decide_eq_true_eq, decide_eq_true_eq]; omega
  have e2 : (k == -1) = false := by rw [beq_eq_false_iff_ne]; omega
  simp only [e, e2, if_true]
  rfl
noncomputable def iHash (k : Int) : Int :=
  let h : Int := k.natAbs % (2 ^ 61 - 1 : Nat)
  let h := if k < 0 then -h else h
  if h == -1 then -2 else h
theorem iHash_small (h0 : 0 ≤ k) (h1 : k < 1000000000) : iHash k = k := by
  unfold iHash
  obtain ⟨m, rfl⟩ := Int.eq_ofNat_of_zero_le h0
  have e : ((m : Int).natAbs % (2 ^ 61 - 1 : Nat) : Nat) = m := by
    rw [Int.natAbs_natCast, Nat.mod_eq_of_lt]; omega
  have e' : (((m : Int).natAbs : Int) % ((2 ^ 61 - 1 : Nat) : Int)) = (m : Int) := by
    rw [Int.natAbs_natCast, Int.emod_eq_of_lt] <;> omega
  have e1 : ¬ ((m : Int) < 0) := by omega
  simp only [e1, if_false]
  rw [e']
  have e2 : ((m : Int) == -1) = false := by rw [beq_eq_false_iff_ne]; omega
  rw [e2]; rfl
noncomputable def HashRow (w : World) : Prop := ∀ (p : Program) (n₀ : Nat) (ann : Option Value) (b : List Stmt) (env : Env) (q pos : Pos) (h : Heap) (gens : Array GenState) (dr : Drawn) (tk : Nat) (os : OsState) (k : Int) (t : Tok) (K : Int → Sem Fin) (H : Value → Sem Fin) (gd : Bool → Bool) (lv : List Value → List Value) (R : Nat),
  topRun treeTable p w n₀ ann (R + 5) ⟨h, gens, dr, tk, os⟩ ⟨(pyHash (.int k t)).wrap K H gd lv, .body b env, pos, [topFrame q]⟩ = topRun treeTable p w n₀ ann R ⟨h, gens, dr, tk + 1, os⟩ ⟨(pyHashByItsType.reduced (iHash k)).wrap K H gd lv, .body b env, pos, [topFrame q]⟩
theorem hash_f (w : World) : HashRow (w.withFollow "special-get-raises" false) := by
  intro p n₀ ann b env q pos h gens dr tk os k t K H gd lv R
  rw [PySem.W.Fast.te14082659384304107361, PySem.W.Fast.te14364793385576792824]
  kernel_rfl!
theorem hash_t (w : World) : HashRow (w.withFollow "special-get-raises" true) := by
  intro p n₀ ann b env q pos h gens dr tk os k t K H gd lv R
  rw [PySem.W.Fast.te14082659384304107361, PySem.W.Fast.te14364793385576792824]
  kernel_rfl!
theorem hash_row (w : World) : HashRow w := byRow2 "special-get-raises" hash_f hash_t w
theorem Rn.hash (h0 : 0 ≤ k) (h1 : k < 1000000000) : Rn X 5 (pyHash (.int k t)) s pos k { s with toks := s.toks + 1 } pos := fun K H gd lv R r hr => by
  obtain ⟨heap, gens, drawn, toks, os⟩ := s
  unfold Tp.run Tp.thr
  rw [hash_row X.w, iHash_small h0 h1, reduced_small h0 h1]
  exact hr
end
end Mine
end
section
open PySem PySem.W PyProof.Rows PySem.Calls
set_option Elab.async false
set_option linter.unusedVariables false
namespace Mine
section
variable {X : Tp} {α β : Type} {s s' s'' : Shared} {pos pos' pos'' : Pos} {L : List Obj} {life : Life} {gens : Array GenState} {dr : Drawn} {tk : Nat} {os : OsState} {d : Nat} {es : List DictEntry} {n : Nat} {k : Int} {t : Tok}
theorem Rn.cast {N M : Nat} {m : Sem α} {a : α} (e : N = M) (h : Rn X N m s pos a s' pos') : Rn X M m s pos a s' pos' := e ▸ h
theorem dict_set {v : Value} (h0 : 0 ≤ k) (h1 : k < 1000000000) (hd : L[d]? = some (dO es n)) (hn : ∀ e ∈ es, e.hash ≠ k) (hz : es.length < 1000000) (hm : X.n₀ ≤ d) :
    Rn X 10 (dictSet d (.int k t) v) (sh L life gens dr tk os) pos () (sh (L.set d (dO (es ++ [⟨k, .int k t, v⟩]) (n + 1))) life gens dr (tk + 1) os) pos := by
  unfold dictSet
  refine Rn.keep (Rn.bind (N := 5) (M := 5) (a := k) (s' := sh L life gens dr (tk + 1) os) (pos' := pos) (Rn.hash h0 h1) ?_)
  exact set_hashed hd hn hz hm
theorem mk_int : Rn X 1 (mkInt k) (sh L life gens dr tk os) pos (.int k tk) (sh L life gens dr (tk + 1) os) pos := by
  unfold mkInt
  exact Rn.bind (N := 1) (M := 0) (s' := sh L life gens dr (tk + 1) os) (pos' := pos) Rn.fresh Rn.pure
noncomputable def valT (pos : Pos) (x : Str) : Sem Value := do let y ← mkText x; standAt pos; pure y
theorem val_t {x : Str} : Rn X 2 (valT pos x) (sh L life gens dr tk os) pos (.str x tk) (sh L life gens dr (tk + 1) os) pos := by
  unfold valT mkText
  refine Rn.bind (N := 1) (M := 1) (a := .str x tk) (s' := sh L life gens dr (tk + 1) os) (pos' := pos) ?_ ?_
  · exact Rn.bind (N := 1) (M := 0) (s' := sh L life gens dr (tk + 1) os) (pos' := pos) Rn.fresh Rn.pure
  · exact Rn.bind (N := 1) (M := 0) Rn.at Rn.pure
noncomputable def prs (pos : Pos) (l : List (Int × Str)) : List (Sem Value × Sem Value) := l.map fun e => (mkInt e.1, valT pos e.2)
noncomputable def ent3 : Nat → List (Int × Str) → List DictEntry
  | _, [] => []
  | tk, (k, x) :: r => ⟨k, .int k tk, .str x (tk + 1)⟩ :: ent3 (tk + 3) r
noncomputable def ent2 : Nat → List (Int × Str) → List DictEntry
  | _, [] => []
  | tk, (k, x) :: r => ⟨k, .int k tk, .str x (tk + 1)⟩ :: ent2 (tk + 2) r
noncomputable def ascB : Int → List (Int × Str) → Bool
  | _, [] => true
  | lo, e :: r => decide (lo < e.1) && decide (e.1 < 1000000000) && ascB e.1 r
theorem lt_of_some {l : List α} {i : Nat} {x : α} (h : l[i]? = some x) : i < l.length := by
  rcases Nat.lt_or_ge i l.length with q | q
  · exact q
  · rw [List.getElem?_eq_none q] at h; cases h
theorem long_loop : ∀ (l : List (Int × Str)) (tk : Nat) (es : List DictEntry) (n : Nat) (lo : Int) (L : List Obj), -1 ≤ lo → (∀ e ∈ es, e.hash ≤ lo) → ascB lo l = true → L[d]? = some (dO es n) → es.length + l.length < 1000000 → X.n₀ ≤ d →
    Rn X (13 * l.length) (forIn (prs pos l) PUnit.unit (fun x r => do
        let kv ← x.1
        let vv ← holding [kv] x.2
        holding [kv, vv] (dictSet d kv vv)
        pure (ForInStep.yield PUnit.unit))) (sh L life gens dr tk os) pos PUnit.unit (sh (L.set d (dO (es ++ ent3 tk l) (n + l.length))) life gens dr (tk + 3 * l.length) os) pos
  | [], tk, es, n, lo, L, _, _, _, hL, _, _ => by
    have : L.set d (dO (es ++ ent3 tk []) (n + 0)) = L := by
      rw [show es ++ ent3 tk [] = es by simp [ent3], Nat.add_zero]
      apply List.ext_getElem?
      intro j
      rw [List.getElem?_set]
      by_cases c : d = j
      · subst c; rw [if_pos rfl, if_pos (lt_of_some hL), hL]
      · rw [if_neg c]
    show Rn X 0 _ _ _ _ (sh (L.set d (dO (es ++ ent3 tk []) (n + 0))) life gens dr (tk + 0) os) _
    rw [this]
    exact Rn.pure
  | (k, x) :: r, tk, es, n, lo, L, hlo, hes, ha, hL, hz, hm => by
    unfold ascB at ha
    simp only [Bool.and_eq_true, decide_eq_true_eq] at ha
    obtain ⟨⟨a1, a2⟩, a3⟩ := ha
    have hd := lt_of_some hL
    rw [show prs pos ((k, x) :: r) = (mkInt k, valT pos x) :: prs pos r from rfl, List.forIn_cons]
    refine Rn.cast (N := 13 * r.length + 13) (by simp [Nat.mul_add]) ?_
    refine Rn.bind (N := 13) (M := 13 * r.length) (a := ForInStep.yield PUnit.unit) (s' := sh (L.set d (dO (es ++ [⟨k, .int k tk, .str x (tk + 1)⟩]) (n + 1))) life gens dr (tk + 3) os) (pos' := pos) ?_ ?_
    · refine Rn.bind (N := 1) (M := 12) mk_int ?_
      refine Rn.bind (N := 2) (M := 10) (Rn.keep val_t) ?_
      refine Rn.bind (N := 10) (M := 0) (Rn.keep (dict_set (by omega) a2 hL (fun e he => ?_) (by simp at hz; omega) hm)) Rn.pure
      have := hes e he
      omega
    · have ih := long_loop r (tk + 3) (es ++ [⟨k, .int k tk, .str x (tk + 1)⟩]) (n + 1) k (L.set d (dO (es ++ [⟨k, .int k tk, .str x (tk + 1)⟩]) (n + 1))) (by omega) (fun e he => by
        rcases List.mem_append.mp he with q | q
        · have := hes e q; omega
        · rw [List.mem_singleton] at q; subst q; exact Int.le_refl _) a3 (by rw [List.getElem?_set_self hd]) (by simp at hz ⊢; omega) hm
      rw [List.set_set, List.append_assoc] at ih
      have e1 : n + 1 + r.length = n + ((k, x) :: r).length := by simp; omega
      have e2 : tk + 3 + 3 * r.length = tk + 3 * ((k, x) :: r).length := by simp; omega
      rw [e1, e2] at ih
      exact ih
theorem sub_long {l : List (Int × Str)} (hl : 15 < l.length) (hz : l.length < 1000000) (ha : ascB (-1) l = true) (hm : X.n₀ ≤ L.length) :
    Rn X (13 * l.length + 2) (subDict (prs pos l)) (sh L life gens dr tk os) pos L.length (sh (L ++ [dO (ent3 tk l) l.length]) life gens dr (tk + 3 * l.length) os) pos := by
  unfold subDict
  have hsz : (sh L life gens dr tk os).heap.objs.size = L.length := by simp [hp]
  refine Rn.cast (N := (13 * l.length + 1) + 1) (by omega) ?_
  refine Rn.bind (N := 1) (M := 13 * l.length + 1) (a := L.length) (s' := sh (L ++ [dO [] 0]) life gens dr tk os) (pos' := pos) ?_ ?_
  · have := Rn.alloc (X := X) (s := sh L life gens dr tk os) (pos := pos) (o := { cls := .type "dict", data := .dict #[] })
    rw [hsz] at this
    rw [show (sh L life gens dr tk os).heap.push { cls := .type "dict", data := .dict #[] } = hp (L ++ [dO [] 0]) life from hp_push] at this
    exact this
  · have hlen : (prs pos l).length = l.length := by unfold prs; rw [List.length_map]
    have hx : ¬ ((prs pos l).length ≤ 15) := by rw [hlen]; omega
    simp only [hx, if_false]
    refine Rn.cast (N := 0 + (13 * l.length + 1)) (by omega) ?_
    refine Rn.bind (N := 13 * l.length + 1) (M := 0) (a := ()) (s' := sh (L ++ [dO (ent3 tk l) l.length]) life gens dr (tk + 3 * l.length) os) (pos' := pos) ?_ Rn.pure
    refine Rn.keep ?_
    refine Rn.bind (N := 1) (M := 13 * l.length) Rn.rule ?_
    have := long_loop (X := X) (pos := pos) (life := life) (gens := gens) (dr := dr) (os := os) (d := L.length) l tk [] 0 (-1) (L ++ [dO [] 0]) (by omega) (fun e he => by cases he) ha (by simp) (by simpa using hz) hm
    rw [List.nil_append, Nat.zero_add] at this
    rw [show (L ++ [dO [] 0]).set L.length (dO (ent3 tk l) l.length) = L ++ [dO (ent3 tk l) l.length] by simp] at this
    refine Rn.cast (N := 0 + 13 * l.length) (by omega) ?_
    exact Rn.bind (M := 0) (N := 13 * l.length) this Rn.pure
end
end Mine
end
section
open PySem PySem.W PyProof.Rows PySem.Calls
set_option Elab.async false
set_option linter.unusedVariables false
namespace Mine
section
variable {X : Tp} {α β : Type} {s s' s'' : Shared} {pos pos' pos'' : Pos} {L : List Obj} {life : Life} {gens : Array GenState} {dr : Drawn} {tk : Nat} {os : OsState} {d : Nat} {es : List DictEntry} {n : Nat} {k : Int} {t : Tok}
noncomputable def kvs (tk : Nat) : List (Int × Str) → List (Value × Value)
  | [] => []
  | (k, x) :: r => (.int k tk, .str x (tk + 1)) :: kvs (tk + 2) r
theorem eval_pairs : ∀ (l : List (Int × Str)) (tk : Nat), Rn X (3 * l.length) (evalPairs (prs pos l)) (sh L life gens dr tk os) pos (kvs tk l) (sh L life gens dr (tk + 2 * l.length) os) pos
  | [], tk => Rn.pure
  | (k, x) :: r, tk => by
    rw [show prs pos ((k, x) :: r) = (mkInt k, valT pos x) :: prs pos r from rfl]
    unfold evalPairs
    refine Rn.cast (N := (3 * r.length + 2) + 1) (by simp; omega) ?_
    refine Rn.bind (N := 1) (M := 3 * r.length + 2) mk_int ?_
    refine Rn.bind (N := 2) (M := 3 * r.length) (Rn.keep val_t) ?_
    have ih := eval_pairs r (tk + 2)
    refine Rn.cast (N := 0 + 3 * r.length) (by omega) ?_
    have e : tk + 2 + 2 * r.length = tk + 2 * ((k, x) :: r).length := by simp; omega
    rw [e] at ih
    exact Rn.bind (M := 0) (N := 3 * r.length) (Rn.keep ih) Rn.pure
theorem short_loop : ∀ (l : List (Int × Str)) (tk tv : Nat) (es : List DictEntry) (n : Nat) (lo : Int) (L : List Obj), -1 ≤ lo → (∀ e ∈ es, e.hash ≤ lo) → ascB lo l = true → L[d]? = some (dO es n) → es.length + l.length < 1000000 → X.n₀ ≤ d →
    Rn X (10 * l.length) (forIn (kvs tv l) PUnit.unit (fun x r => do
        dictSet d x.1 x.2
        pure (ForInStep.yield PUnit.unit))) (sh L life gens dr tk os) pos PUnit.unit (sh (L.set d (dO (es ++ ent2 tv l) (n + l.length))) life gens dr (tk + l.length) os) pos
  | [], tk, tv, es, n, lo, L, _, _, _, hL, _, _ => by
    have : L.set d (dO (es ++ ent2 tv []) (n + 0)) = L := by
      rw [show es ++ ent2 tv [] = es by simp [ent2], Nat.add_zero]
      apply List.ext_getElem?
      intro j
      rw [List.getElem?_set]
      by_cases c : d = j
      · subst c; rw [if_pos rfl, if_pos (lt_of_some hL), hL]
      · rw [if_neg c]
    show Rn X 0 _ _ _ _ (sh (L.set d (dO (es ++ ent2 tv []) (n + 0))) life gens dr (tk + 0) os) _
    rw [this]
    exact Rn.pure
  | (k, x) :: r, tk, tv, es, n, lo, L, hlo, hes, ha, hL, hz, hm => by
    unfold ascB at ha
    simp only [Bool.and_eq_true, decide_eq_true_eq] at ha
    obtain ⟨⟨a1, a2⟩, a3⟩ := ha
    have hd := lt_of_some hL
    rw [show kvs tv ((k, x) :: r) = (.int k tv, .str x (tv + 1)) :: kvs (tv + 2) r from rfl, List.forIn_cons]
    refine Rn.cast (N := 10 * r.length + 10) (by simp [Nat.mul_add]) ?_
    refine Rn.bind (N := 10) (M := 10 * r.length) (a := ForInStep.yield PUnit.unit) (s' := sh (L.set d (dO (es ++ [⟨k, .int k tv, .str x (tv + 1)⟩]) (n + 1))) life gens dr (tk + 1) os) (pos' := pos) ?_ ?_
    · refine Rn.bind (N := 10) (M := 0) (dict_set (by omega) a2 hL (fun e he => ?_) (by simp at hz; omega) hm) Rn.pure
      have := hes e he
      omega
    · have ih := short_loop r (tk + 1) (tv + 2) (es ++ [⟨k, .int k tv, .str x (tv + 1)⟩]) (n + 1) k (L.set d (dO (es ++ [⟨k, .int k tv, .str x (tv + 1)⟩]) (n + 1))) (by omega) (fun e he => by
        rcases List.mem_append.mp he with q | q
        · have := hes e q; omega
        · rw [List.mem_singleton] at q; subst q; exact Int.le_refl _) a3 (by rw [List.getElem?_set_self hd]) (by simp at hz ⊢; omega) hm
      rw [List.set_set, List.append_assoc] at ih
      have e1 : n + 1 + r.length = n + ((k, x) :: r).length := by simp; omega
      have e2 : tk + 1 + r.length = tk + ((k, x) :: r).length := by simp; omega
      rw [e1, e2] at ih
      exact ih
theorem sub_short {l : List (Int × Str)} (hl : l.length ≤ 15) (ha : ascB (-1) l = true) (hm : X.n₀ ≤ L.length) :
    Rn X (13 * l.length + 1) (subDict (prs pos l)) (sh L life gens dr tk os) pos L.length (sh (L ++ [dO (ent2 tk l) l.length]) life gens dr (tk + 3 * l.length) os) pos := by
  unfold subDict
  have hsz : (sh L life gens dr tk os).heap.objs.size = L.length := by simp [hp]
  refine Rn.bind (N := 1) (M := 13 * l.length) (a := L.length) (s' := sh (L ++ [dO [] 0]) life gens dr tk os) (pos' := pos) ?_ ?_
  · have := Rn.alloc (X := X) (s := sh L life gens dr tk os) (pos := pos) (o := { cls := .type "dict", data := .dict #[] })
    rw [hsz] at this
    rw [show (sh L life gens dr tk os).heap.push { cls := .type "dict", data := .dict #[] } = hp (L ++ [dO [] 0]) life from hp_push] at this
    exact this
  · have hlen : (prs pos l).length = l.length := by unfold prs; rw [List.length_map]
    have hx : (prs pos l).length ≤ 15 := by rw [hlen]; omega
    simp only [hx, if_true]
    refine Rn.cast (N := 0 + 13 * l.length) (by omega) ?_
    refine Rn.bind (N := 13 * l.length) (M := 0) (a := ()) (s' := sh (L ++ [dO (ent2 tk l) l.length]) life gens dr (tk + 3 * l.length) os) (pos' := pos) ?_ Rn.pure
    refine Rn.keep ?_
    refine Rn.cast (N := 10 * l.length + 3 * l.length) (by omega) ?_
    refine Rn.bind (N := 3 * l.length) (M := 10 * l.length) (eval_pairs l tk) ?_
    refine Rn.keep ?_
    have := short_loop (X := X) (pos := pos) (life := life) (gens := gens) (dr := dr) (os := os) (d := L.length) l (tk + 2 * l.length) tk [] 0 (-1) (L ++ [dO [] 0]) (by omega) (fun e he => by cases he) ha (by simp) (by simp; omega) hm
    rw [List.nil_append, Nat.zero_add] at this
    rw [show (L ++ [dO [] 0]).set L.length (dO (ent2 tk l) l.length) = L ++ [dO (ent2 tk l) l.length] by simp] at this
    rw [show tk + 2 * l.length + l.length = tk + 3 * l.length by omega] at this
    refine Rn.cast (N := 0 + 10 * l.length) (by omega) ?_
    exact Rn.bind (M := 0) (N := 10 * l.length) this Rn.pure
/-! merging -/
theorem dict_sub : isSubtype (.type "dict") (.type "dict") = pure true := by rw [isSubtype_type]; kernel_rfl
theorem dict_iter : typeLookup (.type "dict") "__iter__" = pure (some (.builtin "dict.__iter__")) := by rw [typeLookup_type, builtinLookup_eq_fast]; kernel_rfl
theorem merge_loop {a epoch : Nat} {fs : List DictEntry} {m : Nat} (hne : d ≠ a) (hm : X.n₀ ≤ d) (hfm : m = epoch) : ∀ (is : List Nat) (done : Nat) (es : List DictEntry) (n : Nat) (L : List Obj), is = (List.range' done (fs.length - done)) → done ≤ fs.length →
    L[d]? = some (dO es n) → L[a]? = some (dO fs m) → (∀ e ∈ fs, ∃ k t, e.key = .int k t) → (∀ e ∈ es, ∀ f ∈ fs.drop done, e.hash ≠ f.hash) → (fs.map (·.hash)).Nodup → es.length + (fs.length - done) < 1000000 →
    Rn X (6 * is.length) (forIn is PUnit.unit (fun i r => do
      let some e := (← dictEntries a)[i]? | unsupported "dict.changed-during-merge"
      holding [e.key, e.val] do
        dictPut d e.hash e.key e.val
      if (← dictEpoch a) != epoch then unsupported "dict.changed-during-merge"
      pure (ForInStep.yield PUnit.unit))) (sh L life gens dr tk os) pos PUnit.unit (sh (L.set d (dO (es ++ fs.drop done) (n + is.length))) life gens dr tk os) pos
  | [], done, es, n, L, hi, hd, hL, ha, hk, hh, hnd, hz => by
    have : fs.length - done = 0 := by
      have := congrArg List.length hi
      simpa using this.symm
    have e0 : fs.drop done = [] := List.drop_eq_nil_of_le (by omega)
    have : L.set d (dO (es ++ fs.drop done) (n + 0)) = L := by
      rw [e0, List.append_nil, Nat.add_zero]
      apply List.ext_getElem?
      intro j
      rw [List.getElem?_set]
      by_cases c : d = j
      · subst c; rw [if_pos rfl, if_pos (lt_of_some hL), hL]
      · rw [if_neg c]
    show Rn X 0 _ _ _ _ (sh (L.set d (dO (es ++ fs.drop done) (n + 0))) life gens dr tk os) _
    rw [this]
    exact Rn.pure
  | i :: r, done, es, n, L, hi, hd, hL, ha, hk, hh, hnd, hz => by
    have hpos : 0 < fs.length - done := by
      have := congrArg List.length hi
      simp at this; omega
    obtain ⟨j, hj⟩ : ∃ j, fs.length - done = j + 1 := ⟨fs.length - done - 1, by omega⟩
    rw [hj, List.range'_succ] at hi
    obtain ⟨rfl, hr⟩ := List.cons.inj hi
    have hlt : i < fs.length := by omega
    have hdrop : fs.drop i = fs[i] :: fs.drop (i + 1) := List.drop_eq_getElem_cons hlt
    obtain ⟨k, t, hkey⟩ := hk fs[i] (List.getElem_mem hlt)
    have hdl := lt_of_some hL
    have ha' : (L.set d (dO (es ++ [fs[i]]) (n + 1)))[a]? = some (dO fs m) := by rw [List.getElem?_set_ne hne]; exact ha
    rw [List.forIn_cons]
    refine Rn.cast (N := 6 * r.length + 6) (by simp [Nat.mul_add]) ?_
    refine Rn.bind (N := 6) (M := 6 * r.length) (a := ForInStep.yield PUnit.unit) (s' := sh (L.set d (dO (es ++ [fs[i]]) (n + 1))) life gens dr tk os) (pos' := pos) ?_ ?_
    · refine Rn.bind (N := 1) (M := 5) (a := fs.toArray) (s' := sh L life gens dr tk os) (pos' := pos) ?_ ?_
      · unfold dictEntries
        exact Rn.bind (N := 1) (M := 0) (Rn.load (hp_get ha)) Rn.pure
      · rw [List.getElem?_toArray, List.getElem?_eq_getElem hlt]
        dsimp only
        refine Rn.bind (N := 4) (M := 1) (a := ()) (s' := sh (L.set d (dO (es ++ [fs[i]]) (n + 1))) life gens dr tk os) (pos' := pos) (Rn.keep ?_) ?_
        · rw [hkey]
          have := put_none (X := X) (pos := pos) (life := life) (gens := gens) (dr := dr) (tk := tk) (os := os) (k := k) (t := t) (h := fs[i].hash) (v := fs[i].val) hL (fun e he => hh e he _ (by rw [hdrop]; exact List.mem_cons_self)) (by omega) hm
          rw [show (⟨fs[i].hash, .int k t, fs[i].val⟩ : DictEntry) = fs[i] by rw [← hkey]] at this
          exact this
        · refine Rn.bind (N := 1) (M := 0) (a := m) (s' := sh (L.set d (dO (es ++ [fs[i]]) (n + 1))) life gens dr tk os) (pos' := pos) ?_ ?_
          · unfold dictEpoch
            exact Rn.bind (N := 1) (M := 0) (Rn.load (hp_get ha')) Rn.pure
          · subst hfm
            simp only [bne_self_eq_false, if_false, Bool.false_eq_true]
            exact Rn.pure
    · have ih := merge_loop hne hm hfm r (i + 1) (es ++ [fs[i]]) (n + 1) (L.set d (dO (es ++ [fs[i]]) (n + 1))) (by rw [hr, show fs.length - (i + 1) = j by omega]) (by omega) (by rw [List.getElem?_set_self hdl]) ha' hk (fun e he f hf => by
        rcases List.mem_append.mp he with q | q
        · exact hh e q f (by rw [hdrop]; exact List.mem_cons_of_mem _ hf)
        · rw [List.mem_singleton] at q
          subst q
          have : (fs.drop i |>.map (·.hash)).Nodup := by rw [List.map_drop]; exact (List.drop_sublist i _).nodup hnd
          rw [hdrop, List.map_cons, List.nodup_cons] at this
          exact fun q => this.1 (q ▸ List.mem_map_of_mem hf)) hnd (by simp at hz ⊢; omega)
      rw [List.set_set, List.append_assoc, show [fs[i]] ++ fs.drop (i + 1) = fs.drop i from hdrop.symm] at ih
      have e1 : n + 1 + r.length = n + (i :: r).length := by simp; omega
      rw [e1] at ih
      exact ih
theorem is_dict {a : Nat} {fs : List DictEntry} {m : Nat} (ha : L[a]? = some (dO fs m)) : Rn X 1 (isInstance (.ref a) (.type "dict")) (sh L life gens dr tk os) pos true (sh L life gens dr tk os) pos := by
  unfold isInstance
  refine Rn.bind (N := 1) (M := 0) (a := .type "dict") (s' := sh L life gens dr tk os) (pos' := pos) ?_ ?_
  · unfold typeOf
    exact Rn.bind (N := 1) (M := 0) (Rn.load (hp_get ha)) Rn.pure
  · rw [dict_sub]; exact Rn.pure
theorem it_dict {a : Nat} {fs : List DictEntry} {m : Nat} (ha : L[a]? = some (dO fs m)) : Rn X 1 (specialOf (.ref a) "__iter__") (sh L life gens dr tk os) pos (some (.builtin "dict.__iter__")) (sh L life gens dr tk os) pos := by
  unfold specialOf
  refine Rn.bind (N := 1) (M := 0) (a := .type "dict") (s' := sh L life gens dr tk os) (pos' := pos) ?_ ?_
  · unfold typeOf
    exact Rn.bind (N := 1) (M := 0) (Rn.load (hp_get ha)) Rn.pure
  · rw [dict_iter]; exact Rn.pure
theorem ents {a : Nat} {fs : List DictEntry} {m : Nat} {part : Option Value} (ha : L[a]? = some (dO fs m)) : Rn X 1 (dictEntries a part) (sh L life gens dr tk os) pos fs.toArray (sh L life gens dr tk os) pos := by
  unfold dictEntries
  exact Rn.bind (N := 1) (M := 0) (Rn.load (hp_get ha)) Rn.pure
theorem epoch {a : Nat} {fs : List DictEntry} {m : Nat} {part : Option Value} (ha : L[a]? = some (dO fs m)) : Rn X 1 (dictEpoch a part) (sh L life gens dr tk os) pos m (sh L life gens dr tk os) pos := by
  unfold dictEpoch
  exact Rn.bind (N := 1) (M := 0) (Rn.load (hp_get ha)) Rn.pure
theorem merge_ok {a : Nat} {fs : List DictEntry} {m : Nat} (hne : d ≠ a) (hs : (a == sysModules) = false) (hm : X.n₀ ≤ d) (hL : L[d]? = some (dO es n)) (ha : L[a]? = some (dO fs m)) (he : es ≠ []) (hk : ∀ e ∈ fs, ∃ k t, e.key = .int k t) (hh : ∀ e ∈ es, ∀ f ∈ fs, e.hash ≠ f.hash)
    (hnd : (fs.map (·.hash)).Nodup) (hz : es.length + fs.length < 1000000) :
    Rn X (6 * fs.length + 5) (mergeMapping d (.ref a) false) (sh L life gens dr tk os) pos () (sh (L.set d (dO (es ++ fs) (n + fs.length))) life gens dr tk os) pos := by
  unfold mergeMapping
  refine Rn.cast (N := (6 * fs.length + 4) + 1) (by omega) ?_
  refine Rn.bind (N := 1) (M := 6 * fs.length + 4) (is_dict ha) ?_
  simp only [if_true]
  refine Rn.cast (N := (6 * fs.length + 3) + 1) (by omega) ?_
  refine Rn.bind (N := 1) (M := 6 * fs.length + 3) (it_dict ha) ?_
  refine Rn.cast (N := (6 * fs.length + 3) + 0) (by omega) ?_
  refine Rn.bind (N := 0) (M := 6 * fs.length + 3) Rn.pure ?_
  · rw [beq_self_eq_true]
    dsimp only
    rw [hs]
    simp only [Bool.false_eq_true, if_false]
    refine Rn.cast (N := (6 * fs.length + 2) + 1) (by omega) ?_
    refine Rn.bind (N := 1) (M := 6 * fs.length + 2) (ents hL) ?_
    have : es.toArray.isEmpty = false := by
      cases es with
      | nil => exact absurd rfl he
      | cons _ _ => rfl
    simp only [this, Bool.false_eq_true, if_false]
    refine Rn.cast (N := (6 * fs.length + 1) + 1) (by omega) ?_
    refine Rn.bind (N := 1) (M := 6 * fs.length + 1) (ents ha) ?_
    refine Rn.bind (N := 1) (M := 6 * fs.length) (epoch ha) ?_
    have hr : List.range fs.toArray.size = List.range' 0 (fs.length - 0) := by rw [List.range_eq_range']; simp
    have := merge_loop (X := X) (pos := pos) (life := life) (gens := gens) (dr := dr) (tk := tk) (os := os) hne hm rfl (List.range fs.toArray.size) 0 es n L hr (by omega) hL ha hk (by simpa using hh) hnd (by omega)
    have el : (List.range fs.toArray.size).length = fs.length := by simp
    rw [el] at this
    have e0 : fs.drop 0 = fs := rfl
    rw [e0] at this
    refine Rn.cast (N := 0 + 6 * fs.length) (by omega) ?_
    refine Rn.bind (N := 6 * fs.length) (M := 0) this Rn.pure
end
end Mine
end
section
open PySem PySem.W PyProof.Rows PySem.Calls
set_option Elab.async false
set_option linter.unusedVariables false
namespace Mine
section
variable {X : Tp} {α β : Type} {s s' s'' : Shared} {pos pos' pos'' : Pos} {L : List Obj} {life : Life} {gens : Array GenState} {dr : Drawn} {tk : Nat} {os : OsState} {d : Nat} {es : List DictEntry} {n : Nat} {k : Int} {t : Tok}
/-! rising keys -/
noncomputable def endOf : Int → List (Int × Str) → Int
  | lo, [] => lo
  | _, e :: r => endOf e.1 r
theorem asc_cons {lo : Int} {e : Int × Str} {r : List (Int × Str)} : ascB lo (e :: r) = (decide (lo < e.1) && decide (e.1 < 1000000000) && ascB e.1 r) := rfl
theorem asc_app : ∀ {a b : List (Int × Str)} {lo : Int}, ascB lo (a ++ b) = true → ascB lo a = true ∧ ascB (endOf lo a) b = true
  | [], b, lo, h => ⟨rfl, h⟩
  | e :: r, b, lo, h => by
    rw [List.cons_append, asc_cons, Bool.and_eq_true] at h
    obtain ⟨h1, h2⟩ := h
    obtain ⟨x, y⟩ := asc_app h2
    exact ⟨by rw [asc_cons, h1, x]; rfl, y⟩
theorem asc_mono {l : List (Int × Str)} {lo lo' : Int} (h : ascB lo l = true) (le : lo' ≤ lo) : ascB lo' l = true := by
  cases l with
  | nil => rfl
  | cons e r =>
    unfold ascB at h ⊢
    simp only [Bool.and_eq_true, decide_eq_true_eq] at h ⊢
    exact ⟨⟨by omega, h.1.2⟩, h.2⟩
theorem asc_le : ∀ {l : List (Int × Str)} {lo : Int}, ascB lo l = true → lo ≤ endOf lo l
  | [], lo, h => Int.le_refl _
  | e :: r, lo, h => by
    unfold ascB at h
    simp only [Bool.and_eq_true, decide_eq_true_eq] at h
    have := asc_le h.2
    unfold endOf
    omega
theorem asc_mem : ∀ {l : List (Int × Str)} {lo : Int}, ascB lo l = true → ∀ e ∈ l, lo < e.1 ∧ e.1 ≤ endOf lo l
  | [], lo, h, e, he => nomatch he
  | x :: r, lo, h, e, he => by
    unfold ascB at h
    simp only [Bool.and_eq_true, decide_eq_true_eq] at h
    unfold endOf
    rcases List.mem_cons.mp he with rfl | he
    · exact ⟨h.1.1, asc_le h.2⟩
    · have := asc_mem h.2 e he
      exact ⟨by omega, this.2⟩
theorem asc_nodup : ∀ {l : List (Int × Str)} {lo : Int}, ascB lo l = true → (l.map (·.1)).Nodup
  | [], lo, h => List.nodup_nil
  | x :: r, lo, h => by
    unfold ascB at h
    simp only [Bool.and_eq_true, decide_eq_true_eq] at h
    rw [List.map_cons, List.nodup_cons]
    refine ⟨fun q => ?_, asc_nodup h.2⟩
    obtain ⟨e, he, q⟩ := List.mem_map.mp q
    have := asc_mem h.2 e he
    omega
theorem ent3_hash : ∀ (l : List (Int × Str)) (tk : Nat), (ent3 tk l).map (·.hash) = l.map (·.1)
  | [], tk => rfl
  | (k, x) :: r, tk => by unfold ent3; rw [List.map_cons, List.map_cons, ent3_hash r]
theorem ent2_hash : ∀ (l : List (Int × Str)) (tk : Nat), (ent2 tk l).map (·.hash) = l.map (·.1)
  | [], tk => rfl
  | (k, x) :: r, tk => by unfold ent2; rw [List.map_cons, List.map_cons, ent2_hash r]
theorem ent3_key : ∀ (l : List (Int × Str)) (tk : Nat), ∀ e ∈ ent3 tk l, ∃ k t, e.key = .int k t
  | [], tk, e, he => nomatch he
  | (k, x) :: r, tk, e, he => by
    unfold ent3 at he
    rcases List.mem_cons.mp he with rfl | he
    · exact ⟨k, tk, rfl⟩
    · exact ent3_key r _ e he
theorem ent2_key : ∀ (l : List (Int × Str)) (tk : Nat), ∀ e ∈ ent2 tk l, ∃ k t, e.key = .int k t
  | [], tk, e, he => nomatch he
  | (k, x) :: r, tk, e, he => by
    unfold ent2 at he
    rcases List.mem_cons.mp he with rfl | he
    · exact ⟨k, tk, rfl⟩
    · exact ent2_key r _ e he
theorem ent3_len : ∀ (l : List (Int × Str)) (tk : Nat), (ent3 tk l).length = l.length
  | [], tk => rfl
  | (k, x) :: r, tk => by unfold ent3; rw [List.length_cons, List.length_cons, ent3_len r]
theorem ent2_len : ∀ (l : List (Int × Str)) (tk : Nat), (ent2 tk l).length = l.length
  | [], tk => rfl
  | (k, x) :: r, tk => by unfold ent2; rw [List.length_cons, List.length_cons, ent2_len r]
theorem hash_of {fs : List DictEntry} {l : List (Int × Str)} (h : fs.map (·.hash) = l.map (·.1)) {lo : Int} (ha : ascB lo l = true) : (∀ f ∈ fs, lo < f.hash ∧ f.hash ≤ endOf lo l) ∧ (fs.map (·.hash)).Nodup := by
  refine ⟨fun f hf => ?_, h ▸ asc_nodup ha⟩
  have : f.hash ∈ l.map (·.1) := h ▸ List.mem_map_of_mem hf
  obtain ⟨e, he, q⟩ := List.mem_map.mp this
  rw [← q]; exact asc_mem ha e he
/-! the loop over the items, as trees -/
noncomputable abbrev Prs := List (Sem Value × Sem Value)
noncomputable abbrev DSt := Option Addr × Prs
noncomputable def its (pos : Pos) (l : List (Int × Str)) : List (Option (Sem Value) × Sem Value) := l.map fun e => (some (mkInt e.1), valT pos e.2)
noncomputable def flushF (run : Prs) (main : Option Addr) : Sem (Option Addr) :=
  if run.isEmpty = true then pure main
  else match main with
    | none => do return some (← subDict run)
    | some d => do
      let sub ← holding [.ref d] (subDict run)
      (holding [.ref d, .ref sub] (mergeMapping d (.ref sub) false)).onRaise fun x => do let _ ← holding [.ref d, x] (runValue (.builtin "proto.let_go" {}))
      return some d
noncomputable def BodyOk (B : Option (Sem Value) × Sem Value → DSt → Sem (ForInStep DSt)) : Prop := ∀ k v main run, B (some k, v) (main, run) =
  if ((run ++ [(k, v)]).length == 17) = true then (do let m ← flushF (run ++ [(k, v)]) main; pure (ForInStep.yield (m, []))) else pure (ForInStep.yield (main, run ++ [(k, v)]))
variable {B : Option (Sem Value) × Sem Value → DSt → Sem (ForInStep DSt)}
theorem fill (hB : BodyOk B) (rest : List (Option (Sem Value) × Sem Value)) (main : Option Addr) : ∀ (a : List (Int × Str)) (run : Prs), run.length + a.length < 17 → forIn (its pos a ++ rest) (main, run) B = forIn rest (main, run ++ prs pos a) B
  | [], run, h => by simp [its, prs]
  | e :: r, run, h => by
    rw [show its pos (e :: r) ++ rest = (some (mkInt e.1), valT pos e.2) :: (its pos r ++ rest) from rfl, List.forIn_cons, hB]
    have : ((run ++ [(mkInt e.1, valT pos e.2)]).length == 17) = false := by
      rw [beq_eq_false_iff_ne]; simp at h ⊢; omega
    rw [this]
    show forIn (its pos r ++ rest) (main, run ++ [(mkInt e.1, valT pos e.2)]) B = _
    rw [fill hB rest main r _ (by simp at h ⊢; omega)]
    rw [List.append_assoc]; rfl
theorem full (hB : BodyOk B) (rest : List (Option (Sem Value) × Sem Value)) (main : Option Addr) (c : List (Int × Str)) (hc : c.length = 17) : forIn (its pos c ++ rest) (main, []) B = (flushF (prs pos c) main).bind fun m => forIn rest (m, []) B := by
  have hne : c ≠ [] := by rintro rfl; simp at hc
  obtain ⟨a, e, rfl⟩ : ∃ a e, c = a ++ [e] := ⟨c.dropLast, c.getLast hne, (List.dropLast_concat_getLast hne).symm⟩
  have ha : a.length = 16 := by simpa using hc
  rw [show its pos (a ++ [e]) ++ rest = its pos a ++ ((some (mkInt e.1), valT pos e.2) :: rest) by simp [its], fill hB _ main a [] (by simp; omega), List.nil_append, List.forIn_cons, hB]
  have : ((prs pos a ++ [(mkInt e.1, valT pos e.2)]).length == 17) = true := by
    rw [beq_iff_eq]; simp [prs]; exact ha
  rw [if_pos this]
  have e1 : prs pos (a ++ [e]) = prs pos a ++ [(mkInt e.1, valT pos e.2)] := by simp [prs]
  rw [e1]
  show ((flushF _ main).bind fun m => Sem.pure (ForInStep.yield (m, ([] : Prs)))).bind _ = _
  rw [Sem.bind_eq_wrap, Sem.bind_eq_wrap, Sem.wrap_wrap, Sem.bind_eq_wrap]
  rfl
theorem sem_assoc {γ : Type} (m : Sem α) (f : α → Sem β) (g : β → Sem γ) : (m.bind f).bind g = m.bind fun a => (f a).bind g := by
  induction m <;> simp only [Sem.bind, *]
/-! one flush -/
theorem prs_ne {l : List (Int × Str)} (h : l ≠ []) : (prs pos l).isEmpty = false := by
  cases l with
  | nil => exact absurd rfl h
  | cons _ _ => rfl
theorem flush_first {c : List (Int × Str)} (hc : c.length = 17) (ha : ascB (-1) c = true) (hm : X.n₀ ≤ L.length) :
    Rn X 223 (flushF (prs pos c) none) (sh L life gens dr tk os) pos (some L.length) (sh (L ++ [dO (ent3 tk c) 17]) life gens dr (tk + 51) os) pos := by
  unfold flushF
  rw [prs_ne (by rintro rfl; simp at hc)]
  simp only [Bool.false_eq_true, if_false]
  have := sub_long (X := X) (pos := pos) (life := life) (gens := gens) (dr := dr) (tk := tk) (os := os) (L := L) (l := c) (by omega) (by omega) ha hm
  rw [hc] at this
  exact Rn.bind (N := 223) (M := 0) this Rn.pure
theorem flush_next {L0 subs : List Obj} {c : List (Int × Str)} {lo : Int} (hc : c.length = 17) (hlo : -1 ≤ lo) (ha : ascB lo c = true) (hes : ∀ e ∈ es, e.hash ≤ lo) (hne : es ≠ []) (hz : es.length + 17 < 1000000) (hm : X.n₀ ≤ L0.length) (hs : 1 < X.n₀) :
    Rn X 330 (flushF (prs pos c) (some L0.length)) (sh (L0 ++ dO es n :: subs) life gens dr tk os) pos (some L0.length) (sh (L0 ++ dO (es ++ ent3 tk c) (n + 17) :: (subs ++ [dO (ent3 tk c) 17])) life gens dr (tk + 51) os) pos := by
  unfold flushF
  rw [prs_ne (by rintro rfl; simp at hc)]
  simp only [Bool.false_eq_true, if_false]
  have h1 := sub_long (X := X) (pos := pos) (life := life) (gens := gens) (dr := dr) (tk := tk) (os := os) (L := L0 ++ dO es n :: subs) (l := c) (by omega) (by omega) (asc_mono ha hlo) (by simp; omega)
  rw [hc] at h1
  refine Rn.bind (N := 223) (M := 107) (Rn.keep h1) ?_
  obtain ⟨hh, hnd⟩ := hash_of (ent3_hash c tk) ha
  have hL : ((L0 ++ dO es n :: subs) ++ [dO (ent3 tk c) 17])[L0.length]? = some (dO es n) := by simp
  have hA : ((L0 ++ dO es n :: subs) ++ [dO (ent3 tk c) 17])[(L0 ++ dO es n :: subs).length]? = some (dO (ent3 tk c) 17) := by simp
  have h2 := merge_ok (X := X) (pos := pos) (life := life) (gens := gens) (dr := dr) (tk := tk + 3 * 17) (os := os) (by simp) (show ((L0 ++ dO es n :: subs).length == 1) = false by rw [beq_eq_false_iff_ne]; simp; omega) hm hL hA hne (ent3_key c tk) (fun e he f hf => by have := hes e he; have := (hh f hf).1; omega) hnd (by rw [ent3_len, hc]; exact hz)
  rw [ent3_len, hc] at h2
  have e1 : ((L0 ++ dO es n :: subs) ++ [dO (ent3 tk c) 17]).set L0.length (dO (es ++ ent3 tk c) (n + 17)) = L0 ++ dO (es ++ ent3 tk c) (n + 17) :: (subs ++ [dO (ent3 tk c) 17]) := by simp
  rw [e1] at h2
  refine Rn.cast (N := 0 + 107) (by omega) ?_
  exact Rn.bind (N := 107) (M := 0) (Rn.onRaise (Rn.keep h2)) Rn.pure
theorem flush_last {L0 subs : List Obj} {c : List (Int × Str)} {lo : Int} (hc : c.length ≤ 15) (hc0 : c ≠ []) (hlo : -1 ≤ lo) (ha : ascB lo c = true) (hes : ∀ e ∈ es, e.hash ≤ lo) (hne : es ≠ []) (hz : es.length + 17 < 1000000) (hm : X.n₀ ≤ L0.length) (hs : 1 < X.n₀) :
    Rn X (19 * c.length + 6) (flushF (prs pos c) (some L0.length)) (sh (L0 ++ dO es n :: subs) life gens dr tk os) pos (some L0.length) (sh (L0 ++ dO (es ++ ent2 tk c) (n + c.length) :: (subs ++ [dO (ent2 tk c) c.length])) life gens dr (tk + 3 * c.length) os) pos := by
  unfold flushF
  rw [prs_ne hc0]
  simp only [Bool.false_eq_true, if_false]
  have h1 := sub_short (X := X) (pos := pos) (life := life) (gens := gens) (dr := dr) (tk := tk) (os := os) (L := L0 ++ dO es n :: subs) (l := c) hc (asc_mono ha hlo) (by simp; omega)
  refine Rn.cast (N := (6 * c.length + 5) + (13 * c.length + 1)) (by omega) ?_
  refine Rn.bind (N := 13 * c.length + 1) (M := 6 * c.length + 5) (Rn.keep h1) ?_
  obtain ⟨hh, hnd⟩ := hash_of (ent2_hash c tk) ha
  have hL : ((L0 ++ dO es n :: subs) ++ [dO (ent2 tk c) c.length])[L0.length]? = some (dO es n) := by simp
  have hA : ((L0 ++ dO es n :: subs) ++ [dO (ent2 tk c) c.length])[(L0 ++ dO es n :: subs).length]? = some (dO (ent2 tk c) c.length) := by simp
  have h2 := merge_ok (X := X) (pos := pos) (life := life) (gens := gens) (dr := dr) (tk := tk + 3 * c.length) (os := os) (by simp) (show ((L0 ++ dO es n :: subs).length == 1) = false by rw [beq_eq_false_iff_ne]; simp; omega) hm hL hA hne (ent2_key c tk) (fun e he f hf => by have := hes e he; have := (hh f hf).1; omega) hnd (by rw [ent2_len]; omega)
  rw [ent2_len] at h2
  have e1 : ((L0 ++ dO es n :: subs) ++ [dO (ent2 tk c) c.length]).set L0.length (dO (es ++ ent2 tk c) (n + c.length)) = L0 ++ dO (es ++ ent2 tk c) (n + c.length) :: (subs ++ [dO (ent2 tk c) c.length]) := by simp
  rw [e1] at h2
  refine Rn.cast (N := 0 + (6 * c.length + 5)) (by omega) ?_
  exact Rn.bind (N := 6 * c.length + 5) (M := 0) (Rn.onRaise (Rn.keep h2)) Rn.pure
/-! the whole display -/
noncomputable def entsOf : Nat → List (List (Int × Str)) → List DictEntry
  | _, [] => []
  | tk, c :: r => ent3 tk c ++ entsOf (tk + 51) r
noncomputable def subsOf : Nat → List (List (Int × Str)) → List Obj
  | _, [] => []
  | tk, c :: r => dO (ent3 tk c) 17 :: subsOf (tk + 51) r
noncomputable def tailF (s : DSt) : Sem Value := do
  match ← flushF s.2 s.1 with
  | some d => pure (.ref d)
  | none => newDict
theorem disp_loop {L0 : List Obj} {c : List (Int × Str)} (hB : BodyOk B) (hc : c.length ≤ 15) (hc0 : c ≠ []) (hm : X.n₀ ≤ L0.length) (hs : 1 < X.n₀) :
    ∀ (cs : List (List (Int × Str))) (tk : Nat) (es : List DictEntry) (n : Nat) (lo : Int) (subs : List Obj), (∀ x ∈ cs, x.length = 17) → -1 ≤ lo → ascB lo (cs.flatten ++ c) = true → (∀ e ∈ es, e.hash ≤ lo) → es ≠ [] → es.length + 17 * (cs.length + 1) < 1000000 →
      Rn X (330 * cs.length + (19 * c.length + 6)) ((forIn (its pos (cs.flatten ++ c)) ((some L0.length, []) : DSt) B).bind tailF) (sh (L0 ++ dO es n :: subs) life gens dr tk os) pos (.ref L0.length)
        (sh (L0 ++ dO (es ++ entsOf tk cs ++ ent2 (tk + 51 * cs.length) c) (n + 17 * cs.length + c.length) :: (subs ++ subsOf tk cs ++ [dO (ent2 (tk + 51 * cs.length) c) c.length])) life gens dr (tk + 51 * cs.length + 3 * c.length) os) pos
  | [], tk, es, n, lo, subs, h17, hlo, ha, hes, hne, hz => by
    rw [List.flatten_nil, List.nil_append] at ha ⊢
    rw [show its pos c = its pos c ++ [] by simp, fill hB [] _ c [] (by simp; omega), List.nil_append, List.forIn_nil]
    have h := flush_last (X := X) (pos := pos) (life := life) (gens := gens) (dr := dr) (tk := tk) (os := os) (n := n) (subs := subs) hc hc0 hlo ha hes hne (by simp at hz; omega) hm hs
    show Rn X _ (tailF (some L0.length, prs pos c)) _ _ _ _ _
    unfold tailF
    refine Rn.cast (N := 0 + (19 * c.length + 6)) (by simp) ?_
    refine Rn.bind (N := 19 * c.length + 6) (M := 0) h ?_
    have e1 : es ++ entsOf tk [] ++ ent2 (tk + 51 * ([] : List (List (Int × Str))).length) c = es ++ ent2 tk c := by simp [entsOf]
    have e2 : subs ++ subsOf tk [] ++ [dO (ent2 (tk + 51 * ([] : List (List (Int × Str))).length) c) c.length] = subs ++ [dO (ent2 tk c) c.length] := by simp [subsOf]
    rw [e1, e2]
    exact Rn.pure
  | x :: r, tk, es, n, lo, subs, h17, hlo, ha, hes, hne, hz => by
    have hx : x.length = 17 := h17 x List.mem_cons_self
    rw [List.flatten_cons, List.append_assoc] at ha ⊢
    obtain ⟨a1, a2⟩ := asc_app ha
    rw [show its pos (x ++ (r.flatten ++ c)) = its pos x ++ its pos (r.flatten ++ c) by simp [its], full hB _ _ x hx]
    obtain ⟨hh, hnd⟩ := hash_of (ent3_hash x tk) a1
    have hle := asc_le a1
    have ih := disp_loop hB hc hc0 hm hs r (tk + 51) (es ++ ent3 tk x) (n + 17) (endOf lo x) (subs ++ [dO (ent3 tk x) 17]) (fun y hy => h17 y (List.mem_cons_of_mem _ hy)) (by omega) a2 (fun e he => by
      rcases List.mem_append.mp he with q | q
      · have := hes e q; omega
      · exact (hh e q).2) (by simp [hne]) (by rw [List.length_append, ent3_len, hx]; simp at hz; omega)
    have h := flush_next (X := X) (pos := pos) (life := life) (gens := gens) (dr := dr) (tk := tk) (os := os) (n := n) (subs := subs) hx hlo a1 hes hne (by simp at hz; omega) hm hs
    refine Rn.cast (N := (330 * r.length + (19 * c.length + 6)) + 330) (by simp; omega) ?_
    have e1 : es ++ entsOf tk (x :: r) ++ ent2 (tk + 51 * (x :: r).length) c = es ++ ent3 tk x ++ entsOf (tk + 51) r ++ ent2 (tk + 51 + 51 * r.length) c := by
      rw [show tk + 51 * (x :: r).length = tk + 51 + 51 * r.length by simp; omega]
      simp [entsOf]
    have e2 : subs ++ subsOf tk (x :: r) ++ [dO (ent2 (tk + 51 * (x :: r).length) c) c.length] = subs ++ [dO (ent3 tk x) 17] ++ subsOf (tk + 51) r ++ [dO (ent2 (tk + 51 + 51 * r.length) c) c.length] := by
      rw [show tk + 51 * (x :: r).length = tk + 51 + 51 * r.length by simp; omega]
      simp [subsOf]
    have e3 : n + 17 * (x :: r).length + c.length = n + 17 + 17 * r.length + c.length := by simp; omega
    have e4 : tk + 51 * (x :: r).length + 3 * c.length = tk + 51 + 51 * r.length + 3 * c.length := by simp; omega
    rw [e1, e2, e3, e4]
    have key := Rn.bind (X := X) (f := fun m => (forIn (its pos (r.flatten ++ c)) ((m, []) : DSt) B).bind tailF) h ih
    rw [sem_assoc]
    exact key
theorem disp_ok {L0 : List Obj} {c c1 : List (Int × Str)} {cs : List (List (Int × Str))} (h1 : c1.length = 17) (h17 : ∀ x ∈ cs, x.length = 17) (hc : c.length ≤ 15) (hc0 : c ≠ []) (hm : X.n₀ ≤ L0.length) (hs : 1 < X.n₀)
    (ha : ascB (-1) (c1 ++ (cs.flatten ++ c)) = true) (hz : cs.length < 10000) :
    Rn X (330 * cs.length + (19 * c.length + 6) + 223) (dictDisplay (its pos (c1 ++ (cs.flatten ++ c)))) (sh L0 life gens dr tk os) pos (.ref L0.length)
      (sh (L0 ++ dO (entsOf tk (c1 :: cs) ++ ent2 (tk + 51 * (cs.length + 1)) c) (17 * (cs.length + 1) + c.length) :: (subsOf (tk + 51) cs ++ [dO (ent2 (tk + 51 * (cs.length + 1)) c) c.length])) life gens dr (tk + 51 * (cs.length + 1) + 3 * c.length) os) pos := by
  obtain ⟨a1, a2⟩ := asc_app ha
  obtain ⟨hh, hnd⟩ := hash_of (ent3_hash c1 tk) a1
  have hle := asc_le a1
  have hf := flush_first (X := X) (pos := pos) (life := life) (gens := gens) (dr := dr) (tk := tk) (os := os) (L := L0) h1 a1 hm
  unfold dictDisplay
  refine (?_ : ∀ (B : Option (Sem Value) × Sem Value → DSt → Sem (ForInStep DSt)), BodyOk B → Rn X _ ((forIn (its pos (c1 ++ (cs.flatten ++ c))) ((none, []) : DSt) B).bind tailF) _ _ _ _ _) _ (fun k v main run => ?_)
  · intro B hB
    rw [show its pos (c1 ++ (cs.flatten ++ c)) = its pos c1 ++ its pos (cs.flatten ++ c) by simp [its], full hB _ _ c1 h1]
    have ih := disp_loop (X := X) (pos := pos) (life := life) (gens := gens) (dr := dr) (os := os) (L0 := L0) hB hc hc0 hm hs cs (tk + 51) (ent3 tk c1) 17 (endOf (-1) c1) [] h17 (by omega) a2 (fun e he => (hh e he).2) (by intro q; have := congrArg List.length q; rw [ent3_len, h1] at this; simp at this) (by rw [ent3_len, h1]; omega)
    have e1 : entsOf tk (c1 :: cs) ++ ent2 (tk + 51 * (cs.length + 1)) c = ent3 tk c1 ++ entsOf (tk + 51) cs ++ ent2 (tk + 51 + 51 * cs.length) c := by
      rw [show tk + 51 * (cs.length + 1) = tk + 51 + 51 * cs.length by omega]
      simp [entsOf]
    have e3 : 17 * (cs.length + 1) + c.length = 17 + 17 * cs.length + c.length := by omega
    have e4 : tk + 51 * (cs.length + 1) + 3 * c.length = tk + 51 + 51 * cs.length + 3 * c.length := by omega
    have e5 : tk + 51 * (cs.length + 1) = tk + 51 + 51 * cs.length := by omega
    rw [e1, e3, e4, e5]
    rw [List.nil_append] at ih
    have key := Rn.bind (X := X) (f := fun m => (forIn (its pos (cs.flatten ++ c)) ((m, []) : DSt) B).bind tailF) hf ih
    rw [sem_assoc]
    exact key
  · rfl
end
end Mine
end
section
open PySem PySem.W PyProof.Rows PySem.Calls
set_option Elab.async false
set_option linter.unusedVariables false
set_option maxRecDepth 100000
namespace Mine
noncomputable abbrev bodyAt (i : Nat) : List Stmt := bodyOf P2 i
noncomputable abbrev scAt (i : Nat) : Scope := scOf P2 i
noncomputable def argsAt (i : Nat) : Arguments := match P2.main.body[i]? with | some (.FunctionDef _ a _ _ _ _ _ _ _ _) => a | _ => default
noncomputable def b3C1 : List (Int × Str) := [(181, "\u03bc"), (223, "ss"), (304, "i\u0307"), (329, "\u02bcn"), (383, "s"), (496, "j\u030c"), (837, "\u03b9"), (890, " \u03b9"), (912, "\u03b9\u0308\u0301"), (944, "\u03c5\u0308\u0301"), (962, "\u03c3"), (976, "\u03b2"), (977, "\u03b8"), (978, "\u03c5"), (979, "\u03cd"), (980, "\u03cb"), (981, "\u03c6")]
noncomputable def b3c0 : List (Int × Str) := [(982, "\u03c0"), (1008, "\u03ba"), (1009, "\u03c1"), (1010, "\u03c3"), (1013, "\u03b5"), (1415, "\u0565\u0582"), (7830, "h\u0331"), (7831, "t\u0308"), (7832, "w\u030a"), (7833, "y\u030a"), (7834, "a\u02be"), (7835, "\u1e61"), (8016, "\u03c5\u0313"), (8018, "\u03c5\u0313\u0300"), (8020, "\u03c5\u0313\u0301"), (8022, "\u03c5\u0313\u0342"), (8064, "\u1f00\u03b9")]
noncomputable def b3c1 : List (Int × Str) := [(8065, "\u1f01\u03b9"), (8066, "\u1f02\u03b9"), (8067, "\u1f03\u03b9"), (8068, "\u1f04\u03b9"), (8069, "\u1f05\u03b9"), (8070, "\u1f06\u03b9"), (8071, "\u1f07\u03b9"), (8072, "\u1f00\u03b9"), (8073, "\u1f01\u03b9"), (8074, "\u1f02\u03b9"), (8075, "\u1f03\u03b9"), (8076, "\u1f04\u03b9"), (8077, "\u1f05\u03b9"), (8078, "\u1f06\u03b9"), (8079, "\u1f07\u03b9"), (8080, "\u1f20\u03b9"), (8081, "\u1f21\u03b9")]
noncomputable def b3c2 : List (Int × Str) := [(8082, "\u1f22\u03b9"), (8083, "\u1f23\u03b9"), (8084, "\u1f24\u03b9"), (8085, "\u1f25\u03b9"), (8086, "\u1f26\u03b9"), (8087, "\u1f27\u03b9"), (8088, "\u1f20\u03b9"), (8089, "\u1f21\u03b9"), (8090, "\u1f22\u03b9"), (8091, "\u1f23\u03b9"), (8092, "\u1f24\u03b9"), (8093, "\u1f25\u03b9"), (8094, "\u1f26\u03b9"), (8095, "\u1f27\u03b9"), (8096, "\u1f60\u03b9"), (8097, "\u1f61\u03b9"), (8098, "\u1f62\u03b9")]
noncomputable def b3c3 : List (Int × Str) := [(8099, "\u1f63\u03b9"), (8100, "\u1f64\u03b9"), (8101, "\u1f65\u03b9"), (8102, "\u1f66\u03b9"), (8103, "\u1f67\u03b9"), (8104, "\u1f60\u03b9"), (8105, "\u1f61\u03b9"), (8106, "\u1f62\u03b9"), (8107, "\u1f63\u03b9"), (8108, "\u1f64\u03b9"), (8109, "\u1f65\u03b9"), (8110, "\u1f66\u03b9"), (8111, "\u1f67\u03b9"), (8114, "\u1f70\u03b9"), (8115, "\u03b1\u03b9"), (8116, "\u03ac\u03b9"), (8118, "\u03b1\u0342")]
noncomputable def b3c4 : List (Int × Str) := [(8119, "\u03b1\u0342\u03b9"), (8124, "\u03b1\u03b9"), (8126, "\u03b9"), (8130, "\u1f74\u03b9"), (8131, "\u03b7\u03b9"), (8132, "\u03ae\u03b9"), (8134, "\u03b7\u0342"), (8135, "\u03b7\u0342\u03b9"), (8140, "\u03b7\u03b9"), (8146, "\u03b9\u0308\u0300"), (8147, "\u03b9\u0308\u0301"), (8150, "\u03b9\u0342"), (8151, "\u03b9\u0308\u0342"), (8162, "\u03c5\u0308\u0300"), (8163, "\u03c5\u0308\u0301"), (8164, "\u03c1\u0313"), (8166, "\u03c5\u0342")]
noncomputable def b3c5 : List (Int × Str) := [(8167, "\u03c5\u0308\u0342"), (8178, "\u1f7c\u03b9"), (8179, "\u03c9\u03b9"), (8180, "\u03ce\u03b9"), (8182, "\u03c9\u0342"), (8183, "\u03c9\u0342\u03b9"), (8188, "\u03c9\u03b9"), (8360, "rs"), (8450, "c"), (8451, "\u00b0c"), (8455, "\u025b"), (8457, "\u00b0f"), (8459, "h"), (8460, "h"), (8461, "h"), (8464, "i"), (8465, "i")]
noncomputable def b3c6 : List (Int × Str) := [(8466, "l"), (8469, "n"), (8470, "no"), (8473, "p"), (8474, "q"), (8475, "r"), (8476, "r"), (8477, "r"), (8480, "sm"), (8481, "tel"), (8482, "tm"), (8484, "z"), (8488, "z"), (8492, "b"), (8493, "c"), (8496, "e"), (8497, "f")]
noncomputable def b3c7 : List (Int × Str) := [(8499, "m"), (8510, "\u03b3"), (8511, "\u03c0"), (8517, "d"), (13169, "hpa"), (13171, "au"), (13173, "ov"), (13184, "pa"), (13185, "na"), (13186, "\u03bca"), (13187, "ma"), (13188, "ka"), (13189, "kb"), (13190, "mb"), (13191, "gb"), (13194, "pf"), (13195, "nf")]
noncomputable def b3c8 : List (Int × Str) := [(13196, "\u03bcf"), (13200, "hz"), (13201, "khz"), (13202, "mhz"), (13203, "ghz"), (13204, "thz"), (13225, "pa"), (13226, "kpa"), (13227, "mpa"), (13228, "gpa"), (13236, "pv"), (13237, "nv"), (13238, "\u03bcv"), (13239, "mv"), (13240, "kv"), (13241, "mv"), (13242, "pw")]
noncomputable def b3c9 : List (Int × Str) := [(13243, "nw"), (13244, "\u03bcw"), (13245, "mw"), (13246, "kw"), (13247, "mw"), (13248, "k\u03c9"), (13249, "m\u03c9"), (13251, "bq"), (13254, "c\u2215kg"), (13255, "co."), (13256, "db"), (13257, "gy"), (13259, "hp"), (13261, "kk"), (13262, "km"), (13271, "ph"), (13273, "ppm")]
noncomputable def b3c10 : List (Int × Str) := [(13274, "pr"), (13276, "sv"), (13277, "wb"), (64256, "ff"), (64257, "fi"), (64258, "fl"), (64259, "ffi"), (64260, "ffl"), (64261, "st"), (64262, "st"), (64275, "\u0574\u0576"), (64276, "\u0574\u0565"), (64277, "\u0574\u056b"), (64278, "\u057e\u0576"), (64279, "\u0574\u056d"), (119808, "a"), (119809, "b")]
noncomputable def b3c11 : List (Int × Str) := [(119810, "c"), (119811, "d"), (119812, "e"), (119813, "f"), (119814, "g"), (119815, "h"), (119816, "i"), (119817, "j"), (119818, "k"), (119819, "l"), (119820, "m"), (119821, "n"), (119822, "o"), (119823, "p"), (119824, "q"), (119825, "r"), (119826, "s")]
noncomputable def b3c12 : List (Int × Str) := [(119827, "t"), (119828, "u"), (119829, "v"), (119830, "w"), (119831, "x"), (119832, "y"), (119833, "z"), (119860, "a"), (119861, "b"), (119862, "c"), (119863, "d"), (119864, "e"), (119865, "f"), (119866, "g"), (119867, "h"), (119868, "i"), (119869, "j")]
noncomputable def b3c13 : List (Int × Str) := [(119870, "k"), (119871, "l"), (119872, "m"), (119873, "n"), (119874, "o"), (119875, "p"), (119876, "q"), (119877, "r"), (119878, "s"), (119879, "t"), (119880, "u"), (119881, "v"), (119882, "w"), (119883, "x"), (119884, "y"), (119885, "z"), (119912, "a")]
noncomputable def b3c14 : List (Int × Str) := [(119913, "b"), (119914, "c"), (119915, "d"), (119916, "e"), (119917, "f"), (119918, "g"), (119919, "h"), (119920, "i"), (119921, "j"), (119922, "k"), (119923, "l"), (119924, "m"), (119925, "n"), (119926, "o"), (119927, "p"), (119928, "q"), (119929, "r")]
noncomputable def b3c15 : List (Int × Str) := [(119930, "s"), (119931, "t"), (119932, "u"), (119933, "v"), (119934, "w"), (119935, "x"), (119936, "y"), (119937, "z"), (119964, "a"), (119966, "c"), (119967, "d"), (119970, "g"), (119973, "j"), (119974, "k"), (119977, "n"), (119978, "o"), (119979, "p")]
noncomputable def b3c16 : List (Int × Str) := [(119980, "q"), (119982, "s"), (119983, "t"), (119984, "u"), (119985, "v"), (119986, "w"), (119987, "x"), (119988, "y"), (119989, "z"), (120016, "a"), (120017, "b"), (120018, "c"), (120019, "d"), (120020, "e"), (120021, "f"), (120022, "g"), (120023, "h")]
noncomputable def b3c17 : List (Int × Str) := [(120024, "i"), (120025, "j"), (120026, "k"), (120027, "l"), (120028, "m"), (120029, "n"), (120030, "o"), (120031, "p"), (120032, "q"), (120033, "r"), (120034, "s"), (120035, "t"), (120036, "u"), (120037, "v"), (120038, "w"), (120039, "x"), (120040, "y")]
noncomputable def b3c18 : List (Int × Str) := [(120041, "z"), (120068, "a"), (120069, "b"), (120071, "d"), (120072, "e"), (120073, "f"), (120074, "g"), (120077, "j"), (120078, "k"), (120079, "l"), (120080, "m"), (120081, "n"), (120082, "o"), (120083, "p"), (120084, "q"), (120086, "s"), (120087, "t")]
noncomputable def b3c19 : List (Int × Str) := [(120088, "u"), (120089, "v"), (120090, "w"), (120091, "x"), (120092, "y"), (120120, "a"), (120121, "b"), (120123, "d"), (120124, "e"), (120125, "f"), (120126, "g"), (120128, "i"), (120129, "j"), (120130, "k"), (120131, "l"), (120132, "m"), (120134, "o")]
noncomputable def b3c20 : List (Int × Str) := [(120138, "s"), (120139, "t"), (120140, "u"), (120141, "v"), (120142, "w"), (120143, "x"), (120144, "y"), (120172, "a"), (120173, "b"), (120174, "c"), (120175, "d"), (120176, "e"), (120177, "f"), (120178, "g"), (120179, "h"), (120180, "i"), (120181, "j")]
noncomputable def b3c21 : List (Int × Str) := [(120182, "k"), (120183, "l"), (120184, "m"), (120185, "n"), (120186, "o"), (120187, "p"), (120188, "q"), (120189, "r"), (120190, "s"), (120191, "t"), (120192, "u"), (120193, "v"), (120194, "w"), (120195, "x"), (120196, "y"), (120197, "z"), (120224, "a")]
noncomputable def b3c22 : List (Int × Str) := [(120225, "b"), (120226, "c"), (120227, "d"), (120228, "e"), (120229, "f"), (120230, "g"), (120231, "h"), (120232, "i"), (120233, "j"), (120234, "k"), (120235, "l"), (120236, "m"), (120237, "n"), (120238, "o"), (120239, "p"), (120240, "q"), (120241, "r")]
noncomputable def b3c23 : List (Int × Str) := [(120242, "s"), (120243, "t"), (120244, "u"), (120245, "v"), (120246, "w"), (120247, "x"), (120248, "y"), (120249, "z"), (120276, "a"), (120277, "b"), (120278, "c"), (120279, "d"), (120280, "e"), (120281, "f"), (120282, "g"), (120283, "h"), (120284, "i")]
noncomputable def b3c24 : List (Int × Str) := [(120285, "j"), (120286, "k"), (120287, "l"), (120288, "m"), (120289, "n"), (120290, "o"), (120291, "p"), (120292, "q"), (120293, "r"), (120294, "s"), (120295, "t"), (120296, "u"), (120297, "v"), (120298, "w"), (120299, "x"), (120300, "y"), (120301, "z")]
noncomputable def b3c25 : List (Int × Str) := [(120328, "a"), (120329, "b"), (120330, "c"), (120331, "d"), (120332, "e"), (120333, "f"), (120334, "g"), (120335, "h"), (120336, "i"), (120337, "j"), (120338, "k"), (120339, "l"), (120340, "m"), (120341, "n"), (120342, "o"), (120343, "p"), (120344, "q")]
noncomputable def b3c26 : List (Int × Str) := [(120345, "r"), (120346, "s"), (120347, "t"), (120348, "u"), (120349, "v"), (120350, "w"), (120351, "x"), (120352, "y"), (120353, "z"), (120380, "a"), (120381, "b"), (120382, "c"), (120383, "d"), (120384, "e"), (120385, "f"), (120386, "g"), (120387, "h")]
noncomputable def b3c27 : List (Int × Str) := [(120388, "i"), (120389, "j"), (120390, "k"), (120391, "l"), (120392, "m"), (120393, "n"), (120394, "o"), (120395, "p"), (120396, "q"), (120397, "r"), (120398, "s"), (120399, "t"), (120400, "u"), (120401, "v"), (120402, "w"), (120403, "x"), (120404, "y")]
noncomputable def b3c28 : List (Int × Str) := [(120405, "z"), (120432, "a"), (120433, "b"), (120434, "c"), (120435, "d"), (120436, "e"), (120437, "f"), (120438, "g"), (120439, "h"), (120440, "i"), (120441, "j"), (120442, "k"), (120443, "l"), (120444, "m"), (120445, "n"), (120446, "o"), (120447, "p")]
noncomputable def b3c29 : List (Int × Str) := [(120448, "q"), (120449, "r"), (120450, "s"), (120451, "t"), (120452, "u"), (120453, "v"), (120454, "w"), (120455, "x"), (120456, "y"), (120457, "z"), (120488, "\u03b1"), (120489, "\u03b2"), (120490, "\u03b3"), (120491, "\u03b4"), (120492, "\u03b5"), (120493, "\u03b6"), (120494, "\u03b7")]
noncomputable def b3c30 : List (Int × Str) := [(120495, "\u03b8"), (120496, "\u03b9"), (120497, "\u03ba"), (120498, "\u03bb"), (120499, "\u03bc"), (120500, "\u03bd"), (120501, "\u03be"), (120502, "\u03bf"), (120503, "\u03c0"), (120504, "\u03c1"), (120505, "\u03b8"), (120506, "\u03c3"), (120507, "\u03c4"), (120508, "\u03c5"), (120509, "\u03c6"), (120510, "\u03c7"), (120511, "\u03c8")]
noncomputable def b3c31 : List (Int × Str) := [(120512, "\u03c9"), (120531, "\u03c3"), (120546, "\u03b1"), (120547, "\u03b2"), (120548, "\u03b3"), (120549, "\u03b4"), (120550, "\u03b5"), (120551, "\u03b6"), (120552, "\u03b7"), (120553, "\u03b8"), (120554, "\u03b9"), (120555, "\u03ba"), (120556, "\u03bb"), (120557, "\u03bc"), (120558, "\u03bd"), (120559, "\u03be"), (120560, "\u03bf")]
noncomputable def b3c32 : List (Int × Str) := [(120561, "\u03c0"), (120562, "\u03c1"), (120563, "\u03b8"), (120564, "\u03c3"), (120565, "\u03c4"), (120566, "\u03c5"), (120567, "\u03c6"), (120568, "\u03c7"), (120569, "\u03c8"), (120570, "\u03c9"), (120589, "\u03c3"), (120604, "\u03b1"), (120605, "\u03b2"), (120606, "\u03b3"), (120607, "\u03b4"), (120608, "\u03b5"), (120609, "\u03b6")]
noncomputable def b3c33 : List (Int × Str) := [(120610, "\u03b7"), (120611, "\u03b8"), (120612, "\u03b9"), (120613, "\u03ba"), (120614, "\u03bb"), (120615, "\u03bc"), (120616, "\u03bd"), (120617, "\u03be"), (120618, "\u03bf"), (120619, "\u03c0"), (120620, "\u03c1"), (120621, "\u03b8"), (120622, "\u03c3"), (120623, "\u03c4"), (120624, "\u03c5"), (120625, "\u03c6"), (120626, "\u03c7")]
noncomputable def b3c34 : List (Int × Str) := [(120627, "\u03c8"), (120628, "\u03c9"), (120647, "\u03c3"), (120662, "\u03b1"), (120663, "\u03b2"), (120664, "\u03b3"), (120665, "\u03b4"), (120666, "\u03b5"), (120667, "\u03b6"), (120668, "\u03b7"), (120669, "\u03b8"), (120670, "\u03b9"), (120671, "\u03ba"), (120672, "\u03bb"), (120673, "\u03bc"), (120674, "\u03bd"), (120675, "\u03be")]
noncomputable def b3c35 : List (Int × Str) := [(120676, "\u03bf"), (120677, "\u03c0"), (120678, "\u03c1"), (120679, "\u03b8"), (120680, "\u03c3"), (120681, "\u03c4"), (120682, "\u03c5"), (120683, "\u03c6"), (120684, "\u03c7"), (120685, "\u03c8"), (120686, "\u03c9"), (120705, "\u03c3"), (120720, "\u03b1"), (120721, "\u03b2"), (120722, "\u03b3"), (120723, "\u03b4"), (120724, "\u03b5")]
noncomputable def b3c36 : List (Int × Str) := [(120725, "\u03b6"), (120726, "\u03b7"), (120727, "\u03b8"), (120728, "\u03b9"), (120729, "\u03ba"), (120730, "\u03bb"), (120731, "\u03bc"), (120732, "\u03bd"), (120733, "\u03be"), (120734, "\u03bf"), (120735, "\u03c0"), (120736, "\u03c1"), (120737, "\u03b8"), (120738, "\u03c3"), (120739, "\u03c4"), (120740, "\u03c5"), (120741, "\u03c6")]
noncomputable def b3Cs : List (List (Int × Str)) := [b3c0, b3c1, b3c2, b3c3, b3c4, b3c5, b3c6, b3c7, b3c8, b3c9, b3c10, b3c11, b3c12, b3c13, b3c14, b3c15, b3c16, b3c17, b3c18, b3c19, b3c20, b3c21, b3c22, b3c23, b3c24, b3c25, b3c26, b3c27, b3c28, b3c29, b3c30, b3c31, b3c32, b3c33, b3c34, b3c35, b3c36]
noncomputable def b3C : List (Int × Str) := [(120742, "\u03c7"), (120743, "\u03c8"), (120744, "\u03c9"), (120763, "\u03c3")]
noncomputable def b3E : List DictEntry := entsOf 342 (b3C1 :: b3Cs) ++ ent2 (342 + 51 * (b3Cs.length + 1)) b3C
noncomputable def b3Objs : List Obj := dO b3E (17 * (b3Cs.length + 1) + b3C.length) :: (subsOf (342 + 51) b3Cs ++ [dO (ent2 (342 + 51 * (b3Cs.length + 1)) b3C) b3C.length])
noncomputable def bObj (i : Nat) : Obj := b3Objs.getD i default
noncomputable def hLife : Life := { registered := [], finalised := [], alive := [], known := 0, ids := [], orphanDicts := [], counting := false, cnt := (Array.mk []), zero := [], soft := 0, below := false, collecting := false, loading := false, debug := 0, thresholds := [2000, 10, 10], woke := false, asked := 0, gcEnabled := true, old := [], middle := [], young := 0, intoMiddle := false }
noncomputable def hPos : Pos := ⟨0, 0, 0, 0⟩
noncomputable def hCode : Value := (.ref 13)
noncomputable def hAnn : Option Value := (some (.ref 6))
noncomputable def b3Lo : Nat := 86
noncomputable def b3Hi : Nat := 125
noncomputable def o0x0 (P : Params) : Obj := ⟨(.type "dict"), none, (.dict (Array.mk [⟨(PyData.keyHash P "__name__"), (.str "__name__" 1), (.str "builtins" 160)⟩, ⟨(PyData.keyHash P "__doc__"), (.str "__doc__" 2), (.builtin "builtins.__doc__:str#opaque")⟩, ⟨(PyData.keyHash P "__package__"), (.str "__package__" 3), (.builtin "builtins.__package__:str#opaque")⟩, ⟨(PyData.keyHash P "__loader__"), (.str "__loader__" 4), (.builtin "builtins.__loader__:shared#opaque")⟩, ⟨(PyData.keyHash P "__spec__"), (.str "__spec__" 5), (.builtin "builtins.__spec__#opaque")⟩, ⟨(PyData.keyHash P "__build_class__"), (.str "__build_class__" 6), (.builtin "__build_class__")⟩, ⟨(PyData.keyHash P "__import__"), (.str "__import__" 7), (.builtin "__import__")⟩, ⟨(PyData.keyHash P "abs"), (.str "abs" 8), (.builtin "abs")⟩, ⟨(PyData.keyHash P "all"), (.str "all" 9), (.builtin "all")⟩, ⟨(PyData.keyHash P "any"), (.str "any" 10), (.builtin "any")⟩, ⟨(PyData.keyHash P "ascii"), (.str "ascii" 11), (.builtin "ascii")⟩, ⟨(PyData.keyHash P "bin"), (.str "bin" 12), (.builtin "bin")⟩, ⟨(PyData.keyHash P "breakpoint"), (.str "breakpoint" 13), (.builtin "breakpoint")⟩, ⟨(PyData.keyHash P "callable"), (.str "callable" 14), (.builtin "callable")⟩, ⟨(PyData.keyHash P "chr"), (.str "chr" 15), (.builtin "chr")⟩, ⟨(PyData.keyHash P "compile"), (.str "compile" 16), (.builtin "compile")⟩, ⟨(PyData.keyHash P "delattr"), (.str "delattr" 17), (.builtin "delattr")⟩, ⟨(PyData.keyHash P "dir"), (.str "dir" 18), (.builtin "dir")⟩, ⟨(PyData.keyHash P "divmod"), (.str "divmod" 19), (.builtin "divmod")⟩, ⟨(PyData.keyHash P "eval"), (.str "eval" 20), (.builtin "eval")⟩, ⟨(PyData.keyHash P "exec"), (.str "exec" 21), (.builtin "exec")⟩, ⟨(PyData.keyHash P "format"), (.str "format" 22), (.builtin "format")⟩, ⟨(PyData.keyHash P "getattr"), (.str "getattr" 23), (.builtin "getattr")⟩, ⟨(PyData.keyHash P "globals"), (.str "globals" 24), (.builtin "globals")⟩, ⟨(PyData.keyHash P "hasattr"), (.str "hasattr" 25), (.builtin "hasattr")⟩, ⟨(PyData.keyHash P "hash"), (.str "hash" 26), (.builtin "hash")⟩, ⟨(PyData.keyHash P "hex"), (.str "hex" 27), (.builtin "hex")⟩, ⟨(PyData.keyHash P "id"), (.str "id" 28), (.builtin "id")⟩, ⟨(PyData.keyHash P "input"), (.str "input" 29), (.builtin "input")⟩, ⟨(PyData.keyHash P "isinstance"), (.str "isinstance" 30), (.builtin "isinstance")⟩, ⟨(PyData.keyHash P "issubclass"), (.str "issubclass" 31), (.builtin "issubclass")⟩, ⟨(PyData.keyHash P "iter"), (.str "iter" 32), (.builtin "iter")⟩, ⟨(PyData.keyHash P "aiter"), (.str "aiter" 33), (.builtin "aiter")⟩, ⟨(PyData.keyHash P "len"), (.str "len" 34), (.builtin "len")⟩, ⟨(PyData.keyHash P "locals"), (.str "locals" 35), (.builtin "locals")⟩, ⟨(PyData.keyHash P "max"), (.str "max" 36), (.builtin "max")⟩, ⟨(PyData.keyHash P "min"), (.str "min" 37), (.builtin "min")⟩, ⟨(PyData.keyHash P "next"), (.str "next" 38), (.builtin "next")⟩, ⟨(PyData.keyHash P "anext"), (.str "anext" 39), (.builtin "anext")⟩, ⟨(PyData.keyHash P "oct"), (.str "oct" 40), (.builtin "oct")⟩, ⟨(PyData.keyHash P "ord"), (.str "ord" 41), (.builtin "ord")⟩, ⟨(PyData.keyHash P "pow"), (.str "pow" 42), (.builtin "pow")⟩, ⟨(PyData.keyHash P "print"), (.str "print" 43), (.builtin "print")⟩, ⟨(PyData.keyHash P "repr"), (.str "repr" 44), (.builtin "repr")⟩, ⟨(PyData.keyHash P "round"), (.str "round" 45), (.builtin "round")⟩, ⟨(PyData.keyHash P "setattr"), (.str "setattr" 46), (.builtin "setattr")⟩, ⟨(PyData.keyHash P "sorted"), (.str "sorted" 47), (.builtin "sorted")⟩, ⟨(PyData.keyHash P "sum"), (.str "sum" 48), (.builtin "sum")⟩, ⟨(PyData.keyHash P "vars"), (.str "vars" 49), (.builtin "vars")⟩, ⟨(PyData.keyHash P "None"), (.str "None" 50), .none⟩, ⟨(PyData.keyHash P "Ellipsis"), (.str "Ellipsis" 51), .ellipsis⟩, ⟨(PyData.keyHash P "NotImplemented"), (.str "NotImplemented" 52), .notImplemented⟩, ⟨(PyData.keyHash P "False"), (.str "False" 53), (.bool false)⟩, ⟨(PyData.keyHash P "True"), (.str "True" 54), (.bool true)⟩, ⟨(PyData.keyHash P "bool"), (.str "bool" 55), (.type "bool")⟩, ⟨(PyData.keyHash P "memoryview"), (.str "memoryview" 56), (.type "memoryview")⟩, ⟨(PyData.keyHash P "bytearray"), (.str "bytearray" 57), (.type "bytearray")⟩, ⟨(PyData.keyHash P "bytes"), (.str "bytes" 58), (.type "bytes")⟩, ⟨(PyData.keyHash P "classmethod"), (.str "classmethod" 59), (.type "classmethod")⟩, ⟨(PyData.keyHash P "complex"), (.str "complex" 60), (.type "complex")⟩, ⟨(PyData.keyHash P "dict"), (.str "dict" 61), (.type "dict")⟩, ⟨(PyData.keyHash P "enumerate"), (.str "enumerate" 62), (.type "enumerate")⟩, ⟨(PyData.keyHash P "filter"), (.str "filter" 63), (.type "filter")⟩, ⟨(PyData.keyHash P "float"), (.str "float" 64), (.type "float")⟩, ⟨(PyData.keyHash P "frozenset"), (.str "frozenset" 65), (.type "frozenset")⟩, ⟨(PyData.keyHash P "property"), (.str "property" 66), (.type "property")⟩, ⟨(PyData.keyHash P "int"), (.str "int" 67), (.type "int")⟩, ⟨(PyData.keyHash P "list"), (.str "list" 68), (.type "list")⟩, ⟨(PyData.keyHash P "map"), (.str "map" 69), (.type "map")⟩, ⟨(PyData.keyHash P "object"), (.str "object" 70), (.type "object")⟩, ⟨(PyData.keyHash P "range"), (.str "range" 71), (.type "range")⟩, ⟨(PyData.keyHash P "reversed"), (.str "reversed" 72), (.type "reversed")⟩, ⟨(PyData.keyHash P "set"), (.str "set" 73), (.type "set")⟩, ⟨(PyData.keyHash P "slice"), (.str "slice" 74), (.type "slice")⟩, ⟨(PyData.keyHash P "staticmethod"), (.str "staticmethod" 75), (.type "staticmethod")⟩, ⟨(PyData.keyHash P "str"), (.str "str" 76), (.type "str")⟩, ⟨(PyData.keyHash P "super"), (.str "super" 77), (.type "super")⟩, ⟨(PyData.keyHash P "tuple"), (.str "tuple" 78), (.type "tuple")⟩, ⟨(PyData.keyHash P "type"), (.str "type" 79), (.type "type")⟩, ⟨(PyData.keyHash P "zip"), (.str "zip" 80), (.type "zip")⟩, ⟨(PyData.keyHash P "__debug__"), (.str "__debug__" 81), (.bool true)⟩, ⟨(PyData.keyHash P "BaseException"), (.str "BaseException" 82), (.type "BaseException")⟩, ⟨(PyData.keyHash P "BaseExceptionGroup"), (.str "BaseExceptionGroup" 83), (.type "BaseExceptionGroup")⟩, ⟨(PyData.keyHash P "Exception"), (.str "Exception" 84), (.type "Exception")⟩, ⟨(PyData.keyHash P "GeneratorExit"), (.str "GeneratorExit" 85), (.type "GeneratorExit")⟩, ⟨(PyData.keyHash P "KeyboardInterrupt"), (.str "KeyboardInterrupt" 86), (.type "KeyboardInterrupt")⟩, ⟨(PyData.keyHash P "SystemExit"), (.str "SystemExit" 87), (.type "SystemExit")⟩, ⟨(PyData.keyHash P "ArithmeticError"), (.str "ArithmeticError" 88), (.type "ArithmeticError")⟩, ⟨(PyData.keyHash P "AssertionError"), (.str "AssertionError" 89), (.type "AssertionError")⟩, ⟨(PyData.keyHash P "AttributeError"), (.str "AttributeError" 90), (.type "AttributeError")⟩, ⟨(PyData.keyHash P "BufferError"), (.str "BufferError" 91), (.type "BufferError")⟩, ⟨(PyData.keyHash P "EOFError"), (.str "EOFError" 92), (.type "EOFError")⟩, ⟨(PyData.keyHash P "ImportError"), (.str "ImportError" 93), (.type "ImportError")⟩, ⟨(PyData.keyHash P "LookupError"), (.str "LookupError" 94), (.type "LookupError")⟩, ⟨(PyData.keyHash P "MemoryError"), (.str "MemoryError" 95), (.type "MemoryError")⟩, ⟨(PyData.keyHash P "NameError"), (.str "NameError" 96), (.type "NameError")⟩, ⟨(PyData.keyHash P "OSError"), (.str "OSError" 97), (.type "OSError")⟩, ⟨(PyData.keyHash P "ReferenceError"), (.str "ReferenceError" 98), (.type "ReferenceError")⟩, ⟨(PyData.keyHash P "RuntimeError"), (.str "RuntimeError" 99), (.type "RuntimeError")⟩, ⟨(PyData.keyHash P "StopAsyncIteration"), (.str "StopAsyncIteration" 100), (.type "StopAsyncIteration")⟩, ⟨(PyData.keyHash P "StopIteration"), (.str "StopIteration" 101), (.type "StopIteration")⟩, ⟨(PyData.keyHash P "SyntaxError"), (.str "SyntaxError" 102), (.type "SyntaxError")⟩, ⟨(PyData.keyHash P "SystemError"), (.str "SystemError" 103), (.type "SystemError")⟩, ⟨(PyData.keyHash P "TypeError"), (.str "TypeError" 104), (.type "TypeError")⟩, ⟨(PyData.keyHash P "ValueError"), (.str "ValueError" 105), (.type "ValueError")⟩, ⟨(PyData.keyHash P "Warning"), (.str "Warning" 106), (.type "Warning")⟩, ⟨(PyData.keyHash P "FloatingPointError"), (.str "FloatingPointError" 107), (.type "FloatingPointError")⟩, ⟨(PyData.keyHash P "OverflowError"), (.str "OverflowError" 108), (.type "OverflowError")⟩, ⟨(PyData.keyHash P "ZeroDivisionError"), (.str "ZeroDivisionError" 109), (.type "ZeroDivisionError")⟩, ⟨(PyData.keyHash P "BytesWarning"), (.str "BytesWarning" 110), (.type "BytesWarning")⟩, ⟨(PyData.keyHash P "DeprecationWarning"), (.str "DeprecationWarning" 111), (.type "DeprecationWarning")⟩, ⟨(PyData.keyHash P "EncodingWarning"), (.str "EncodingWarning" 112), (.type "EncodingWarning")⟩, ⟨(PyData.keyHash P "FutureWarning"), (.str "FutureWarning" 113), (.type "FutureWarning")⟩, ⟨(PyData.keyHash P "ImportWarning"), (.str "ImportWarning" 114), (.type "ImportWarning")⟩, ⟨(PyData.keyHash P "PendingDeprecationWarning"), (.str "PendingDeprecationWarning" 115), (.type "PendingDeprecationWarning")⟩, ⟨(PyData.keyHash P "ResourceWarning"), (.str "ResourceWarning" 116), (.type "ResourceWarning")⟩, ⟨(PyData.keyHash P "RuntimeWarning"), (.str "RuntimeWarning" 117), (.type "RuntimeWarning")⟩, ⟨(PyData.keyHash P "SyntaxWarning"), (.str "SyntaxWarning" 118), (.type "SyntaxWarning")⟩, ⟨(PyData.keyHash P "UnicodeWarning"), (.str "UnicodeWarning" 119), (.type "UnicodeWarning")⟩, ⟨(PyData.keyHash P "UserWarning"), (.str "UserWarning" 120), (.type "UserWarning")⟩, ⟨(PyData.keyHash P "BlockingIOError"), (.str "BlockingIOError" 121), (.type "BlockingIOError")⟩, ⟨(PyData.keyHash P "ChildProcessError"), (.str "ChildProcessError" 122), (.type "ChildProcessError")⟩, ⟨(PyData.keyHash P "ConnectionError"), (.str "ConnectionError" 123), (.type "ConnectionError")⟩, ⟨(PyData.keyHash P "FileExistsError"), (.str "FileExistsError" 124), (.type "FileExistsError")⟩, ⟨(PyData.keyHash P "FileNotFoundError"), (.str "FileNotFoundError" 125), (.type "FileNotFoundError")⟩, ⟨(PyData.keyHash P "InterruptedError"), (.str "InterruptedError" 126), (.type "InterruptedError")⟩, ⟨(PyData.keyHash P "IsADirectoryError"), (.str "IsADirectoryError" 127), (.type "IsADirectoryError")⟩, ⟨(PyData.keyHash P "NotADirectoryError"), (.str "NotADirectoryError" 128), (.type "NotADirectoryError")⟩, ⟨(PyData.keyHash P "PermissionError"), (.str "PermissionError" 129), (.type "PermissionError")⟩, ⟨(PyData.keyHash P "ProcessLookupError"), (.str "ProcessLookupError" 130), (.type "ProcessLookupError")⟩, ⟨(PyData.keyHash P "TimeoutError"), (.str "TimeoutError" 131), (.type "TimeoutError")⟩, ⟨(PyData.keyHash P "IndentationError"), (.str "IndentationError" 132), (.type "IndentationError")⟩, ⟨(PyData.keyHash P "_IncompleteInputError"), (.str "_IncompleteInputError" 133), (.type "_IncompleteInputError")⟩, ⟨(PyData.keyHash P "IndexError"), (.str "IndexError" 134), (.type "IndexError")⟩, ⟨(PyData.keyHash P "KeyError"), (.str "KeyError" 135), (.type "KeyError")⟩, ⟨(PyData.keyHash P "ModuleNotFoundError"), (.str "ModuleNotFoundError" 136), (.type "ModuleNotFoundError")⟩, ⟨(PyData.keyHash P "NotImplementedError"), (.str "NotImplementedError" 137), (.type "NotImplementedError")⟩, ⟨(PyData.keyHash P "PythonFinalizationError"), (.str "PythonFinalizationError" 138), (.type "PythonFinalizationError")⟩, ⟨(PyData.keyHash P "RecursionError"), (.str "RecursionError" 139), (.type "RecursionError")⟩, ⟨(PyData.keyHash P "UnboundLocalError"), (.str "UnboundLocalError" 140), (.type "UnboundLocalError")⟩, ⟨(PyData.keyHash P "UnicodeError"), (.str "UnicodeError" 141), (.type "UnicodeError")⟩, ⟨(PyData.keyHash P "BrokenPipeError"), (.str "BrokenPipeError" 142), (.type "BrokenPipeError")⟩, ⟨(PyData.keyHash P "ConnectionAbortedError"), (.str "ConnectionAbortedError" 143), (.type "ConnectionAbortedError")⟩, ⟨(PyData.keyHash P "ConnectionRefusedError"), (.str "ConnectionRefusedError" 144), (.type "ConnectionRefusedError")⟩, ⟨(PyData.keyHash P "ConnectionResetError"), (.str "ConnectionResetError" 145), (.type "ConnectionResetError")⟩, ⟨(PyData.keyHash P "TabError"), (.str "TabError" 146), (.type "TabError")⟩, ⟨(PyData.keyHash P "UnicodeDecodeError"), (.str "UnicodeDecodeError" 147), (.type "UnicodeDecodeError")⟩, ⟨(PyData.keyHash P "UnicodeEncodeError"), (.str "UnicodeEncodeError" 148), (.type "UnicodeEncodeError")⟩, ⟨(PyData.keyHash P "UnicodeTranslateError"), (.str "UnicodeTranslateError" 149), (.type "UnicodeTranslateError")⟩, ⟨(PyData.keyHash P "ExceptionGroup"), (.str "ExceptionGroup" 150), (.type "ExceptionGroup")⟩, ⟨(PyData.keyHash P "EnvironmentError"), (.str "EnvironmentError" 151), (.type "OSError")⟩, ⟨(PyData.keyHash P "IOError"), (.str "IOError" 152), (.type "OSError")⟩, ⟨(PyData.keyHash P "open"), (.str "open" 153), (.builtin "open")⟩, ⟨(PyData.keyHash P "quit"), (.str "quit" 154), (.builtin "builtins.quit#opaque")⟩, ⟨(PyData.keyHash P "exit"), (.str "exit" 155), (.builtin "builtins.exit#opaque")⟩, ⟨(PyData.keyHash P "copyright"), (.str "copyright" 156), (.builtin "builtins.copyright#opaque")⟩, ⟨(PyData.keyHash P "credits"), (.str "credits" 157), (.builtin "builtins.credits#opaque")⟩, ⟨(PyData.keyHash P "license"), (.str "license" 158), (.builtin "builtins.license#opaque")⟩, ⟨(PyData.keyHash P "help"), (.str "help" 159), (.builtin "builtins.help#opaque")⟩]) 159), (Array.mk [])⟩
noncomputable def o0x1 (P : Params) : Obj := ⟨(.type "dict"), none, (.dict (Array.mk [⟨(PyData.keyHash P "builtins"), (.str "builtins" 162), (.ref 4)⟩, ⟨(PyData.keyHash P "__main__"), (.str "__main__" 163), (.ref 5)⟩]) 2), (Array.mk [])⟩
noncomputable def o0x2 (P : Params) : Obj := ⟨.none, none, (.dict (Array.mk []) 0), (Array.mk [])⟩
noncomputable def o0x3 (P : Params) : Obj := ⟨(.type "dict"), none, (.dict (Array.mk [⟨(PyData.keyHash P "__name__"), (.str "__name__" 165), (.str "__main__" 164)⟩, ⟨(PyData.keyHash P "__doc__"), (.str "__doc__" 166), .none⟩, ⟨(PyData.keyHash P "__package__"), (.str "__package__" 167), .none⟩, ⟨(PyData.keyHash P "__loader__"), (.str "__loader__" 168), (.builtin "__main__.__loader__#opaque")⟩, ⟨(PyData.keyHash P "__spec__"), (.str "__spec__" 169), .none⟩, ⟨(PyData.keyHash P "__annotations__"), (.str "__annotations__" 170), (.ref 6)⟩, ⟨(PyData.keyHash P "__builtins__"), (.str "__builtins__" 171), (.ref 4)⟩, ⟨(PyData.keyHash P "__file__"), (.str "__file__" 173), (.str "/claim/cut.py" 172)⟩, ⟨(PyData.keyHash P "__cached__"), (.str "__cached__" 174), .none⟩]) 9), (Array.mk [])⟩
noncomputable def o0x4 (P : Params) : Obj := ⟨(.type "module"), (some 0), .plain, (Array.mk [])⟩
noncomputable def o0x5 (P : Params) : Obj := ⟨(.type "module"), (some 3), .plain, (Array.mk [])⟩
noncomputable def o0x6 (P : Params) : Obj := ⟨(.type "dict"), none, (.dict (Array.mk []) 0), (Array.mk [])⟩
noncomputable def o0x7 (P : Params) : Obj := ⟨(.type "tuple"), none, (.seq (Array.mk []) 0), (Array.mk [])⟩
noncomputable def o0x8 (P : Params) : Obj := ⟨.none, none, (.fields (Array.mk [])), (Array.mk [])⟩
noncomputable def o0x9 (P : Params) : Obj := ⟨(.type "code"), none, (.fields (Array.mk [(.str "<module>" 176), (.str "<module>" 177), (.str "/claim/cut.py" 178), (.int 1 0), (.int 0 0), (.int 0 0), (.int 0 0), (.int 0 0), (.ref 7), (.bool false), (.int 175 0), (.ref 8), .none, .none, .none, .none, (.int 179 0), (.int 1 0), (.str "/claim/cut.py" 180)])), (Array.mk [])⟩
noncomputable def o0x10 (P : Params) : Obj := ⟨(.type "frame"), none, .plain, (Array.mk [(some (.ref 9)), (some (.ref 3)), (some (.ref 3)), none, (some (.str "__main__" 164)), none, (some (.ref 0))])⟩
noncomputable def o0x11 (P : Params) : Obj := ⟨(.type "tuple"), none, (.seq (Array.mk []) 0), (Array.mk [])⟩
noncomputable def o0x12 (P : Params) : Obj := ⟨.none, none, (.fields (Array.mk [])), (Array.mk [])⟩
noncomputable def o0x13 (P : Params) : Obj := ⟨(.type "code"), none, (.fields (Array.mk [(.str "<module>" 182), (.str "<module>" 183), (.str "/claim/cut.py" 184), (.int 1 0), (.int 0 0), (.int 0 0), (.int 0 0), (.int 0 0), (.ref 11), (.bool false), (.int 181 0), (.ref 12), .none, .none, .none, .none, (.int 185 0), (.int 1 0), (.str "/claim/cut.py" 186)])), (Array.mk [])⟩
noncomputable def o0x14 (P : Params) : Obj := ⟨(.type "frame"), none, .plain, (Array.mk [(some (.ref 13)), (some (.ref 3)), (some (.ref 3)), none, (some (.str "__main__" 164)), none, (some (.ref 0))])⟩
noncomputable def tr0 (P : Params) : BT := (.node (o0x0 P) (.node (o0x1 P) (.node (o0x3 P) (.node (o0x7 P) .nil .nil) (.node (o0x11 P) .nil .nil)) (.node (o0x5 P) (.node (o0x9 P) .nil .nil) (.node (o0x13 P) .nil .nil))) (.node (o0x2 P) (.node (o0x4 P) (.node (o0x8 P) .nil .nil) (.node (o0x12 P) .nil .nil)) (.node (o0x6 P) (.node (o0x10 P) .nil .nil) (.node (o0x14 P) .nil .nil))))
noncomputable def st0 (w : World) (os : OsState) : SharedT := ⟨tr0 w.params, 15, hLife, Array.mk [], ⟨0, 0, 0, 0⟩, 187, os⟩
noncomputable def o1x2 (P : Params) : Obj := ⟨.none, none, (.dict (Array.mk [⟨(PyData.keyHash P "type.__subclasses__.Exception.0"), (.str "type.__subclasses__.Exception.0" 221), (.int 31 0)⟩, ⟨(PyData.keyHash P "type.__subclasses__.Exception.n"), (.str "type.__subclasses__.Exception.n" 222), (.int 1 0)⟩]) 2), (Array.mk [])⟩
noncomputable def o1x3 (P : Params) : Obj := ⟨(.type "dict"), none, (.dict (Array.mk [⟨(PyData.keyHash P "__name__"), (.str "__name__" 165), (.str "cpy313.stringprep" 273)⟩, ⟨(PyData.keyHash P "__doc__"), (.str "__doc__" 166), .none⟩, ⟨(PyData.keyHash P "__package__"), (.str "__package__" 167), .none⟩, ⟨(PyData.keyHash P "__loader__"), (.str "__loader__" 168), (.builtin "__main__.__loader__#opaque")⟩, ⟨(PyData.keyHash P "__spec__"), (.str "__spec__" 169), .none⟩, ⟨(PyData.keyHash P "__annotations__"), (.str "__annotations__" 170), (.ref 6)⟩, ⟨(PyData.keyHash P "__builtins__"), (.str "__builtins__" 171), (.ref 4)⟩, ⟨(PyData.keyHash P "__file__"), (.str "__file__" 173), (.str "/claim/cut.py" 172)⟩, ⟨(PyData.keyHash P "__cached__"), (.str "__cached__" 174), .none⟩, ⟨(PyData.keyHash P "ELLIPSIS_MARKER"), (.str "ELLIPSIS_MARKER" 190), (.str "..." 189)⟩, ⟨(PyData.keyHash P "_ellipsis_match"), (.str "_ellipsis_match" 202), (.ref 21)⟩, ⟨(PyData.keyHash P "Error"), (.str "Error" 224), (.ref 31)⟩, ⟨(PyData.keyHash P "error_reply"), (.str "error_reply" 240), (.ref 44)⟩, ⟨(PyData.keyHash P "parse257"), (.str "parse257" 251), (.ref 53)⟩, ⟨(PyData.keyHash P "_strcoll"), (.str "_strcoll" 261), (.ref 60)⟩, ⟨(PyData.keyHash P "CHAR_MAX"), (.str "CHAR_MAX" 263), (.int 127 262)⟩, ⟨(PyData.keyHash P "_grouping_intervals"), (.str "_grouping_intervals" 272), (.ref 67)⟩]) 17), (Array.mk [])⟩
noncomputable def o1x12 (P : Params) : Obj := ⟨.none, none, (.fields (Array.mk [(.int 3 0), (.int 0 0), (.ref 20), (.int 32 0), (.int 0 0), (.ref 27), (.int 34 0), (.int 0 0), (.ref 40), (.int 36 0), (.int 0 0), (.ref 52), (.int 54 0), (.int 0 0), (.ref 59), (.int 57 0), (.int 0 0), (.ref 66)])), (Array.mk [])⟩
noncomputable def o1x15 (P : Params) : Obj := ⟨(.type "tuple"), none, (.seq (Array.mk []) 0), (Array.mk [])⟩
noncomputable def o1x16 (P : Params) : Obj := ⟨.none, none, (.fields (Array.mk [])), (Array.mk [])⟩
noncomputable def o1x17 (P : Params) : Obj := ⟨(.type "tuple"), none, (.seq (Array.mk [(.str "want" 194), (.str "got" 195), (.str "ws" 196), (.str "startpos" 197), (.str "endpos" 198), (.str "w" 199)]) 0), (Array.mk [])⟩
noncomputable def o1x18 (P : Params) : Obj := ⟨(.type "tuple"), none, (.seq (Array.mk []) 0), (Array.mk [])⟩
noncomputable def o1x19 (P : Params) : Obj := ⟨.none, none, (.func { name := "_ellipsis_match", qualname := "_ellipsis_match", params := argsAt 2, body := .stmts (bodyAt 2), scope := scAt 2, globals := 0, closure := [], defaults := .none, kwdefaults := .none, doc := .none, pyModule := .none, annotations := none, code := .none, closureTuple := .none, builtins := 0 }), (Array.mk [])⟩
noncomputable def o1x20 (P : Params) : Obj := ⟨(.type "code"), none, (.fields (Array.mk [(.str "_ellipsis_match" 191), (.str "_ellipsis_match" 192), (.str "/claim/cut.py" 193), (.int 3 0), (.int 2 0), (.int 0 0), (.int 0 0), (.int 3 0), (.ref 15), (.bool true), (.int 181 0), (.ref 16), .none, (.ref 17), (.ref 18), (.ref 19), (.int 200 0), (.int 3 0), (.str "/claim/cut.py" 201)])), (Array.mk [])⟩
noncomputable def o1x21 (P : Params) : Obj := ⟨(.type "function"), none, (.func { name := "_ellipsis_match", qualname := "_ellipsis_match", params := argsAt 2, body := .stmts (bodyAt 2), scope := scAt 2, globals := 3, closure := [], defaults := .none, kwdefaults := .none, doc := .none, pyModule := (.str "cpy313.doctest" 187), annotations := none, code := (.ref 20), closureTuple := .none, builtins := 0 }), (Array.mk [])⟩
noncomputable def o1x22 (P : Params) : Obj := ⟨(.type "tuple"), none, (.seq (Array.mk [(.type "Exception")]) 0), (Array.mk [])⟩
noncomputable def o1x23 (P : Params) : Obj := ⟨(.type "builtin_function_or_method"), none, (.fields (Array.mk [(.builtin "type.__prepare__"), (.type "type")])), (Array.mk [])⟩
noncomputable def o1x24 (P : Params) : Obj := ⟨(.type "dict"), none, (.dict (Array.mk [⟨(PyData.keyHash P "__module__"), (.str "__module__" 212), (.str "cpy313.ftplib" 203)⟩, ⟨(PyData.keyHash P "__qualname__"), (.str "__qualname__" 214), (.str "Error" 213)⟩, ⟨(PyData.keyHash P "__firstlineno__"), (.str "__firstlineno__" 216), (.int 32 215)⟩, ⟨(PyData.keyHash P "__static_attributes__"), (.str "__static_attributes__" 217), (.ref 29)⟩]) 4), (Array.mk [])⟩
noncomputable def o1x25 (P : Params) : Obj := ⟨(.type "tuple"), none, (.seq (Array.mk []) 0), (Array.mk [])⟩
noncomputable def o1x26 (P : Params) : Obj := ⟨.none, none, (.fields (Array.mk [])), (Array.mk [])⟩
noncomputable def o1x27 (P : Params) : Obj := ⟨(.type "code"), none, (.fields (Array.mk [(.str "Error" 207), (.str "Error" 208), (.str "/claim/cut.py" 209), (.int 32 0), (.int 0 0), (.int 0 0), (.int 0 0), (.int 0 0), (.ref 25), (.bool false), (.int 181 0), (.ref 26), .none, .none, .none, .none, (.int 210 0), (.int 32 0), (.str "/claim/cut.py" 211)])), (Array.mk [])⟩
noncomputable def o1x28 (P : Params) : Obj := ⟨(.type "frame"), none, .plain, (Array.mk [(some (.ref 27)), (some (.ref 3)), (some (.ref 24)), none, (some (.str "cpy313.ftplib" 203)), none, (some (.ref 0))])⟩
noncomputable def o1x29 (P : Params) : Obj := ⟨(.type "tuple"), none, (.seq (Array.mk []) 0), (Array.mk [])⟩
noncomputable def o1x30 (P : Params) : Obj := ⟨(.type "dict"), none, (.dict (Array.mk [⟨(PyData.keyHash P "__module__"), (.str "__module__" 212), (.str "cpy313.ftplib" 203)⟩, ⟨(PyData.keyHash P "__firstlineno__"), (.str "__firstlineno__" 216), (.int 32 215)⟩, ⟨(PyData.keyHash P "__static_attributes__"), (.str "__static_attributes__" 217), (.ref 29)⟩, ⟨(PyData.keyHash P "__weakref__"), (.str "__weakref__" 219), (.ref 32)⟩, ⟨(PyData.keyHash P "__doc__"), (.str "__doc__" 220), .none⟩]) 3), (Array.mk [])⟩
noncomputable def o1x31 (P : Params) : Obj := ⟨(.type "type"), none, (.cls { name := "Error", bases := [(.type "Exception")], mro := [(.ref 31), (.type "Exception"), (.type "BaseException"), (.type "object")], ns := 30, qualname := "Error", hasDict := true, slotNames := [], subclasses := [(.ref 44)], abstract := false, collection := none, hasDel := false }), (Array.mk [(some (.ref 22)), none, (some (.str "Error" 205)), (some (.str "Error" 213)), (some (.builtin "Exception.__new__")), (some (.bool true))])⟩
noncomputable def o1x32 (P : Params) : Obj := ⟨(.type "getset_descriptor"), none, (.fields (Array.mk [(.str "__weakref__" 218), (.ref 31), (.builtin "ExceptionGroup.__weakref__"), .none])), (Array.mk [])⟩
noncomputable def o1x33 (P : Params) : Obj := ⟨(.type "super"), none, (.fields (Array.mk [(.ref 31), (.ref 31), (.ref 31)])), (Array.mk [])⟩
noncomputable def o1x34 (P : Params) : Obj := ⟨(.type "builtin_function_or_method"), none, (.fields (Array.mk [(.builtin "object.__init_subclass__"), (.ref 31)])), (Array.mk [])⟩
noncomputable def o1x35 (P : Params) : Obj := ⟨(.type "tuple"), none, (.seq (Array.mk [(.ref 31)]) 0), (Array.mk [])⟩
noncomputable def o1x36 (P : Params) : Obj := ⟨(.type "builtin_function_or_method"), none, (.fields (Array.mk [(.builtin "type.__prepare__"), (.type "type")])), (Array.mk [])⟩
noncomputable def o1x37 (P : Params) : Obj := ⟨(.type "dict"), none, (.dict (Array.mk [⟨(PyData.keyHash P "__module__"), (.str "__module__" 232), (.str "cpy313.ftplib" 203)⟩, ⟨(PyData.keyHash P "__qualname__"), (.str "__qualname__" 234), (.str "error_reply" 233)⟩, ⟨(PyData.keyHash P "__firstlineno__"), (.str "__firstlineno__" 236), (.int 34 235)⟩, ⟨(PyData.keyHash P "__static_attributes__"), (.str "__static_attributes__" 237), (.ref 42)⟩]) 4), (Array.mk [])⟩
noncomputable def o1x38 (P : Params) : Obj := ⟨(.type "tuple"), none, (.seq (Array.mk []) 0), (Array.mk [])⟩
noncomputable def o1x39 (P : Params) : Obj := ⟨.none, none, (.fields (Array.mk [])), (Array.mk [])⟩
noncomputable def o1x40 (P : Params) : Obj := ⟨(.type "code"), none, (.fields (Array.mk [(.str "error_reply" 227), (.str "error_reply" 228), (.str "/claim/cut.py" 229), (.int 34 0), (.int 0 0), (.int 0 0), (.int 0 0), (.int 0 0), (.ref 38), (.bool false), (.int 181 0), (.ref 39), .none, .none, .none, .none, (.int 230 0), (.int 34 0), (.str "/claim/cut.py" 231)])), (Array.mk [])⟩
noncomputable def o1x41 (P : Params) : Obj := ⟨(.type "frame"), none, .plain, (Array.mk [(some (.ref 40)), (some (.ref 3)), (some (.ref 37)), none, (some (.str "cpy313.ftplib" 203)), none, (some (.ref 0))])⟩
noncomputable def o1x42 (P : Params) : Obj := ⟨(.type "tuple"), none, (.seq (Array.mk []) 0), (Array.mk [])⟩
noncomputable def o1x43 (P : Params) : Obj := ⟨(.type "dict"), none, (.dict (Array.mk [⟨(PyData.keyHash P "__module__"), (.str "__module__" 232), (.str "cpy313.ftplib" 203)⟩, ⟨(PyData.keyHash P "__firstlineno__"), (.str "__firstlineno__" 236), (.int 34 235)⟩, ⟨(PyData.keyHash P "__static_attributes__"), (.str "__static_attributes__" 237), (.ref 42)⟩, ⟨(PyData.keyHash P "__doc__"), (.str "__doc__" 238), .none⟩]) 2), (Array.mk [])⟩
noncomputable def o1x44 (P : Params) : Obj := ⟨(.type "type"), none, (.cls { name := "error_reply", bases := [(.ref 31)], mro := [(.ref 44), (.ref 31), (.type "Exception"), (.type "BaseException"), (.type "object")], ns := 43, qualname := "error_reply", hasDict := true, slotNames := [], subclasses := [], abstract := false, collection := none, hasDel := false }), (Array.mk [(some (.ref 35)), none, (some (.str "error_reply" 225)), (some (.str "error_reply" 233)), (some (.builtin "Exception.__new__")), (some (.bool true))])⟩
noncomputable def o1x45 (P : Params) : Obj := ⟨(.type "super"), none, (.fields (Array.mk [(.ref 44), (.ref 44), (.ref 44)])), (Array.mk [])⟩
noncomputable def o1x46 (P : Params) : Obj := ⟨(.type "builtin_function_or_method"), none, (.fields (Array.mk [(.builtin "object.__init_subclass__"), (.ref 44)])), (Array.mk [])⟩
noncomputable def o1x47 (P : Params) : Obj := ⟨(.type "tuple"), none, (.seq (Array.mk []) 0), (Array.mk [])⟩
noncomputable def o1x48 (P : Params) : Obj := ⟨.none, none, (.fields (Array.mk [])), (Array.mk [])⟩
noncomputable def o1x49 (P : Params) : Obj := ⟨(.type "tuple"), none, (.seq (Array.mk [(.str "resp" 244), (.str "dirname" 245), (.str "i" 246), (.str "n" 247), (.str "c" 248)]) 0), (Array.mk [])⟩
noncomputable def o1x50 (P : Params) : Obj := ⟨(.type "tuple"), none, (.seq (Array.mk []) 0), (Array.mk [])⟩
noncomputable def o1x51 (P : Params) : Obj := ⟨.none, none, (.func { name := "parse257", qualname := "parse257", params := argsAt 6, body := .stmts (bodyAt 6), scope := scAt 6, globals := 0, closure := [], defaults := .none, kwdefaults := .none, doc := .none, pyModule := .none, annotations := none, code := .none, closureTuple := .none, builtins := 0 }), (Array.mk [])⟩
noncomputable def o1x52 (P : Params) : Obj := ⟨(.type "code"), none, (.fields (Array.mk [(.str "parse257" 241), (.str "parse257" 242), (.str "/claim/cut.py" 243), (.int 36 0), (.int 1 0), (.int 0 0), (.int 0 0), (.int 3 0), (.ref 47), (.bool true), (.int 181 0), (.ref 48), .none, (.ref 49), (.ref 50), (.ref 51), (.int 249 0), (.int 36 0), (.str "/claim/cut.py" 250)])), (Array.mk [])⟩
noncomputable def o1x53 (P : Params) : Obj := ⟨(.type "function"), none, (.func { name := "parse257", qualname := "parse257", params := argsAt 6, body := .stmts (bodyAt 6), scope := scAt 6, globals := 3, closure := [], defaults := .none, kwdefaults := .none, doc := .none, pyModule := (.str "cpy313.ftplib" 203), annotations := none, code := (.ref 52), closureTuple := .none, builtins := 0 }), (Array.mk [])⟩
noncomputable def o1x54 (P : Params) : Obj := ⟨(.type "tuple"), none, (.seq (Array.mk []) 0), (Array.mk [])⟩
noncomputable def o1x55 (P : Params) : Obj := ⟨.none, none, (.fields (Array.mk [])), (Array.mk [])⟩
noncomputable def o1x56 (P : Params) : Obj := ⟨(.type "tuple"), none, (.seq (Array.mk [(.str "a" 257), (.str "b" 258)]) 0), (Array.mk [])⟩
noncomputable def o1x57 (P : Params) : Obj := ⟨(.type "tuple"), none, (.seq (Array.mk []) 0), (Array.mk [])⟩
noncomputable def o1x58 (P : Params) : Obj := ⟨.none, none, (.func { name := "_strcoll", qualname := "_strcoll", params := argsAt 8, body := .stmts (bodyAt 8), scope := scAt 8, globals := 0, closure := [], defaults := .none, kwdefaults := .none, doc := .none, pyModule := .none, annotations := none, code := .none, closureTuple := .none, builtins := 0 }), (Array.mk [])⟩
noncomputable def o1x59 (P : Params) : Obj := ⟨(.type "code"), none, (.fields (Array.mk [(.str "_strcoll" 254), (.str "_strcoll" 255), (.str "/claim/cut.py" 256), (.int 54 0), (.int 2 0), (.int 0 0), (.int 0 0), (.int 3 0), (.ref 54), (.bool true), (.int 181 0), (.ref 55), .none, (.ref 56), (.ref 57), (.ref 58), (.int 259 0), (.int 54 0), (.str "/claim/cut.py" 260)])), (Array.mk [])⟩
noncomputable def o1x60 (P : Params) : Obj := ⟨(.type "function"), none, (.func { name := "_strcoll", qualname := "_strcoll", params := argsAt 8, body := .stmts (bodyAt 8), scope := scAt 8, globals := 3, closure := [], defaults := .none, kwdefaults := .none, doc := .none, pyModule := (.str "cpy313.locale" 252), annotations := none, code := (.ref 59), closureTuple := .none, builtins := 0 }), (Array.mk [])⟩
noncomputable def o1x61 (P : Params) : Obj := ⟨(.type "tuple"), none, (.seq (Array.mk []) 0), (Array.mk [])⟩
noncomputable def o1x62 (P : Params) : Obj := ⟨.none, none, (.fields (Array.mk [])), (Array.mk [])⟩
noncomputable def o1x63 (P : Params) : Obj := ⟨(.type "tuple"), none, (.seq (Array.mk [(.str "grouping" 267), (.str "last_interval" 268), (.str "interval" 269)]) 0), (Array.mk [])⟩
noncomputable def o1x64 (P : Params) : Obj := ⟨(.type "tuple"), none, (.seq (Array.mk []) 0), (Array.mk [])⟩
noncomputable def o1x65 (P : Params) : Obj := ⟨.none, none, (.func { name := "_grouping_intervals", qualname := "_grouping_intervals", params := argsAt 10, body := .stmts (bodyAt 10), scope := scAt 10, globals := 0, closure := [], defaults := .none, kwdefaults := .none, doc := .none, pyModule := .none, annotations := none, code := .none, closureTuple := .none, builtins := 0 }), (Array.mk [])⟩
noncomputable def o1x66 (P : Params) : Obj := ⟨(.type "code"), none, (.fields (Array.mk [(.str "_grouping_intervals" 264), (.str "_grouping_intervals" 265), (.str "/claim/cut.py" 266), (.int 57 0), (.int 1 0), (.int 0 0), (.int 0 0), (.int 35 0), (.ref 61), (.bool true), (.int 181 0), (.ref 62), .none, (.ref 63), (.ref 64), (.ref 65), (.int 270 0), (.int 57 0), (.str "/claim/cut.py" 271)])), (Array.mk [])⟩
noncomputable def o1x67 (P : Params) : Obj := ⟨(.type "function"), none, (.func { name := "_grouping_intervals", qualname := "_grouping_intervals", params := argsAt 10, body := .stmts (bodyAt 10), scope := scAt 10, globals := 3, closure := [], defaults := .none, kwdefaults := .none, doc := .none, pyModule := (.str "cpy313.locale" 252), annotations := none, code := (.ref 66), closureTuple := .none, builtins := 0 }), (Array.mk [])⟩
noncomputable def tr1 (P : Params) : BT := (.node (o0x0 P) (.node (o0x1 P) (.node (o1x3 P) (.node (o0x7 P) (.node (o1x15 P) (.node (o1x31 P) (.node (o1x63 P) .nil .nil) .nil) (.node (o1x47 P) .nil .nil)) (.node (o1x23 P) (.node (o1x39 P) .nil .nil) (.node (o1x55 P) .nil .nil))) (.node (o0x11 P) (.node (o1x19 P) (.node (o1x35 P) (.node (o1x67 P) .nil .nil) .nil) (.node (o1x51 P) .nil .nil)) (.node (o1x27 P) (.node (o1x43 P) .nil .nil) (.node (o1x59 P) .nil .nil)))) (.node (o0x5 P) (.node (o0x9 P) (.node (o1x17 P) (.node (o1x33 P) (.node (o1x65 P) .nil .nil) .nil) (.node (o1x49 P) .nil .nil)) (.node (o1x25 P) (.node (o1x41 P) .nil .nil) (.node (o1x57 P) .nil .nil))) (.node (o0x13 P) (.node (o1x21 P) (.node (o1x37 P) .nil .nil) (.node (o1x53 P) .nil .nil)) (.node (o1x29 P) (.node (o1x45 P) .nil .nil) (.node (o1x61 P) .nil .nil))))) (.node (o1x2 P) (.node (o0x4 P) (.node (o0x8 P) (.node (o1x16 P) (.node (o1x32 P) (.node (o1x64 P) .nil .nil) .nil) (.node (o1x48 P) .nil .nil)) (.node (o1x24 P) (.node (o1x40 P) .nil .nil) (.node (o1x56 P) .nil .nil))) (.node (o1x12 P) (.node (o1x20 P) (.node (o1x36 P) .nil .nil) (.node (o1x52 P) .nil .nil)) (.node (o1x28 P) (.node (o1x44 P) .nil .nil) (.node (o1x60 P) .nil .nil)))) (.node (o0x6 P) (.node (o0x10 P) (.node (o1x18 P) (.node (o1x34 P) (.node (o1x66 P) .nil .nil) .nil) (.node (o1x50 P) .nil .nil)) (.node (o1x26 P) (.node (o1x42 P) .nil .nil) (.node (o1x58 P) .nil .nil))) (.node (o0x14 P) (.node (o1x22 P) (.node (o1x38 P) .nil .nil) (.node (o1x54 P) .nil .nil)) (.node (o1x30 P) (.node (o1x46 P) .nil .nil) (.node (o1x62 P) .nil .nil))))))
noncomputable def st1 (w : World) (os : OsState) : SharedT := ⟨tr1 w.params, 68, hLife, Array.mk [], ⟨0, 0, 0, 0⟩, 275, os⟩
noncomputable def o2x3 (P : Params) : Obj := ⟨(.type "dict"), none, (.dict (Array.mk [⟨(PyData.keyHash P "__name__"), (.str "__name__" 165), (.str "cpy313.stringprep" 273)⟩, ⟨(PyData.keyHash P "__doc__"), (.str "__doc__" 166), .none⟩, ⟨(PyData.keyHash P "__package__"), (.str "__package__" 167), .none⟩, ⟨(PyData.keyHash P "__loader__"), (.str "__loader__" 168), (.builtin "__main__.__loader__#opaque")⟩, ⟨(PyData.keyHash P "__spec__"), (.str "__spec__" 169), .none⟩, ⟨(PyData.keyHash P "__annotations__"), (.str "__annotations__" 170), (.ref 6)⟩, ⟨(PyData.keyHash P "__builtins__"), (.str "__builtins__" 171), (.ref 4)⟩, ⟨(PyData.keyHash P "__file__"), (.str "__file__" 173), (.str "/claim/cut.py" 172)⟩, ⟨(PyData.keyHash P "__cached__"), (.str "__cached__" 174), .none⟩, ⟨(PyData.keyHash P "ELLIPSIS_MARKER"), (.str "ELLIPSIS_MARKER" 190), (.str "..." 189)⟩, ⟨(PyData.keyHash P "_ellipsis_match"), (.str "_ellipsis_match" 202), (.ref 21)⟩, ⟨(PyData.keyHash P "Error"), (.str "Error" 224), (.ref 31)⟩, ⟨(PyData.keyHash P "error_reply"), (.str "error_reply" 240), (.ref 44)⟩, ⟨(PyData.keyHash P "parse257"), (.str "parse257" 251), (.ref 53)⟩, ⟨(PyData.keyHash P "_strcoll"), (.str "_strcoll" 261), (.ref 60)⟩, ⟨(PyData.keyHash P "CHAR_MAX"), (.str "CHAR_MAX" 263), (.int 127 262)⟩, ⟨(PyData.keyHash P "_grouping_intervals"), (.str "_grouping_intervals" 272), (.ref 67)⟩, ⟨(PyData.keyHash P "b1_set"), (.str "b1_set" 334), (.ref 75)⟩]) 18), (Array.mk [])⟩
noncomputable def o2x68 (P : Params) : Obj := ⟨(.type "list"), none, (.seq (Array.mk [(.int 173 275), (.int 847 276), (.int 6150 277), (.int 6155 278), (.int 6156 279), (.int 6157 280), (.int 8203 281), (.int 8204 282), (.int 8205 283), (.int 8288 284), (.int 65279 285)]) 0), (Array.mk [])⟩
noncomputable def o2x69 (P : Params) : Obj := ⟨(.type "range"), none, (.fields (Array.mk [(.int 65024 286), (.int 65040 287), (.int 1 288)])), (Array.mk [])⟩
noncomputable def o2x70 (P : Params) : Obj := ⟨(.type "list"), none, (.seq (Array.mk [(.int 65024 291), (.int 65025 292), (.int 65026 293), (.int 65027 294), (.int 65028 295), (.int 65029 296), (.int 65030 297), (.int 65031 298), (.int 65032 299), (.int 65033 300), (.int 65034 301), (.int 65035 302), (.int 65036 303), (.int 65037 304), (.int 65038 305), (.int 65039 306)]) 18), (Array.mk [])⟩
noncomputable def o2x71 (P : Params) : Obj := ⟨(.type "range_iterator"), none, (.fields (Array.mk [(.int 65040 0), (.int 0 0), (.int 1 0)])), (Array.mk [])⟩
noncomputable def o2x72 (P : Params) : Obj := ⟨(.type "tuple"), none, (.seq (Array.mk []) 0), (Array.mk [])⟩
noncomputable def o2x73 (P : Params) : Obj := ⟨(.type "StopIteration"), none, (.fields (Array.mk [(.ref 72), .none, .none, .none, (.bool false), .none])), (Array.mk [])⟩
noncomputable def o2x74 (P : Params) : Obj := ⟨(.type "list"), none, (.seq (Array.mk [(.int 173 275), (.int 847 276), (.int 6150 277), (.int 6155 278), (.int 6156 279), (.int 6157 280), (.int 8203 281), (.int 8204 282), (.int 8205 283), (.int 8288 284), (.int 65279 285), (.int 65024 291), (.int 65025 292), (.int 65026 293), (.int 65027 294), (.int 65028 295), (.int 65029 296), (.int 65030 297), (.int 65031 298), (.int 65032 299), (.int 65033 300), (.int 65034 301), (.int 65035 302), (.int 65036 303), (.int 65037 304), (.int 65038 305), (.int 65039 306)]) 0), (Array.mk [])⟩
noncomputable def o2x75 (P : Params) : Obj := ⟨(.type "set"), none, (.set (Array.mk [(65024, (.int 65024 291)), (65025, (.int 65025 292)), (65026, (.int 65026 293)), (65027, (.int 65027 294)), (65028, (.int 65028 295)), (65029, (.int 65029 296)), (6150, (.int 6150 277)), (65030, (.int 65030 297)), (65031, (.int 65031 298)), (65032, (.int 65032 299)), (65033, (.int 65033 300)), (6155, (.int 6155 278)), (6156, (.int 6156 279)), (6157, (.int 6157 280)), (8203, (.int 8203 281)), (8204, (.int 8204 282)), (8205, (.int 8205 283)), (65034, (.int 65034 301)), (65035, (.int 65035 302)), (65036, (.int 65036 303)), (65037, (.int 65037 304)), (65038, (.int 65038 305)), (65039, (.int 65039 306)), (173, (.int 173 275)), (847, (.int 847 276)), (8288, (.int 8288 284)), (65279, (.int 65279 285))]) 29 { mask := 127, place := (Array.mk [0, 1, 2, 3, 4, 5, 6, 7, 8, 9, 10, 11, 12, 13, 14, 15, 16, 17, 18, 19, 20, 21, 22, 45, 79, 96, 127]), dummies := (Array.mk []), finger := 0, led := (!P.followText "set-order"), moves := 2, plain := true }), (Array.mk [])⟩
noncomputable def o2x76 (P : Params) : Obj := ⟨(.type "list_iterator"), none, (.fields (Array.mk [.none, (.int 27 0)])), (Array.mk [])⟩
noncomputable def o2x77 (P : Params) : Obj := ⟨(.type "tuple"), none, (.seq (Array.mk []) 0), (Array.mk [])⟩
noncomputable def o2x78 (P : Params) : Obj := ⟨(.type "StopIteration"), none, (.fields (Array.mk [(.ref 77), .none, .none, .none, (.bool false), .none])), (Array.mk [])⟩
noncomputable def tr2 (P : Params) : BT := (.node (o0x0 P) (.node (o0x1 P) (.node (o2x3 P) (.node (o0x7 P) (.node (o1x15 P) (.node (o1x31 P) (.node (o1x63 P) .nil .nil) .nil) (.node (o1x47 P) .nil .nil)) (.node (o1x23 P) (.node (o1x39 P) (.node (o2x71 P) .nil .nil) .nil) (.node (o1x55 P) .nil .nil))) (.node (o0x11 P) (.node (o1x19 P) (.node (o1x35 P) (.node (o1x67 P) .nil .nil) .nil) (.node (o1x51 P) .nil .nil)) (.node (o1x27 P) (.node (o1x43 P) (.node (o2x75 P) .nil .nil) .nil) (.node (o1x59 P) .nil .nil)))) (.node (o0x5 P) (.node (o0x9 P) (.node (o1x17 P) (.node (o1x33 P) (.node (o1x65 P) .nil .nil) .nil) (.node (o1x49 P) .nil .nil)) (.node (o1x25 P) (.node (o1x41 P) (.node (o2x73 P) .nil .nil) .nil) (.node (o1x57 P) .nil .nil))) (.node (o0x13 P) (.node (o1x21 P) (.node (o1x37 P) (.node (o2x69 P) .nil .nil) .nil) (.node (o1x53 P) .nil .nil)) (.node (o1x29 P) (.node (o1x45 P) (.node (o2x77 P) .nil .nil) .nil) (.node (o1x61 P) .nil .nil))))) (.node (o1x2 P) (.node (o0x4 P) (.node (o0x8 P) (.node (o1x16 P) (.node (o1x32 P) (.node (o1x64 P) .nil .nil) .nil) (.node (o1x48 P) .nil .nil)) (.node (o1x24 P) (.node (o1x40 P) (.node (o2x72 P) .nil .nil) .nil) (.node (o1x56 P) .nil .nil))) (.node (o1x12 P) (.node (o1x20 P) (.node (o1x36 P) (.node (o2x68 P) .nil .nil) .nil) (.node (o1x52 P) .nil .nil)) (.node (o1x28 P) (.node (o1x44 P) (.node (o2x76 P) .nil .nil) .nil) (.node (o1x60 P) .nil .nil)))) (.node (o0x6 P) (.node (o0x10 P) (.node (o1x18 P) (.node (o1x34 P) (.node (o1x66 P) .nil .nil) .nil) (.node (o1x50 P) .nil .nil)) (.node (o1x26 P) (.node (o1x42 P) (.node (o2x74 P) .nil .nil) .nil) (.node (o1x58 P) .nil .nil))) (.node (o0x14 P) (.node (o1x22 P) (.node (o1x38 P) (.node (o2x70 P) .nil .nil) .nil) (.node (o1x54 P) .nil .nil)) (.node (o1x30 P) (.node (o1x46 P) (.node (o2x78 P) .nil .nil) .nil) (.node (o1x62 P) .nil .nil))))))
noncomputable def st2 (w : World) (os : OsState) : SharedT := ⟨tr2 w.params, 79, hLife, Array.mk [], ⟨0, 0, 0, 0⟩, 335, os⟩
noncomputable def o3x3 (P : Params) : Obj := ⟨(.type "dict"), none, (.dict (Array.mk [⟨(PyData.keyHash P "__name__"), (.str "__name__" 165), (.str "cpy313.stringprep" 273)⟩, ⟨(PyData.keyHash P "__doc__"), (.str "__doc__" 166), .none⟩, ⟨(PyData.keyHash P "__package__"), (.str "__package__" 167), .none⟩, ⟨(PyData.keyHash P "__loader__"), (.str "__loader__" 168), (.builtin "__main__.__loader__#opaque")⟩, ⟨(PyData.keyHash P "__spec__"), (.str "__spec__" 169), .none⟩, ⟨(PyData.keyHash P "__annotations__"), (.str "__annotations__" 170), (.ref 6)⟩, ⟨(PyData.keyHash P "__builtins__"), (.str "__builtins__" 171), (.ref 4)⟩, ⟨(PyData.keyHash P "__file__"), (.str "__file__" 173), (.str "/claim/cut.py" 172)⟩, ⟨(PyData.keyHash P "__cached__"), (.str "__cached__" 174), .none⟩, ⟨(PyData.keyHash P "ELLIPSIS_MARKER"), (.str "ELLIPSIS_MARKER" 190), (.str "..." 189)⟩, ⟨(PyData.keyHash P "_ellipsis_match"), (.str "_ellipsis_match" 202), (.ref 21)⟩, ⟨(PyData.keyHash P "Error"), (.str "Error" 224), (.ref 31)⟩, ⟨(PyData.keyHash P "error_reply"), (.str "error_reply" 240), (.ref 44)⟩, ⟨(PyData.keyHash P "parse257"), (.str "parse257" 251), (.ref 53)⟩, ⟨(PyData.keyHash P "_strcoll"), (.str "_strcoll" 261), (.ref 60)⟩, ⟨(PyData.keyHash P "CHAR_MAX"), (.str "CHAR_MAX" 263), (.int 127 262)⟩, ⟨(PyData.keyHash P "_grouping_intervals"), (.str "_grouping_intervals" 272), (.ref 67)⟩, ⟨(PyData.keyHash P "b1_set"), (.str "b1_set" 334), (.ref 75)⟩, ⟨(PyData.keyHash P "in_table_b1"), (.str "in_table_b1" 341), (.ref 85)⟩]) 19), (Array.mk [])⟩
noncomputable def o3x12 (P : Params) : Obj := ⟨.none, none, (.fields (Array.mk [(.int 3 0), (.int 0 0), (.ref 20), (.int 32 0), (.int 0 0), (.ref 27), (.int 34 0), (.int 0 0), (.ref 40), (.int 36 0), (.int 0 0), (.ref 52), (.int 54 0), (.int 0 0), (.ref 59), (.int 57 0), (.int 0 0), (.ref 66), (.int 71 0), (.int 0 0), (.ref 84)])), (Array.mk [])⟩
noncomputable def o3x79 (P : Params) : Obj := ⟨(.type "tuple"), none, (.seq (Array.mk []) 0), (Array.mk [])⟩
noncomputable def o3x80 (P : Params) : Obj := ⟨.none, none, (.fields (Array.mk [])), (Array.mk [])⟩
noncomputable def o3x81 (P : Params) : Obj := ⟨(.type "tuple"), none, (.seq (Array.mk [(.str "code" 338)]) 0), (Array.mk [])⟩
noncomputable def o3x82 (P : Params) : Obj := ⟨(.type "tuple"), none, (.seq (Array.mk []) 0), (Array.mk [])⟩
noncomputable def o3x83 (P : Params) : Obj := ⟨.none, none, (.func { name := "in_table_b1", qualname := "in_table_b1", params := argsAt 13, body := .stmts (bodyAt 13), scope := scAt 13, globals := 0, closure := [], defaults := .none, kwdefaults := .none, doc := .none, pyModule := .none, annotations := none, code := .none, closureTuple := .none, builtins := 0 }), (Array.mk [])⟩
noncomputable def o3x84 (P : Params) : Obj := ⟨(.type "code"), none, (.fields (Array.mk [(.str "in_table_b1" 335), (.str "in_table_b1" 336), (.str "/claim/cut.py" 337), (.int 71 0), (.int 1 0), (.int 0 0), (.int 0 0), (.int 3 0), (.ref 79), (.bool true), (.int 181 0), (.ref 80), .none, (.ref 81), (.ref 82), (.ref 83), (.int 339 0), (.int 71 0), (.str "/claim/cut.py" 340)])), (Array.mk [])⟩
noncomputable def o3x85 (P : Params) : Obj := ⟨(.type "function"), none, (.func { name := "in_table_b1", qualname := "in_table_b1", params := argsAt 13, body := .stmts (bodyAt 13), scope := scAt 13, globals := 3, closure := [], defaults := .none, kwdefaults := .none, doc := .none, pyModule := (.str "cpy313.stringprep" 273), annotations := none, code := (.ref 84), closureTuple := .none, builtins := 0 }), (Array.mk [])⟩
noncomputable def tr3 (P : Params) : BT := (.node (o0x0 P) (.node (o0x1 P) (.node (o3x3 P) (.node (o0x7 P) (.node (o1x15 P) (.node (o1x31 P) (.node (o1x63 P) .nil .nil) .nil) (.node (o1x47 P) (.node (o3x79 P) .nil .nil) .nil)) (.node (o1x23 P) (.node (o1x39 P) (.node (o2x71 P) .nil .nil) .nil) (.node (o1x55 P) .nil .nil))) (.node (o0x11 P) (.node (o1x19 P) (.node (o1x35 P) (.node (o1x67 P) .nil .nil) .nil) (.node (o1x51 P) (.node (o3x83 P) .nil .nil) .nil)) (.node (o1x27 P) (.node (o1x43 P) (.node (o2x75 P) .nil .nil) .nil) (.node (o1x59 P) .nil .nil)))) (.node (o0x5 P) (.node (o0x9 P) (.node (o1x17 P) (.node (o1x33 P) (.node (o1x65 P) .nil .nil) .nil) (.node (o1x49 P) (.node (o3x81 P) .nil .nil) .nil)) (.node (o1x25 P) (.node (o1x41 P) (.node (o2x73 P) .nil .nil) .nil) (.node (o1x57 P) .nil .nil))) (.node (o0x13 P) (.node (o1x21 P) (.node (o1x37 P) (.node (o2x69 P) .nil .nil) .nil) (.node (o1x53 P) (.node (o3x85 P) .nil .nil) .nil)) (.node (o1x29 P) (.node (o1x45 P) (.node (o2x77 P) .nil .nil) .nil) (.node (o1x61 P) .nil .nil))))) (.node (o1x2 P) (.node (o0x4 P) (.node (o0x8 P) (.node (o1x16 P) (.node (o1x32 P) (.node (o1x64 P) .nil .nil) .nil) (.node (o1x48 P) (.node (o3x80 P) .nil .nil) .nil)) (.node (o1x24 P) (.node (o1x40 P) (.node (o2x72 P) .nil .nil) .nil) (.node (o1x56 P) .nil .nil))) (.node (o3x12 P) (.node (o1x20 P) (.node (o1x36 P) (.node (o2x68 P) .nil .nil) .nil) (.node (o1x52 P) (.node (o3x84 P) .nil .nil) .nil)) (.node (o1x28 P) (.node (o1x44 P) (.node (o2x76 P) .nil .nil) .nil) (.node (o1x60 P) .nil .nil)))) (.node (o0x6 P) (.node (o0x10 P) (.node (o1x18 P) (.node (o1x34 P) (.node (o1x66 P) .nil .nil) .nil) (.node (o1x50 P) (.node (o3x82 P) .nil .nil) .nil)) (.node (o1x26 P) (.node (o1x42 P) (.node (o2x74 P) .nil .nil) .nil) (.node (o1x58 P) .nil .nil))) (.node (o0x14 P) (.node (o1x22 P) (.node (o1x38 P) (.node (o2x70 P) .nil .nil) .nil) (.node (o1x54 P) .nil .nil)) (.node (o1x30 P) (.node (o1x46 P) (.node (o2x78 P) .nil .nil) .nil) (.node (o1x62 P) .nil .nil))))))
noncomputable def st3 (w : World) (os : OsState) : SharedT := ⟨tr3 w.params, 86, hLife, Array.mk [], ⟨0, 0, 0, 0⟩, 342, os⟩
noncomputable def o4x3 (P : Params) : Obj := ⟨(.type "dict"), none, (.dict (Array.mk [⟨(PyData.keyHash P "__name__"), (.str "__name__" 165), (.str "cpy313.stringprep" 273)⟩, ⟨(PyData.keyHash P "__doc__"), (.str "__doc__" 166), .none⟩, ⟨(PyData.keyHash P "__package__"), (.str "__package__" 167), .none⟩, ⟨(PyData.keyHash P "__loader__"), (.str "__loader__" 168), (.builtin "__main__.__loader__#opaque")⟩, ⟨(PyData.keyHash P "__spec__"), (.str "__spec__" 169), .none⟩, ⟨(PyData.keyHash P "__annotations__"), (.str "__annotations__" 170), (.ref 6)⟩, ⟨(PyData.keyHash P "__builtins__"), (.str "__builtins__" 171), (.ref 4)⟩, ⟨(PyData.keyHash P "__file__"), (.str "__file__" 173), (.str "/claim/cut.py" 172)⟩, ⟨(PyData.keyHash P "__cached__"), (.str "__cached__" 174), .none⟩, ⟨(PyData.keyHash P "ELLIPSIS_MARKER"), (.str "ELLIPSIS_MARKER" 190), (.str "..." 189)⟩, ⟨(PyData.keyHash P "_ellipsis_match"), (.str "_ellipsis_match" 202), (.ref 21)⟩, ⟨(PyData.keyHash P "Error"), (.str "Error" 224), (.ref 31)⟩, ⟨(PyData.keyHash P "error_reply"), (.str "error_reply" 240), (.ref 44)⟩, ⟨(PyData.keyHash P "parse257"), (.str "parse257" 251), (.ref 53)⟩, ⟨(PyData.keyHash P "_strcoll"), (.str "_strcoll" 261), (.ref 60)⟩, ⟨(PyData.keyHash P "CHAR_MAX"), (.str "CHAR_MAX" 263), (.int 127 262)⟩, ⟨(PyData.keyHash P "_grouping_intervals"), (.str "_grouping_intervals" 272), (.ref 67)⟩, ⟨(PyData.keyHash P "b1_set"), (.str "b1_set" 334), (.ref 75)⟩, ⟨(PyData.keyHash P "in_table_b1"), (.str "in_table_b1" 341), (.ref 85)⟩, ⟨(PyData.keyHash P "b3_exceptions"), (.str "b3_exceptions" 2292), (.ref 86)⟩]) 20), (Array.mk [])⟩
noncomputable def tr4 (P : Params) : BT := (.node (o0x0 P) (.node (o0x1 P) (.node (o4x3 P) (.node (o0x7 P) (.node (o1x15 P) (.node (o1x31 P) (.node (o1x63 P) .nil .nil) (.node (bObj 9) .nil .nil)) (.node (o1x47 P) (.node (o3x79 P) .nil .nil) (.node (bObj 25) .nil .nil))) (.node (o1x23 P) (.node (o1x39 P) (.node (o2x71 P) .nil .nil) (.node (bObj 17) .nil .nil)) (.node (o1x55 P) (.node (bObj 1) .nil .nil) (.node (bObj 33) .nil .nil)))) (.node (o0x11 P) (.node (o1x19 P) (.node (o1x35 P) (.node (o1x67 P) .nil .nil) (.node (bObj 13) .nil .nil)) (.node (o1x51 P) (.node (o3x83 P) .nil .nil) (.node (bObj 29) .nil .nil))) (.node (o1x27 P) (.node (o1x43 P) (.node (o2x75 P) .nil .nil) (.node (bObj 21) .nil .nil)) (.node (o1x59 P) (.node (bObj 5) .nil .nil) (.node (bObj 37) .nil .nil))))) (.node (o0x5 P) (.node (o0x9 P) (.node (o1x17 P) (.node (o1x33 P) (.node (o1x65 P) .nil .nil) (.node (bObj 11) .nil .nil)) (.node (o1x49 P) (.node (o3x81 P) .nil .nil) (.node (bObj 27) .nil .nil))) (.node (o1x25 P) (.node (o1x41 P) (.node (o2x73 P) .nil .nil) (.node (bObj 19) .nil .nil)) (.node (o1x57 P) (.node (bObj 3) .nil .nil) (.node (bObj 35) .nil .nil)))) (.node (o0x13 P) (.node (o1x21 P) (.node (o1x37 P) (.node (o2x69 P) .nil .nil) (.node (bObj 15) .nil .nil)) (.node (o1x53 P) (.node (o3x85 P) .nil .nil) (.node (bObj 31) .nil .nil))) (.node (o1x29 P) (.node (o1x45 P) (.node (o2x77 P) .nil .nil) (.node (bObj 23) .nil .nil)) (.node (o1x61 P) (.node (bObj 7) .nil .nil) .nil))))) (.node (o1x2 P) (.node (o0x4 P) (.node (o0x8 P) (.node (o1x16 P) (.node (o1x32 P) (.node (o1x64 P) .nil .nil) (.node (bObj 10) .nil .nil)) (.node (o1x48 P) (.node (o3x80 P) .nil .nil) (.node (bObj 26) .nil .nil))) (.node (o1x24 P) (.node (o1x40 P) (.node (o2x72 P) .nil .nil) (.node (bObj 18) .nil .nil)) (.node (o1x56 P) (.node (bObj 2) .nil .nil) (.node (bObj 34) .nil .nil)))) (.node (o3x12 P) (.node (o1x20 P) (.node (o1x36 P) (.node (o2x68 P) .nil .nil) (.node (bObj 14) .nil .nil)) (.node (o1x52 P) (.node (o3x84 P) .nil .nil) (.node (bObj 30) .nil .nil))) (.node (o1x28 P) (.node (o1x44 P) (.node (o2x76 P) .nil .nil) (.node (bObj 22) .nil .nil)) (.node (o1x60 P) (.node (bObj 6) .nil .nil) (.node (bObj 38) .nil .nil))))) (.node (o0x6 P) (.node (o0x10 P) (.node (o1x18 P) (.node (o1x34 P) (.node (o1x66 P) .nil .nil) (.node (bObj 12) .nil .nil)) (.node (o1x50 P) (.node (o3x82 P) .nil .nil) (.node (bObj 28) .nil .nil))) (.node (o1x26 P) (.node (o1x42 P) (.node (o2x74 P) .nil .nil) (.node (bObj 20) .nil .nil)) (.node (o1x58 P) (.node (bObj 4) .nil .nil) (.node (bObj 36) .nil .nil)))) (.node (o0x14 P) (.node (o1x22 P) (.node (o1x38 P) (.node (o2x70 P) .nil .nil) (.node (bObj 16) .nil .nil)) (.node (o1x54 P) (.node (bObj 0) .nil .nil) (.node (bObj 32) .nil .nil))) (.node (o1x30 P) (.node (o1x46 P) (.node (o2x78 P) .nil .nil) (.node (bObj 24) .nil .nil)) (.node (o1x62 P) (.node (bObj 8) .nil .nil) .nil))))))
noncomputable def st4 (w : World) (os : OsState) : SharedT := ⟨tr4 w.params, 125, hLife, Array.mk [], ⟨0, 0, 0, 0⟩, 2293, os⟩
noncomputable def o5x3 (P : Params) : Obj := ⟨(.type "dict"), none, (.dict (Array.mk [⟨(PyData.keyHash P "__name__"), (.str "__name__" 165), (.str "law_wr0041_02" 2301)⟩, ⟨(PyData.keyHash P "__doc__"), (.str "__doc__" 166), .none⟩, ⟨(PyData.keyHash P "__package__"), (.str "__package__" 167), .none⟩, ⟨(PyData.keyHash P "__loader__"), (.str "__loader__" 168), (.builtin "__main__.__loader__#opaque")⟩, ⟨(PyData.keyHash P "__spec__"), (.str "__spec__" 169), .none⟩, ⟨(PyData.keyHash P "__annotations__"), (.str "__annotations__" 170), (.ref 6)⟩, ⟨(PyData.keyHash P "__builtins__"), (.str "__builtins__" 171), (.ref 4)⟩, ⟨(PyData.keyHash P "__file__"), (.str "__file__" 173), (.str "/claim/cut.py" 172)⟩, ⟨(PyData.keyHash P "__cached__"), (.str "__cached__" 174), .none⟩, ⟨(PyData.keyHash P "ELLIPSIS_MARKER"), (.str "ELLIPSIS_MARKER" 190), (.str "..." 189)⟩, ⟨(PyData.keyHash P "_ellipsis_match"), (.str "_ellipsis_match" 202), (.ref 21)⟩, ⟨(PyData.keyHash P "Error"), (.str "Error" 224), (.ref 31)⟩, ⟨(PyData.keyHash P "error_reply"), (.str "error_reply" 240), (.ref 44)⟩, ⟨(PyData.keyHash P "parse257"), (.str "parse257" 251), (.ref 53)⟩, ⟨(PyData.keyHash P "_strcoll"), (.str "_strcoll" 261), (.ref 60)⟩, ⟨(PyData.keyHash P "CHAR_MAX"), (.str "CHAR_MAX" 263), (.int 127 262)⟩, ⟨(PyData.keyHash P "_grouping_intervals"), (.str "_grouping_intervals" 272), (.ref 67)⟩, ⟨(PyData.keyHash P "b1_set"), (.str "b1_set" 334), (.ref 75)⟩, ⟨(PyData.keyHash P "in_table_b1"), (.str "in_table_b1" 341), (.ref 85)⟩, ⟨(PyData.keyHash P "b3_exceptions"), (.str "b3_exceptions" 2292), (.ref 86)⟩, ⟨(PyData.keyHash P "map_table_b3"), (.str "map_table_b3" 2300), (.ref 131)⟩, ⟨(PyData.keyHash P "_law_told"), (.str "_law_told" 2310), (.ref 138)⟩, ⟨(PyData.keyHash P "_law_typed"), (.str "_law_typed" 2316), (.ref 143)⟩, ⟨(PyData.keyHash P "_law_dealt"), (.str "_law_dealt" 2328), (.ref 150)⟩, ⟨(PyData.keyHash P "_law_reading"), (.str "_law_reading" 2338), (.ref 157)⟩, ⟨(PyData.keyHash P "_law_odd"), (.str "_law_odd" 2352), (.ref 164)⟩, ⟨(PyData.keyHash P "law"), (.str "law" 2358), (.ref 169)⟩]) 27), (Array.mk [])⟩
noncomputable def o5x12 (P : Params) : Obj := ⟨.none, none, (.fields (Array.mk [(.int 3 0), (.int 0 0), (.ref 20), (.int 32 0), (.int 0 0), (.ref 27), (.int 34 0), (.int 0 0), (.ref 40), (.int 36 0), (.int 0 0), (.ref 52), (.int 54 0), (.int 0 0), (.ref 59), (.int 57 0), (.int 0 0), (.ref 66), (.int 71 0), (.int 0 0), (.ref 84), (.int 74 0), (.int 0 0), (.ref 130), (.int 80 0), (.int 0 0), (.ref 137), (.int 85 0), (.int 0 0), (.ref 142), (.int 90 0), (.int 0 0), (.ref 149), (.int 98 0), (.int 0 0), (.ref 156), (.int 104 0), (.int 0 0), (.ref 163), (.int 113 0), (.int 0 0), (.ref 168)])), (Array.mk [])⟩
noncomputable def o5x125 (P : Params) : Obj := ⟨(.type "tuple"), none, (.seq (Array.mk []) 0), (Array.mk [])⟩
noncomputable def o5x126 (P : Params) : Obj := ⟨.none, none, (.fields (Array.mk [])), (Array.mk [])⟩
noncomputable def o5x127 (P : Params) : Obj := ⟨(.type "tuple"), none, (.seq (Array.mk [(.str "code" 2296), (.str "r" 2297)]) 0), (Array.mk [])⟩
noncomputable def o5x128 (P : Params) : Obj := ⟨(.type "tuple"), none, (.seq (Array.mk []) 0), (Array.mk [])⟩
noncomputable def o5x129 (P : Params) : Obj := ⟨.none, none, (.func { name := "map_table_b3", qualname := "map_table_b3", params := argsAt 15, body := .stmts (bodyAt 15), scope := scAt 15, globals := 0, closure := [], defaults := .none, kwdefaults := .none, doc := .none, pyModule := .none, annotations := none, code := .none, closureTuple := .none, builtins := 0 }), (Array.mk [])⟩
noncomputable def o5x130 (P : Params) : Obj := ⟨(.type "code"), none, (.fields (Array.mk [(.str "map_table_b3" 2293), (.str "map_table_b3" 2294), (.str "/claim/cut.py" 2295), (.int 74 0), (.int 1 0), (.int 0 0), (.int 0 0), (.int 3 0), (.ref 125), (.bool true), (.int 181 0), (.ref 126), .none, (.ref 127), (.ref 128), (.ref 129), (.int 2298 0), (.int 74 0), (.str "/claim/cut.py" 2299)])), (Array.mk [])⟩
noncomputable def o5x131 (P : Params) : Obj := ⟨(.type "function"), none, (.func { name := "map_table_b3", qualname := "map_table_b3", params := argsAt 15, body := .stmts (bodyAt 15), scope := scAt 15, globals := 3, closure := [], defaults := .none, kwdefaults := .none, doc := .none, pyModule := (.str "cpy313.stringprep" 273), annotations := none, code := (.ref 130), closureTuple := .none, builtins := 0 }), (Array.mk [])⟩
noncomputable def o5x132 (P : Params) : Obj := ⟨(.type "tuple"), none, (.seq (Array.mk []) 0), (Array.mk [])⟩
noncomputable def o5x133 (P : Params) : Obj := ⟨.none, none, (.fields (Array.mk [])), (Array.mk [])⟩
noncomputable def o5x134 (P : Params) : Obj := ⟨(.type "tuple"), none, (.seq (Array.mk [(.str "reply" 2306), (.str "refusal" 2307)]) 0), (Array.mk [])⟩
noncomputable def o5x135 (P : Params) : Obj := ⟨(.type "tuple"), none, (.seq (Array.mk []) 0), (Array.mk [])⟩
noncomputable def o5x136 (P : Params) : Obj := ⟨.none, none, (.func { name := "_law_told", qualname := "_law_told", params := argsAt 17, body := .stmts (bodyAt 17), scope := scAt 17, globals := 0, closure := [], defaults := .none, kwdefaults := .none, doc := .none, pyModule := .none, annotations := none, code := .none, closureTuple := .none, builtins := 0 }), (Array.mk [])⟩
noncomputable def o5x137 (P : Params) : Obj := ⟨(.type "code"), none, (.fields (Array.mk [(.str "_law_told" 2303), (.str "_law_told" 2304), (.str "/claim/cut.py" 2305), (.int 80 0), (.int 1 0), (.int 0 0), (.int 0 0), (.int 3 0), (.ref 132), (.bool true), (.int 181 0), (.ref 133), .none, (.ref 134), (.ref 135), (.ref 136), (.int 2308 0), (.int 80 0), (.str "/claim/cut.py" 2309)])), (Array.mk [])⟩
noncomputable def o5x138 (P : Params) : Obj := ⟨(.type "function"), none, (.func { name := "_law_told", qualname := "_law_told", params := argsAt 17, body := .stmts (bodyAt 17), scope := scAt 17, globals := 3, closure := [], defaults := .none, kwdefaults := .none, doc := .none, pyModule := (.str "law_wr0041_02" 2301), annotations := none, code := (.ref 137), closureTuple := .none, builtins := 0 }), (Array.mk [])⟩
noncomputable def o5x139 (P : Params) : Obj := ⟨(.type "tuple"), none, (.seq (Array.mk []) 0), (Array.mk [])⟩
noncomputable def o5x140 (P : Params) : Obj := ⟨.none, none, (.fields (Array.mk [])), (Array.mk [])⟩
noncomputable def o5x141 (P : Params) : Obj := ⟨.none, none, (.func { name := "_law_typed", qualname := "_law_typed", params := argsAt 18, body := .stmts (bodyAt 18), scope := scAt 18, globals := 0, closure := [], defaults := .none, kwdefaults := .none, doc := .none, pyModule := .none, annotations := none, code := .none, closureTuple := .none, builtins := 0 }), (Array.mk [])⟩
noncomputable def o5x142 (P : Params) : Obj := ⟨(.type "code"), none, (.fields (Array.mk [(.str "_law_typed" 2311), (.str "_law_typed" 2312), (.str "/claim/cut.py" 2313), (.int 85 0), (.int 2 0), (.int 0 0), (.int 0 0), (.int 3 0), (.ref 139), (.bool true), (.int 181 0), (.ref 140), .none, .none, .none, (.ref 141), (.int 2314 0), (.int 85 0), (.str "/claim/cut.py" 2315)])), (Array.mk [])⟩
noncomputable def o5x143 (P : Params) : Obj := ⟨(.type "function"), none, (.func { name := "_law_typed", qualname := "_law_typed", params := argsAt 18, body := .stmts (bodyAt 18), scope := scAt 18, globals := 3, closure := [], defaults := .none, kwdefaults := .none, doc := .none, pyModule := (.str "law_wr0041_02" 2301), annotations := none, code := (.ref 142), closureTuple := .none, builtins := 0 }), (Array.mk [])⟩
noncomputable def o5x144 (P : Params) : Obj := ⟨(.type "tuple"), none, (.seq (Array.mk []) 0), (Array.mk [])⟩
noncomputable def o5x145 (P : Params) : Obj := ⟨.none, none, (.fields (Array.mk [])), (Array.mk [])⟩
noncomputable def o5x146 (P : Params) : Obj := ⟨(.type "tuple"), none, (.seq (Array.mk [(.str "pack" 2320), (.str "first" 2321), (.str "step" 2322), (.str "dealt" 2323), (.str "place" 2324), (.str "size" 2325)]) 0), (Array.mk [])⟩
noncomputable def o5x147 (P : Params) : Obj := ⟨(.type "tuple"), none, (.seq (Array.mk []) 0), (Array.mk [])⟩
noncomputable def o5x148 (P : Params) : Obj := ⟨.none, none, (.func { name := "_law_dealt", qualname := "_law_dealt", params := argsAt 19, body := .stmts (bodyAt 19), scope := scAt 19, globals := 0, closure := [], defaults := .none, kwdefaults := .none, doc := .none, pyModule := .none, annotations := none, code := .none, closureTuple := .none, builtins := 0 }), (Array.mk [])⟩
noncomputable def o5x149 (P : Params) : Obj := ⟨(.type "code"), none, (.fields (Array.mk [(.str "_law_dealt" 2317), (.str "_law_dealt" 2318), (.str "/claim/cut.py" 2319), (.int 90 0), (.int 3 0), (.int 0 0), (.int 0 0), (.int 3 0), (.ref 144), (.bool true), (.int 181 0), (.ref 145), .none, (.ref 146), (.ref 147), (.ref 148), (.int 2326 0), (.int 90 0), (.str "/claim/cut.py" 2327)])), (Array.mk [])⟩
noncomputable def o5x150 (P : Params) : Obj := ⟨(.type "function"), none, (.func { name := "_law_dealt", qualname := "_law_dealt", params := argsAt 19, body := .stmts (bodyAt 19), scope := scAt 19, globals := 3, closure := [], defaults := .none, kwdefaults := .none, doc := .none, pyModule := (.str "law_wr0041_02" 2301), annotations := none, code := (.ref 149), closureTuple := .none, builtins := 0 }), (Array.mk [])⟩
noncomputable def o5x151 (P : Params) : Obj := ⟨(.type "tuple"), none, (.seq (Array.mk []) 0), (Array.mk [])⟩
noncomputable def o5x152 (P : Params) : Obj := ⟨.none, none, (.fields (Array.mk [])), (Array.mk [])⟩
noncomputable def o5x153 (P : Params) : Obj := ⟨(.type "tuple"), none, (.seq (Array.mk [(.str "number" 2332), (.str "sign" 2333), (.str "told" 2334), (.str "times" 2335)]) 0), (Array.mk [])⟩
noncomputable def o5x154 (P : Params) : Obj := ⟨(.type "tuple"), none, (.seq (Array.mk []) 0), (Array.mk [])⟩
noncomputable def o5x155 (P : Params) : Obj := ⟨.none, none, (.func { name := "_law_reading", qualname := "_law_reading", params := argsAt 20, body := .stmts (bodyAt 20), scope := scAt 20, globals := 0, closure := [], defaults := .none, kwdefaults := .none, doc := .none, pyModule := .none, annotations := none, code := .none, closureTuple := .none, builtins := 0 }), (Array.mk [])⟩
noncomputable def o5x156 (P : Params) : Obj := ⟨(.type "code"), none, (.fields (Array.mk [(.str "_law_reading" 2329), (.str "_law_reading" 2330), (.str "/claim/cut.py" 2331), (.int 98 0), (.int 2 0), (.int 0 0), (.int 0 0), (.int 3 0), (.ref 151), (.bool true), (.int 181 0), (.ref 152), .none, (.ref 153), (.ref 154), (.ref 155), (.int 2336 0), (.int 98 0), (.str "/claim/cut.py" 2337)])), (Array.mk [])⟩
noncomputable def o5x157 (P : Params) : Obj := ⟨(.type "function"), none, (.func { name := "_law_reading", qualname := "_law_reading", params := argsAt 20, body := .stmts (bodyAt 20), scope := scAt 20, globals := 3, closure := [], defaults := .none, kwdefaults := .none, doc := .none, pyModule := (.str "law_wr0041_02" 2301), annotations := none, code := (.ref 156), closureTuple := .none, builtins := 0 }), (Array.mk [])⟩
noncomputable def o5x158 (P : Params) : Obj := ⟨(.type "tuple"), none, (.seq (Array.mk []) 0), (Array.mk [])⟩
noncomputable def o5x159 (P : Params) : Obj := ⟨.none, none, (.fields (Array.mk [])), (Array.mk [])⟩
noncomputable def o5x160 (P : Params) : Obj := ⟨(.type "tuple"), none, (.seq (Array.mk [(.str "step" 2342), (.str "size" 2343), (.str "sign" 2344), (.str "count" 2345), (.str "turn" 2346), (.str "half" 2347), (.str "times" 2348), (.str "rest" 2349)]) 0), (Array.mk [])⟩
noncomputable def o5x161 (P : Params) : Obj := ⟨(.type "tuple"), none, (.seq (Array.mk []) 0), (Array.mk [])⟩
noncomputable def o5x162 (P : Params) : Obj := ⟨.none, none, (.func { name := "_law_odd", qualname := "_law_odd", params := argsAt 21, body := .stmts (bodyAt 21), scope := scAt 21, globals := 0, closure := [], defaults := .none, kwdefaults := .none, doc := .none, pyModule := .none, annotations := none, code := .none, closureTuple := .none, builtins := 0 }), (Array.mk [])⟩
noncomputable def o5x163 (P : Params) : Obj := ⟨(.type "code"), none, (.fields (Array.mk [(.str "_law_odd" 2339), (.str "_law_odd" 2340), (.str "/claim/cut.py" 2341), (.int 104 0), (.int 3 0), (.int 0 0), (.int 0 0), (.int 3 0), (.ref 158), (.bool true), (.int 181 0), (.ref 159), .none, (.ref 160), (.ref 161), (.ref 162), (.int 2350 0), (.int 104 0), (.str "/claim/cut.py" 2351)])), (Array.mk [])⟩
noncomputable def o5x164 (P : Params) : Obj := ⟨(.type "function"), none, (.func { name := "_law_odd", qualname := "_law_odd", params := argsAt 21, body := .stmts (bodyAt 21), scope := scAt 21, globals := 3, closure := [], defaults := .none, kwdefaults := .none, doc := .none, pyModule := (.str "law_wr0041_02" 2301), annotations := none, code := (.ref 163), closureTuple := .none, builtins := 0 }), (Array.mk [])⟩
noncomputable def o5x165 (P : Params) : Obj := ⟨(.type "tuple"), none, (.seq (Array.mk []) 0), (Array.mk [])⟩
noncomputable def o5x166 (P : Params) : Obj := ⟨.none, none, (.fields (Array.mk [])), (Array.mk [])⟩
noncomputable def o5x167 (P : Params) : Obj := ⟨.none, none, (.func { name := "law", qualname := "law", params := argsAt 22, body := .stmts (bodyAt 22), scope := scAt 22, globals := 0, closure := [], defaults := .none, kwdefaults := .none, doc := .none, pyModule := .none, annotations := none, code := .none, closureTuple := .none, builtins := 0 }), (Array.mk [])⟩
noncomputable def o5x168 (P : Params) : Obj := ⟨(.type "code"), none, (.fields (Array.mk [(.str "law" 2353), (.str "law" 2354), (.str "/claim/cut.py" 2355), (.int 113 0), (.int 1 0), (.int 0 0), (.int 0 0), (.int 3 0), (.ref 165), (.bool true), (.int 181 0), (.ref 166), .none, .none, .none, (.ref 167), (.int 2356 0), (.int 113 0), (.str "/claim/cut.py" 2357)])), (Array.mk [])⟩
noncomputable def o5x169 (P : Params) : Obj := ⟨(.type "function"), none, (.func { name := "law", qualname := "law", params := argsAt 22, body := .stmts (bodyAt 22), scope := scAt 22, globals := 3, closure := [], defaults := .none, kwdefaults := .none, doc := .none, pyModule := (.str "law_wr0041_02" 2301), annotations := none, code := (.ref 168), closureTuple := .none, builtins := 0 }), (Array.mk [])⟩
noncomputable def tr5 (P : Params) : BT := (.node (o0x0 P) (.node (o0x1 P) (.node (o5x3 P) (.node (o0x7 P) (.node (o1x15 P) (.node (o1x31 P) (.node (o1x63 P) (.node (o5x127 P) .nil .nil) .nil) (.node (bObj 9) (.node (o5x159 P) .nil .nil) .nil)) (.node (o1x47 P) (.node (o3x79 P) (.node (o5x143 P) .nil .nil) .nil) (.node (bObj 25) .nil .nil))) (.node (o1x23 P) (.node (o1x39 P) (.node (o2x71 P) (.node (o5x135 P) .nil .nil) .nil) (.node (bObj 17) (.node (o5x167 P) .nil .nil) .nil)) (.node (o1x55 P) (.node (bObj 1) (.node (o5x151 P) .nil .nil) .nil) (.node (bObj 33) .nil .nil)))) (.node (o0x11 P) (.node (o1x19 P) (.node (o1x35 P) (.node (o1x67 P) (.node (o5x131 P) .nil .nil) .nil) (.node (bObj 13) (.node (o5x163 P) .nil .nil) .nil)) (.node (o1x51 P) (.node (o3x83 P) (.node (o5x147 P) .nil .nil) .nil) (.node (bObj 29) .nil .nil))) (.node (o1x27 P) (.node (o1x43 P) (.node (o2x75 P) (.node (o5x139 P) .nil .nil) .nil) (.node (bObj 21) .nil .nil)) (.node (o1x59 P) (.node (bObj 5) (.node (o5x155 P) .nil .nil) .nil) (.node (bObj 37) .nil .nil))))) (.node (o0x5 P) (.node (o0x9 P) (.node (o1x17 P) (.node (o1x33 P) (.node (o1x65 P) (.node (o5x129 P) .nil .nil) .nil) (.node (bObj 11) (.node (o5x161 P) .nil .nil) .nil)) (.node (o1x49 P) (.node (o3x81 P) (.node (o5x145 P) .nil .nil) .nil) (.node (bObj 27) .nil .nil))) (.node (o1x25 P) (.node (o1x41 P) (.node (o2x73 P) (.node (o5x137 P) .nil .nil) .nil) (.node (bObj 19) (.node (o5x169 P) .nil .nil) .nil)) (.node (o1x57 P) (.node (bObj 3) (.node (o5x153 P) .nil .nil) .nil) (.node (bObj 35) .nil .nil)))) (.node (o0x13 P) (.node (o1x21 P) (.node (o1x37 P) (.node (o2x69 P) (.node (o5x133 P) .nil .nil) .nil) (.node (bObj 15) (.node (o5x165 P) .nil .nil) .nil)) (.node (o1x53 P) (.node (o3x85 P) (.node (o5x149 P) .nil .nil) .nil) (.node (bObj 31) .nil .nil))) (.node (o1x29 P) (.node (o1x45 P) (.node (o2x77 P) (.node (o5x141 P) .nil .nil) .nil) (.node (bObj 23) .nil .nil)) (.node (o1x61 P) (.node (bObj 7) (.node (o5x157 P) .nil .nil) .nil) (.node (o5x125 P) .nil .nil)))))) (.node (o1x2 P) (.node (o0x4 P) (.node (o0x8 P) (.node (o1x16 P) (.node (o1x32 P) (.node (o1x64 P) (.node (o5x128 P) .nil .nil) .nil) (.node (bObj 10) (.node (o5x160 P) .nil .nil) .nil)) (.node (o1x48 P) (.node (o3x80 P) (.node (o5x144 P) .nil .nil) .nil) (.node (bObj 26) .nil .nil))) (.node (o1x24 P) (.node (o1x40 P) (.node (o2x72 P) (.node (o5x136 P) .nil .nil) .nil) (.node (bObj 18) (.node (o5x168 P) .nil .nil) .nil)) (.node (o1x56 P) (.node (bObj 2) (.node (o5x152 P) .nil .nil) .nil) (.node (bObj 34) .nil .nil)))) (.node (o5x12 P) (.node (o1x20 P) (.node (o1x36 P) (.node (o2x68 P) (.node (o5x132 P) .nil .nil) .nil) (.node (bObj 14) (.node (o5x164 P) .nil .nil) .nil)) (.node (o1x52 P) (.node (o3x84 P) (.node (o5x148 P) .nil .nil) .nil) (.node (bObj 30) .nil .nil))) (.node (o1x28 P) (.node (o1x44 P) (.node (o2x76 P) (.node (o5x140 P) .nil .nil) .nil) (.node (bObj 22) .nil .nil)) (.node (o1x60 P) (.node (bObj 6) (.node (o5x156 P) .nil .nil) .nil) (.node (bObj 38) .nil .nil))))) (.node (o0x6 P) (.node (o0x10 P) (.node (o1x18 P) (.node (o1x34 P) (.node (o1x66 P) (.node (o5x130 P) .nil .nil) .nil) (.node (bObj 12) (.node (o5x162 P) .nil .nil) .nil)) (.node (o1x50 P) (.node (o3x82 P) (.node (o5x146 P) .nil .nil) .nil) (.node (bObj 28) .nil .nil))) (.node (o1x26 P) (.node (o1x42 P) (.node (o2x74 P) (.node (o5x138 P) .nil .nil) .nil) (.node (bObj 20) .nil .nil)) (.node (o1x58 P) (.node (bObj 4) (.node (o5x154 P) .nil .nil) .nil) (.node (bObj 36) .nil .nil)))) (.node (o0x14 P) (.node (o1x22 P) (.node (o1x38 P) (.node (o2x70 P) (.node (o5x134 P) .nil .nil) .nil) (.node (bObj 16) (.node (o5x166 P) .nil .nil) .nil)) (.node (o1x54 P) (.node (bObj 0) (.node (o5x150 P) .nil .nil) .nil) (.node (bObj 32) .nil .nil))) (.node (o1x30 P) (.node (o1x46 P) (.node (o2x78 P) (.node (o5x142 P) .nil .nil) .nil) (.node (bObj 24) .nil .nil)) (.node (o1x62 P) (.node (bObj 8) (.node (o5x158 P) .nil .nil) .nil) (.node (o5x126 P) .nil .nil)))))))
noncomputable def st5 (w : World) (os : OsState) : SharedT := ⟨tr5 w.params, 170, hLife, Array.mk [], ⟨0, 0, 0, 0⟩, 2359, os⟩
noncomputable def tr3b (P : Params) : BT := (.node (o0x0 P) (.node (o0x1 P) (.node (o3x3 P) (.node (o0x7 P) (.node (o1x15 P) (.node (o1x31 P) (.node (o1x63 P) .nil .nil) (.node (bObj 9) .nil .nil)) (.node (o1x47 P) (.node (o3x79 P) .nil .nil) (.node (bObj 25) .nil .nil))) (.node (o1x23 P) (.node (o1x39 P) (.node (o2x71 P) .nil .nil) (.node (bObj 17) .nil .nil)) (.node (o1x55 P) (.node (bObj 1) .nil .nil) (.node (bObj 33) .nil .nil)))) (.node (o0x11 P) (.node (o1x19 P) (.node (o1x35 P) (.node (o1x67 P) .nil .nil) (.node (bObj 13) .nil .nil)) (.node (o1x51 P) (.node (o3x83 P) .nil .nil) (.node (bObj 29) .nil .nil))) (.node (o1x27 P) (.node (o1x43 P) (.node (o2x75 P) .nil .nil) (.node (bObj 21) .nil .nil)) (.node (o1x59 P) (.node (bObj 5) .nil .nil) (.node (bObj 37) .nil .nil))))) (.node (o0x5 P) (.node (o0x9 P) (.node (o1x17 P) (.node (o1x33 P) (.node (o1x65 P) .nil .nil) (.node (bObj 11) .nil .nil)) (.node (o1x49 P) (.node (o3x81 P) .nil .nil) (.node (bObj 27) .nil .nil))) (.node (o1x25 P) (.node (o1x41 P) (.node (o2x73 P) .nil .nil) (.node (bObj 19) .nil .nil)) (.node (o1x57 P) (.node (bObj 3) .nil .nil) (.node (bObj 35) .nil .nil)))) (.node (o0x13 P) (.node (o1x21 P) (.node (o1x37 P) (.node (o2x69 P) .nil .nil) (.node (bObj 15) .nil .nil)) (.node (o1x53 P) (.node (o3x85 P) .nil .nil) (.node (bObj 31) .nil .nil))) (.node (o1x29 P) (.node (o1x45 P) (.node (o2x77 P) .nil .nil) (.node (bObj 23) .nil .nil)) (.node (o1x61 P) (.node (bObj 7) .nil .nil) .nil))))) (.node (o1x2 P) (.node (o0x4 P) (.node (o0x8 P) (.node (o1x16 P) (.node (o1x32 P) (.node (o1x64 P) .nil .nil) (.node (bObj 10) .nil .nil)) (.node (o1x48 P) (.node (o3x80 P) .nil .nil) (.node (bObj 26) .nil .nil))) (.node (o1x24 P) (.node (o1x40 P) (.node (o2x72 P) .nil .nil) (.node (bObj 18) .nil .nil)) (.node (o1x56 P) (.node (bObj 2) .nil .nil) (.node (bObj 34) .nil .nil)))) (.node (o3x12 P) (.node (o1x20 P) (.node (o1x36 P) (.node (o2x68 P) .nil .nil) (.node (bObj 14) .nil .nil)) (.node (o1x52 P) (.node (o3x84 P) .nil .nil) (.node (bObj 30) .nil .nil))) (.node (o1x28 P) (.node (o1x44 P) (.node (o2x76 P) .nil .nil) (.node (bObj 22) .nil .nil)) (.node (o1x60 P) (.node (bObj 6) .nil .nil) (.node (bObj 38) .nil .nil))))) (.node (o0x6 P) (.node (o0x10 P) (.node (o1x18 P) (.node (o1x34 P) (.node (o1x66 P) .nil .nil) (.node (bObj 12) .nil .nil)) (.node (o1x50 P) (.node (o3x82 P) .nil .nil) (.node (bObj 28) .nil .nil))) (.node (o1x26 P) (.node (o1x42 P) (.node (o2x74 P) .nil .nil) (.node (bObj 20) .nil .nil)) (.node (o1x58 P) (.node (bObj 4) .nil .nil) (.node (bObj 36) .nil .nil)))) (.node (o0x14 P) (.node (o1x22 P) (.node (o1x38 P) (.node (o2x70 P) .nil .nil) (.node (bObj 16) .nil .nil)) (.node (o1x54 P) (.node (bObj 0) .nil .nil) (.node (bObj 32) .nil .nil))) (.node (o1x30 P) (.node (o1x46 P) (.node (o2x78 P) .nil .nil) (.node (bObj 24) .nil .nil)) (.node (o1x62 P) (.node (bObj 8) .nil .nil) .nil))))))
noncomputable def st3b (w : World) (os : OsState) : SharedT := ⟨tr3b w.params, 125, hLife, Array.mk [], ⟨0, 0, 0, 0⟩, 2292, os⟩
end Mine
end
section
open PySem PySem.W PyProof.Rows PySem.Calls
set_option Elab.async false
set_option linter.unusedVariables false
set_option maxRecDepth 100000
set_option maxHeartbeats 0
namespace Mine
noncomputable def hEnv : Env := { scope := P2.main.scope, locals := mainNs, globals := mainNs, cells := [], code := hCode, frame := some 14 }
noncomputable def hC : Code := Code.body (behindTheImports P2) hEnv
noncomputable abbrev hB : List Frame := [topFrame hPos]
noncomputable def bt (a n : Nat) : List Stmt := ((behindTheImports P2).drop a).take n
noncomputable def b3S : Stmt := match (behindTheImports P2)[14]? with | some s => s | none => .Pass ⟨0, 0, 0, 0⟩
noncomputable def b3T : List PySem.Expr := match b3S with | .Assign t _ _ => t | _ => []
noncomputable def b3V : PySem.Expr := match b3S with | .Assign _ v _ => v | _ => .Constant .none 0 ⟨0, 0, 0, 0⟩
noncomputable def b3P : Pos := match b3S with | .Assign _ _ p => p | _ => ⟨0, 0, 0, 0⟩
noncomputable def b3D : Pos := match b3V with | .Dict _ _ p => p | _ => ⟨0, 0, 0, 0⟩
noncomputable def b3L : List (Int × Str) := b3C1 ++ (b3Cs.flatten ++ b3C)
noncomputable def b3R (v : Value) : Sem Flow := (swappedStores b3T b3V hEnv).bind fun sw => assignStores hEnv v sw ((assignEach b3T hEnv).map (·.2))
theorem b3_zip : (match b3V with | .Dict ks vs pos => (evalEachOpt ks hEnv).zip ((evalEach vs hEnv).map fun v => do let x ← v; standAt pos; pure x) | _ => []) = its b3D b3L := by kernel_rfl!
theorem b3_exec : exec b3S hEnv = (standAt b3P).bind fun _ => ((standAt b3D).bind fun _ => dictDisplay (its b3D b3L)).bind b3R := by
  rw [← b3_zip]
  kernel_rfl!
theorem b3_asc : ascB (-1) b3L = true := by decide +kernel
theorem b3_17 : ∀ x ∈ b3Cs, x.length = 17 := by decide +kernel
theorem list_len (t : BT) (n : Nat) : (t.list n).length = n := by simp [BT.list]
theorem tr3b_ok (P : Params) : (tr3b P).list 125 = (tr3 P).list 86 ++ b3Objs := by kernel_rfl!
theorem b3_rest (w : World) (os : OsState) : segRunT treeTable P2 w 11 hAnn 1 8 (st3b w os) ⟨(b3R (.ref 86)).wrap doneF deadEnd id id, hC, b3D, hB⟩ = some (.next, st4 w os, hC, ⟨73, 0, 73, 13⟩) := by
  rw [PySem.W.Fast.te10110043849684766642, PySem.W.Fast.te14364793385576792824]
  kernel_rfl!
theorem top_of_seg {p : Program} {w : World} {n₀ : Nat} {ann : Option Value} {q : Pos} {n : Nat} {s s' : Shared} {x : Sem Flow} {f : Flow} {c c' : Code} {pos p' : Pos} (h : segRun treeTable p w n₀ ann 1 n s ⟨x.wrap doneF deadEnd id id, c, pos, [topFrame q]⟩ = some (f, s', c', p')) (K : Flow → Sem Fin) (H : Value → Sem Fin) {N : Nat} {r : Shared}
    (k : topRun treeTable p w n₀ ann N s' ⟨K f, c', p', [topFrame q]⟩ = some r) : topRun treeTable p w n₀ ann (n + N) s ⟨x.wrap K H id id, c, pos, [topFrame q]⟩ = some r := by
  obtain ⟨a, ha, hN⟩ := seg_top (res := id) (K' := K) (H' := H) (B := [topFrame q]) rfl n s ⟨x.wrap doneF deadEnd id id, c, pos, [topFrame q]⟩ ⟨x.wrap K H id id, c, pos, [topFrame q]⟩ _ _ _ _ ⟨rfl, rfl, .inl ⟨rfl, rfl, _, rfl, rfl⟩⟩ h
  obtain rfl : a = f := ha
  exact hN N r k
noncomputable def hX (w : World) : Tp := ⟨P2, w, 11, hAnn, behindTheImports P2, hEnv, hPos⟩
theorem b3_1 : b3C1.length = 17 := by decide +kernel
theorem b3_2 : b3C.length ≤ 15 := by decide +kernel
theorem b3_3 : b3C ≠ [] := by decide +kernel
theorem b3_4 : b3Cs.length < 10000 := by decide +kernel
theorem b3_5 : 342 + 51 * (b3Cs.length + 1) + 3 * b3C.length = 2292 := by decide +kernel
theorem b3_6 : dO (entsOf 342 (b3C1 :: b3Cs) ++ ent2 (342 + 51 * (b3Cs.length + 1)) b3C) (17 * (b3Cs.length + 1) + b3C.length) :: (subsOf (342 + 51) b3Cs ++ [dO (ent2 (342 + 51 * (b3Cs.length + 1)) b3C) b3C.length]) = b3Objs := by kernel_rfl!
theorem st3_abs (w : World) (os : OsState) : (st3 w os).abs = sh ((tr3 w.params).list 86) hLife (Array.mk []) ⟨0, 0, 0, 0⟩ 342 os := by kernel_rfl!
theorem st3b_abs (w : World) (os : OsState) : (st3b w os).abs = sh ((tr3b w.params).list 125) hLife (Array.mk []) ⟨0, 0, 0, 0⟩ 2292 os := by kernel_rfl!
theorem b3_disp (w : World) (os : OsState) : Rn (hX w) (330 * b3Cs.length + (19 * b3C.length + 6) + 223) (dictDisplay (its b3D b3L)) (st3 w os).abs b3D (.ref 86) (st3b w os).abs b3D := by
  have hd := disp_ok (X := hX w) (pos := b3D) (life := hLife) (gens := Array.mk []) (dr := ⟨0, 0, 0, 0⟩) (tk := 342) (os := os) (L0 := (tr3 w.params).list 86) (c := b3C) (c1 := b3C1) (cs := b3Cs) b3_1 b3_17 b3_2 b3_3 (by rw [list_len]; show 11 ≤ 86; omega) (by show 1 < 11; omega) b3_asc b3_4
  rw [list_len, b3_6, b3_5] at hd
  rw [st3_abs, st3b_abs, tr3b_ok]
  exact hd
theorem b3_join {w : World} {s3 s3b s4 : Shared} {dd : Sem Value} {P D pos p4 : Pos} {b3R : Value → Sem Flow} {v : Value} {ND N : Nat} {r : Shared} {rest : List Stmt} {st : Stmt} (he : exec st hEnv = (standAt P).bind fun _ => ((standAt D).bind fun _ => dd).bind b3R) (hd : Rn (hX w) ND dd s3 D v s3b D)
    (hr : segRun treeTable P2 w 11 hAnn 1 8 s3b ⟨(b3R v).wrap doneF deadEnd id id, hC, D, hB⟩ = some (.next, s4, hC, p4)) (k : topRun treeTable P2 w 11 hAnn N s4 (restOf rest hEnv hC p4 hB) = some r) :
    topRun treeTable P2 w 11 hAnn (8 + N + (ND + 1 + 1)) s3 (restOf (st :: rest) hEnv hC pos hB) = some r := by
  unfold restOf
  rw [execs_cons_wrap, he]
  generalize hK : (fun (f : Flow) => match f with | .next => (execs rest hEnv).wrap doneF (leaveH hEnv) id id | f => doneF f) = K
  have k' : topRun treeTable P2 w 11 hAnn N s4 ⟨K .next, hC, p4, hB⟩ = some r := by rw [← hK]; exact k
  have h1 := top_of_seg hr K (leaveH hEnv) k'
  have e0 := Rn.bind (X := hX w) (f := fun _ => dd) (Rn.at (s := s3) (pos := P) (p' := D)) hd
  have e1 := Rn.bind (X := hX w) (f := fun _ => standAt D >>= fun _ => dd) (Rn.at (s := s3) (pos := pos) (p' := P)) e0
  have e2 := e1 (fun a => (b3R a).wrap K (leaveH hEnv) id id) (fun e => (Sem.raise e).wrap K (leaveH hEnv) id id) (fun g => id (id g)) (fun l => id (id l)) (8 + N) r h1
  have assoc := sem_assoc (standAt P) (fun _ => (standAt D).bind fun _ => dd) b3R
  rw [← assoc, Sem.bind_eq_wrap _ b3R, Sem.wrap_wrap]
  exact e2
noncomputable def b3N : Nat := 330 * b3Cs.length + (19 * b3C.length + 6) + 223
theorem hp_b3 (w : World) (os : OsState) (rest : List Stmt) {N : Nat} {r : Shared} (k : topRun treeTable P2 w 11 hAnn N (st4 w os).abs (restOf rest hEnv hC ⟨73, 0, 73, 13⟩ hB) = some r) :
    topRun treeTable P2 w 11 hAnn (8 + N + (b3N + 1 + 1)) (st3 w os).abs (restOf (b3S :: rest) hEnv hC ⟨71, 0, 72, 30⟩ hB) = some r :=
  b3_join b3_exec (b3_disp w os) (segRun_of (b3_rest w os)) k
end Mine
end
section
open PySem PySem.W PyProof.Rows PySem.Calls
set_option Elab.async false
set_option linter.unusedVariables false
set_option maxRecDepth 100000
set_option maxHeartbeats 0
namespace Mine
theorem hp_pre (w : World) (os : OsState) : topGo treeTable P2 w 11 hAnn 12 ⟨boot_heap w.params, Array.mk [], boot_drawn, boot_toks, os⟩ (topStub P2) = some ((st0 w os).abs, ⟨denote treeTable hC, hC, ⟨0, 0, 0, 0⟩, hB⟩) := by
  rw [PySem.W.Fast.te15667345088766844465, PySem.W.Fast.te14364793385576792824, PySem.W.Fast.te11892475500146522536]
  kernel_rfl!
theorem hp_block (w : World) (os : OsState) : segRun treeTable P2 w 11 hAnn 1 1 (st0 w os).abs (blockOf (behindTheImports P2) hEnv hC ⟨0, 0, 0, 0⟩ hB) = some (.next, (st0 w os).abs, hC, ⟨0, 0, 0, 0⟩) := by
  kernel_rfl!
theorem hp_1 (w : World) (os : OsState) : segRunT treeTable P2 w 11 hAnn 1 592 (st0 w os) (piecesOf (bt 0 12) hEnv hC ⟨0, 0, 0, 0⟩ hB) = some (.next, st1 w os, hC, ⟨69, 0, 69, 8⟩) := by
  unfold piecesOf
  rw [PySem.W.Fast.te10110043849684766642, PySem.W.Fast.te14364793385576792824, PySem.W.Fast.te12563942051412417395]
  kernel_rfl!
noncomputable def Row2 (w : World) : Prop := ∀ os : OsState, segRunT treeTable P2 w 11 hAnn 1 999 (st1 w os) (piecesOf (bt 12 1) hEnv hC ⟨69, 0, 69, 8⟩ hB) = some (.next, st2 w os, hC, ⟨70, 0, 70, 6⟩)
theorem hp_2a (w : World) : Row2 ((w.withFollow "set-order" false).withFollow "special-get-raises" false) := by
  intro os
  unfold piecesOf
  rw [PySem.W.Fast.te10110043849684766642, PySem.W.Fast.te14364793385576792824, PySem.W.Fast.te12563942051412417395]
  kernel_rfl!
theorem hp_2b (w : World) : Row2 ((w.withFollow "set-order" false).withFollow "special-get-raises" true) := by
  intro os
  unfold piecesOf
  rw [PySem.W.Fast.te10110043849684766642, PySem.W.Fast.te14364793385576792824, PySem.W.Fast.te12563942051412417395]
  kernel_rfl!
theorem hp_2c (w : World) : Row2 ((w.withFollow "set-order" true).withFollow "special-get-raises" false) := by
  intro os
  unfold piecesOf
  rw [PySem.W.Fast.te10110043849684766642, PySem.W.Fast.te14364793385576792824, PySem.W.Fast.te12563942051412417395]
  kernel_rfl!
theorem hp_2d (w : World) : Row2 ((w.withFollow "set-order" true).withFollow "special-get-raises" true) := by
  intro os
  unfold piecesOf
  rw [PySem.W.Fast.te10110043849684766642, PySem.W.Fast.te14364793385576792824, PySem.W.Fast.te12563942051412417395]
  kernel_rfl!
theorem hp_2 (w : World) : Row2 w :=
  byRow2 "special-get-raises" (P := Row2) (fun w => byRow2 "set-order" (P := fun w => Row2 (w.withFollow "special-get-raises" false)) hp_2a hp_2c w) (fun w => byRow2 "set-order" (P := fun w => Row2 (w.withFollow "special-get-raises" true)) hp_2b hp_2d w) w
theorem hp_3 (w : World) (os : OsState) : segRunT treeTable P2 w 11 hAnn 1 30 (st2 w os) (piecesOf (bt 13 1) hEnv hC ⟨70, 0, 70, 6⟩ hB) = some (.next, st3 w os, hC, ⟨71, 0, 72, 30⟩) := by
  unfold piecesOf
  rw [PySem.W.Fast.te10110043849684766642, PySem.W.Fast.te14364793385576792824, PySem.W.Fast.te12563942051412417395]
  kernel_rfl!
theorem hp_4 (w : World) (os : OsState) : segRunT treeTable P2 w 11 hAnn 1 224 (st4 w os) (piecesOf (bt 15 8) hEnv hC ⟨73, 0, 73, 13⟩ hB) = some (.next, st5 w os, hC, ⟨113, 0, 154, 48⟩) := by
  unfold piecesOf
  rw [PySem.W.Fast.te10110043849684766642, PySem.W.Fast.te14364793385576792824, PySem.W.Fast.te12563942051412417395]
  kernel_rfl!
theorem hp_fin (w : World) (os : OsState) : topRun treeTable P2 w 11 hAnn 2 (st5 w os).abs ⟨doneF .next, hC, ⟨113, 0, 154, 48⟩, hB⟩ = some (st5 w os).abs := by kernel_rfl!
theorem body_eq : behindTheImports P2 = bt 0 12 ++ (bt 12 1 ++ (bt 13 1 ++ (b3S :: (bt 15 8 ++ [])))) := by kernel_rfl!
noncomputable def hM : Nat := 12 + (1 + (592 + (999 + (30 + (8 + (224 + 2) + (b3N + 1 + 1))))))
theorem hp_run (w : World) (os : OsState) : topRun treeTable P2 w 11 hAnn hM ⟨boot_heap w.params, Array.mk [], boot_drawn, boot_toks, os⟩ (topStub P2) = some (st5 w os).abs := by
  refine go_top (hp_pre w os) (piece_block (hp_block w os) ?_)
  have k0 := piece_nil (env := hEnv) (hp_fin w os)
  have k4 := piece_app (segRun_of (hp_4 w os)) k0
  have k3 := hp_b3 w os _ k4
  have k2 := piece_app (segRun_of (hp_3 w os)) k3
  have k1 := piece_app (segRun_of (hp_2 w os)) k2
  have k := piece_app (segRun_of (hp_1 w os)) k1
  rw [← body_eq] at k
  exact k
end Mine
end
section
open PySem PySem.W PyProof.Rows PySem.Calls
set_option Elab.async false
set_option linter.unusedVariables false
set_option maxRecDepth 100000
set_option maxHeartbeats 0
namespace Mine
noncomputable def lawDef : Stmt := match P2.main.body[22]? with | some s => s | none => .Pass ⟨0, 0, 0, 0⟩
noncomputable def q2 : Program := { P2 with main := { P2.main with body := [lawDef] } }
noncomputable def loose2 : List Str := ["ELLIPSIS_MARKER", "_ellipsis_match", "Error", "error_reply", "parse257", "_strcoll", "CHAR_MAX", "_grouping_intervals", "b1_set", "in_table_b1", "b3_exceptions", "map_table_b3", "_law_told", "_law_typed", "_law_dealt", "_law_reading", "_law_odd"]
noncomputable def hH (P : Params) : Heap := absHeap (tr5 P) 170 hLife
noncomputable def hS (w : World) (os : OsState) : Shared := ⟨hH w.params, Array.mk [], ⟨0, 0, 0, 0⟩, 2359, os⟩
theorem hS_eq (w : World) (os : OsState) : (st5 w os).abs = hS w os := by kernel_rfl!
noncomputable def hXt (s : Shared) : Bool := xlAt q2 [] s && recOk [] s
theorem look_a (w : World) : staticsOk (importedModules P2.main.body) (boot_heap w.params) (hH w.params) = true := by kernel_rfl!
theorem look_b (w : World) : namesBound P2 (hH w.params) = true := by kernel_rfl!
theorem look_c (w : World) (os : OsState) : gensDone (hS w os) = true := by kernel_rfl!
theorem look_d (w : World) : laidKept (boot_heap w.params) (hH w.params) = true := by kernel_rfl!
theorem look_e (w : World) (os : OsState) : openSeen q2 loose2 (importedModules P2.main.body) hXt true (hS w os) = openGood q2 loose2 := by
  rw [PySem.W.Fast.te4187177175401517315]
  kernel_rfl!
theorem size_ok (w : World) : ((boot_heap w.params).isNs mainGlobals && (Array.mk [] : Array GenState).size == 0, (boot_heap w.params).objs.size, (boot_heap w.params).nsMap mainGlobals "__annotations__") = (true, 11, hAnn) := by kernel_rfl!
theorem open_eq : opening P2 = plainProg P2.main.scope.names := by kernel_rfl!
theorem fence_eq : ∀ s, fenceModules? P2 s = some s := fun s => by kernel_rfl!
theorem hLeft : LeftO P2 q2 loose2 hXt (fun s => s.heap) (fun w => hH w.params) 20000 :=
  LeftO.of_pieces (g0 := true) (H₀ := boot_heap) (H₁ := hH) (gs₀ := Array.mk []) (gs₁ := Array.mk []) (d₀ := boot_drawn) (d₁ := ⟨0, 0, 0, 0⟩) (k₀ := boot_toks) (k₁ := 2359) (m₀ := 11) (ann := hAnn) (M := hM)
    (boot_open open_eq (by decide +kernel) fence_eq) size_ok (fun w os => (hp_run w os).trans (congrArg some (hS_eq w os))) (by decide +kernel)
    (fun w => funext fun os => by
      have e1 : (staticsOk (importedModules P2.main.body) (boot_heap w.params) (hH w.params) && namesBound P2 (hH w.params) && gensDone (hS w os) && laidKept (boot_heap w.params) (hH w.params)) = true := by
        rw [look_a, look_b, look_c, look_d]; rfl
      exact Prod.ext e1 (Prod.ext (look_e w os) rfl))
end Mine
end
section
open PySem PySem.W PyProof.Rows PySem.Calls
set_option Elab.async false
set_option linter.unusedVariables false
set_option maxRecDepth 100000
set_option maxHeartbeats 0
namespace Mine
theorem ns_unique {h : Heap} {a : Addr} {m m' : Str → Option Value} (x : h.Ns a m) (y : h.Ns a m') : m = m' := by
  obtain ⟨o, es, ep, ho, hd, _, hf⟩ := x
  obtain ⟨o', es', ep', ho', hd', _, hf'⟩ := y
  rw [ho] at ho'
  obtain rfl := Option.some.inj ho'
  rw [hd] at hd'
  cases hd'
  funext n
  rw [← hf, ← hf']
noncomputable def isIntD : PyData → Bool
  | .int _ => true
  | _ => false
noncomputable def lawSpec : Spec := fun ds K => match ds with
  | [.list xs] => chk (xs.all isIntD && Nat.ble xs.length 63) (K (.bool true))
  | _ => False
theorem items_ints {R : WRecords} : ∀ {xs : List WData}, WShape.hasItems R xs .int = true → ∃ ns : List Int, xs = ns.map WData.int
  | [], _ => ⟨[], rfl⟩
  | x :: r, h => by
    unfold WShape.hasItems at h
    rw [Bool.and_eq_true] at h
    obtain ⟨ns, rfl⟩ := items_ints h.2
    cases x with
    | int i => exact ⟨i :: ns, rfl⟩
    | _ => exact Bool.noConfusion (show false = true from h.1)
theorem pre_args {args : List WData} (h : (RowW.claim PySem.Challenge.rw_wr0041_02.row.toRowW).pre args = true) : ∃ ns : List Int, args = [.list (ns.map WData.int)] ∧ ns.length ≤ 63 := by
  have h : (WShape.hasAll [] args [.list .int] && (PySem.Challenge.rw_wr0041_02.pre).holds [] { args := args }) = true := h
  rw [Bool.and_eq_true] at h
  obtain ⟨h1, h2⟩ := h
  match args, h1 with
  | [x], h1 =>
    unfold WShape.hasAll at h1
    dsimp only at h1
    rw [Bool.and_eq_true] at h1
    cases x with
    | list xs =>
      have h3 : WShape.hasItems [] xs .int = true := (Bool.or_false (WShape.hasItems [] xs .int)).symm.trans h1.1
      obtain ⟨ns, rfl⟩ := items_ints h3
      refine ⟨ns, rfl, ?_⟩
      have h4 : (match WTm.value [] (.and (.not (.lt (.lit (.int 63)) (.len (.arg 0)))) (.lit (.bool true))) { args := [.list (ns.map WData.int)] } with | some (.bool true) => true | _ => false) = true := h2
      have e : WTm.value [] (.and (.not (.lt (.lit (.int 63)) (.len (.arg 0)))) (.lit (.bool true))) { args := [.list (ns.map WData.int)] } = some (.bool (!(decide ((63 : Int) < ((ns.map WData.int).length : Int))))) := by
        simp only [WTm.value, List.getElem?_cons_zero]
        show (match (match (match less? (.int 63) (.int ((ns.map WData.int).length : Int)) |>.map WData.bool with | some (.bool b) => some (WData.bool (!b)) | _ => none) with | some (.bool false) => some (WData.bool false) | some (.bool true) => some (WData.bool true) | _ => none) with | x => x) = _
        have hl : less? (.int 63) (.int ((ns.map WData.int).length : Int)) = some (decide ((63 : Int) < ((ns.map WData.int).length : Int))) := by simp [less?, Num.less?]
        rw [hl]
        cases decide ((63 : Int) < ((ns.map WData.int).length : Int)) <;> rfl
      rw [e] at h4
      have : decide ((63 : Int) < ((ns.map WData.int).length : Int)) = false := by
        cases q : decide ((63 : Int) < ((ns.map WData.int).length : Int)) with
        | false => rfl
        | true => rw [q] at h4; simp at h4
      have := of_decide_eq_false this
      rw [List.length_map] at this
      omega
    | _ => exact Bool.noConfusion (show false = true from h1.1)
  | [], h1 => exact Bool.noConfusion (show false = true from h1)
  | x :: _ :: _, h1 =>
    unfold WShape.hasAll at h1
    dsimp only at h1
    rw [Bool.and_eq_true] at h1
    exact Bool.noConfusion (show false = true from h1.2)
theorem well_ints {P : Params} {h : Heap} : ∀ {ns : List Int} {vs : List Value}, WellAll P h vs (ns.map WData.int) → ReadsAll h vs (ns.map PyData.int) []
  | [], vs, x => by
    cases x
    exact .nil
  | i :: r, vs, x => by
    cases x with
    | cons hw hr =>
      cases hw with
      | int _ t => exact .cons (as := []) (bs := []) (.int i t) (well_ints hr)
theorem law_some : (defOf q2 "law").isSome = true := by kernel_rfl!
noncomputable def lawD : DefRec × List (Str × PySem.Expr) := (defOf q2 "law").get law_some
theorem law_def : defOf q2 "law" = some (lawD.1, lawD.2) := (Option.some_get law_some).symm
theorem top_holds (F : ∀ (w : World) (hT : Heap) (os : OsState), (∀ b o, (hH w.params).get? b = some o → hT.get? b = some o) → hT.NoLimit → ∃ ℓ, ℓ ≤ 500 ∧ FnOk P2 w hT os ℓ lawSpec 169) : PySem.Challenge.rw_wr0041_02.Holds := by
  refine holds_law (by decide +kernel) fun said => ?_
  refine holds_open (d := lawD.1) (kwd := lawD.2) (q := q2) (loose := loose2) (Xt := fun s => xlAt q2 [] s && recOk (RowW.records PySem.Challenge.rw_wr0041_02.row.toRowW) s) (XP := XL q2 []) (Yf := fun s => s.heap) (Ya := fun w => hH w.params) (YP := fun w h => ∀ b o, (hH w.params).get? b = some o → h.get? b = some o) (N := 20000) ?hl (fun w s e b o hb => by rw [e]; exact hb) (fun w h h' x k b o e => k b o (x b o e)) (fun s e => xl_of s (Bool.and_eq_true_iff.mp e).1) XL.keeps law_def (by kernel_rfl!) (by kernel_rfl!) (fun s e => recFacts_of (Bool.and_eq_true_iff.mp e).2) (by rfl) (by assumption) (by decide +kernel) ⟨rfl, rfl, rfl, rfl, rfl, by decide +kernel⟩ ?hw ?hc
  case hl => exact hLeft
  case hw => exact ⟨[.list [.int 3, .int 1]], by decide +kernel, by decide +kernel⟩
  case hc =>
    intro w s₀ s₁ mg mb G Y a o pm cd doc dV kV ho hd hcd hD hmg hg args vals as hpre hlay hrd hwl hlo
    clear hd hD hcd
    have hN : s₁.heap.Ns mainGlobals ((hH w.params).nsMap mainGlobals) := (Heap.Ns.of_isNs (show (hH w.params).isNs mainGlobals = true by kernel_rfl!)).keeps Y
    have hm := ns_unique G.T.g hN
    have hmg : mg "law" = some (.ref a) := hmg
    rw [hm] at hmg
    have hl : (hH w.params).nsMap mainGlobals "law" = some (.ref 169) := by kernel_rfl!
    rw [hl] at hmg
    obtain rfl : 169 = a := by cases hmg; rfl
    obtain ⟨ns, rfl, hlen⟩ := pre_args hpre
    obtain ⟨ℓ, hℓ, F⟩ := F w s₁.heap s₁.os Y G.T.nolimit
    cases hwl with
    | cons hw1 hw2 =>
      cases hw2
      cases hw1 with
      | list ha hvs =>
        rename_i l vs
        have r := well_ints hvs
        have rd : ReadsAll s₁.heap [.ref l] [.list (ns.map PyData.int)] [l] := .cons (as := [l]) (bs := []) (.list ha rfl rfl (by simpa using r)) .nil
        refine wpAny_mono (F [] callerA s₁ [.ref l] [.list (ns.map PyData.int)] [l] (fun d => d = .bool true) ⟨rfl, rfl, ?_, ?_⟩ ⟨fun b o q => q, ?_, rfl⟩ (fun e he => nomatch he) rd ?_ (fun b hb => ?_) ?_) (fun v s' ⟨d, as', hk, rdd, nd, fresh, ext, gi⟩ => ?_) (fun _ _ q => q.elim)
        · show 1 + claimMargin + ℓ ≤ 900
          have : claimMargin = 300 := rfl
          omega
        · show 4 + 4 * ℓ ≤ 5000
          omega
        · rw [hg]; exact .of_eq rfl
        · have : ∀ l : List Int, noDicts (l.map PyData.int) = true := by
            intro l
            induction l with
            | nil => rfl
            | cons x r ih => show (noDict (.int x) && noDicts (r.map PyData.int)) = true; rw [ih]; rfl
          show (noDict (.list (ns.map PyData.int)) && noDicts []) = true
          rw [show noDict (.list (ns.map PyData.int)) = noDicts (ns.map PyData.int) from rfl, this]; rfl
        · rw [List.mem_singleton] at hb; subst hb
          exact ⟨_, _, ha⟩
        · refine chk_iff.mpr ⟨?_, rfl⟩
          rw [Bool.and_eq_true]
          refine ⟨?_, Nat.ble_eq_true_of_le (by rw [List.length_map]; exact hlen)⟩
          rw [List.all_eq_true]
          intro x hx
          obtain ⟨i, _, rfl⟩ := List.mem_map.mp hx
          rfl
        · subst hk
          cases rdd
          refine ⟨.inl ⟨.bool true, .bool true, [], rfl, fun cls => rfl, .bool true, ?_, fun _ => ⟨.nil, fun _ q => nomatch q⟩⟩, .of_keep gi.keep, gi.os, gi.bare⟩
          kernel_rfl!
end Mine
end
section
open PySem PySem.W PyProof.Rows PySem.Calls
set_option Elab.async false
set_option linter.unusedVariables false
set_option maxRecDepth 100000
set_option maxHeartbeats 0
namespace Mine
noncomputable def fdOf (o : Obj) : FuncData := match o.data with | .func f => f | _ => default
theorem FdOk.keeps {h h' : Heap} {fd : FuncData} {sc : Scope} {ps : List Str} {body : List Stmt} {a : Addr} (x : FdOk h fd sc ps body a) (k : ∀ b o, h.get? b = some o → h'.get? b = some o) : FdOk h' fd sc ps body a :=
  ⟨let ⟨o, g, d⟩ := x.at_; ⟨o, k _ _ g, d⟩, x.cd.keeps k, x.body, x.clo, x.glob, x.bi, x.scope, x.bind⟩
theorem bind1 {fd : FuncData} {ps : List Str} (hl : ps.length = 1) (h : ∀ v, bindArgs fd ⟨[v], []⟩ = pure (ps.zip [v])) (vals : List Value) (e : vals.length = ps.length) : bindArgs fd ⟨vals, []⟩ = pure (ps.zip vals) := by
  rw [hl] at e
  match vals, e with
  | [v], _ => exact h v
theorem bind2 {fd : FuncData} {ps : List Str} (hl : ps.length = 2) (h : ∀ v u, bindArgs fd ⟨[v, u], []⟩ = pure (ps.zip [v, u])) (vals : List Value) (e : vals.length = ps.length) : bindArgs fd ⟨vals, []⟩ = pure (ps.zip vals) := by
  rw [hl] at e
  match vals, e with
  | [v, u], _ => exact h v u
theorem bind3 {fd : FuncData} {ps : List Str} (hl : ps.length = 3) (h : ∀ v u x, bindArgs fd ⟨[v, u, x], []⟩ = pure (ps.zip [v, u, x])) (vals : List Value) (e : vals.length = ps.length) : bindArgs fd ⟨vals, []⟩ = pure (ps.zip vals) := by
  rw [hl] at e
  match vals, e with
  | [v, u, x], _ => exact h v u x
theorem m_ns (P : Params) : (hH P).Ns mainGlobals ((hH P).nsMap mainGlobals) := Heap.Ns.of_isNs (show (hH P).isNs mainGlobals = true by kernel_rfl!)
theorem b_ns (P : Params) : (hH P).Ns builtinsNs ((hH P).nsMap builtinsNs) := Heap.Ns.of_isNs (show (hH P).isNs builtinsNs = true by kernel_rfl!)
theorem mg_ellipsis_match (P : Params) : (hH P).nsMap mainGlobals "_ellipsis_match" = some (.ref 21) := by kernel_rfl!
theorem at_ellipsis_match (P : Params) : (hH P).get? 21 = some (o1x21 P) := by kernel_rfl!
theorem ps_ellipsis_match : (psOf P2 2).length = 2 := by kernel_rfl!
theorem fd_ellipsis_match (P : Params) : FdOk (hH P) (fdOf (o1x21 P)) (scOf P2 2) (psOf P2 2) (bodyOf P2 2) 21 :=
  ⟨⟨_, at_ellipsis_match P, rfl⟩, Heap.CodeRec.of_ok (by kernel_rfl!), by kernel_rfl!, by kernel_rfl!, by kernel_rfl!, by kernel_rfl!, by kernel_rfl!, bind2 ps_ellipsis_match (by intros; kernel_rfl!)⟩
theorem mg_parse257 (P : Params) : (hH P).nsMap mainGlobals "parse257" = some (.ref 53) := by kernel_rfl!
theorem at_parse257 (P : Params) : (hH P).get? 53 = some (o1x53 P) := by kernel_rfl!
theorem ps_parse257 : (psOf P2 6).length = 1 := by kernel_rfl!
theorem fd_parse257 (P : Params) : FdOk (hH P) (fdOf (o1x53 P)) (scOf P2 6) (psOf P2 6) (bodyOf P2 6) 53 :=
  ⟨⟨_, at_parse257 P, rfl⟩, Heap.CodeRec.of_ok (by kernel_rfl!), by kernel_rfl!, by kernel_rfl!, by kernel_rfl!, by kernel_rfl!, by kernel_rfl!, bind1 ps_parse257 (by intros; kernel_rfl!)⟩
theorem mg_strcoll (P : Params) : (hH P).nsMap mainGlobals "_strcoll" = some (.ref 60) := by kernel_rfl!
theorem at_strcoll (P : Params) : (hH P).get? 60 = some (o1x60 P) := by kernel_rfl!
theorem ps_strcoll : (psOf P2 8).length = 2 := by kernel_rfl!
theorem fd_strcoll (P : Params) : FdOk (hH P) (fdOf (o1x60 P)) (scOf P2 8) (psOf P2 8) (bodyOf P2 8) 60 :=
  ⟨⟨_, at_strcoll P, rfl⟩, Heap.CodeRec.of_ok (by kernel_rfl!), by kernel_rfl!, by kernel_rfl!, by kernel_rfl!, by kernel_rfl!, by kernel_rfl!, bind2 ps_strcoll (by intros; kernel_rfl!)⟩
theorem mg_grouping_intervals (P : Params) : (hH P).nsMap mainGlobals "_grouping_intervals" = some (.ref 67) := by kernel_rfl!
theorem at_grouping_intervals (P : Params) : (hH P).get? 67 = some (o1x67 P) := by kernel_rfl!
theorem ps_grouping_intervals : (psOf P2 10).length = 1 := by kernel_rfl!
theorem fd_grouping_intervals (P : Params) : FdOk (hH P) (fdOf (o1x67 P)) (scOf P2 10) (psOf P2 10) (bodyOf P2 10) 67 :=
  ⟨⟨_, at_grouping_intervals P, rfl⟩, Heap.CodeRec.of_ok (by kernel_rfl!), by kernel_rfl!, by kernel_rfl!, by kernel_rfl!, by kernel_rfl!, by kernel_rfl!, bind1 ps_grouping_intervals (by intros; kernel_rfl!)⟩
theorem mg_in_table_b1 (P : Params) : (hH P).nsMap mainGlobals "in_table_b1" = some (.ref 85) := by kernel_rfl!
theorem at_in_table_b1 (P : Params) : (hH P).get? 85 = some (o3x85 P) := by kernel_rfl!
theorem ps_in_table_b1 : (psOf P2 13).length = 1 := by kernel_rfl!
theorem fd_in_table_b1 (P : Params) : FdOk (hH P) (fdOf (o3x85 P)) (scOf P2 13) (psOf P2 13) (bodyOf P2 13) 85 :=
  ⟨⟨_, at_in_table_b1 P, rfl⟩, Heap.CodeRec.of_ok (by kernel_rfl!), by kernel_rfl!, by kernel_rfl!, by kernel_rfl!, by kernel_rfl!, by kernel_rfl!, bind1 ps_in_table_b1 (by intros; kernel_rfl!)⟩
theorem mg_map_table_b3 (P : Params) : (hH P).nsMap mainGlobals "map_table_b3" = some (.ref 131) := by kernel_rfl!
theorem at_map_table_b3 (P : Params) : (hH P).get? 131 = some (o5x131 P) := by kernel_rfl!
theorem ps_map_table_b3 : (psOf P2 15).length = 1 := by kernel_rfl!
theorem fd_map_table_b3 (P : Params) : FdOk (hH P) (fdOf (o5x131 P)) (scOf P2 15) (psOf P2 15) (bodyOf P2 15) 131 :=
  ⟨⟨_, at_map_table_b3 P, rfl⟩, Heap.CodeRec.of_ok (by kernel_rfl!), by kernel_rfl!, by kernel_rfl!, by kernel_rfl!, by kernel_rfl!, by kernel_rfl!, bind1 ps_map_table_b3 (by intros; kernel_rfl!)⟩
theorem mg_law_told (P : Params) : (hH P).nsMap mainGlobals "_law_told" = some (.ref 138) := by kernel_rfl!
theorem at_law_told (P : Params) : (hH P).get? 138 = some (o5x138 P) := by kernel_rfl!
theorem ps_law_told : (psOf P2 17).length = 1 := by kernel_rfl!
theorem fd_law_told (P : Params) : FdOk (hH P) (fdOf (o5x138 P)) (scOf P2 17) (psOf P2 17) (bodyOf P2 17) 138 :=
  ⟨⟨_, at_law_told P, rfl⟩, Heap.CodeRec.of_ok (by kernel_rfl!), by kernel_rfl!, by kernel_rfl!, by kernel_rfl!, by kernel_rfl!, by kernel_rfl!, bind1 ps_law_told (by intros; kernel_rfl!)⟩
theorem mg_law_typed (P : Params) : (hH P).nsMap mainGlobals "_law_typed" = some (.ref 143) := by kernel_rfl!
theorem at_law_typed (P : Params) : (hH P).get? 143 = some (o5x143 P) := by kernel_rfl!
theorem ps_law_typed : (psOf P2 18).length = 2 := by kernel_rfl!
theorem fd_law_typed (P : Params) : FdOk (hH P) (fdOf (o5x143 P)) (scOf P2 18) (psOf P2 18) (bodyOf P2 18) 143 :=
  ⟨⟨_, at_law_typed P, rfl⟩, Heap.CodeRec.of_ok (by kernel_rfl!), by kernel_rfl!, by kernel_rfl!, by kernel_rfl!, by kernel_rfl!, by kernel_rfl!, bind2 ps_law_typed (by intros; kernel_rfl!)⟩
theorem mg_law_dealt (P : Params) : (hH P).nsMap mainGlobals "_law_dealt" = some (.ref 150) := by kernel_rfl!
theorem at_law_dealt (P : Params) : (hH P).get? 150 = some (o5x150 P) := by kernel_rfl!
theorem ps_law_dealt : (psOf P2 19).length = 3 := by kernel_rfl!
theorem fd_law_dealt (P : Params) : FdOk (hH P) (fdOf (o5x150 P)) (scOf P2 19) (psOf P2 19) (bodyOf P2 19) 150 :=
  ⟨⟨_, at_law_dealt P, rfl⟩, Heap.CodeRec.of_ok (by kernel_rfl!), by kernel_rfl!, by kernel_rfl!, by kernel_rfl!, by kernel_rfl!, by kernel_rfl!, bind3 ps_law_dealt (by intros; kernel_rfl!)⟩
theorem mg_law_reading (P : Params) : (hH P).nsMap mainGlobals "_law_reading" = some (.ref 157) := by kernel_rfl!
theorem at_law_reading (P : Params) : (hH P).get? 157 = some (o5x157 P) := by kernel_rfl!
theorem ps_law_reading : (psOf P2 20).length = 2 := by kernel_rfl!
theorem fd_law_reading (P : Params) : FdOk (hH P) (fdOf (o5x157 P)) (scOf P2 20) (psOf P2 20) (bodyOf P2 20) 157 :=
  ⟨⟨_, at_law_reading P, rfl⟩, Heap.CodeRec.of_ok (by kernel_rfl!), by kernel_rfl!, by kernel_rfl!, by kernel_rfl!, by kernel_rfl!, by kernel_rfl!, bind2 ps_law_reading (by intros; kernel_rfl!)⟩
theorem mg_law_odd (P : Params) : (hH P).nsMap mainGlobals "_law_odd" = some (.ref 164) := by kernel_rfl!
theorem at_law_odd (P : Params) : (hH P).get? 164 = some (o5x164 P) := by kernel_rfl!
theorem ps_law_odd : (psOf P2 21).length = 3 := by kernel_rfl!
theorem fd_law_odd (P : Params) : FdOk (hH P) (fdOf (o5x164 P)) (scOf P2 21) (psOf P2 21) (bodyOf P2 21) 164 :=
  ⟨⟨_, at_law_odd P, rfl⟩, Heap.CodeRec.of_ok (by kernel_rfl!), by kernel_rfl!, by kernel_rfl!, by kernel_rfl!, by kernel_rfl!, by kernel_rfl!, bind3 ps_law_odd (by intros; kernel_rfl!)⟩
theorem mg_law (P : Params) : (hH P).nsMap mainGlobals "law" = some (.ref 169) := by kernel_rfl!
theorem at_law (P : Params) : (hH P).get? 169 = some (o5x169 P) := by kernel_rfl!
theorem ps_law : (psOf P2 22).length = 1 := by kernel_rfl!
theorem fd_law (P : Params) : FdOk (hH P) (fdOf (o5x169 P)) (scOf P2 22) (psOf P2 22) (bodyOf P2 22) 169 :=
  ⟨⟨_, at_law P, rfl⟩, Heap.CodeRec.of_ok (by kernel_rfl!), by kernel_rfl!, by kernel_rfl!, by kernel_rfl!, by kernel_rfl!, by kernel_rfl!, bind1 ps_law (by intros; kernel_rfl!)⟩
noncomputable def b1E : List (Int × Value) := [(65024, (.int 65024 291)), (65025, (.int 65025 292)), (65026, (.int 65026 293)), (65027, (.int 65027 294)), (65028, (.int 65028 295)), (65029, (.int 65029 296)), (6150, (.int 6150 277)), (65030, (.int 65030 297)), (65031, (.int 65031 298)), (65032, (.int 65032 299)), (65033, (.int 65033 300)), (6155, (.int 6155 278)), (6156, (.int 6156 279)), (6157, (.int 6157 280)), (8203, (.int 8203 281)), (8204, (.int 8204 282)), (8205, (.int 8205 283)), (65034, (.int 65034 301)), (65035, (.int 65035 302)), (65036, (.int 65036 303)), (65037, (.int 65037 304)), (65038, (.int 65038 305)), (65039, (.int 65039 306)), (173, (.int 173 275)), (847, (.int 847 276)), (8288, (.int 8288 284)), (65279, (.int 65279 285))]
theorem mg_b1 (P : Params) : (hH P).nsMap mainGlobals "b1_set" = some (.ref 75) := by kernel_rfl!
theorem at_b1 (P : Params) : (hH P).get? 75 = some (o2x75 P) := by kernel_rfl!
noncomputable abbrev b1A : Addr := 75
noncomputable abbrev b3A : Addr := 86
noncomputable abbrev b1Ob (P : Params) : Obj := o2x75 P
noncomputable def setTb : Obj → SetTable
  | ⟨_, _, .set _ _ t, _⟩ => t
  | _ => default
theorem b1_data (P : Params) : (b1Ob P).data = .set b1E.toArray 29 (setTb (b1Ob P)) := by kernel_rfl!
theorem b1_fits (P : Params) : (setTb (b1Ob P)).fits b1E.toArray.size = true := by kernel_rfl!
theorem mg_b3 (P : Params) : (hH P).nsMap mainGlobals "b3_exceptions" = some (.ref 86) := by kernel_rfl!
theorem at_b3 (P : Params) : (hH P).get? 86 = some (dO b3E (17 * (b3Cs.length + 1) + b3C.length)) := by kernel_rfl!
end Mine
end
section
open PySem PySem.W PyProof.Rows PySem.Calls
set_option Elab.async false
set_option linter.unusedVariables false
set_option maxRecDepth 100000
set_option maxHeartbeats 0
namespace Mine
noncomputable abbrev mgH (w : World) : Str → Option Value := (hH w.params).nsMap mainGlobals
noncomputable abbrev mbH (w : World) : Str → Option Value := (hH w.params).nsMap builtinsNs
theorem blt_names (w : World) : ∀ f : Str, bltOk f = true → mgH w f = none ∧ mbH w f = some (bltV f) := by
  intro f h
  unfold bltOk at h
  simp only [Bool.or_eq_true, beq_iff_eq] at h
  rcases h with (((((h | h) | h) | h) | h) | h) | h <;> subst h <;> exact ⟨by kernel_rfl!, by kernel_rfl!⟩
theorem enum_name (w : World) : mgH w "enumerate" = none ∧ mbH w "enumerate" = some (.type "enumerate") := ⟨by kernel_rfl!, by kernel_rfl!⟩
theorem con_name (w : World) : mgH w "ELLIPSIS_MARKER" = some (.str "..." 189) := by kernel_rfl!
/-- the top as it stands in hT -/
structure Topp (w : World) (hT : Heap) : Prop where
  keep : ∀ b o, (hH w.params).get? b = some o → hT.get? b = some o
  lim : hT.NoLimit
theorem gr_of {w : World} {hT : Heap} {os : OsState} {ℓ : Nat} (Y : Topp w hT) (l : List (Str × Spec)) (hl : ∀ x φ, l.lookup x = some φ → ∃ a o fd, mgH w x = some (.ref a) ∧ hT.get? a = some o ∧ o.data = .func fd ∧ FnOk P2 w hT os ℓ φ a) : Gr P2 w hT os ℓ (mkGl l) (mgH w) (mbH w) where
  gl := (m_ns w.params).keeps Y.keep
  bl := (b_ns w.params).keeps Y.keep
  lim := Y.lim
  con := fun x d h => by
    have h2 : con2 x = some d := h
    clear h
    unfold con2 at h2
    cases e : x == ("ELLIPSIS_MARKER" : Str) with
    | true =>
      rw [e] at h2
      have e := eq_of_beq e
      subst e
      obtain rfl : PyData.str "..." = d := Option.some.inj h2
      exact ⟨_, con_name w, fun h => .str _ _, rfl⟩
    | false => rw [e] at h2; cases h2
  fn := hl
  blt := blt_names w
  enum := enum_name w
theorem gr0 {w : World} {hT : Heap} {os : OsState} {ℓ : Nat} (Y : Topp w hT) : Gr P2 w hT os ℓ G0 (mgH w) (mbH w) := gr_of Y [] (fun x φ h => by simp at h)
/-! the plain functions -/
theorem c_strcoll {w : World} {hT : Heap} {os : OsState} (Y : Topp w hT) : FnOk P2 w hT os 1 sSpec 60 :=
  (fn_of (gr0 (ℓ := 0) Y) ((fd_strcoll w.params).keeps Y.keep) (by kernel_rfl!)).weaken s_ok
theorem c_parse257 {w : World} {hT : Heap} {os : OsState} (Y : Topp w hT) : FnOk P2 w hT os 1 pSpec 53 :=
  (fn_of (gr0 (ℓ := 0) Y) ((fd_parse257 w.params).keeps Y.keep) (by kernel_rfl!)).weaken p_ok
theorem c_ellipsis {w : World} {hT : Heap} {os : OsState} (Y : Topp w hT) : FnOk P2 w hT os 1 eSpec 21 :=
  (fn_of (gr0 (ℓ := 0) Y) ((fd_ellipsis_match w.params).keeps Y.keep) (by kernel_rfl!)).weaken e_ok
end Mine
end
section
open PySem PySem.W PyProof.Rows PySem.Calls
set_option Elab.async false
set_option linter.unusedVariables false
namespace Mine
section
variable {prog : Program} {w : World} {hT : Heap} {os : OsState} {g : Gl} {ℓ : Nat} {mg mb : Str → Option Value}
theorem fn_enter {fd : FuncData} {sc : Scope} {ps : List Str} {body : List Stmt} {a : Addr} {φ : Spec} (lim : hT.NoLimit) (F : FdOk hT fd sc ps body a) (hsc : fnSc sc ps = true) (hlen : ∀ ds K, φ ds K → ps.length = ds.length)
    (hb : ∀ (fr : List Env) (env : Env) (A : Around) (s : Shared) (ds : List PyData) (K : PyData → Prop), AOk fr ℓ A → EOk env → env.scope = sc → Inv hT os fr env ⟨ps.zip (ds.map V.d), []⟩ [] s → φ ds K → wpAny (model prog w) A (execs body env) (PS hT os fr env [] [] s.heap (finK K)) EF s) :
    FnOk prog w hT os (ℓ + 1) φ a := by
  exact fn_enter2 lim F hsc hlen fun fr env A s ds K _ _ hA eo es I h => hb fr env A s ds K hA eo es I h
end
end Mine
end
section
open PySem PySem.W PyProof.Rows PySem.Calls
set_option Elab.async false
set_option linter.unusedVariables false
set_option maxRecDepth 100000
set_option maxHeartbeats 0
namespace Mine
noncomputable def cmpL (e : PySem.Expr) : PySem.Expr := (ev e).1
noncomputable def cmpP (e : PySem.Expr) : Pos := (ev e).2.2
noncomputable def cmpR (e : PySem.Expr) : PySem.Expr := (ev e).2.1
noncomputable def stP' (s : Stmt) : Pos := (sv4 s).2.2.1
noncomputable def tbE : PySem.Expr := valE (stAt (bodyOf P2 13) 0)
theorem tb_body : bodyOf P2 13 = [.Return (some (.Compare (cmpL tbE) [.In] [.Name "b1_set" (cmpP (cmpR tbE))] (cmpP tbE))) (stP' (stAt (bodyOf P2 13) 0))] := by kernel_rfl!
noncomputable def oneCode (x : Str) : List (Str × V) := [("code", .d (.str x))]
theorem tb_L (x : Str) (K : V → St → Prop) : wpE G0 30 (scOf P2 13) (cmpL tbE) ⟨oneCode x, []⟩ K = (match x.cps.toList with | [c] => K (.d (.int c)) ⟨oneCode x, []⟩ | _ => False) := by kernel_rfl!
theorem kind_b1 : (scOf P2 13).names.lookup ("b1_set" : Str) = some NameKind.globalImplicit := by kernel_rfl!
/-! the set -/
noncomputable def b1S (k : Int) : Bool := b1E.any fun e => Value.isInt k e.2
noncomputable def valI : Value → Int | .int i _ => i | _ => 0
theorem b1_el : ∀ e ∈ b1E, (∃ k, Value.isInt k e.2 = true ∧ e.1 = hashInt k) ∧ e.2.scannable = true := by
  have h : b1E.all (fun e => Value.isInt (valI e.2) e.2 && decide (e.1 = hashInt (valI e.2)) && e.2.scannable) = true := by decide +kernel
  intro e he
  have := List.all_eq_true.mp h e he
  simp only [Bool.and_eq_true, decide_eq_true_eq] at this
  exact ⟨⟨_, this.1.1, this.1.2⟩, this.2⟩
theorem isInt_val {k : Int} {v : Value} (h : Value.isInt k v = true) : valI v = k := by
  cases v with
  | int i t => exact eq_of_beq h
  | _ => cases h
theorem b1_same (k : Int) : b1S k = hidI.any fun i => i == k := by
  have h1 : (b1E.map fun e => valI e.2).all (fun i => hidI.contains i) = true := by decide +kernel
  have h2 : hidI.all (fun i => b1E.any fun e => Value.isInt i e.2) = true := by decide +kernel
  rw [Bool.eq_iff_iff]
  unfold b1S
  rw [List.any_eq_true, List.any_eq_true]
  constructor
  · rintro ⟨e, he, hk⟩
    have := List.all_eq_true.mp h1 (valI e.2) (List.mem_map_of_mem he)
    exact ⟨_, List.contains_iff_mem.mp this, by rw [isInt_val hk]; exact beq_self_eq_true k⟩
  · rintro ⟨i, hi, hk⟩
    obtain rfl := eq_of_beq hk
    exact List.any_eq_true.mp (List.all_eq_true.mp h2 i hi)
theorem b1_setOf {w : World} {hT : Heap} {os : OsState} (Y : Topp w hT) {s : Shared} (gi : GI hT os s) : s.heap.SetOf (intKind P2 w) b1A b1S b1E.toArray.size := by
  refine ⟨_, b1E.toArray, _, _, gi.keep _ _ (Y.keep _ _ (at_b1 w.params)), ⟨rfl, rfl, rfl⟩, b1_data w.params, ?_, ?_, ?_, b1_fits w.params, rfl⟩
  · intro e he
    have he : e ∈ b1E := by simpa using he
    exact b1_el e he
  · intro k
    unfold b1S
    rw [List.any_eq_true]
    constructor
    · rintro ⟨e, he, hk⟩; exact ⟨e, by simpa using he, hk⟩
    · rintro ⟨e, he, hk⟩; exact ⟨e, by simpa using he, hk⟩
  · decide +kernel
theorem c_in_table {w : World} {hT : Heap} {os : OsState} (Y : Topp w hT) : FnOk P2 w hT os 1 inSpec 85 := by
  refine fn_enter Y.lim ((fd_in_table_b1 w.params).keeps Y.keep) (by kernel_rfl!) (fun ds K h => ?_) (fun fr env A s ds K hA eo es I h => ?_)
  · unfold inSpec at h
    split at h
    · exact ps_in_table_b1
    · cases h
  · unfold inSpec at h
    split at h
    · rename_i x
      split at h
      · rename_i c hc
        rw [tb_body]
        have I : Inv hT os fr env ⟨oneCode x, []⟩ [] s := I
        refine wpAny_execs_cons (wpAny_Return_some (wpAny_Compare1 ?_ rfl))
        have hE := (snd_all hA (gr0 Y) 30).E env _ [] s (cmpL tbE) (fun v τ => v = .d (.int c) ∧ τ = ⟨oneCode x, []⟩) eo I (by rw [es, tb_L, hc]; exact ⟨rfl, rfl⟩)
        refine wpAny_mono hE (fun v s₁ ⟨y, σ₁, ρ₁, ⟨e1, e2⟩, rv, I₁, ev⟩ => ?_) fun _ _ q => q
        subst e1 e2
        obtain ⟨_, rv, -, -⟩ := rv; cases rv
        refine Calls.Name_function_global eo.kind (by unfold Env.kindOf; rw [es]; exact kind_b1) (Calls.loadGlobal_global (mg := mgH w) (by rw [eo.glob]; exact ((m_ns w.params).keeps Y.keep).keeps I₁.gi.keep) (mg_b1 w.params) ?_) (by decide)
        refine wpAny_inSet_of (knd := intKind P2 w) (intKind_is P2 w _ _) rfl (b1_setOf Y I₁.gi) ?_
        refine ⟨.ret (.d (.bool (b1S c))), ⟨oneCode x, []⟩, ρ₁, ?_, ⟨[], .bool _, rfl, fun _ q => nomatch q⟩, I₁.keeps (fun _ _ q => q) rfl rfl, ev.up⟩
        rw [b1_same]
        exact h
      · cases h
    · cases h
end Mine
end
section
open PySem PySem.W PyProof.Rows PySem.Calls
set_option Elab.async false
set_option linter.unusedVariables false
set_option maxRecDepth 100000
set_option maxHeartbeats 0
namespace Mine
/-! the table -/
noncomputable def b3Look (k : Int) : Option Value := (b3E.find? fun d => Value.isInt k d.key).map (·.val)
theorem b3_findBy (k : Int) : findBy Value.isInt b3E.toArray k = b3Look k := by
  unfold findBy b3Look
  rw [List.find?_toArray]
theorem b3_keys : ∀ e ∈ b3E, ∃ k, Value.isInt k e.key = true ∧ e.hash = hashInt k := by
  have h : b3E.all (fun e => Value.isInt (valI e.key) e.key && decide (e.hash = hashInt (valI e.key))) = true := by decide +kernel
  intro e he
  have := List.all_eq_true.mp h e he
  simp only [Bool.and_eq_true, decide_eq_true_eq] at this
  exact ⟨_, this.1, this.2⟩
theorem b3_map {w : World} {hT : Heap} {os : OsState} (Y : Topp w hT) {s : Shared} (gi : GI hT os s) : s.heap.MapOf (intKind P2 w) b3A b3Look := by
  refine ⟨_, b3E.toArray, _, gi.keep _ _ (Y.keep _ _ (at_b3 w.params)), ⟨rfl, rfl, rfl⟩, rfl, ?_, b3_findBy⟩
  intro e he
  exact b3_keys e (by simpa using he)
noncomputable def letterB (c : Nat) : Bool := match b3Look c with
  | none => (Txt.lower (mkS [c])).cps.toList == [letV c]
  | some (.str y _) => y.cps.toList == [letV c]
  | _ => false
noncomputable def letters : List Nat := (startsI.map fun s => (List.range 26).map fun i => s.toNat + i).flatten
theorem letters_ok : ∀ c ∈ letters, letterB c = true := by
  have h : letters.all letterB = true := by decide +kernel
  exact List.all_eq_true.mp h
theorem let_mem {c : Nat} (h : letB c = true) : c ∈ letters := by
  unfold letB at h
  obtain ⟨k, hk, q⟩ := List.any_eq_true.mp h
  simp only [Bool.and_eq_true, decide_eq_true_eq] at q
  have h0 : ∀ k ∈ startsI, 0 ≤ k := by decide +kernel
  have := h0 k hk
  refine List.mem_flatten.mpr ⟨(List.range 26).map fun i => k.toNat + i, List.mem_map_of_mem hk, List.mem_map.mpr ⟨c - k.toNat, List.mem_range.mpr (by omega), by omega⟩⟩
/-! map_table_b3 -/
noncomputable abbrev bMt := bodyOf P2 15
noncomputable def mtV : PySem.Expr := valE (stAt bMt 0)
noncomputable def fnE (e : PySem.Expr) : PySem.Expr := (ev e).2.1
noncomputable def atO (e : PySem.Expr) : PySem.Expr := (ev e).1
noncomputable def tgP (s : Stmt) : Pos := (ev (tgt s)).2.2
theorem mt_body : bodyOf P2 15 = .Assign [.Name "r" (tgP (stAt bMt 0))] (.Call (.Attribute (.Name "b3_exceptions" (cmpP (atO (fnE mtV)))) "get" (cmpP (fnE mtV))) [argE mtV] [] (cmpP mtV)) (stP' (stAt bMt 0)) :: bMt.drop 1 := by kernel_rfl!
theorem mt_A (x : Str) (K : List V → St → Prop) : wpEs G0 30 (scOf P2 15) [argE mtV] ⟨oneCode x, []⟩ K = (match x.cps.toList with | [c] => K [.d (.int c)] ⟨oneCode x, []⟩ | _ => False) := by kernel_rfl!
theorem mt_r1 (x y : Str) (K : PyData → Prop) : wpSs G0 29 (scOf P2 15) (bMt.drop 1) (St.put ⟨oneCode x, []⟩ "r" (.d (.str y))) (finK K) = K (.str y) := by kernel_rfl!
theorem mt_r2 (x : Str) (K : PyData → Prop) : wpSs G0 29 (scOf P2 15) (bMt.drop 1) (St.put ⟨oneCode x, []⟩ "r" (.d .none)) (finK K) = chk (Nat.ble x.length 1000) (K (.str (Txt.lower x))) := by kernel_rfl!
theorem kind_b3 : (scOf P2 15).names.lookup ("b3_exceptions" : Str) = some NameKind.globalImplicit := by kernel_rfl!
theorem kind_r : okN (scOf P2 15) "r" = true := by kernel_rfl!
theorem mt_plain : plainEs [argE mtV] = true := by kernel_rfl!
theorem mt_line : ((cmpP (fnE mtV)).endLine == (cmpP mtV).line) = true := by kernel_rfl!
theorem c_map_table {w : World} {hT : Heap} {os : OsState} (Y : Topp w hT) : FnOk P2 w hT os 1 mpSpec 131 := by
  refine fn_enter Y.lim ((fd_map_table_b3 w.params).keeps Y.keep) (by kernel_rfl!) (fun ds K h => ?_) (fun fr env A s ds K hA eo es I h => ?_)
  · unfold mpSpec at h
    split at h
    · exact ps_map_table_b3
    · cases h
  · unfold mpSpec at h
    split at h
    · rename_i x
      split at h
      · rename_i c hc
        obtain ⟨h1, h2⟩ := chk_iff.mp h
        have hlet := letters_ok c (let_mem h1)
        rw [mt_body]
        have I : Inv hT os fr env ⟨oneCode x, []⟩ [] s := I
        have hx : x = mkS [c] := by
          obtain ⟨⟨l⟩⟩ := x
          have hc : l = [c] := hc
          rw [hc]; rfl
        -- what the table gives
        have hv : ∃ v d, (b3Look c).getD .none = v ∧ (∀ h : Heap, Reads h v d []) ∧ noDict d = true ∧ wpSs G0 29 (scOf P2 15) (bMt.drop 1) (St.put ⟨oneCode x, []⟩ "r" (.d d)) (finK K) := by
          unfold letterB at hlet
          split at hlet
          · rename_i e
            refine ⟨.none, .none, by rw [e]; rfl, fun _ => .none, rfl, ?_⟩
            rw [mt_r2]
            refine chk_iff.mpr ⟨by rw [hx]; rfl, ?_⟩
            have : Txt.lower x = mkS [letV c] := by
              rw [hx]
              have := eq_of_beq hlet
              generalize Txt.lower (mkS [c]) = z at this
              obtain ⟨⟨l⟩⟩ := z
              have this : l = [letV c] := this
              rw [this]; rfl
            rw [this]; exact h2
          · rename_i y t e
            refine ⟨.str y t, .str y, by rw [e]; rfl, fun _ => .str y t, rfl, ?_⟩
            rw [mt_r1]
            have : y = mkS [letV c] := by
              obtain ⟨⟨l⟩⟩ := y
              have hlet : l = [letV c] := eq_of_beq hlet
              rw [hlet]; rfl
            rw [this]; exact h2
          · cases hlet
        obtain ⟨v, d, ev, rd, nd, hK⟩ := hv
        refine wpAny_execs_cons (wpAny_Assign_Name ?_ rfl)
        refine wpAny_Call_method_lateS (base_plain rfl) (by rw [plain_all mt_plain]; rfl) mt_line ?_
        refine Calls.Name_function_global eo.kind (by unfold Env.kindOf; rw [es]; exact kind_b3) (Calls.loadGlobal_global (mg := mgH w) (by rw [eo.glob]; exact ((m_ns w.params).keeps Y.keep).keeps I.gi.keep) (mg_b3 w.params) ?_) (by decide)
        have hm := b3_map Y I.gi
        refine ⟨"dict", "dict.get", F.plainAttrs_dict, F.slot_dict_get, F.type_dict_get, hm.typeIs, hm.noDict, callB mt_plain ?_⟩
        have hE := (snd_all hA (gr0 Y) 30).Es env _ [] s [argE mtV] (cmpP mtV) (fun v τ => v = [.d (.int c)] ∧ τ = ⟨oneCode x, []⟩) eo I (by rw [es, mt_A, hc]; exact ⟨rfl, rfl⟩)
        refine wpAny_mono hE (fun vs s₁ ⟨ys, σ₁, ρ₁, ⟨e1, e2⟩, rv, I₁, ev₁⟩ => ?_) fun _ _ q => q
        subst e1 e2
        match vs, rv with
        | [u], rv =>
          obtain ⟨⟨_, rv, -, -⟩, _⟩ := rv
          cases rv
          have hm₁ := b3_map Y I₁.gi
          refine call_meetsIn PySem.F.slot_dict_get hm₁.typeIs PySem.F.entry_dict_get (PySem.F.args_dict_get_2 _ _) (meets_dict_get (intKind P2 w) b3A (intKind_is P2 w _ _) rfl) ⟨_, hm₁, ?_⟩
          rw [ev]
          have I₂ : Inv hT os fr env ⟨oneCode x, []⟩ ρ₁ { s₁ with toks := s₁.toks + 1 } := I₁.keeps (fun _ _ q => q) rfl rfl
          have rv₂ : RV s₁.heap ρ₁ v (.d d) := ⟨[], rd _, nd, fun _ q => nomatch q⟩
          refine wpAny_mono (store_ok eo.kind I₂ rv₂ (kind_okN (by rw [es]; exact kind_r))) (fun _ s₃ ⟨I₃, ev₃⟩ => ?_) fun _ _ q => q
          have key := (sndS_all hA (gr0 Y) 29).Ss env _ ρ₁ s₃ (bMt.drop 1) _ eo I₃ (by rw [es]; exact hK)
          exact wpAny_mono key (fun _ _ p => PS.after (ev₁.up.trans ev₃) p) fun _ _ q => q
      · cases h
    · cases h
end Mine
end
section
open PySem PySem.W PyProof.Rows PySem.Calls
set_option Elab.async false
set_option linter.unusedVariables false
namespace Mine
section
variable {f : Nat → Nat} (hf : ∀ a b, f a = f b → a = b)
include hf
theorem map_beq (l m : List Nat) : (l.map f == m.map f) = (l == m) := by
  rw [Bool.eq_iff_iff, beq_iff_eq, beq_iff_eq]
  exact ⟨fun h => (List.map_inj_right (fun a b => hf a b)).mp h, fun h => by rw [h]⟩
theorem atB_map (x y : List Nat) (i : Nat) : atB (x.map f) (y.map f) i = atB x y i := by
  unfold atB
  rw [List.length_map, ← List.map_drop, ← List.map_take, map_beq hf]
theorem findL_map (x y : List Nat) (hi : Nat) : ∀ n i, findL (x.map f) (y.map f) hi n i = findL x y hi n i
  | 0, _ => rfl
  | n + 1, i => by
    unfold findL
    rw [List.length_map, atB_map hf, findL_map x y hi n (i + 1)]
theorem ellForL_map (g : List Nat) (en : Nat) : ∀ (ws : List (List Nat)) (st : Nat), ellForL (g.map f) en (ws.map fun w => w.map f) st = ellForL g en ws st
  | [], _ => rfl
  | w :: r, st => by
    rw [List.map_cons]
    unfold ellForL
    rw [findL_map hf]
    cases findL g w en (en + 1 - st) st with
    | none => rfl
    | some k => dsimp only; rw [List.length_map, ellForL_map g en r]
theorem ellMidL_map (g : List Nat) (ws : List (List Nat)) (st en : Nat) : ellMidL (g.map f) (ws.map fun w => w.map f) st en = ellMidL g ws st en := by
  unfold ellMidL
  rw [ellForL_map hf]
theorem isEmpty_map (w : List Nat) : (w.map f).isEmpty = w.isEmpty := by cases w <;> rfl
theorem ellBackL_map (g : List Nat) (ws : List (List Nat)) (st : Nat) : ellBackL (g.map f) (ws.map fun w => w.map f) st = ellBackL g ws st := by
  unfold ellBackL
  rw [List.getLast?_map]
  cases ws.getLast? with
  | none => rfl
  | some wl =>
    dsimp only [Option.map_some]
    rw [isEmpty_map hf]
    cases wl.isEmpty with
    | true => dsimp only; rw [List.length_map, ellMidL_map hf]
    | false =>
      dsimp only
      have : endsB (g.map f) (wl.map f) = endsB g wl := by
        unfold endsB
        rw [List.length_map, List.length_map, atB_map hf]
      rw [this]
      cases endsB g wl with
      | false => rfl
      | true => dsimp only; rw [List.length_map, List.length_map, ← List.map_dropLast, ellMidL_map hf]
theorem ellL_map (g : List Nat) (ws : List (List Nat)) : ellL (ws.map fun w => w.map f) (g.map f) = ellL ws g := by
  cases ws with
  | nil => rfl
  | cons w0 r =>
    rw [List.map_cons]
    show (match (w0.map f).isEmpty with | true => ellBackL (g.map f) (w0.map f :: r.map fun w => w.map f) 0 | false => match startsB (g.map f) (w0.map f) with | true => ellBackL (g.map f) (r.map fun w => w.map f) (w0.map f).length | false => false) = (match w0.isEmpty with | true => ellBackL g (w0 :: r) 0 | false => match startsB g w0 with | true => ellBackL g r w0.length | false => false)
    rw [isEmpty_map hf]
    cases w0.isEmpty with
    | true => exact ellBackL_map hf g (w0 :: r) 0
    | false =>
      dsimp only
      have : startsB (g.map f) (w0.map f) = startsB g w0 := by
        unfold startsB
        rw [List.length_map, List.length_map, atB_map hf]
      rw [this]
      cases startsB g w0 with
      | false => rfl
      | true => dsimp only; rw [List.length_map, ellBackL_map hf]
end
/-! pieces -/
noncomputable def noDot (l : List Nat) : Prop := ∀ c ∈ l, c ≠ 46
theorem splitL_one : ∀ {h : List Nat}, noDot h → splitL h = [h]
  | [], _ => rfl
  | c :: r, hd => by
    have := splitL_one (h := r) fun x hx => hd x (List.mem_cons_of_mem _ hx)
    refine splitL_cons (fun q => ?_) this
    have : c = 46 := by
      have := congrArg (·[0]?) q
      simpa [dots] using this
    exact hd c List.mem_cons_self this
theorem splitL_app : ∀ {h : List Nat}, noDot h → ∀ r, splitL (h ++ (46 :: 46 :: 46 :: r)) = h :: splitL r
  | [], _, r => splitL_dots r
  | c :: t, hd, r => by
    have ih := splitL_app (h := t) (fun x hx => hd x (List.mem_cons_of_mem _ hx)) r
    rw [List.cons_append]
    refine splitL_cons (fun q => ?_) ih
    have : c = 46 := by
      have := congrArg (·[0]?) q
      simpa [dots] using this
    exact hd c List.mem_cons_self this
/-! the deal by places -/
noncomputable def qL (size step cut : Nat) : List Nat := (List.range size).map fun i => (cut + i * step) % size
noncomputable def invN (q : List Nat) (size : Nat) : Nat := ((List.range size).map fun k => ((List.range k).filter fun j => Nat.blt (q.idxOf k) (q.idxOf j)).length).sum
noncomputable def okC (size step cut : Nat) : Bool :=
  let q := qL size step cut
  let fr := q.take cut
  let ca := (q.drop cut).take 1
  let bk := q.drop (cut + 1)
  q.isPerm (List.range size) && ellL [[], []] q && ellL [fr, ca ++ bk] q && ellL [fr, ca, bk] q && !ellL [fr ++ ca, ca ++ bk] q && !ellL [fr, ca, ca ++ bk] q && !ellL [fr ++ ca, ca, []] q && !ellL [[], fr ++ ca, ca ++ bk, []] q
    && !(q.drop 1 == q) && !(q.dropLast == q) && !ellL [q.drop 1, []] q && !ellL [[], q.dropLast] q && (oddTab.any fun e => e.1 == (step : Int) && e.2.1 == (size : Int) && e.2.2 == ((invN q size % 2 : Nat) : Int))
noncomputable def okS (size step : Nat) : Bool := (List.range size).all fun cut => okC size step cut
noncomputable def stepsOk (size : Nat) : Bool := (List.range size).all fun step => step == 0 || (size == 9 && step % 3 == 0) || okS size step
theorem ok3 : stepsOk 3 = true := by decide +kernel
theorem ok5 : stepsOk 5 = true := by decide +kernel
theorem ok7 : stepsOk 7 = true := by decide +kernel
theorem ok9 : stepsOk 9 = true := by decide +kernel
theorem ok11 : stepsOk 11 = true := by decide +kernel
theorem ok13 : stepsOk 13 = true := by decide +kernel
theorem ok_all {size step cut : Nat} (hs : size ∈ [3, 5, 7, 9, 11, 13]) (h1 : 1 ≤ step) (h2 : step < size) (h3 : size ≠ 9 ∨ step % 3 ≠ 0) (h4 : cut < size) : okC size step cut = true := by
  have h : stepsOk size = true := by
    simp only [List.mem_cons, List.not_mem_nil, or_false] at hs
    rcases hs with rfl | rfl | rfl | rfl | rfl | rfl
    · exact ok3
    · exact ok5
    · exact ok7
    · exact ok9
    · exact ok11
    · exact ok13
  have := List.all_eq_true.mp h step (List.mem_range.mpr h2)
  simp only [Bool.or_eq_true, Bool.and_eq_true, beq_iff_eq] at this
  rcases this with (h | ⟨ha, hb⟩) | h
  · omega
  · rcases h3 with h3 | h3 <;> omega
  · exact List.all_eq_true.mp h cut (List.mem_range.mpr h4)
end Mine
end
section
open PySem PySem.W PyProof.Rows PySem.Calls
set_option Elab.async false
set_option linter.unusedVariables false
set_option linter.unusedSectionVars false
namespace Mine
theorem atB_one {q : List Nat} {k i : Nat} : atB q [k] i = decide (q[i]? = some k) := by
  unfold atB
  rw [Bool.eq_iff_iff, beq_iff_eq, decide_eq_true_eq]
  rw [show ([k] : List Nat).length = 1 from rfl]
  cases h : q.drop i with
  | nil =>
    have : q.length ≤ i := List.drop_eq_nil_iff.mp h
    rw [List.getElem?_eq_none this]; simp
  | cons c r =>
    have := (drop_head h).1
    rw [this]; simp
theorem idx_of {q : List Nat} (nd : q.Nodup) {k i : Nat} (h : q[i]? = some k) : q.idxOf k = i := by
  have hi := List.getElem?_eq_some_iff.mp h
  obtain ⟨hl, e⟩ := hi
  rw [← e]
  exact List.Nodup.idxOf_getElem nd i hl
theorem idx_at {q : List Nat} {k : Nat} (hk : k ∈ q) : q[q.idxOf k]? = some k := by
  have := List.idxOf_lt_length_of_mem hk
  rw [List.getElem?_eq_getElem this]
  simp
theorem findL_one {q : List Nat} (nd : q.Nodup) {k : Nat} (hk : k ∈ q) : ∀ n i, i + n = q.length + 1 → findL q [k] q.length n i = if i ≤ q.idxOf k then some (q.idxOf k) else none
  | 0, i, h => by
    have := List.idxOf_lt_length_of_mem hk
    rw [if_neg (by omega)]; rfl
  | n + 1, i, h => by
    have hlt := List.idxOf_lt_length_of_mem hk
    unfold findL
    rw [atB_one, ble_dec, show ([k] : List Nat).length = 1 from rfl]
    by_cases c : q[i]? = some k
    · have e := idx_of nd c
      have : (decide (i + 1 ≤ q.length) && decide (q[i]? = some k)) = true := by simp [c]; omega
      rw [this, if_pos (by omega), e]
    · have : (decide (i + 1 ≤ q.length) && decide (q[i]? = some k)) = false := by simp [c]
      rw [this]
      dsimp only
      rw [findL_one nd hk n (i + 1) (by omega)]
      have hne : i ≠ q.idxOf k := fun e => c (by rw [e]; exact idx_at hk)
      by_cases d : i ≤ q.idxOf k
      · rw [if_pos d, if_pos (by omega)]
      · rw [if_neg d, if_neg (by omega)]
theorem findL_nil {q : List Nat} {hi n i : Nat} (h : i ≤ hi) : findL q [] hi (n + 1) i = some i := by
  unfold findL
  have : (Nat.ble (i + ([] : List Nat).length) hi && atB q [] i) = true := by
    rw [ble_dec]
    unfold atB
    simp; omega
  rw [this]
theorem pair_ell {q : List Nat} (nd : q.Nodup) {k j : Nat} (hk : k ∈ q) (hj : j ∈ q) (hne : k ≠ j) : ellL [[], [k], [j], []] q = decide (q.idxOf k < q.idxOf j) := by
  have hkl := List.idxOf_lt_length_of_mem hk
  have hjl := List.idxOf_lt_length_of_mem hj
  show ellMidL q [[], [k], [j], []] 0 q.length = _
  unfold ellMidL
  rw [blt_dec, decide_eq_false (by omega)]
  show ellForL q q.length [[], [k], [j], []] 0 = _
  unfold ellForL
  rw [show q.length + 1 - 0 = q.length + 1 from rfl, findL_nil (by omega)]
  show ellForL q q.length [[k], [j], []] (0 + 0) = _
  unfold ellForL
  rw [findL_one nd hk _ _ (by omega), if_pos (by omega)]
  show ellForL q q.length [[j], []] (q.idxOf k + 1) = _
  unfold ellForL
  rw [findL_one nd hj _ _ (by omega)]
  by_cases c : q.idxOf k < q.idxOf j
  · rw [if_pos (by omega), decide_eq_true c]
    show ellForL q q.length [[]] (q.idxOf j + 1) = _
    unfold ellForL
    obtain ⟨m, hm⟩ : ∃ m, q.length + 1 - (q.idxOf j + 1) = m + 1 := ⟨q.length - q.idxOf j - 1, by omega⟩
    rw [hm, findL_nil (by omega)]
    rfl
  · rw [if_neg (by omega), decide_eq_false c]
theorem occ_first {x : Str} {q : List Nat} {f : Nat → Nat} (hf : ∀ a b, f a = f b → a = b) (hx : x = mkS (q.map f)) (nd : q.Nodup) {k : Nat} (hk : k ∈ q) : ∃ r, Builtin.Str.occurrences x (mkS [f k]) 0 x.length 1 = q.idxOf k :: r := by
  subst hx
  have hl : (mkS (q.map f)).length = q.length := by rw [mkS_len, List.length_map]
  rw [hl, occ_go]
  show ∃ r, occGo (q.map f) [f k] q.length (q.length + 1 - 0) 0 0 1 = _
  have := occ_find (q.map f) [f k] q.length (q.length + 1 - 0) 0 0 (Nat.le_refl _)
  rw [show [f k] = ([k] : List Nat).map f from rfl, findL_map hf, findL_one nd hk _ _ (by omega), if_pos (by omega)] at this
  rw [show [f k] = ([k] : List Nat).map f from rfl]
  generalize occGo (q.map f) ([k].map f) q.length (q.length + 1 - 0) 0 0 1 = L at this ⊢
  cases L with
  | nil => cases this
  | cons a r => exact ⟨r, by rw [Option.some.inj this]⟩
/-! the deal is a rearrangement -/
theorem qL_len (size step cut : Nat) : (qL size step cut).length = size := by unfold qL; simp
theorem qL_lt {size step cut : Nat} (h : 0 < size) : ∀ k ∈ qL size step cut, k < size := by
  intro k hk
  unfold qL at hk
  obtain ⟨i, _, rfl⟩ := List.mem_map.mp hk
  exact Nat.mod_lt _ h
theorem perm_nodup {q : List Nat} {size : Nat} (h : q.Perm (List.range size)) : q.Nodup ∧ ∀ k, k ∈ q ↔ k < size :=
  ⟨h.nodup_iff.mpr List.nodup_range, fun k => h.mem_iff.trans List.mem_range⟩
end Mine
end
section
open PySem PySem.W PyProof.Rows PySem.Calls
set_option Elab.async false
set_option linter.unusedVariables false
namespace Mine
noncomputable def sizeI (d0 : Int) : Int := 3 + 2 * d0.fmod 6
noncomputable def gapI (d3 : Int) : Int := 1 + d3.fmod 2
noncomputable def lowI (d0 d3 : Int) : Int := 97 + (d3.fdiv 2).fmod (26 - gapI d3 * (sizeI d0 - 1))
theorem size_in (d0 : Int) : (sizeI d0).toNat ∈ [3, 5, 7, 9, 11, 13] ∧ sizeI d0 = ((sizeI d0).toNat : Int) := by
  unfold sizeI
  have h1 := Int.fmod_nonneg_of_pos d0 (b := 6) (by omega)
  have h2 := Int.fmod_lt_of_pos d0 (b := 6) (by omega)
  generalize d0.fmod 6 = r at h1 h2
  have : r = 0 ∨ r = 1 ∨ r = 2 ∨ r = 3 ∨ r = 4 ∨ r = 5 := by omega
  rcases this with rfl | rfl | rfl | rfl | rfl | rfl <;> decide
theorem size_rng (d0 : Int) : 3 ≤ sizeI d0 ∧ sizeI d0 ≤ 13 := by
  unfold sizeI
  have h1 := Int.fmod_nonneg_of_pos d0 (b := 6) (by omega)
  have h2 := Int.fmod_lt_of_pos d0 (b := 6) (by omega)
  omega
theorem gap_in (d3 : Int) : gapI d3 = 1 ∨ gapI d3 = 2 := by
  unfold gapI
  have h1 := Int.fmod_nonneg_of_pos d3 (b := 2) (by omega)
  have h2 := Int.fmod_lt_of_pos d3 (b := 2) (by omega)
  omega
theorem wid_pos (d0 d3 : Int) : 0 < 26 - gapI d3 * (sizeI d0 - 1) := by
  have := size_rng d0
  rcases gap_in d3 with h | h <;> rw [h] <;> omega
theorem low_rng (d0 d3 : Int) : 97 ≤ lowI d0 d3 ∧ lowI d0 d3 + gapI d3 * (sizeI d0 - 1) ≤ 122 := by
  unfold lowI
  have h1 := Int.fmod_nonneg_of_pos (d3.fdiv 2) (wid_pos d0 d3)
  have h2 := Int.fmod_lt_of_pos (d3.fdiv 2) (wid_pos d0 d3)
  omega
/-- the letter of rank j -/
noncomputable def ltr (d0 d3 : Int) (j : Nat) : Nat := (lowI d0 d3).toNat + (gapI d3).toNat * j
noncomputable def pL (d0 d3 : Int) : List Nat := (List.range (sizeI d0).toNat).map (ltr d0 d3)
theorem ltr_inj (d0 d3 : Int) : ∀ a b, ltr d0 d3 a = ltr d0 d3 b → a = b := by
  intro a b h
  unfold ltr at h
  rcases gap_in d3 with g | g <;> rw [g] at h <;> simp at h <;> omega
theorem ltr_rng {d0 d3 : Int} {j : Nat} (h : j < (sizeI d0).toNat) : 97 ≤ ltr d0 d3 j ∧ ltr d0 d3 j ≤ 122 := by
  have h1 := low_rng d0 d3
  have h2 := size_rng d0
  unfold ltr
  rcases gap_in d3 with g | g <;> rw [g] at h1 ⊢ <;> simp <;> omega
theorem ltr_int (d0 d3 : Int) (j : Nat) : (lowI d0 d3 + gapI d3 * (j : Int)).toNat = ltr d0 d3 j := by
  obtain ⟨l, hl⟩ := Int.eq_ofNat_of_zero_le (Int.le_trans (by decide) (low_rng d0 d3).1)
  unfold ltr
  rw [hl]
  rcases gap_in d3 with g | g <;> rw [g] <;> rfl
theorem pL_len (d0 d3 : Int) : (pL d0 d3).length = (sizeI d0).toNat := by unfold pL; simp
theorem pL_rng {d0 d3 : Int} : ∀ c ∈ pL d0 d3, 97 ≤ c ∧ c ≤ 122 := by
  intro c hc
  unfold pL at hc
  obtain ⟨j, hj, rfl⟩ := List.mem_map.mp hc
  exact ltr_rng (List.mem_range.mp hj)
theorem range_nat (n : Int) : range 0 n = (List.range n.toNat).map fun (k : Nat) => (k : Int) := by
  unfold range
  rw [Int.sub_zero]
  apply List.map_congr_left
  intro k _
  omega
noncomputable def sufs : List (List Nat) := [[], [32, 100, 101, 97, 108, 116], [10]]
noncomputable def repL (t suf : List Nat) : List Nat := [50, 53, 55, 32, 34] ++ t ++ [34] ++ suf
theorem smallI_of {i : Int} (h1 : -1000000000 ≤ i) (h2 : i ≤ 1000000000) : smallI i = true := by
  unfold smallI; rw [Bool.and_eq_true, decide_eq_true_eq, decide_eq_true_eq]; omega
theorem mkS_flat (l : List (List Nat)) : ((l.map fun w => mkS w).map fun y => y.cps.toList).flatten = l.flatten := by
  rw [List.map_map]
  congr 1
  rw [show ((fun y : Str => y.cps.toList) ∘ fun w => mkS w) = id from rfl, List.map_id]
theorem flat_one (l : List Nat) (f : Nat → Nat) : (l.map fun j => [f j]).flatten = l.map f := by
  induction l with
  | nil => rfl
  | cons a r ih => rw [List.map_cons, List.flatten_cons, ih]; rfl
theorem sum_ones (l : List Nat) (f : Nat → Nat) : ((l.map fun j => mkS [f j]).map (·.length)).sum = l.length := by
  induction l with
  | nil => rfl
  | cons a r ih =>
    rw [List.map_cons, List.map_cons, List.sum_cons, ih, mkS_len]
    simp only [List.length_cons, List.length_nil]; omega
theorem typed_len {p : List Nat} {n : Int} : (typedL p n).length ≤ 2 * p.length := by
  unfold typedL
  rw [List.length_flatten, List.map_map]
  have : ∀ l : List Nat, (l.map (List.length ∘ fun k => knotL n ++ [startN n k + p.getD k 97 - 97])).sum ≤ 2 * l.length := by
    intro l
    induction l with
    | nil => simp
    | cons a r ih =>
      rw [List.map_cons, List.sum_cons, List.length_cons]
      have := knot_len n
      show (knotL n ++ [startN n a + p.getD a 97 - 97]).length + _ ≤ _
      rw [List.length_append]
      show _ + 1 + _ ≤ _
      omega
  have := this (List.range p.length)
  simpa using this
theorem stage_A {b : Bool} {ds : List PyData} {pl nm : V} {d0 d1 d2 d3 : Int} {Z : OC} {K : PyData → Prop} (h0 : inR d0) (h3 : inR d3)
    (h : ∀ (o : List V) (suf : List Nat), suf ∈ sufs → lawR 52 8 K ⟨lsP b ds pl nm d3 (gapI d3) (sizeI d0) (lowI d0 d3) (mkS (pL d0 d3)) [("typed", sv (mkS (typedL (pL d0 d3) (d3.fdiv 52)))), ("reply", sv (mkS (repL (typedL (pL d0 d3) (d3.fdiv 52)) suf)))], cl4 d0 d1 d2 d3 Z o []⟩) :
    wpSs G3 58 sL (bL.drop 2) ⟨lsB b ds pl nm, lcel d0 d1 d2 d3 Z⟩ (finK K) := by
  have hs := size_rng d0
  have hl := low_rng d0 d3
  have hg : 1 ≤ gapI d3 ∧ gapI d3 ≤ 2 := by rcases gap_in d3 with g | g <;> rw [g] <;> omega
  rw [law_2, law_3, law_4]
  refine chk_iff.mpr ⟨by rw [show smallI (1 + d3.fmod 2) = true from smallI_of (by have := hg.1; unfold gapI at this; omega) (by have := hg.2; unfold gapI at this; omega)]; rfl, ?_⟩
  refine chk_iff.mpr ⟨decide_eq_true (by have := wid_pos d0 d3; unfold gapI sizeI at this; omega), ?_⟩
  show wpSs G3 55 sL (bL.drop 5) ⟨lsN b ds pl nm d3 (gapI d3) (sizeI d0) (lowI d0 d3) [], lcel d0 d1 d2 d3 Z⟩ (finK K)
  rw [law_5]
  refine chk_iff.mpr ⟨by rw [Bool.and_eq_true, decide_eq_true_eq, decide_eq_true_eq]; omega, ?_⟩
  unfold compE
  rw [law_t5]
  have hw : walkOf ⟨lsN b ds pl nm d3 (gapI d3) (sizeI d0) (lowI d0 d3) [], lcel d0 d1 d2 d3 Z⟩ (.rng 0 (sizeI d0)) = some ((List.range (sizeI d0).toNat).map fun (k : Nat) => V.d (.int (k : Int))) := by
    unfold walkOf
    have : (decide (-1000000 ≤ (0:Int)) && decide ((0:Int) ≤ 1000000) && decide (-1000000 ≤ sizeI d0) && decide (sizeI d0 ≤ 1000000)) = true := by
      simp only [Bool.and_eq_true, decide_eq_true_eq]; omega
    dsimp only
    rw [this, range_nat, List.map_map]; rfl
  refine compFrom_pure (f := fun v => match v with | .d (.int j) => some (sv (mkS [(lowI d0 d3 + gapI d3 * j).toNat])) | _ => none) hw (by rw [List.length_map, List.length_range]; omega) law_l5 (fun v hv k hk => ?_) ?_
  · obtain ⟨j, hj, rfl⟩ := List.mem_map.mp hv
    have hj := List.mem_range.mp hj
    have hb : 0 ≤ lowI d0 d3 + gapI d3 * (j : Int) ∧ lowI d0 d3 + gapI d3 * (j : Int) < 1114112 := by
      rcases gap_in d3 with g | g <;> rw [g] at hl ⊢ <;> omega
    have := law_c5 b ds pl nm d3 (gapI d3) (sizeI d0) (lowI d0 d3) (j : Int) (lcel d0 d1 d2 d3 Z ++ [none]) k
    refine Eq.mpr this ?_
    refine chk_iff.mpr ⟨by rw [smallI_of (by omega) (by omega)]; rfl, chk_iff.mpr ⟨by rw [Bool.and_eq_true, decide_eq_true_eq, decide_eq_true_eq]; exact hb, ?_⟩⟩
    exact hk
  · have e : ((List.range (sizeI d0).toNat).map fun (k : Nat) => V.d (.int (k : Int))).filterMap (fun v => match v with | .d (.int j) => some (sv (mkS [(lowI d0 d3 + gapI d3 * j).toNat])) | _ => none) = (List.range (sizeI d0).toNat).map fun j => sv (mkS [ltr d0 d3 j]) :=
      filterMap_all _ _ _ _ fun j _ => by rw [← ltr_int]
    rw [e]
    have := law_6 b ds pl nm d3 (gapI d3) (sizeI d0) (lowI d0 d3) d0 d1 d2 d3 Z ((List.range (sizeI d0).toNat).map fun j => sv (mkS [ltr d0 d3 j])) K
    refine Eq.mpr this ?_
    have es : strs? ((List.range (sizeI d0).toNat).map fun j => sv (mkS [ltr d0 d3 j])) = some ((List.range (sizeI d0).toNat).map fun j => mkS [ltr d0 d3 j]) := strs_map _ _
    rw [es]
    dsimp only
    refine chk_iff.mpr ⟨joinOk_of (by rw [sum_ones, List.length_range]; omega), ?_⟩
    have ep : (mkS (((List.range (sizeI d0).toNat).map fun j => mkS [ltr d0 d3 j]).map fun y => y.cps.toList).flatten) = mkS (pL d0 d3) := by
      rw [List.map_map]
      congr 1
      exact flat_one _ _
    rw [ep]
    rw [law_7]
    have hn : 0 ≤ d3.fdiv 52 ∧ d3.fdiv 52 ≤ 1000000 := by
      obtain ⟨a, c⟩ := h3
      rw [Int.fdiv_eq_ediv_of_nonneg _ (by omega)]
      omega
    unfold tySpec
    dsimp only
    refine chk_iff.mpr ⟨?_, ?_⟩
    · simp only [Bool.and_eq_true, decide_eq_true_eq, List.all_eq_true]
      refine ⟨⟨⟨Nat.ble_eq_true_of_le (by rw [mkS_len, pL_len]; omega), fun c hc => ?_⟩, hn.1⟩, hn.2⟩
      have := pL_rng c hc
      exact ⟨Nat.ble_eq_true_of_le this.1, Nat.ble_eq_true_of_le this.2⟩
    · show wpSs G3 53 sL (bL.drop 7) ⟨lsP b ds pl nm d3 (gapI d3) (sizeI d0) (lowI d0 d3) (mkS (pL d0 d3)) [("typed", sv (mkS (typedL (pL d0 d3) (d3.fdiv 52))))], cl3 d0 d1 d2 d3 Z ((List.range (sizeI d0).toNat).map fun j => sv (mkS [ltr d0 d3 j])) []⟩ (finK K)
      have ht := typed_len (p := pL d0 d3) (n := d3.fdiv 52)
      rw [pL_len] at ht
      rw [law_8]
      have l5 : Str.length "257 \"" = 5 := by decide +kernel
      have l1 : Str.length "\"" = 1 := by decide +kernel
      refine chk_iff.mpr ⟨sizeB_of (by rw [l5, mkS_len]; omega), chk_iff.mpr ⟨sizeB_of (by rw [l1, mkS_len]; simp [mkS_cps]; omega), ?_⟩⟩
      have h1 := Int.fmod_nonneg_of_pos d3 (b := 3) (by omega)
      have h2 := Int.fmod_lt_of_pos d3 (b := 3) (by omega)
      refine chk_iff.mpr ⟨smallI_of (by omega) (by omega), ?_⟩
      generalize hr : d3.fmod 3 = r at h1 h2
      have fin : ∀ (s : Str) (suf : List Nat), s.cps.toList = suf → suf ∈ sufs → opB .Add (sv (mkS ([50, 53, 55, 32, 34] ++ (mkS (typedL (pL d0 d3) (d3.fdiv 52))).cps.toList ++ [34]))) (sv s) ⟨lsP b ds pl nm d3 (gapI d3) (sizeI d0) (lowI d0 d3) (mkS (pL d0 d3)) [("typed", sv (mkS (typedL (pL d0 d3) (d3.fdiv 52))))], cl3 d0 d1 d2 d3 Z ((List.range (sizeI d0).toNat).map fun j => sv (mkS [ltr d0 d3 j])) [some [sv "", sv " dealt", sv "\n"]]⟩ (fun r τ => wpSs G3 52 sL (bL.drop 8) (τ.put "reply" r) (finK K)) := by
        intro s suf e hm
        have hsl : suf.length ≤ 6 := by
          unfold sufs at hm
          simp only [List.mem_cons, List.not_mem_nil, or_false] at hm
          rcases hm with rfl | rfl | rfl <;> decide
        refine chk_iff.mpr ⟨sizeB_of (by rw [mkS_len, ← len_toList s, e, mkS_cps]; simp; omega), ?_⟩
        rw [e, mkS_cps, mkS_cps]
        have := h ((List.range (sizeI d0).toNat).map fun j => sv (mkS [ltr d0 d3 j])) suf hm
        cases b <;> exact this
      have c3 : r = 0 ∨ r = 1 ∨ r = 2 := by omega
      rcases c3 with rfl | rfl | rfl
      · exact fin "" [] (by decide +kernel) (by decide)
      · exact fin " dealt" [32, 100, 101, 97, 108, 116] (by decide +kernel) (by decide)
      · exact fin "\n" [10] (by decide +kernel) (by decide)
end Mine
end
section
open PySem PySem.W PyProof.Rows PySem.Calls
set_option Elab.async false
set_option linter.unusedVariables false
namespace Mine
theorem cut_to (k : Nat) (l : List Nat) (h : k ≤ l.length) : cut none (some (k : Int)) l = l.take k := by
  unfold cut kms_lo kms_hi
  have : ¬ ((k : Int) < 0) := by omega
  simp only [this, if_false, List.drop_zero, Nat.sub_zero, Int.toNat_natCast, Nat.min_eq_left h]
theorem cut_from (k : Nat) (l : List Nat) (h : k ≤ l.length) : cut (some (k : Int)) none l = l.drop k := by
  unfold cut kms_lo kms_hi
  have : ¬ ((k : Int) < 0) := by omega
  simp only [this, if_false, Int.toNat_natCast, Nat.min_eq_left h]
  rw [List.take_of_length_le (by rw [List.length_drop]; exact Nat.le_refl _)]
theorem cut_mid (a b c d e : Nat) (r : List Nat) : cut (some 3) (some 5) (a :: b :: c :: d :: e :: r) = [d, e] := by
  unfold cut kms_lo kms_hi
  have e1 : min 3 (r.length + 1 + 1 + 1 + 1 + 1) = 3 := by omega
  have e2 : min 5 (r.length + 1 + 1 + 1 + 1 + 1) = 5 := by omega
  simp [e1, e2]
noncomputable def digs (n : Nat) : List Nat := [48 + n / 100, 48 + n / 10 % 10, 48 + n % 10]
theorem digs_all : ((List.range 900).all fun n => (Str.ofString (toString ((100 + n : Nat):Int))).cps.toList == digs (100 + n)) = true := by decide +kernel
theorem digs_257 : ((List.range 900).all fun n => n == 157 || digs (100 + n) != [50, 53, 55]) = true := by decide +kernel
theorem scan_typed {suf : List Nat} (hs : suf ∈ sufs) : ∀ {t : List Nat}, (∀ c ∈ t, c ≠ 34) → scan (t ++ [34] ++ suf) = t
  | [], _ => by
    unfold sufs at hs
    simp only [List.mem_cons, List.not_mem_nil, or_false] at hs
    rcases hs with rfl | rfl | rfl <;> simp [scan]
  | c :: t, h => by
    have ih := scan_typed hs (t := t) fun x hx => h x (List.mem_cons_of_mem _ hx)
    show scan (c :: (t ++ [34] ++ suf)) = _
    rw [scan_cons _ _ (h c List.mem_cons_self), ih]
theorem suf_len {suf : List Nat} (hs : suf ∈ sufs) : suf.length ≤ 6 := by
  unfold sufs at hs
  simp only [List.mem_cons, List.not_mem_nil, or_false] at hs
  rcases hs with rfl | rfl | rfl <;> decide
theorem told_yes {t suf : List Nat} (hs : suf ∈ sufs) (ht : ∀ c ∈ t, c ≠ 34) : toldV (mkS (repL t suf)) = .list [.str (mkS t)] := by
  unfold toldV
  have e0 : (mkS (repL t suf)).cps.toList = 50 :: 53 :: 55 :: 32 :: 34 :: (t ++ [34] ++ suf) := by
    rw [mkS_cps]; unfold repL; simp
  rw [e0]
  have e1 : cut none (some 3) (50 :: 53 :: 55 :: 32 :: 34 :: (t ++ [34] ++ suf)) = [50, 53, 55] := by
    have := cut_to 3 (50 :: 53 :: 55 :: 32 :: 34 :: (t ++ [34] ++ suf)) (by simp)
    exact this
  rw [e1]
  show PyData.list [PyData.str (mkS (p257 _))] = _
  unfold p257
  rw [cut_mid, if_pos rfl]
  show PyData.list [PyData.str (mkS (scan (t ++ [34] ++ suf)))] = _
  rw [scan_typed hs ht]
theorem told_none {a b : Nat} {r : List Nat} (h : ¬ (a = 32 ∧ b = 34)) : toldV (mkS (50 :: 53 :: 55 :: a :: b :: r)) = .list [.str (mkS [])] := by
  unfold toldV
  rw [mkS_cps]
  have e1 : cut none (some 3) (50 :: 53 :: 55 :: a :: b :: r) = [50, 53, 55] := by
    have := cut_to 3 (50 :: 53 :: 55 :: a :: b :: r) (by simp)
    exact this
  rw [e1]
  show PyData.list [PyData.str (mkS (p257 _))] = _
  unfold p257
  rw [cut_mid, if_neg (by simpa using h)]
theorem told_no {l : List Nat} (h : l.take 3 ≠ [50, 53, 55]) (hl : 3 ≤ l.length) : toldV (mkS l) = .str (mkS l) := by
  unfold toldV
  rw [mkS_cps, show cut none (some 3) l = l.take 3 from cut_to 3 l hl, show (l.take 3 == [50, 53, 55]) = false from beq_eq_false_iff_ne.mpr h]
noncomputable def numN (look : Int) : Int := 100 + (158 + look.fmod 899).fmod 900
theorem num_ok (look : Int) : ∃ n : Nat, n < 900 ∧ n ≠ 157 ∧ numN look = ((100 + n : Nat) : Int) := by
  unfold numN
  have h1 := Int.fmod_nonneg_of_pos look (b := 899) (by omega)
  have h2 := Int.fmod_lt_of_pos look (b := 899) (by omega)
  generalize look.fmod 899 = m at h1 h2
  rw [Int.fmod_eq_emod_of_nonneg _ (by omega)]
  refine ⟨((158 + m) % 900).toNat, by omega, by omega, by omega⟩
theorem nS_digs (look : Int) : (Str.ofString (toString (100 + (158 + look.fmod 899).fmod 900))).cps.toList ≠ [50, 53, 55] ∧ (Str.ofString (toString (100 + (158 + look.fmod 899).fmod 900))).cps.toList.length = 3 := by
  obtain ⟨n, h1, h2, h3⟩ := num_ok look
  unfold numN at h3
  rw [h3]
  have a := List.all_eq_true.mp digs_all n (List.mem_range.mpr h1)
  have b := List.all_eq_true.mp digs_257 n (List.mem_range.mpr h1)
  rw [eq_of_beq a]
  simp only [Bool.or_eq_true, beq_iff_eq, bne_iff_ne] at b
  exact ⟨b.resolve_left h2, rfl⟩
theorem strOk_of {l : List Nat} (h : ∀ c ∈ l, c < 1114112) : PyData.strOk (mkS l) = true := by
  unfold PyData.strOk
  rw [← Array.all_toList, mkS_cps, List.all_eq_true]
  intro c hc
  exact decide_eq_true (h c hc)
theorem other_ok {t suf : List Nat} (hs : suf ∈ sufs) (ht : ∀ c ∈ t, c < 1114112) (look : Int) : ∀ c ∈ (Str.ofString (toString (100 + (158 + look.fmod 899).fmod 900))).cps.toList ++ (32 :: 34 :: (t ++ [34] ++ suf)), c < 1114112 := by
  intro c hc
  rcases List.mem_append.mp hc with hc | hc
  · obtain ⟨n, h1, h2, h3⟩ := num_ok look
    unfold numN at h3
    rw [h3, eq_of_beq (List.all_eq_true.mp digs_all n (List.mem_range.mpr h1))] at hc
    unfold digs at hc
    simp only [List.mem_cons, List.not_mem_nil, or_false] at hc
    omega
  · have hsu : ∀ c ∈ suf, c < 1114112 := by
      unfold sufs at hs
      simp only [List.mem_cons, List.not_mem_nil, or_false] at hs
      rcases hs with rfl | rfl | rfl <;> decide
    simp only [List.mem_cons, List.mem_append, List.not_mem_nil, or_false] at hc
    rcases hc with rfl | rfl | (hc | rfl) | hc
    · omega
    · omega
    · exact ht c hc
    · omega
    · exact hsu c hc
section
variable {b : Bool} {ds : List PyData} {pl nm : V} {look gap size low : Int} {pack : Str} {d0 d1 d2 d3 : Int} {Z : OC} {K : PyData → Prop}
theorem stage_B {t suf : List Nat} {o : List V} (hs : suf ∈ sufs) (ht : ∀ c ∈ t, c ≠ 34) (ht2 : ∀ c ∈ t, c < 1114112) (hl : t.length ≤ 100)
    (h : ∀ x : LV, x.pack = pack → x.typed = mkS t → x.size = size → x.look = look → x.d1 = d1 → x.d2 = d2 → lawR 49 11 K (x.st [] [])) :
    lawR 52 8 K ⟨lsP b ds pl nm look gap size low pack [("typed", sv (mkS t)), ("reply", sv (mkS (repL t suf)))], cl4 d0 d1 d2 d3 Z o []⟩ := by
  have hz := suf_len hs
  have hR : (mkS (repL t suf)).length = 6 + t.length + suf.length := by
    rw [mkS_len]; unfold repL; simp; omega
  have hcp : (mkS (repL t suf)).cps.toList = 50 :: 53 :: 55 :: 32 :: 34 :: (t ++ [34] ++ suf) := by rw [mkS_cps]; unfold repL; simp
  obtain ⟨hd1, hd2⟩ := nS_digs look
  obtain ⟨n, n1, n2, n3⟩ := num_ok look
  refine ss_step dr_8 ?_
  rw [law_9]
  have c3 : cut (some 3) none (mkS (repL t suf)).cps.toList = 32 :: 34 :: (t ++ [34] ++ suf) := by
    rw [hcp]; exact cut_from 3 _ (by simp)
  have c4 : cut (some 4) none (mkS (repL t suf)).cps.toList = 34 :: (t ++ [34] ++ suf) := by
    rw [hcp]; exact cut_from 4 _ (by simp)
  have c5 : cut (some 5) none (mkS (repL t suf)).cps.toList = (t ++ [34] ++ suf) := by
    rw [hcp]; exact cut_from 5 _ (by simp)
  refine chk_iff.mpr ⟨?_, chk_iff.mpr ⟨sizeB_of (by omega), chk_iff.mpr ⟨?_, ?_⟩⟩⟩
  · unfold numN at n3; rw [n3]; exact smallI_of (by omega) (by omega)
  · refine sizeB_of ?_
    rw [c3, mkS_len, ← len_toList, hd2]; simp; omega
  · show lawR (50 + 1) 9 K ⟨lsB4 b ds pl nm look gap size low pack (mkS t) (mkS (repL t suf)) (otS look (mkS (repL t suf))) [], cl4 d0 d1 d2 d3 Z o []⟩
    refine ss_step dr_9 ?_
    rw [law_10]
    have l1 : Str.length "257-" = 4 := by decide +kernel
    have l2 : Str.length "257 x" = 5 := by decide +kernel
    refine chk_iff.mpr ⟨sizeB_of (by omega), chk_iff.mpr ⟨sizeB_of (by rw [l1, c4, mkS_len]; simp; omega), chk_iff.mpr ⟨sizeB_of (by omega), chk_iff.mpr ⟨sizeB_of (by rw [l2, c5, mkS_len]; simp; omega), ?_⟩⟩⟩⟩
    refine ss_step dr_10 ?_
    rw [law_11]
    have ot : otS look (mkS (repL t suf)) = mkS ((Str.ofString (toString (100 + (158 + look.fmod 899).fmod 900))).cps.toList ++ (32 :: 34 :: (t ++ [34] ++ suf))) := by unfold otS; rw [c3]
    have b1 : ba1 (mkS (repL t suf)) = mkS (50 :: 53 :: 55 :: 45 :: 34 :: (t ++ [34] ++ suf)) := by unfold ba1; rw [c4]; rfl
    have b2 : ba2 (mkS (repL t suf)) = mkS (50 :: 53 :: 55 :: 32 :: 120 :: (t ++ [34] ++ suf)) := by unfold ba2; rw [c5]; rfl
    have okl : ∀ l : List Nat, l.length ≤ 1000 → okL (mkS l).length = true := fun l hl => by unfold okL; rw [mkS_len]; exact Nat.ble_eq_true_of_le (by omega)
    have tdd : ∀ (l : List Nat) (Q : PyData → Prop), l.length ≤ 1000 → Q (toldV (mkS l)) → tdSpec [.str (mkS l)] Q := fun l Q hl h => chk_iff.mpr ⟨okl l hl, h⟩
    refine tdd _ _ (by unfold repL; simp; omega) ?_
    rw [told_yes hs ht, ot]
    have hd3 : (Str.ofString (toString (100 + (158 + look.fmod 899).fmod 900))).cps.toList.length = 3 := hd2
    refine tdd _ _ (by rw [List.length_append, hd3]; simp; omega) ?_
    rw [told_no (by rw [List.take_append_of_le_length (by rw [hd3]; exact Nat.le_refl _), List.take_of_length_le (by rw [hd3]; exact Nat.le_refl _)]; exact hd1) (by rw [List.length_append, hd3]; omega), ← ot]
    unfold compE
    rw [law_t10]
    refine compFrom_pure (xs := [sv (ba1 (mkS (repL t suf))), sv (ba2 (mkS (repL t suf)))]) (f := fun v => match v with | .d (.str s) => some (V.d (toldV s)) | _ => none) rfl (by show 2 ≤ 1000000; omega) law_l10 (fun v hv k hk => ?_) ?_
    · have hv : v = sv (ba1 (mkS (repL t suf))) ∨ v = sv (ba2 (mkS (repL t suf))) := by simpa using hv
      rcases hv with rfl | rfl
      · refine Eq.mpr (law_c10 b ds pl nm look gap size low pack (mkS t) (mkS (repL t suf)) (otS look (mkS (repL t suf))) (ba1 (mkS (repL t suf))) _ k) ?_
        rw [b1]
        refine tdd _ _ (by simp; omega) ?_
        rw [b1] at hk
        exact hk
      · refine Eq.mpr (law_c10 b ds pl nm look gap size low pack (mkS t) (mkS (repL t suf)) (otS look (mkS (repL t suf))) (ba2 (mkS (repL t suf))) _ k) ?_
        rw [b2]
        refine tdd _ _ (by simp; omega) ?_
        rw [b2] at hk
        exact hk
    · have e : ([sv (ba1 (mkS (repL t suf))), sv (ba2 (mkS (repL t suf)))] : List V).filterMap (fun v => match v with | .d (.str s) => some (V.d (toldV s)) | _ => none) = [V.d (.list [.str (mkS [])]), V.d (.list [.str (mkS [])])] := by
        show [V.d (toldV (ba1 _)), V.d (toldV (ba2 _))] = _
        rw [b1, b2, told_none (by omega), told_none (by omega)]
      rw [e]
      have := law_12 b ds pl nm look gap size low pack (mkS t) (mkS (repL t suf)) (otS look (mkS (repL t suf))) d0 d1 d2 d3 Z o (some [sv (ba1 (mkS (repL t suf))), sv (ba2 (mkS (repL t suf)))]) [V.d (.list [.str (mkS t)]), V.d (.str (otS look (mkS (repL t suf))))] [V.d (.list [.str (mkS [])]), V.d (.list [.str (mkS [])])] (nxt 49 10 K)
      refine Eq.mpr this ?_
      refine chk_iff.mpr ⟨rfl, ?_⟩
      have emp : ("" : Str) = mkS [] := by decide +kernel
      have key : ∀ (C : Bool → Prop), C true → eqK (.c 7) (.c 11) ⟨lsB4 b ds pl nm look gap size low pack (mkS t) (mkS (repL t suf)) (otS look (mkS (repL t suf))) [("bare", .c 4)], cl4 d0 d1 d2 d3 Z o [some [sv (ba1 (mkS (repL t suf))), sv (ba2 (mkS (repL t suf)))], some [V.d (.list [.str (mkS t)]), V.d (.str (otS look (mkS (repL t suf))))], some [V.d (.list [.str (mkS [])]), V.d (.list [.str (mkS [])])], some ([V.d (.list [.str (mkS t)]), V.d (.str (otS look (mkS (repL t suf))))] ++ [V.d (.list [.str (mkS [])]), V.d (.list [.str (mkS [])])]), some [sv (mkS t)], some [sv ""], some [sv ""], some [.c 8, sv (otS look (mkS (repL t suf))), .c 9, .c 10]]⟩ C := by
        intro C hC
        rw [emp]
        have oko : PyData.strOk (otS look (mkS (repL t suf))) = true := by
          rw [ot]
          exact strOk_of (other_ok hs ht2 look)
        generalize otS look (mkS (repL t suf)) = ot' at oko
        show chk (SeqAt.shaped (.list [.list [.str (mkS t)], .str ot', .list [.str (mkS [])], .list [.str (mkS [])]]) && SeqAt.shaped (.list [.list [.str (mkS t)], .str ot', .list [.str (mkS [])], .list [.str (mkS [])]])) (C (PyData.eqv (.list [.list [.str (mkS t)], .str ot', .list [.str (mkS [])], .list [.str (mkS [])]]) (.list [.list [.str (mkS t)], .str ot', .list [.str (mkS [])], .list [.str (mkS [])]])))
        have okt : PyData.strOk (mkS t) = true := strOk_of ht2
        have cl : PyData.canLay0 (.list [.list [.str (mkS t)], .str ot', .list [.str (mkS [])], .list [.str (mkS [])]]) = true := by
          show ((PyData.strOk (mkS t) && true) && (PyData.strOk ot' && ((PyData.strOk (mkS []) && true) && ((PyData.strOk (mkS []) && true) && true)))) = true
          rw [okt, oko, show PyData.strOk (mkS []) = true from strOk_of (fun c q => nomatch q)]; rfl
        have sh : SeqAt.shaped (.list [.list [.str (mkS t)], .str ot', .list [.str (mkS [])], .list [.str (mkS [])]]) = true := by
          unfold SeqAt.shaped
          rw [cl]; rfl
        refine chk_iff.mpr ⟨by rw [sh]; rfl, ?_⟩
        rw [SeqAt.eqv_refl _ cl]
        exact hC
      refine key _ ?_
      show lawR 49 11 K _
      exact h ⟨b, ds, pl, nm, look, gap, size, low, pack, mkS t, mkS (repL t suf), otS look (mkS (repL t suf)), d0, d1, d2, d3, ⟨Z, some o, tls, some [sv (ba1 (mkS (repL t suf))), sv (ba2 (mkS (repL t suf)))], _, _, _, _, _, _, _⟩⟩ rfl rfl rfl rfl rfl rfl
end
end Mine
end
section
open PySem PySem.W PyProof.Rows PySem.Calls
set_option Elab.async false
set_option linter.unusedVariables false
namespace Mine
/-! the typed pack is read as meant -/
theorem let_all : ((List.range 12).all fun i => (List.range 26).all fun a => let c := (startsI.getD i 0).toNat + (97 + a) - 97; !b1B c && letB c && letV c == 97 + a && c != 34 && Nat.ble c 1114111) = true := by decide +kernel
theorem hid_all2 : (hidI.all fun k => b1B k.toNat && k.toNat != 34 && Nat.ble k.toNat 1114111) = true := by decide +kernel
theorem let_one {n : Int} {k a : Nat} (h1 : 97 ≤ a) (h2 : a ≤ 122) : b1B (startN n k + a - 97) = false ∧ letB (startN n k + a - 97) = true ∧ letV (startN n k + a - 97) = a ∧ startN n k + a - 97 ≠ 34 ∧ startN n k + a - 97 < 1114112 := by
  unfold startN
  have g1 := Int.fmod_nonneg_of_pos (n + 5 * k) (b := 12) (by omega)
  have g2 := Int.fmod_lt_of_pos (n + 5 * k) (b := 12) (by omega)
  generalize (n + 5 * (k : Int)).fmod 12 = i at g1 g2
  have := List.all_eq_true.mp (List.all_eq_true.mp let_all i.toNat (List.mem_range.mpr (by omega))) (a - 97) (List.mem_range.mpr (by omega))
  have e : 97 + (a - 97) = a := by omega
  rw [e] at this
  simp only [Bool.and_eq_true, Bool.not_eq_true', beq_iff_eq, bne_iff_ne] at this
  obtain ⟨⟨⟨⟨a1, a2⟩, a3⟩, a4⟩, a5⟩ := this
  have := Nat.le_of_ble_eq_true a5
  exact ⟨a1, a2, a3, a4, by omega⟩
theorem knot_all {n : Int} : ∀ c ∈ knotL n, b1B c = true ∧ c ≠ 34 ∧ c < 1114112 := by
  intro c hc
  unfold knotL at hc
  obtain ⟨k, hk, rfl⟩ := List.mem_map.mp hc
  have := List.all_eq_true.mp hid_all2 k (cut_mem (cut_mem hk))
  simp only [Bool.and_eq_true, bne_iff_ne] at this
  have h2 := Nat.le_of_ble_eq_true this.2
  exact ⟨this.1.1, this.1.2, by omega⟩
theorem typed_ok {p : List Nat} {n : Int} (hp : ∀ c ∈ p, 97 ≤ c ∧ c ≤ 122) : ∀ c ∈ typedL p n, c ≠ 34 ∧ c < 1114112 := by
  intro c hc
  unfold typedL at hc
  obtain ⟨w, hw, hc⟩ := List.mem_flatten.mp hc
  obtain ⟨k, hk, rfl⟩ := List.mem_map.mp hw
  have hk := List.mem_range.mp hk
  rcases List.mem_append.mp hc with hc | hc
  · have := knot_all c hc; exact ⟨this.2.1, this.2.2⟩
  · rw [List.mem_singleton] at hc
    have hm : p.getD k 97 ∈ p := by
      rw [List.getD_eq_getElem?_getD, List.getElem?_eq_getElem hk]; exact List.getElem_mem hk
    have := hp _ hm
    have := let_one (n := n) (k := k) this.1 this.2
    rw [hc]
    exact ⟨this.2.2.2.1, this.2.2.2.2⟩
noncomputable def rdF : V → Option V
  | .d (.str s) => (match s.cps.toList with | [c] => (match b1B c with | true => none | false => some (sv (mkS [letV c]))) | _ => none)
  | _ => none
theorem rd_one (c : Nat) : rdF (sv (mkS [c])) = (match b1B c with | true => none | false => some (sv (mkS [letV c]))) := rfl
theorem rd_knot {l : List Nat} (h : ∀ c ∈ l, b1B c = true) : (l.map fun c => sv (mkS [c])).filterMap rdF = [] := by
  induction l with
  | nil => rfl
  | cons c r ih =>
    rw [List.map_cons, List.filterMap_cons_none (by rw [rd_one, h c List.mem_cons_self])]
    exact ih fun x hx => h x (List.mem_cons_of_mem _ hx)
theorem rd_typed {p : List Nat} {n : Int} (hp : ∀ c ∈ p, 97 ≤ c ∧ c ≤ 122) : ((typedL p n).map fun c => sv (mkS [c])).filterMap rdF = p.map fun c => sv (mkS [c]) := by
  have key : ∀ l : List Nat, (∀ k ∈ l, k < p.length) → (((l.map fun k => knotL n ++ [startN n k + p.getD k 97 - 97]).flatten).map fun c => sv (mkS [c])).filterMap rdF = l.map fun k => sv (mkS [p.getD k 97]) := by
    intro l
    induction l with
    | nil => intro _; rfl
    | cons k r ih =>
      intro h
      have hk := h k List.mem_cons_self
      have hm : p.getD k 97 ∈ p := by
        rw [List.getD_eq_getElem?_getD, List.getElem?_eq_getElem hk]; exact List.getElem_mem hk
      have hr := hp _ hm
      obtain ⟨l1, l2, l3, _⟩ := let_one (n := n) (k := k) hr.1 hr.2
      rw [List.map_cons, List.flatten_cons, List.map_append, List.filterMap_append, ih fun x hx => h x (List.mem_cons_of_mem _ hx), List.map_append, List.filterMap_append, rd_knot fun c hc => (knot_all c hc).1, List.nil_append, List.map_cons]
      show List.filterMap rdF [sv (mkS [startN n k + p.getD k 97 - 97])] ++ _ = _
      rw [List.filterMap_cons_some (by rw [rd_one, l1, l3])]
      rfl
  unfold typedL
  rw [key _ fun k hk => List.mem_range.mp hk]
  have : ∀ q : List Nat, (List.range q.length).map (fun k => sv (mkS [q.getD k 97])) = q.map fun c => sv (mkS [c]) := by
    intro q
    apply List.ext_getElem
    · simp
    · intro i h1 h2
      have : i < q.length := by simpa using h2
      simp [List.getElem?_eq_getElem this]
  exact this p
theorem C_11 {x : LV} {p : List Nat} {n : Int} {K : PyData → Prop} (hp : ∀ c ∈ p, 97 ≤ c ∧ c ≤ 122) (hl : p.length ≤ 20) (h1 : x.pack = mkS p) (h2 : x.typed = mkS (typedL p n)) (h : lawR 48 12 K (x.st [] [some (p.map fun c => sv (mkS [c]))])) : lawR 49 11 K (x.st [] []) := by
  refine ss_step dr_11 ?_
  rw [law_13, h2]
  unfold compE
  rw [law_t11]
  have htl := typed_len (p := p) (n := n)
  refine compFrom_pure (xs := (typedL p n).map fun c => sv (mkS [c])) (f := rdF) rfl (by rw [List.length_map]; omega) law_l11 (fun v hv k hk => ?_) ?_
  · obtain ⟨c, hc, rfl⟩ := List.mem_map.mp hv
    refine Eq.mpr (law_c11 x (mkS [c]) _ k) ?_
    show br (!(b1B c)) _ _
    cases hb : b1B c with
    | true =>
      rw [rd_one, hb] at hk
      exact hk
    | false =>
      rw [rd_one, hb] at hk
      have hlet : letB c = true := by
        unfold typedL at hc
        obtain ⟨w, hw, hc⟩ := List.mem_flatten.mp hc
        obtain ⟨k, hk, rfl⟩ := List.mem_map.mp hw
        have hk := List.mem_range.mp hk
        rcases List.mem_append.mp hc with hc | hc
        · have := (knot_all c hc).1; rw [hb] at this; cases this
        · rw [List.mem_singleton] at hc
          have hm : p.getD k 97 ∈ p := by
            rw [List.getD_eq_getElem?_getD, List.getElem?_eq_getElem hk]; exact List.getElem_mem hk
          have hr := hp _ hm
          rw [hc]
          exact (let_one (n := n) (k := k) hr.1 hr.2).2.1
      exact chk_iff.mpr ⟨hlet, hk⟩
  · rw [rd_typed hp]
    refine Eq.mpr (law_14 x (p.map fun c => sv (mkS [c])) (nxt 48 11 K)) ?_
    have es : strs? (p.map fun c => sv (mkS [c])) = some (p.map fun c => mkS [c]) := strs_map _ _
    rw [es]
    dsimp only
    have hsum : ((p.map fun c => mkS [c]).map (·.length)).sum = p.length := sum_ones p fun c => c
    refine chk_iff.mpr ⟨joinOk_of (by rw [hsum]; omega), ?_⟩
    have ef : ((p.map fun c => mkS [c]).map fun y => y.cps.toList).flatten = p := by
      rw [List.map_map]
      show (List.map (fun c => [c]) p).flatten = p
      rw [flat_one p fun c => c]; simp
    rw [ef, h1, mkS_cps, beq_self_eq_true]
    exact h
/-! the steps -/
noncomputable def stF (sz : Int) : V → Option V
  | .d (.int j) => (match decide (sz = 9) with | false => some (.d (.int j)) | true => (match decide (0 < j.fmod 3) with | true => some (.d (.int j)) | false => none))
  | _ => none
theorem stF_mem {sz : Int} {v y : V} (h : stF sz v = some y) : y = v ∧ ∃ j, v = .d (.int j) ∧ (sz ≠ 9 ∨ 0 < j.fmod 3) := by
  unfold stF at h
  split at h
  · rename_i j
    split at h
    · rename_i e
      exact ⟨(Option.some.inj h).symm, j, rfl, .inl (by simpa using e)⟩
    · split at h
      · rename_i e
        exact ⟨(Option.some.inj h).symm, j, rfl, .inr (by simpa using e)⟩
      · cases h
  · cases h
theorem range_1 (n : Int) : range 1 n = (List.range (n - 1).toNat).map fun (k : Nat) => 1 + (k : Int) := rfl
theorem C_12 {x : LV} {o1 : List V} {K : PyData → Prop} (hs : 3 ≤ x.size ∧ x.size ≤ 13)
    (h : ∀ st : List V, st ≠ [] → st.length ≤ 20 → (∀ v ∈ st, ∃ j : Nat, v = .d (.int (j : Int)) ∧ 1 ≤ j ∧ (j : Int) < x.size ∧ (x.size ≠ 9 ∨ j % 3 ≠ 0)) → lawR 47 13 K (x.st [("steps", .c 13)] [some o1, some st])) : lawR 48 12 K (x.st [] [some o1]) := by
  refine ss_step dr_12 ?_
  rw [law_15]
  refine chk_iff.mpr ⟨by simp only [Bool.and_eq_true, decide_eq_true_eq]; omega, ?_⟩
  unfold compE
  rw [law_t12]
  have hw : walkOf (x.st [] [some o1]) (.rng 1 x.size) = some ((List.range (x.size - 1).toNat).map fun (k : Nat) => V.d (.int (1 + (k : Int)))) := by
    unfold walkOf
    have : (decide (-1000000 ≤ (1:Int)) && decide ((1:Int) ≤ 1000000) && decide (-1000000 ≤ x.size) && decide (x.size ≤ 1000000)) = true := by
      simp only [Bool.and_eq_true, decide_eq_true_eq]; omega
    dsimp only
    rw [this, range_1, List.map_map]; rfl
  refine compFrom_pure (f := stF x.size) hw (by rw [List.length_map, List.length_range]; omega) law_l12 (fun v hv k hk => ?_) ?_
  · obtain ⟨j, hj, rfl⟩ := List.mem_map.mp hv
    refine Eq.mpr (law_c12 x (1 + (j : Int)) _ k) ?_
    unfold stF at hk
    dsimp only at hk
    cases c : decide (x.size = 9) with
    | false => rw [c] at hk; exact hk
    | true =>
      rw [c] at hk
      show br (decide (0 < (1 + (j : Int)).fmod 3)) _ _
      cases c2 : decide (0 < (1 + (j : Int)).fmod 3) with
      | true => rw [c2] at hk; exact hk
      | false => rw [c2] at hk; exact hk
  · show nxt 47 12 K .next (St.put (x.st [] [some o1, some _]) "steps" (.c 13))
    rw [law_15b]
    show lawR 47 13 K _
    refine h _ ?_ ?_ ?_
    · intro q
      have h1 : stF x.size (.d (.int (1 + ((0 : Nat) : Int)))) = some (.d (.int (1 + ((0 : Nat) : Int)))) := by
        unfold stF
        dsimp only
        cases c : decide (x.size = 9) with
        | false => rfl
        | true =>
          dsimp only
          rw [show decide (0 < (1 + ((0 : Nat) : Int)).fmod 3) = true by decide]
      have m : V.d (.int (1 + ((0 : Nat) : Int))) ∈ ((List.range (x.size - 1).toNat).map fun (k : Nat) => V.d (.int (1 + (k : Int)))).filterMap (stF x.size) :=
        List.mem_filterMap.mpr ⟨_, List.mem_map.mpr ⟨0, List.mem_range.mpr (by omega), rfl⟩, h1⟩
      rw [q] at m; cases m
    · refine Nat.le_trans (List.length_filterMap_le _ _) ?_
      rw [List.length_map, List.length_range]; omega
    · intro v hv
      obtain ⟨u, hu, hf⟩ := List.mem_filterMap.mp hv
      obtain ⟨rfl, j, ej, c⟩ := stF_mem hf
      obtain ⟨k, hk, ek⟩ := List.mem_map.mp hu
      have hk := List.mem_range.mp hk
      refine ⟨1 + k, ?_, by omega, by push_cast; omega, ?_⟩
      · rw [← ek]; push_cast; rfl
      · rw [← ek] at ej
        cases ej
        rcases c with c | c
        · exact .inl c
        · right
          rw [Int.fmod_eq_emod_of_nonneg _ (by omega)] at c
          omega
theorem C_13 {x : LV} {o1 st : List V} {K : PyData → Prop} (hne : st ≠ []) (hl : st.length ≤ 20) (hd : inR x.d1) (hk : inR x.look)
    (h : ∀ (sg : Str) (v : V), sgnB sg = true → v ∈ st → lawR 46 14 K (x.st [("steps", .c 13), ("sign", sv sg), ("step", v)] [some o1, some st])) : lawR 47 13 K (x.st [("steps", .c 13)] [some o1, some st]) := by
  refine ss_step dr_13 ?_
  rw [law_16]
  have hlen : 0 < st.length := List.length_pos_iff.mpr hne
  have g1 := Int.fmod_nonneg_of_pos x.d1 (b := (st.length : Int)) (by omega)
  have g2 := Int.fmod_lt_of_pos x.d1 (b := (st.length : Int)) (by omega)
  refine chk_iff.mpr ⟨sizeB_of (by omega), chk_iff.mpr ⟨decide_eq_true (by omega), chk_iff.mpr ⟨smallI_of (by omega) (by omega), ?_⟩⟩⟩
  generalize x.d1.fmod (st.length : Int) = i at g1 g2
  obtain ⟨m, rfl⟩ := Int.eq_ofNat_of_zero_le g1
  have hm : m < st.length := by omega
  rw [seq_nat hm]
  show match st[m]? with | some v => _ | none => False
  rw [List.getElem?_eq_getElem hm]
  dsimp only
  have f1 := Int.fmod_nonneg_of_pos (x.look.fdiv 17472) (b := 4) (by omega)
  have f2 := Int.fmod_lt_of_pos (x.look.fdiv 17472) (b := 4) (by omega)
  refine chk_iff.mpr ⟨smallI_of (by omega) (by omega), ?_⟩
  generalize (x.look.fdiv 17472).fmod 4 = i at f1 f2
  have c4 : i = 0 ∨ i = 1 ∨ i = 2 ∨ i = 3 := by omega
  have t0 : Txt.charAt "z \n'" 0 = some 122 := by decide +kernel
  have t1 : Txt.charAt "z \n'" 1 = some 32 := by decide +kernel
  have t2 : Txt.charAt "z \n'" 2 = some 10 := by decide +kernel
  have t3 : Txt.charAt "z \n'" 3 = some 39 := by decide +kernel
  rcases c4 with rfl | rfl | rfl | rfl
  · rw [t0]; exact h _ _ (by decide +kernel) (List.getElem_mem hm)
  · rw [t1]; exact h _ _ (by decide +kernel) (List.getElem_mem hm)
  · rw [t2]; exact h _ _ (by decide +kernel) (List.getElem_mem hm)
  · rw [t3]; exact h _ _ (by decide +kernel) (List.getElem_mem hm)
end Mine
end
section
open PySem PySem.W PyProof.Rows PySem.Calls
set_option Elab.async false
set_option linter.unusedVariables false
namespace Mine
structure Okx (d0 d3 : Int) (x : LV) : Prop where
  pack : x.pack = mkS (pL d0 d3)
  size : x.size = sizeI d0
  d1 : inR x.d1
  d2 : inR x.d2
  look : inR x.look
/-- the deal's letters -/
noncomputable def dlL (d0 d3 : Int) (j c : Nat) : List Nat := (qL (sizeI d0).toNat j c).map (ltr d0 d3)
theorem dealt_eq {d0 d3 : Int} {j c : Nat} : dealtL (pL d0 d3) ((c : Int) + 1) (j : Int) = dlL d0 d3 j c := by
  unfold dealtL dlL qL
  have hs := size_rng d0
  rw [pL_len, List.map_map]
  apply List.map_congr_left
  intro i _
  show (pL d0 d3).getD (((c : Int) + 1 - 1 + (i : Int) * (j : Int)).fmod (((sizeI d0).toNat : Nat) : Int)).toNat 0 = ltr d0 d3 ((c + i * j) % (sizeI d0).toNat)
  have e : (((c : Int) + 1 - 1 + (i : Int) * (j : Int)).fmod (((sizeI d0).toNat : Nat) : Int)).toNat = (c + i * j) % (sizeI d0).toNat := by
    rw [Int.fmod_eq_emod_of_nonneg _ (by omega)]
    have : (c : Int) + 1 - 1 + (i : Int) * (j : Int) = ((c + i * j : Nat) : Int) := by push_cast; omega
    rw [this, ← Int.natCast_emod, Int.toNat_natCast]
  rw [e]
  have hlt : (c + i * j) % (sizeI d0).toNat < (sizeI d0).toNat := Nat.mod_lt _ (by omega)
  unfold pL
  rw [List.getD_eq_getElem?_getD, List.getElem?_map, List.getElem?_range hlt]
  rfl
theorem dlL_len (d0 d3 : Int) (j c : Nat) : (dlL d0 d3 j c).length = (sizeI d0).toNat := by unfold dlL; rw [List.length_map, qL_len]
theorem C_14 {d0 d3 : Int} {x : LV} {o1 st : List V} {sg : Str} {j : Nat} {K : PyData → Prop} (hx : Okx d0 d3 x) (h1 : 1 ≤ j) (h2 : (j : Int) < x.size)
    (h : ∀ c : Nat, c < (sizeI d0).toNat → lawR 44 16 K ((⟨x, sg, j, c, mkS (dlL d0 d3 j c)⟩ : LV2).sd [] [some o1, some st])) : lawR 46 14 K (x.st [("steps", .c 13), ("sign", sv sg), ("step", .d (.int (j : Int)))] [some o1, some st]) := by
  have hs := size_rng d0
  have hsz := hx.size
  refine ss_step dr_14 ?_
  rw [law_17]
  refine chk_iff.mpr ⟨decide_eq_true (by omega), ?_⟩
  refine ss_step dr_15 ?_
  have g1 := Int.fmod_nonneg_of_pos x.d2 (b := x.size) (by omega)
  have g2 := Int.fmod_lt_of_pos x.d2 (b := x.size) (by omega)
  generalize x.d2.fmod x.size = ct at g1 g2
  obtain ⟨c, rfl⟩ := Int.eq_ofNat_of_zero_le g1
  refine Eq.mpr (law_18 x sg (j : Int) (c : Int) [some o1, some st] (nxt 44 15 K)) ?_
  unfold dlSpec
  dsimp only
  rw [hx.pack]
  refine chk_iff.mpr ⟨?_, ?_⟩
  · simp only [Bool.and_eq_true, decide_eq_true_eq]
    rw [mkS_len, pL_len]
    refine ⟨⟨⟨⟨⟨Nat.ble_eq_true_of_le (by omega), Nat.ble_eq_true_of_le (by omega)⟩, by omega⟩, by omega⟩, by omega⟩, by omega⟩
  · rw [mkS_cps, dealt_eq]
    exact h c (by omega)
theorem pL_sorted (d0 d3 : Int) : (pL d0 d3).Pairwise (· ≤ ·) := by
  unfold pL
  rw [List.pairwise_map]
  refine List.Pairwise.imp ?_ List.pairwise_lt_range
  intro a b h
  unfold ltr
  exact Nat.add_le_add_left (Nat.mul_le_mul_left _ (Nat.le_of_lt h)) _
theorem strs_sv (l : List Nat) : strs? (l.map fun c => V.d (.str (mkS [c]))) = some (l.map fun c => mkS [c]) := strs_map _ _
theorem flat_sv (l : List Nat) : ((l.map fun c => mkS [c]).map fun y => y.cps.toList).flatten = l := by
  rw [List.map_map]
  show (List.map (fun c => [c]) l).flatten = l
  rw [flat_one l fun c => c]; simp
theorem C_16 {d0 d3 : Int} {x : LV} {o1 st : List V} {sg : Str} {j c : Nat} {K : PyData → Prop} (hx : Okx d0 d3 x) (hc : c < (sizeI d0).toNat) (hp : (qL (sizeI d0).toNat j c).Perm (List.range (sizeI d0).toNat))
    (h : ∀ o3 : OC, lawR 42 18 K ((⟨⟨x, sg, j, c, mkS (dlL d0 d3 j c)⟩, mkS (((qL (sizeI d0).toNat j c).drop (c + 1)).map (ltr d0 d3)), mkS ((((qL (sizeI d0).toNat j c).drop c).take 1).map (ltr d0 d3)), mkS (((qL (sizeI d0).toNat j c).take c).map (ltr d0 d3))⟩ : LV3).sf [] [some o1, some st, o3])) :
    lawR 44 16 K ((⟨x, sg, j, c, mkS (dlL d0 d3 j c)⟩ : LV2).sd [] [some o1, some st]) := by
  have hs := size_rng d0
  refine ss_step dr_16 ?_
  rw [law_19]
  refine chk_iff.mpr ⟨Nat.ble_eq_true_of_le (by rw [mkS_len, dlL_len]; omega), ?_⟩
  intro l hl hsrt
  have hl : l.Perm (dlL d0 d3 j c) := hl
  have e : l = pL d0 d3 := by
    refine List.Perm.eq_of_pairwise (le := (· ≤ ·)) (fun a b _ _ h1 h2 => Nat.le_antisymm h1 h2) hsrt (pL_sorted d0 d3) (hl.trans ?_)
    unfold dlL pL
    exact hp.map _
  subst e
  rw [strs_sv]
  dsimp only
  have hsum : (((pL d0 d3).map fun c => mkS [c]).map (·.length)).sum = (pL d0 d3).length := sum_ones _ fun c => c
  refine chk_iff.mpr ⟨joinOk_of (by rw [hsum, pL_len]; omega), ?_⟩
  rw [flat_sv]
  show br (!(pL d0 d3 == x.pack.cps.toList)) _ _
  rw [hx.pack, mkS_cps, beq_self_eq_true]
  refine ss_step dr_17 ?_
  refine Eq.mpr (law_20 (⟨x, sg, j, c, mkS (dlL d0 d3 j c)⟩ : LV2) _ _) ?_
  have hlen : c < (dlL d0 d3 j c).length := by rw [dlL_len]; exact hc
  have hsm : smallI (c : Int) = true := smallI_of (by omega) (by omega)
  have hzz : sizeB (mkS (dlL d0 d3 j c)).length = true := sizeB_of (by rw [mkS_len, dlL_len]; omega)
  show chk (sizeB (mkS (dlL d0 d3 j c)).length) (chk (smallI (c : Int)) _)
  rw [hzz, hsm, chk_t, chk_t]
  show match Txt.charAt (mkS (dlL d0 d3 j c)) (c : Int) with | some _ => _ | none => False
  rw [charAt_nat, mkS_cps, List.getElem?_eq_getElem hlen]
  dsimp only
  rw [chk_t]
  have e1 : cut (some ((c : Int) + 1)) none (dlL d0 d3 j c) = ((qL (sizeI d0).toNat j c).drop (c + 1)).map (ltr d0 d3) := by
    have := cut_from (c + 1) (dlL d0 d3 j c) (by omega)
    rw [show ((c : Int) + 1) = ((c + 1 : Nat) : Int) by push_cast; rfl, this]
    unfold dlL
    rw [List.map_drop]
  have e2 : cut none (some (c : Int)) (dlL d0 d3 j c) = ((qL (sizeI d0).toNat j c).take c).map (ltr d0 d3) := by
    rw [cut_to c (dlL d0 d3 j c) (by omega)]
    unfold dlL
    rw [List.map_take]
  have e3 : [(dlL d0 d3 j c)[c]] = (((qL (sizeI d0).toNat j c).drop c).take 1).map (ltr d0 d3) := by
    rw [List.map_take, List.map_drop]
    show [(dlL d0 d3 j c)[c]] = ((dlL d0 d3 j c).drop c).take 1
    rw [List.drop_eq_getElem_cons hlen]; rfl
  have := h (some ((pL d0 d3).map fun c => V.d (.str (mkS [c]))))
  rw [← e1, ← e2, ← e3] at this
  exact this
/-! texts with dots -/
theorem cat_ok {a b : List Nat} {P : Str → Prop} (h : a.length + b.length ≤ 1000000) (hP : P (mkS (a ++ b))) : cat (mkS a) (mkS b) P := by
  unfold cat
  exact chk_iff.mpr ⟨sizeB_of (by rw [mkS_len, mkS_len]; exact h), hP⟩
theorem dt3_eq : dt3 = mkS [46, 46, 46] := by decide +kernel
theorem e_two {W G w0 w1 : List Nat} {r : List (List Nat)} {v : Bool} {Q : PyData → Prop} (hW : splitL W = w0 :: w1 :: r) (hr : r.length ≤ 2) (h1 : W.length ≤ 1000) (h2 : G.length ≤ 1000) (hv : ellL (w0 :: w1 :: r) G = v) (hQ : Q (.bool v)) : eSpec [.str (mkS W), .str (mkS G)] Q := by
  unfold eSpec
  dsimp only
  refine chk_iff.mpr ⟨?_, ?_⟩
  · unfold okL
    rw [mkS_len, mkS_len, Bool.and_eq_true]
    exact ⟨Nat.ble_eq_true_of_le (by omega), Nat.ble_eq_true_of_le (by omega)⟩
  · rw [mkS_cps, mkS_cps, hW]
    dsimp only
    exact chk_iff.mpr ⟨Nat.ble_eq_true_of_le hr, by rw [hv]; exact hQ⟩
theorem e_one {W G : List Nat} {v : Bool} {Q : PyData → Prop} (hW : noDot W) (h1 : W.length ≤ 1000) (h2 : G.length ≤ 1000) (hv : (W == G) = v) (hQ : Q (.bool v)) : eSpec [.str (mkS W), .str (mkS G)] Q := by
  unfold eSpec
  dsimp only
  refine chk_iff.mpr ⟨?_, ?_⟩
  · unfold okL
    rw [mkS_len, mkS_len, Bool.and_eq_true]
    exact ⟨Nat.ble_eq_true_of_le (by omega), Nat.ble_eq_true_of_le (by omega)⟩
  · rw [mkS_cps, mkS_cps, splitL_one hW]
    dsimp only
    rw [hv]; exact hQ
theorem noDot_map {d0 d3 : Int} {l : List Nat} (h : ∀ k ∈ l, k < (sizeI d0).toNat) : noDot (l.map (ltr d0 d3)) := by
  intro c hc
  obtain ⟨k, hk, rfl⟩ := List.mem_map.mp hc
  have := ltr_rng (d3 := d3) (h k hk)
  omega
theorem noDot_app {a b : List Nat} (ha : noDot a) (hb : noDot b) : noDot (a ++ b) := fun c hc => (List.mem_append.mp hc).elim (ha c) (hb c)
end Mine
end
section
open PySem PySem.W PyProof.Rows PySem.Calls
set_option Elab.async false
set_option linter.unusedVariables false
namespace Mine
noncomputable abbrev d3L : List Nat := [46, 46, 46]
theorem joinGo_ok {a : List Nat} {P : Str → Prop} (bs : List (List Nat)) (h : (bs.map List.length).sum + a.length ≤ 1000000) (hP : P (mkS (bs.foldl (· ++ ·) a))) : joinGo (mkS a) (bs.map mkS) P := by
  induction bs generalizing a with
  | nil => exact hP
  | cons b r ih =>
    simp only [List.map_cons, List.sum_cons] at h
    exact cat_ok (by omega) (ih (by rw [List.length_append]; omega) hP)
theorem cat_dr {a : List Nat} {P : Str → Prop} (h : a.length ≤ 1000) (hP : P (mkS (a ++ d3L))) : cat (mkS a) dt3 P := by
  rw [dt3_eq]; exact cat_ok (by show a.length + 3 ≤ _; omega) hP
theorem cat_dl {b : List Nat} {P : Str → Prop} (h : b.length ≤ 1000) (hP : P (mkS (d3L ++ b))) : cat dt3 (mkS b) P := by
  rw [dt3_eq]; exact cat_ok (by show 3 + b.length ≤ _; omega) hP
theorem filterMap_none {α β : Type} (l : List α) : l.filterMap (fun _ => (none : Option β)) = [] := by
  induction l with
  | nil => rfl
  | cons a r ih => rw [List.filterMap_cons_none rfl]; exact ih
theorem C_20 {x : LV3} {o1 o2 o3 o5 : OC} {ws : List Str} {K : PyData → Prop} (hz : ws.length ≤ 100) (hw : ∀ w ∈ ws, ∀ Q : PyData → Prop, Q (.bool true) → eSpec [.str w, .str x.dealt] Q)
    (h : lawR 39 21 K (x.sf lfl [o1, o2, o3, some (ws.map sv), o5, some [], some []])) : lawR 40 20 K (x.sf lfl [o1, o2, o3, some (ws.map sv), o5]) := by
  refine ss_step dr_20 ?_
  rw [law_23]
  unfold compE
  rw [law_t20]
  refine compFrom_pure (xs := ws.map sv) (f := fun _ => none) rfl (by rw [List.length_map]; omega) law_l20 (fun v hv k hk => ?_) ?_
  · obtain ⟨w, hm, rfl⟩ := List.mem_map.mp hv
    refine Eq.mpr (law_c20 x w _ k) ?_
    exact hw w hm _ hk
  · rw [filterMap_none]
    refine Eq.mpr (law_24 x o1 o2 o3 (some (ws.map sv)) o5 _) ?_
    exact h
theorem C_21 {x : LV3} {o1 o2 o3 o4 o6 o7 : OC} {ws : List Str} {K : PyData → Prop} (hz : ws.length ≤ 100) (hw : ∀ w ∈ ws, ∀ Q : PyData → Prop, Q (.bool false) → eSpec [.str w, .str x.dealt] Q)
    (h : lawR 38 22 K (x.sf lfl [o1, o2, o3, o4, some (ws.map sv), o6, o7, some [], some []])) : lawR 39 21 K (x.sf lfl [o1, o2, o3, o4, some (ws.map sv), o6, o7]) := by
  refine ss_step dr_21 ?_
  rw [law_25]
  unfold compE
  rw [law_t21]
  refine compFrom_pure (xs := ws.map sv) (f := fun _ => none) rfl (by rw [List.length_map]; omega) law_l21 (fun v hv k hk => ?_) ?_
  · obtain ⟨w, hm, rfl⟩ := List.mem_map.mp hv
    refine Eq.mpr (law_c21 x w _ k) ?_
    exact hw w hm _ hk
  · rw [filterMap_none]
    refine Eq.mpr (law_26 x o1 o2 o3 o4 (some (ws.map sv)) o6 o7 _) ?_
    exact h
/-- the third form of the values -/
noncomputable def mk3 (x : LV) (sg : Str) (d0 d3 : Int) (j c : Nat) : LV3 := ⟨⟨x, sg, j, c, mkS (dlL d0 d3 j c)⟩, mkS (((qL (sizeI d0).toNat j c).drop (c + 1)).map (ltr d0 d3)), mkS ((((qL (sizeI d0).toNat j c).drop c).take 1).map (ltr d0 d3)), mkS (((qL (sizeI d0).toNat j c).take c).map (ltr d0 d3))⟩
theorem C_18 {x : LV} {sg : Str} {d0 d3 : Int} {j c : Nat} {o1 o2 o3 : OC} {K : PyData → Prop} (hs : 1 ≤ (sizeI d0).toNat) (hok : okC (sizeI d0).toNat j c = true)
    (h : ∀ o4 o5 o6 o7 o8 o9 : OC, lawR 37 23 K ((mk3 x sg d0 d3 j c).sk 0 [] (c12 x.d0 x.d1 x.d2 x.d3 x.z [o1, o2, o3, o4, o5, o6, o7, o8, o9]))) : lawR 42 18 K ((mk3 x sg d0 d3 j c).sf [] [o1, o2, o3]) := by
  have hsz := size_rng d0
  generalize hS : (sizeI d0).toNat = S at hs hok
  have hSle : S ≤ 13 := by omega
  have hql : (qL S j c).length = S := qL_len S j c
  have hlt : ∀ k ∈ qL S j c, k < S := qL_lt (by omega)
  unfold okC at hok
  dsimp only at hok
  simp only [Bool.and_eq_true, Bool.not_eq_true'] at hok
  obtain ⟨⟨⟨⟨⟨⟨⟨⟨⟨⟨⟨⟨_, k1⟩, k2⟩, k3⟩, k4⟩, k5⟩, k6⟩, k7⟩, k8⟩, k9⟩, k10⟩, k11⟩, _⟩ := hok
  have hinj := ltr_inj d0 d3
  have nd : ∀ l : List Nat, (∀ k ∈ l, k < S) → noDot (l.map (ltr d0 d3)) := fun l hl => noDot_map fun k hk => by rw [hS]; exact hl k hk
  have el : ∀ ws : List (List Nat), ellL (ws.map fun w => w.map (ltr d0 d3)) ((qL S j c).map (ltr d0 d3)) = ellL ws (qL S j c) := fun ws => ellL_map hinj _ ws
  have hG : (mk3 x sg d0 d3 j c).dealt = mkS ((qL S j c).map (ltr d0 d3)) := by unfold mk3 dlL; rw [hS]
  have hfr : (mk3 x sg d0 d3 j c).fr = mkS (((qL S j c).take c).map (ltr d0 d3)) := by unfold mk3; rw [hS]
  have hca : (mk3 x sg d0 d3 j c).ca = mkS ((((qL S j c).drop c).take 1).map (ltr d0 d3)) := by unfold mk3; rw [hS]
  have hbk : (mk3 x sg d0 d3 j c).bk = mkS (((qL S j c).drop (c + 1)).map (ltr d0 d3)) := by unfold mk3; rw [hS]
  generalize hX : mk3 x sg d0 d3 j c = X at hG hfr hca hbk
  have hX2 : ∀ ov r q, X.sk ov r q = (mk3 x sg d0 d3 j c).sk ov r q := fun ov r q => by rw [hX]
  generalize hq : qL S j c = q at *
  have m1 : ∀ k ∈ q.take c, k < S := fun k hk => hlt k (List.mem_of_mem_take hk)
  have m2 : ∀ k ∈ (q.drop c).take 1, k < S := fun k hk => hlt k (List.mem_of_mem_drop (List.mem_of_mem_take hk))
  have m3 : ∀ k ∈ q.drop (c + 1), k < S := fun k hk => hlt k (List.mem_of_mem_drop hk)
  have s1 : (q.take c).length ≤ 13 := by rw [List.length_take]; omega
  have s2 : ((q.drop c).take 1).length ≤ 13 := by rw [List.length_take]; omega
  have s3 : (q.drop (c + 1)).length ≤ 13 := by rw [List.length_drop]; omega
  generalize hF : q.take c = F at *
  generalize hC : (q.drop c).take 1 = C at *
  generalize hB : q.drop (c + 1) = B at *
  have dF := nd F m1
  have dC := nd C m2
  have dB := nd B m3
  have lF : (F.map (ltr d0 d3)).length ≤ 13 := by rw [List.length_map]; exact s1
  have lC : (C.map (ltr d0 d3)).length ≤ 13 := by rw [List.length_map]; exact s2
  have lB : (B.map (ltr d0 d3)).length ≤ 13 := by rw [List.length_map]; exact s3
  have lG : (q.map (ltr d0 d3)).length = S := by rw [List.length_map]; exact hql
  -- the pieces, as letters
  have e2 := el [F, C ++ B]
  have e3 := el [F, C, B]
  have e4 := el [F ++ C, C ++ B]
  have e5 := el [F, C, C ++ B]
  have e6 := el [F ++ C, C, []]
  have e7 := el [[], F ++ C, C ++ B, []]
  have e1 := el [[], []]
  have e10 := el [q.drop 1, []]
  have e11 := el [[], q.dropLast]
  simp only [List.map_cons, List.map_nil, List.map_append] at e1 e2 e3 e4 e5 e6 e7 e10 e11
  have e8 := map_beq hinj (q.drop 1) q
  have e9 := map_beq hinj q.dropLast q
  have d1 : noDot ((q.drop 1).map (ltr d0 d3)) := nd _ fun k hk => hlt k (List.mem_of_mem_drop hk)
  have d2 : noDot (q.dropLast.map (ltr d0 d3)) := nd _ fun k hk => hlt k ((List.dropLast_sublist q).subset hk)
  have l1 : ((q.drop 1).map (ltr d0 d3)).length ≤ 13 := by rw [List.length_map, List.length_drop]; omega
  have l2 : (q.dropLast.map (ltr d0 d3)).length ≤ 13 := by rw [List.length_map, List.length_dropLast]; omega
  have c1 : cut (some 1) none (q.map (ltr d0 d3)) = (q.drop 1).map (ltr d0 d3) := by
    have := cut_from 1 (q.map (ltr d0 d3)) (by omega)
    rw [List.map_drop]; exact this
  have c2 : cut none (some (-1)) (q.map (ltr d0 d3)) = q.dropLast.map (ltr d0 d3) := by
    unfold cut kms_lo kms_hi
    rw [List.map_dropLast, List.dropLast_eq_take]
    show ((q.map (ltr d0 d3)).drop 0).take ((q.map (ltr d0 d3)).length - 1 - 0) = _
    rfl
  generalize hf : F.map (ltr d0 d3) = f at *
  generalize hc : C.map (ltr d0 d3) = a at *
  generalize hb : B.map (ltr d0 d3) = b at *
  generalize hg : q.map (ltr d0 d3) = g at *
  generalize hg1 : (q.drop 1).map (ltr d0 d3) = g1 at *
  generalize hg2 : q.dropLast.map (ltr d0 d3) = g2 at *
  have hgd : noDot g := by rw [← hg]; exact nd q hlt
  refine ss_step dr_18 ?_
  rw [law_21, hfr, hca, hbk]
  refine joinGo_ok [d3L, a, b] (by simp; omega) (joinGo_ok [d3L, a, d3L, b] (by simp; omega) ?_)
  show lawR 41 19 K _
  refine ss_step dr_19 ?_
  rw [law_22, hfr, hca, hbk, hG, mkS_cps, c1, c2]
  have zG : sizeB (mkS g).length = true := sizeB_of (by rw [mkS_len]; omega)
  refine joinGo_ok [a, d3L, a, b] (by simp; omega) (joinGo_ok [d3L, a, d3L, a, b] (by simp; omega) (joinGo_ok [a, d3L, a, d3L] (by simp; omega) (joinGo_ok (a := d3L) [f, a, d3L, a, b, d3L] (by simp; omega) ?_)))
  rw [zG, chk_t, chk_t, chk_t]
  refine cat_dr (by omega) ?_
  rw [chk_t]
  refine cat_dl (by omega) ?_
  show lawR 40 20 K (X.sf lfl [o1, o2, o3, some ([dt3, mkS g, mkS (f ++ d3L ++ a ++ b), mkS (f ++ d3L ++ a ++ d3L ++ b)].map sv), some ([mkS (f ++ a ++ d3L ++ a ++ b), mkS (f ++ d3L ++ a ++ d3L ++ a ++ b), mkS (f ++ a ++ d3L ++ a ++ d3L), mkS (d3L ++ f ++ a ++ d3L ++ a ++ b ++ d3L), mkS g1, mkS g2, mkS (g1 ++ d3L), mkS (d3L ++ g2)].map sv)])
  have spD : ∀ {h : List Nat}, noDot h → ∀ r, splitL (h ++ d3L ++ r) = h :: splitL r := fun hd r => by rw [List.append_assoc]; exact splitL_app hd r
  have sp0 : ∀ r, splitL (d3L ++ r) = [] :: splitL r := fun r => splitL_dots r
  have spE : ∀ {h : List Nat}, noDot h → splitL (h ++ d3L) = [h, []] := fun hd => by have := splitL_app hd []; exact this
  refine C_20 (by simp) (fun w hw Q hQ => ?_) ?_
  · rw [hG]
    simp only [List.mem_cons, List.not_mem_nil, or_false] at hw
    rcases hw with rfl | rfl | rfl | rfl
    · rw [dt3_eq]; exact e_two (sp0 []) (by simp [splitL]) (by simp) (by omega) (by rw [e1]; exact k1) hQ
    · exact e_one hgd (by omega) (by omega) (beq_self_eq_true g) hQ
    · have := spD dF (a ++ b)
      rw [splitL_one (noDot_app dC dB), ← List.append_assoc] at this
      exact e_two this (by simp) (by simp; omega) (by omega) (by rw [e2]; exact k2) hQ
    · have := spD dF (a ++ d3L ++ b)
      rw [spD dC b, splitL_one dB] at this
      have e : f ++ d3L ++ (a ++ d3L ++ b) = f ++ d3L ++ a ++ d3L ++ b := by simp
      rw [e] at this
      exact e_two this (by simp) (by simp; omega) (by omega) (by rw [e3]; exact k3) hQ
  · refine C_21 (by simp) (fun w hw Q hQ => ?_) ?_
    · rw [hG]
      simp only [List.mem_cons, List.not_mem_nil, or_false] at hw
      rcases hw with rfl | rfl | rfl | rfl | rfl | rfl | rfl | rfl
      · have := spD (noDot_app dF dC) (a ++ b)
        rw [splitL_one (noDot_app dC dB)] at this
        rw [← List.append_assoc] at this
        exact e_two this (by simp) (by simp; omega) (by omega) (by rw [e4]; exact k4) hQ
      · have := spD dF (a ++ d3L ++ (a ++ b))
        rw [spD dC (a ++ b), splitL_one (noDot_app dC dB)] at this
        have e : f ++ d3L ++ (a ++ d3L ++ (a ++ b)) = f ++ d3L ++ a ++ d3L ++ a ++ b := by simp
        rw [e] at this
        exact e_two this (by simp) (by simp; omega) (by omega) (by rw [e5]; exact k5) hQ
      · have := spD (noDot_app dF dC) (a ++ d3L)
        rw [spE dC] at this
        have e : f ++ a ++ d3L ++ (a ++ d3L) = f ++ a ++ d3L ++ a ++ d3L := by simp
        rw [e] at this
        exact e_two this (by simp) (by simp; omega) (by omega) (by rw [e6]; exact k6) hQ
      · have h0 := sp0 (f ++ a ++ d3L ++ (a ++ b ++ d3L))
        rw [spD (noDot_app dF dC), spE (noDot_app dC dB)] at h0
        have e : d3L ++ (f ++ a ++ d3L ++ (a ++ b ++ d3L)) = d3L ++ f ++ a ++ d3L ++ a ++ b ++ d3L := by simp
        rw [e] at h0
        exact e_two h0 (by simp) (by simp; omega) (by omega) (by rw [e7]; exact k7) hQ
      · exact e_one d1 (by omega) (by omega) (by rw [e8]; exact k8) hQ
      · exact e_one d2 (by omega) (by omega) (by rw [e9]; exact k9) hQ
      · exact e_two (spE d1) (by simp) (by simp; omega) (by omega) (by rw [e10]; exact k10) hQ
      · have := sp0 g2
        rw [splitL_one d2] at this
        exact e_two this (by simp) (by simp; omega) (by omega) (by rw [e11]; exact k11) hQ
    · refine ss_step dr_22 ?_
      refine Eq.mpr (law_27 X _ _) ?_
      have hc12 : ∀ r, c12 X.d0 X.d1 X.d2 X.d3 X.z r = c12 x.d0 x.d1 x.d2 x.d3 x.z r := fun r => by rw [← hX]; rfl
      show lawR 37 23 K (X.sk 0 [] (c12 X.d0 X.d1 X.d2 X.d3 X.z _))
      rw [hc12, hX2]
      exact h _ _ _ _ _ _
end Mine
end
section
open PySem PySem.W PyProof.Rows PySem.Calls
set_option Elab.async false
set_option linter.unusedVariables false
namespace Mine
/-! the order of texts -/
theorem lt_app (l : List Nat) (x : Nat) : l < l ++ [x] ∧ ¬ (l ++ [x] < l) := by
  induction l with
  | nil => simp
  | cons a r ih =>
    simp only [List.cons_append, List.cons_lt_cons_iff, Nat.lt_irrefl, false_or, true_and]
    exact ih
theorem sN_of {a b : List Nat} (h : a < b) (h' : ¬ b < a) : sN (mkS b) (mkS a) = 1 ∧ sN (mkS a) (mkS b) = -1 := by
  unfold sN
  rw [mkS_cps, mkS_cps, decide_eq_true h, decide_eq_false h']
  exact ⟨rfl, rfl⟩
theorem sN_self (a : List Nat) : sN (mkS a) (mkS a) = 0 := by
  unfold sN
  rw [mkS_cps]
  cases decide (a < a) <;> rfl
theorem lt_one {a b : Nat} (h : a < b) (l : List Nat) : a :: l < [b] ∧ ¬ ([b] < a :: l) := by
  simp only [List.cons_lt_cons_iff]; omega
theorem nS_0 : nS 0 = mkS [48] := by decide +kernel
theorem nS_1 : nS 1 = mkS [49] := by decide +kernel
theorem nS_m : nS (-1) = mkS [45, 49] := by decide +kernel
theorem t_0 : ("0" : Str) = mkS [48] := by decide +kernel
theorem t_1 : ("1" : Str) = mkS [49] := by decide +kernel
theorem t_m : ("-1" : Str) = mkS [45, 49] := by decide +kernel
/-! own lists -/
theorem mapO_sv (cel : List OC) (n : Nat) : ∀ l : List Str, mapO (toD cel n) (l.map sv) = some (l.map PyData.str)
  | [] => rfl
  | s :: r => by
    have e : toD cel n (sv s) = some (.str s) := by cases n <;> simp [toD, sv]
    rw [List.map_cons, List.map_cons]
    unfold mapO
    rw [e, mapO_sv cel n r]
theorem toD_sv {cel : List OC} {i : Nat} {l : List Str} (h : cel[i]? = some (some (l.map sv))) : toD cel 4 (.c i) = some (.list (l.map PyData.str)) := by
  unfold toD
  rw [h]
  dsimp only
  rw [mapO_sv]
theorem canAll_sv : ∀ {l : List Str}, (∀ s ∈ l, PyData.strOk s = true) → PyData.canLayAll0 (l.map PyData.str) = true
  | [], _ => rfl
  | s :: r, h => by
    rw [List.map_cons]
    show (PyData.strOk s && PyData.canLayAll0 (r.map PyData.str)) = true
    rw [h s List.mem_cons_self, canAll_sv fun x hx => h x (List.mem_cons_of_mem _ hx)]; rfl
theorem depth_sv : ∀ l : List Str, PyData.depthAll (l.map PyData.str) = 0
  | [] => rfl
  | s :: r => by
    rw [List.map_cons]
    show max 0 (PyData.depthAll (r.map PyData.str)) = 0
    rw [depth_sv r]; rfl
theorem eqK_same {σ : St} {i j : Nat} {l : List Str} {C : Bool → Prop} (hi : σ.cel[i]? = some (some (l.map sv))) (hj : σ.cel[j]? = some (some (l.map sv))) (ok : ∀ s ∈ l, PyData.strOk s = true) (h : C true) : eqK (.c i) (.c j) σ C := by
  have cl : PyData.canLay0 (.list (l.map PyData.str)) = true := canAll_sv ok
  have sh : SeqAt.shaped (.list (l.map PyData.str)) = true := by
    unfold SeqAt.shaped
    rw [cl]
    show (true && decide (PyData.depthAll (l.map PyData.str) + 1 ≤ 64)) = true
    rw [depth_sv]; rfl
  unfold eqK
  dsimp only
  rw [toD_sv hi, toD_sv hj]
  dsimp only
  refine chk_iff.mpr ⟨by rw [sh]; rfl, ?_⟩
  rw [SeqAt.eqv_refl _ cl]
  exact h
theorem add_c {σ : St} {i j : Nat} {xs ys : List V} {K : V → St → Prop} (hi : σ.cel[i]? = some (some xs)) (hj : σ.cel[j]? = some (some ys)) (hz : xs.length + ys.length ≤ 1000000) (h : K (.c σ.cel.length) ⟨σ.loc, σ.cel ++ [some (xs ++ ys)]⟩) : opB .Add (.c i) (.c j) σ K := by
  unfold opB
  dsimp only
  unfold own?
  dsimp only
  rw [hi, hj]
  dsimp only
  exact chk_iff.mpr ⟨sizeB_of hz, h⟩
theorem ss_cons {g : Gl} {n : Nat} {sc : Scope} {s : Stmt} {r : List Stmt} {σ : St} {K : Fl → St → Prop} (h : wpS g n sc s σ fun f σ => match f with | .next => wpSs g n sc r σ K | .brk => K .brk σ | .ret v => K (.ret v) σ) : wpSs g (n + 1) sc (s :: r) σ K := h
theorem ok_small (l : List Nat) (h : ∀ c ∈ l, c < 1114112) : PyData.strOk (mkS l) = true := strOk_of h
/-- what the double loop leans on -/
structure LpOk (d0 d3 : Int) (j c : Nat) (X : LV3) : Prop where
  pack : X.pack = mkS (pL d0 d3)
  size : X.size = sizeI d0
  dealt : X.dealt = mkS ((qL (sizeI d0).toNat j c).map (ltr d0 d3))
  perm : (qL (sizeI d0).toNat j c).Perm (List.range (sizeI d0).toNat)
noncomputable def uOf : KT → KU
  | .n0 => .u0
  | .n1 _ _ => .u0
  | .n2 _ _ l t => .u1 l t
theorem uOf_l (t : KT) (k w : V) : t.atB k w = (uOf t).l k w := by cases t <;> rfl
noncomputable def tOf (k w : V) : KU → KT
  | .u0 => .n1 k w
  | .u1 l t => .n2 k w l t
theorem tOf_l (u : KU) (k w : V) : u.l k w = (tOf k w u).l := by cases u <;> rfl
theorem ltr_lt {d0 d3 : Int} {a b : Nat} (h : a < b) : ltr d0 d3 a < ltr d0 d3 b := by
  unfold ltr
  rcases gap_in d3 with g | g <;> rw [g] <;> simp <;> omega
theorem pL_get {d0 d3 : Int} {k : Nat} (h : k < (sizeI d0).toNat) : (pL d0 d3)[k]? = some (ltr d0 d3 k) := by
  unfold pL
  rw [List.getElem?_map, List.getElem?_range h]; rfl
section
variable {d0 d3 : Int} {jj cc : Nat} {X : LV3}
/-- how often a later rank came first -/
noncomputable def hitB (d0 : Int) (jj cc k j : Nat) : Bool := decide ((qL (sizeI d0).toNat jj cc).idxOf k < (qL (sizeI d0).toNat jj cc).idxOf j)
theorem in_turn (O : LpOk d0 d3 jj cc X) {k j : Nat} (hk : k < (sizeI d0).toNat) (hj : j < k) {u : KU} {w : V} {ov : Int} {L : List OC} {Kf : Fl → St → Prop}
    (h : ∀ (u' : KU) (L' : List OC), Kf .next (X.sk (ov + b2i (hitB d0 jj cc k j)) (u'.l (.d (.int (k : Int))) w) L')) : inT (sv (mkS [ltr d0 d3 j])) (X.sk ov (u.l (.d (.int (k : Int))) w) L) Kf := by
  have hs := size_rng d0
  have hck : Txt.charAt X.pack (k : Int) = some (ltr d0 d3 k) := by rw [O.pack, charAt_nat, mkS_cps, pL_get hk]
  have hsk : smallI (k : Int) = true := smallI_of (by omega) (by omega)
  obtain ⟨o1, o2⟩ := lt_one (ltr_lt (d0 := d0) (d3 := d3) hj) []
  obtain ⟨n1, n2⟩ := sN_of o1 o2
  have nd := (perm_nodup O.perm).1
  have mem := (perm_nodup O.perm).2
  have rk := ltr_rng (d0 := d0) (d3 := d3) hk
  have rj := ltr_rng (d0 := d0) (d3 := d3) (show j < (sizeI d0).toNat by omega)
  unfold inT
  rw [lq_l, lp_g]
  refine ss_cons ?_
  rw [lq_0, hck, hsk, chk_t]
  dsimp only
  rw [n1, n2]
  have s1 : smallI 1 = true := by decide
  have s2 : smallI (-1) = true := by decide
  rw [s1, s2, chk_t, chk_t, chk_t, nS_1, nS_m]
  unfold cmpK
  refine eqK_same (l := [mkS [49], mkS [45, 49]]) (by simp [LV3.sk]) (by simp [LV3.sk, t_1, t_m]) (fun s hs => ?_) ?_
  · simp only [List.mem_cons, List.not_mem_nil, or_false] at hs
    rcases hs with rfl | rfl
    · exact ok_small _ (by decide)
    · exact ok_small _ (by decide)
  · show br (!true) _ _
    rw [show (!true) = false from rfl, br_f]
    refine ss_cons ?_
    rw [lq_1, hck, hsk, chk_t]
    dsimp only
    refine cat_dl (by simp) (cat_dr (by simp) (cat_ok (by simp) (cat_dr (by simp) ?_)))
    rw [O.dealt]
    have sp : splitL (d3L ++ [ltr d0 d3 k] ++ d3L ++ [ltr d0 d3 j] ++ d3L) = [[], [ltr d0 d3 k], [ltr d0 d3 j], []] := by
      have a1 : noDot [ltr d0 d3 k] := fun c hc => by rw [List.mem_singleton] at hc; omega
      have a2 : noDot [ltr d0 d3 j] := fun c hc => by rw [List.mem_singleton] at hc; omega
      have e : d3L ++ [ltr d0 d3 k] ++ d3L ++ [ltr d0 d3 j] ++ d3L = 46 :: 46 :: 46 :: ([ltr d0 d3 k] ++ (46 :: 46 :: 46 :: ([ltr d0 d3 j] ++ (46 :: 46 :: 46 :: [])))) := rfl
      rw [e, splitL_dots, splitL_app a1, splitL_app a2]; rfl
    have hv : ellL [[], [ltr d0 d3 k], [ltr d0 d3 j], []] ((qL (sizeI d0).toNat jj cc).map (ltr d0 d3)) = hitB d0 jj cc k j := by
      have := ellL_map (ltr_inj d0 d3) (qL (sizeI d0).toNat jj cc) [[], [k], [j], []]
      simp only [List.map_cons, List.map_nil] at this
      rw [this, pair_ell nd ((mem k).mpr hk) ((mem j).mpr (by omega)) (by omega)]; rfl
    have hql := qL_len (sizeI d0).toNat jj cc
    refine e_two sp (by simp) (by simp) (by rw [List.length_map, hql]; omega) hv ?_
    refine ss_cons ?_
    rw [lq_2, hck, hsk, chk_t]
    dsimp only
    obtain ⟨r1, q1⟩ := occ_first (ltr_inj d0 d3) O.dealt nd ((mem k).mpr hk)
    obtain ⟨r2, q2⟩ := occ_first (ltr_inj d0 d3) O.dealt nd ((mem j).mpr (show j < (sizeI d0).toNat by omega))
    rw [q1, q2]
    dsimp only
    have hb : (hitB d0 jj cc k j == decide ((((qL (sizeI d0).toNat jj cc).idxOf k : Nat) : Int) < (((qL (sizeI d0).toNat jj cc).idxOf j : Nat) : Int))) = true := by
      unfold hitB
      generalize (qL (sizeI d0).toNat jj cc).idxOf k = a
      generalize (qL (sizeI d0).toNat jj cc).idxOf j = b
      by_cases hlt : a < b
      · rw [decide_eq_true hlt, decide_eq_true (show (a : Int) < (b : Int) by omega)]; rfl
      · rw [decide_eq_false hlt, decide_eq_false (show ¬ (a : Int) < (b : Int) by omega)]; rfl
    rw [hb, show (!true) = false from rfl, br_f]
    refine ss_cons ?_
    rw [lq_3]
    exact h _ _
theorem in_loop (O : LpOk d0 d3 jj cc X) {k : Nat} (hk : k < (sizeI d0).toNat) {w : V} {Kf : Fl → St → Prop} : ∀ (js : List Nat) (u : KU) (ov : Int) (L : List OC), (∀ j ∈ js, j < k) →
    (∀ (u' : KU) (L' : List OC), Kf .next (X.sk (ov + ((js.filter (hitB d0 jj cc k)).length : Int)) (u'.l (.d (.int (k : Int))) w) L')) →
    forL inT (js.map fun j => sv (mkS [ltr d0 d3 j])) (X.sk ov (u.l (.d (.int (k : Int))) w) L) Kf
  | [], u, ov, L, _, h => by
    have := h u L
    simp only [List.filter_nil, List.length_nil, Int.natCast_zero, Int.add_zero] at this
    exact this
  | j :: r, u, ov, L, hj, h => by
    rw [List.map_cons]
    refine in_turn O hk (hj j List.mem_cons_self) fun u' L' => ?_
    refine in_loop O hk r u' _ L' (fun x hx => hj x (List.mem_cons_of_mem _ hx)) fun u2 L2 => ?_
    have := h u2 L2
    rw [List.filter_cons] at this
    cases hb : hitB d0 jj cc k j with
    | true =>
      rw [hb] at this
      simp only [if_true, List.length_cons] at this
      have e : ov + b2i true + ((r.filter (hitB d0 jj cc k)).length : Int) = ov + (((r.filter (hitB d0 jj cc k)).length + 1 : Nat) : Int) := by
        show ov + 1 + _ = _
        push_cast; omega
      rw [e]; exact this
    | false =>
      rw [hb] at this
      simp only [Bool.false_eq_true, if_false] at this
      have e : ov + b2i false = ov := by show ov + 0 = ov; omega
      rw [e]; exact this
theorem idx_last {α : Type} (L : List α) (x : α) : (L ++ [x])[L.length]? = some x := by simp
theorem out_turn (O : LpOk d0 d3 jj cc X) {k : Nat} (hk : k < (sizeI d0).toNat) {t : KT} {ov : Int} {L : List OC} {Kf : Fl → St → Prop}
    (h : ∀ (t' : KT) (L' : List OC), Kf .next (X.sk (ov + (((List.range k).filter (hitB d0 jj cc k)).length : Int)) t'.l L')) : outT (.d (.int (k : Int))) (X.sk ov t.l L) Kf := by
  have hs := size_rng d0
  have hpl := pL_len d0 d3
  have hck : Txt.charAt X.pack (k : Int) = some (ltr d0 d3 k) := by rw [O.pack, charAt_nat, mkS_cps, pL_get hk]
  have hsk : smallI (k : Int) = true := smallI_of (by omega) (by omega)
  have hzp : sizeB X.pack.length = true := by rw [O.pack]; exact sizeB_of (by rw [mkS_len, hpl]; omega)
  have hc1 : cut none (some (k : Int)) X.pack.cps.toList = (pL d0 d3).take k := by rw [O.pack, mkS_cps]; exact cut_to k _ (by omega)
  have hc2 : cut none (some ((k : Int) + 1)) X.pack.cps.toList = (pL d0 d3).take k ++ [ltr d0 d3 k] := by
    rw [O.pack, mkS_cps, show ((k : Int) + 1) = ((k + 1 : Nat) : Int) by push_cast; rfl, cut_to (k + 1) _ (by omega), List.take_succ, pL_get hk]; rfl
  have hbl : (pL d0 d3).take k = (List.range k).map (ltr d0 d3) := by
    unfold pL
    rw [← List.map_take, List.take_range, Nat.min_eq_left (by omega)]
  have rk := ltr_rng (d0 := d0) (d3 := d3) hk
  have okB : ∀ c ∈ (pL d0 d3).take k, c < 1114112 := fun c hc => by have := pL_rng c (List.mem_of_mem_take hc); omega
  unfold outT
  rw [lp_k, lp_f]
  refine ss_cons ?_
  rw [lp_0, hzp, chk_t, hc1]
  dsimp only
  generalize hbe : (pL d0 d3).take k = be at *
  refine ss_cons ?_
  rw [lp_1, hzp, chk_t, hc2]
  unfold compE
  rw [lp_tB]
  have hw : walkOf (X.sk ov (t.atB (.d (.int (k : Int))) (sv (mkS be))) (L ++ [some [sv (mkS be), sv (mkS (be ++ [ltr d0 d3 k]))]])) (.c L.length) = some [sv (mkS be), sv (mkS (be ++ [ltr d0 d3 k]))] := by
    unfold walkOf
    dsimp only [LV3.sk]
    rw [idx_last]
  obtain ⟨p1, p2⟩ := lt_app be (ltr d0 d3 k)
  obtain ⟨m1, m2⟩ := sN_of p1 p2
  have s0 : smallI 0 = true := by decide
  have s1 : smallI 1 = true := by decide
  have s2 : smallI (-1) = true := by decide
  refine compFrom_pure (f := fun v => match v with | .d (.str s) => some (sv (nS (sN (mkS be) s))) | _ => none) hw (by show 2 ≤ 1000000; omega) lp_lB (fun v hv q hq => ?_) ?_
  · have hv : v = sv (mkS be) ∨ v = sv (mkS (be ++ [ltr d0 d3 k])) := by simpa using hv
    rcases hv with rfl | rfl
    · refine Eq.mpr (lp_cB X t (k : Int) ov (mkS be) (mkS be) _ _ q) ?_
      exact chk_iff.mpr ⟨by rw [sN_self]; exact s0, hq⟩
    · refine Eq.mpr (lp_cB X t (k : Int) ov (mkS be) (mkS (be ++ [ltr d0 d3 k])) _ _ q) ?_
      exact chk_iff.mpr ⟨by rw [m2]; exact s2, hq⟩
  · have eo : ([sv (mkS be), sv (mkS (be ++ [ltr d0 d3 k]))] : List V).filterMap (fun v => match v with | .d (.str s) => some (sv (nS (sN (mkS be) s))) | _ => none) = [sv (mkS [48]), sv (mkS [45, 49])] := by
      show [sv (nS (sN (mkS be) (mkS be))), sv (nS (sN (mkS be) (mkS (be ++ [ltr d0 d3 k]))))] = _
      rw [sN_self, m2, nS_0, nS_m]
    rw [eo]
    refine Eq.mpr (lp_2 X t (k : Int) ov (mkS be) _ _ _) ?_
    rw [hsk, chk_t, hck]
    dsimp only
    have n1 : sN (mkS [ltr d0 d3 k]) (mkS be) = 1 := by
      cases k with
      | zero =>
        have : be = [] := by rw [← hbe]; rfl
        rw [this]
        exact (sN_of (a := []) (b := [ltr d0 d3 0]) (by simp) (by simp)).1
      | succ k =>
        have : ∃ r, be = ltr d0 d3 0 :: r := by
          rw [hbl, List.range_succ_eq_map, List.map_cons]; exact ⟨_, rfl⟩
        obtain ⟨r, e⟩ := this
        rw [e]
        obtain ⟨o1, o2⟩ := lt_one (ltr_lt (d0 := d0) (d3 := d3) (show 0 < k + 1 by omega)) r
        exact (sN_of o1 o2).1
    rw [n1, s1, chk_t, nS_1]
    refine add_c (xs := [sv (mkS [48]), sv (mkS [45, 49])]) (ys := [sv (mkS [49])]) ?_ ?_ (by show 3 ≤ 1000000; omega) ?_
    · dsimp only [LV3.sk]
      rw [List.getElem?_append_left (by simp)]
      exact idx_last _ _
    · dsimp only [LV3.sk]
      exact idx_last _ _
    · refine Eq.mpr (lp_3 X t (k : Int) ov (mkS be) _ _ _) ?_
      unfold cmpK
      refine eqK_same (l := [mkS [48], mkS [45, 49], mkS [49]]) ?_ ?_ (fun s hs => ?_) ?_
      · dsimp only [LV3.sk]
        rw [List.getElem?_append_left (by simp)]
        exact idx_last _ _
      · dsimp only [LV3.sk]
        rw [t_0, t_m, t_1]
        exact idx_last _ _
      · simp only [List.mem_cons, List.not_mem_nil, or_false] at hs
        rcases hs with rfl | rfl | rfl
        · exact ok_small _ (by decide)
        · exact ok_small _ (by decide)
        · exact ok_small _ (by decide)
      · show br (!true) _ _
        rw [show (!true) = false from rfl, br_f]
        refine ss_cons ?_
        rw [lp_4, mkS_cps, uOf_l]
        have el : (be.map fun c => V.d (.str (mkS [c]))) = (List.range k).map fun j => sv (mkS [ltr d0 d3 j]) := by rw [hbl, List.map_map]; rfl
        rw [el]
        refine in_loop O hk (List.range k) (uOf t) ov _ (fun j hj => List.mem_range.mp hj) fun u' L' => ?_
        rw [tOf_l]
        exact h _ _
theorem out_loop (O : LpOk d0 d3 jj cc X) {Kf : Fl → St → Prop} : ∀ (ks : List Nat) (t : KT) (ov : Int) (L : List OC), (∀ k ∈ ks, k < (sizeI d0).toNat) →
    (∀ (t' : KT) (L' : List OC), Kf .next (X.sk (ov + (((ks.map fun k => ((List.range k).filter (hitB d0 jj cc k)).length).sum : Nat) : Int)) t'.l L')) →
    forL outT (ks.map fun (k : Nat) => V.d (.int (k : Int))) (X.sk ov t.l L) Kf
  | [], t, ov, L, _, h => by
    have := h t L
    simp only [List.map_nil, List.sum_nil, Int.natCast_zero, Int.add_zero] at this
    exact this
  | k :: r, t, ov, L, hk, h => by
    rw [List.map_cons]
    refine out_turn O (hk k List.mem_cons_self) fun t' L' => ?_
    refine out_loop O r t' _ L' (fun x hx => hk x (List.mem_cons_of_mem _ hx)) fun t2 L2 => ?_
    have := h t2 L2
    rw [List.map_cons, List.sum_cons] at this
    rw [show ∀ a b : Nat, ov + (a : Int) + (b : Int) = ov + ((a + b : Nat) : Int) from fun a b => by push_cast; omega]
    exact this
end
end Mine
end
section
open PySem PySem.W PyProof.Rows PySem.Calls
set_option Elab.async false
set_option linter.unusedVariables false
namespace Mine
theorem C_23 {d0 d3 : Int} {jj cc : Nat} {X : LV3} {L : List OC} {K : PyData → Prop} (O : LpOk d0 d3 jj cc X) (hj : X.stp = (jj : Int)) (hsg : sgnB X.sg = true) (hok : okC (sizeI d0).toNat jj cc = true) (hK : K (.bool true)) : lawR 37 23 K (X.sk 0 [] L) := by
  have hs := size_rng d0
  refine ss_step dr_23 ?_
  rw [law_28, O.size]
  refine chk_iff.mpr ⟨by simp only [Bool.and_eq_true, decide_eq_true_eq]; omega, ?_⟩
  have hw : walkOf (X.sk 0 [] L) (.rng 0 (sizeI d0)) = some ((List.range (sizeI d0).toNat).map fun (k : Nat) => V.d (.int (k : Int))) := by
    unfold walkOf
    have : (decide (-1000000 ≤ (0:Int)) && decide ((0:Int) ≤ 1000000) && decide (-1000000 ≤ sizeI d0) && decide (sizeI d0 ≤ 1000000)) = true := by
      simp only [Bool.and_eq_true, decide_eq_true_eq]; omega
    dsimp only
    rw [this, range_nat, List.map_map]; rfl
  rw [hw]
  show forL outT _ (X.sk 0 KT.n0.l L) _
  refine out_loop O (List.range (sizeI d0).toNat) .n0 0 L (fun k hk => List.mem_range.mp hk) fun t' L' => ?_
  show lawR 36 24 K _
  unfold lawR
  rw [dr_24]
  refine ss_cons ?_
  rw [law_29, hj, O.size]
  have e : (((List.range (sizeI d0).toNat).map fun k => ((List.range k).filter (hitB d0 jj cc k)).length).sum : Nat) = invN (qL (sizeI d0).toNat jj cc) (sizeI d0).toNat := by
    unfold invN
    congr 1
    apply List.map_congr_left
    intro k _
    congr 1
    apply List.filter_congr
    intro j _
    unfold hitB
    rw [blt_dec]
  rw [e]
  have hz : (((sizeI d0).toNat : Nat) : Int) = sizeI d0 := by omega
  unfold okC at hok
  dsimp only at hok
  rw [Bool.and_eq_true] at hok
  obtain ⟨en, hm, he⟩ := List.any_eq_true.mp hok.2
  simp only [Bool.and_eq_true, beq_iff_eq] at he
  obtain ⟨⟨a1, a2⟩, a3⟩ := he
  unfold oSpec
  dsimp only
  refine chk_iff.mpr ⟨hsg, en.2.2, ?_, ?_⟩
  · have : ((jj : Int), sizeI d0, en.2.2) = en := by rw [← a1, ← hz, ← a2]
    rw [this]; exact hm
  · show finK K (.ret (.d (.bool (decide ((0 + ((invN (qL (sizeI d0).toNat jj cc) (sizeI d0).toNat : Nat) : Int)).fmod 2 = en.2.2))))) (X.sk (0 + ((invN (qL (sizeI d0).toNat jj cc) (sizeI d0).toNat : Nat) : Int)) t'.l L')
    have : decide ((0 + ((invN (qL (sizeI d0).toNat jj cc) (sizeI d0).toNat : Nat) : Int)).fmod 2 = en.2.2) = true := by
      rw [decide_eq_true_eq, a3, Int.zero_add, Int.fmod_eq_emod_of_nonneg _ (by omega)]
      push_cast; rfl
    rw [this]
    exact hK
theorem okC_perm {size step cut : Nat} (h : okC size step cut = true) : (qL size step cut).Perm (List.range size) := by
  unfold okC at h
  dsimp only at h
  simp only [Bool.and_eq_true] at h
  exact List.isPerm_iff.mp h.1.1.1.1.1.1.1.1.1.1.1.1
theorem law_body {b : Bool} {ds : List PyData} {pl nm : V} {d0 d1 d2 d3 : Int} {Z : OC} {K : PyData → Prop} (h0 : inR d0) (h1 : inR d1) (h2 : inR d2) (h3 : inR d3) (hK : K (.bool true)) :
    wpSs G3 58 sL (bL.drop 2) ⟨lsB b ds pl nm, lcel d0 d1 d2 d3 Z⟩ (finK K) := by
  have hs := size_rng d0
  have hsi := size_in d0
  refine stage_A h0 h3 fun o suf hm => ?_
  have hty := typed_ok (p := pL d0 d3) (n := d3.fdiv 52) pL_rng
  have htl := typed_len (p := pL d0 d3) (n := d3.fdiv 52)
  rw [pL_len] at htl
  refine stage_B hm (fun c hc => (hty c hc).1) (fun c hc => (hty c hc).2) (by omega) fun x e1 e2 e3 e4 e5 e6 => ?_
  have ox : Okx d0 d3 x := ⟨e1, e3, e5 ▸ h1, e6 ▸ h2, e4 ▸ h3⟩
  refine C_11 pL_rng (by rw [pL_len]; omega) e1 e2 ?_
  refine C_12 (by rw [e3]; exact hs) fun st hne hl hst => ?_
  refine C_13 hne hl ox.d1 ox.look fun sg v hsg hv => ?_
  obtain ⟨j, rfl, j1, j2, j3⟩ := hst v hv
  refine C_14 ox j1 j2 fun c hc => ?_
  rw [e3] at j2 j3
  have hok : okC (sizeI d0).toNat j c = true := ok_all hsi.1 j1 (by omega) (by rcases j3 with q | q; exact .inl (by omega); exact .inr q) hc
  have hp := okC_perm hok
  refine C_16 ox hc hp fun o3 => ?_
  refine C_18 (x := x) (sg := sg) (by omega) hok fun o4 o5 o6 o7 o8 o9 => ?_
  exact C_23 (X := mk3 x sg d0 d3 j c) ⟨e1, e3, rfl, hp⟩ rfl hsg hok hK
noncomputable def lawSp : Spec := fun ds K => match ds with
  | [.list xs] => chk (xs.all (fun d => match d with | .int _ => true | _ => false) && Nat.ble xs.length 63) (K (.bool true))
  | _ => False
theorem l_ok : ∀ ds K, lawSp ds K → wpF G3 60 sL (psOf P2 22) bL ds K := fun ds K h => by
  unfold lawSp at h
  split at h
  · rename_i xs
    obtain ⟨a, hK⟩ := chk_iff.mp h
    rw [Bool.and_eq_true] at a
    have hl := Nat.le_of_ble_eq_true a.2
    obtain ⟨is, rfl⟩ : ∃ is : List Int, xs = is.map PyData.int := by
      have := a.1
      clear a hK h hl
      induction xs with
      | nil => exact ⟨[], rfl⟩
      | cons d r ih =>
        rw [List.all_cons, Bool.and_eq_true] at this
        obtain ⟨is, rfl⟩ := ih this.2
        cases d with
        | int i => exact ⟨i :: is, rfl⟩
        | _ => exact Bool.noConfusion this.1
    rw [List.length_map] at hl
    have e : cut none (some 63) ((is.map PyData.int).map V.d) = vi is := by
      have : ((is.map PyData.int).map V.d) = vi is := by unfold vi; rw [List.map_map]; rfl
      rw [this]
      unfold cut kms_lo kms_hi
      have hv : (vi is).length = is.length := by unfold vi; rw [List.length_map]
      rw [hv]
      show (List.drop 0 (vi is)).take (min (63 : Int).toNat is.length - 0) = _
      rw [List.drop_zero, List.take_of_length_le (by rw [hv]; show is.length ≤ min 63 is.length - 0; omega)]
    rw [law_1, e]
    refine chk_iff.mpr ⟨sizeB_of (by rw [List.length_map, List.length_map]; omega), ?_⟩
    refine dr_all (is.map PyData.int) _ (fun b pl nm l hl4 hr => ?_) is 0 false (.d .none) (.d .none) [50, 1052, 419, 40005] rfl (by intro y hy; simp only [List.mem_cons, List.not_mem_nil, or_false] at hy; unfold inR; rcases hy with rfl | rfl | rfl | rfl <;> omega) (by omega)
    match l, hl4, hr with
    | [d0, d1, d2, d3], _, hr =>
      show wpSs G3 58 sL (bL.drop 2) ⟨lsB b (is.map PyData.int) pl nm, lcel d0 d1 d2 d3 (some (vi is))⟩ (finK K)
      exact law_body (hr d0 (by simp)) (hr d1 (by simp)) (hr d2 (by simp)) (hr d3 (by simp)) hK
  · cases h
end Mine
end
section
open PySem PySem.W PyProof.Rows PySem.Calls
set_option Elab.async false
set_option linter.unusedVariables false
set_option maxRecDepth 100000
set_option maxHeartbeats 0
namespace Mine
/-- a function of the top with its contract -/
noncomputable def Has (w : World) (hT : Heap) (os : OsState) (ℓ : Nat) (x : Str) (φ : Spec) : Prop := ∃ a o fd, mgH w x = some (.ref a) ∧ hT.get? a = some o ∧ o.data = .func fd ∧ FnOk P2 w hT os ℓ φ a
theorem Has.up {w : World} {hT : Heap} {os : OsState} {ℓ m : Nat} {x : Str} {φ : Spec} (h : Has w hT os ℓ x φ) (le : ℓ ≤ m) : Has w hT os m x φ :=
  let ⟨a, o, fd, h1, h2, h3, h4⟩ := h; ⟨a, o, fd, h1, h2, h3, h4.up le⟩
theorem has_of {w : World} {hT : Heap} {os : OsState} {ℓ : Nat} {x : Str} {φ : Spec} {a : Addr} {o : Obj} {fd : FuncData} (Y : Topp w hT) (h1 : mgH w x = some (.ref a)) (h2 : (hH w.params).get? a = some o) (h3 : o.data = .func fd) (h4 : FnOk P2 w hT os ℓ φ a) : Has w hT os ℓ x φ :=
  ⟨a, o, fd, h1, Y.keep _ _ h2, h3, h4⟩
theorem look_all {w : World} {hT : Heap} {os : OsState} {ℓ : Nat} : ∀ {l : List (Str × Spec)}, (∀ e ∈ l, Has w hT os ℓ e.1 e.2) → ∀ x φ, l.lookup x = some φ → Has w hT os ℓ x φ
  | [], _, x, φ, e => by simp at e
  | (k, ψ) :: r, h, x, φ, e => by
    rw [List.lookup_cons] at e
    cases c : x == k with
    | true =>
      rw [c] at e
      obtain rfl := eq_of_beq c
      obtain rfl : ψ = φ := by simpa using e
      exact h _ List.mem_cons_self
    | false =>
      rw [c] at e
      exact look_all (fun y hy => h y (List.mem_cons_of_mem _ hy)) x φ e
theorem gr_has {w : World} {hT : Heap} {os : OsState} {ℓ : Nat} (Y : Topp w hT) (l : List (Str × Spec)) (h : ∀ e ∈ l, Has w hT os ℓ e.1 e.2) : Gr P2 w hT os ℓ (mkGl l) (mgH w) (mbH w) := gr_of Y l (look_all h)
section
variable {w : World} {hT : Heap} {os : OsState}
theorem h_strcoll (Y : Topp w hT) : Has w hT os 1 "_strcoll" sSpec := has_of Y (mg_strcoll w.params) (at_strcoll w.params) rfl (c_strcoll Y)
theorem h_parse257 (Y : Topp w hT) : Has w hT os 1 "parse257" pSpec := has_of Y (mg_parse257 w.params) (at_parse257 w.params) rfl (c_parse257 Y)
theorem h_ellipsis (Y : Topp w hT) : Has w hT os 1 "_ellipsis_match" eSpec := has_of Y (mg_ellipsis_match w.params) (at_ellipsis_match w.params) rfl (c_ellipsis Y)
theorem h_in_table (Y : Topp w hT) : Has w hT os 1 "in_table_b1" inSpec := has_of Y (mg_in_table_b1 w.params) (at_in_table_b1 w.params) rfl (c_in_table Y)
theorem h_map_table (Y : Topp w hT) : Has w hT os 1 "map_table_b3" mpSpec := has_of Y (mg_map_table_b3 w.params) (at_map_table_b3 w.params) rfl (c_map_table Y)
theorem h_typed (Y : Topp w hT) : Has w hT os 1 "_law_typed" tySpec := has_of Y (mg_law_typed w.params) (at_law_typed w.params) rfl
  ((fn_of (gr0 (ℓ := 0) Y) ((fd_law_typed w.params).keeps Y.keep) (by kernel_rfl!)).weaken ty_ok)
theorem h_reading (Y : Topp w hT) : Has w hT os 2 "_law_reading" rSpec := has_of Y (mg_law_reading w.params) (at_law_reading w.params) rfl
  ((fn_of (gr_has (ℓ := 1) Y [("parse257", pSpec)] (List.forall_mem_cons.mpr ⟨h_parse257 Y, nofun⟩)) ((fd_law_reading w.params).keeps Y.keep) (by kernel_rfl!)).weaken r_ok)
theorem h_odd (Y : Topp w hT) : Has w hT os 3 "_law_odd" oSpec := has_of Y (mg_law_odd w.params) (at_law_odd w.params) rfl
  ((fn_of (gr_has (ℓ := 2) Y [("_law_reading", rSpec)] (List.forall_mem_cons.mpr ⟨h_reading Y, nofun⟩)) ((fd_law_odd w.params).keeps Y.keep) (by kernel_rfl!)).weaken o_ok)
/-- law, given its two other helpers -/
theorem c_law (Y : Topp w hT) (td : Has w hT os 3 "_law_told" tdSpec) (dl : Has w hT os 3 "_law_dealt" dlSpec) : FnOk P2 w hT os 4 lawSpec 169 :=
  (fn_of (gr_has (ℓ := 3) Y [("_law_typed", tySpec), ("_law_told", tdSpec), ("in_table_b1", inSpec), ("map_table_b3", mpSpec), ("_law_dealt", dlSpec), ("_ellipsis_match", eSpec), ("_strcoll", sSpec), ("_law_odd", oSpec)]
    (List.forall_mem_cons.mpr ⟨(h_typed Y).up (by omega), List.forall_mem_cons.mpr ⟨td, List.forall_mem_cons.mpr ⟨(h_in_table Y).up (by omega), List.forall_mem_cons.mpr ⟨(h_map_table Y).up (by omega), List.forall_mem_cons.mpr ⟨dl, List.forall_mem_cons.mpr ⟨(h_ellipsis Y).up (by omega), List.forall_mem_cons.mpr ⟨(h_strcoll Y).up (by omega), List.forall_mem_cons.mpr ⟨h_odd Y, nofun⟩⟩⟩⟩⟩⟩⟩⟩))
    ((fd_law w.params).keeps Y.keep) (by kernel_rfl!)).weaken fun ds K h => l_ok ds K h
end
theorem law_holds (td : ∀ (w : World) (hT : Heap) (os : OsState), Topp w hT → Has w hT os 3 "_law_told" tdSpec) (dl : ∀ (w : World) (hT : Heap) (os : OsState), Topp w hT → Has w hT os 3 "_law_dealt" dlSpec) : PySem.Challenge.rw_wr0041_02.Holds :=
  top_holds fun w hT os k lim => ⟨4, by omega, c_law ⟨k, lim⟩ (td w hT os ⟨k, lim⟩) (dl w hT os ⟨k, lim⟩)⟩
end Mine
end
section
open PySem PySem.W PyProof.Rows PySem.Calls
set_option Elab.async false
set_option linter.unusedVariables false
set_option maxRecDepth 100000
set_option maxHeartbeats 0
namespace Mine
section
variable {prog : Program} {w : World} {A : Around} {E : Value → Shared → Prop} {s : Shared}
noncomputable abbrev noEnd : GenEnd := fun _ _ _ _ => False
theorem next_gen {a : Addr} {g n : Nat} {gs : GenState} {Y : Protocol} {Q : Option Value → Shared → Prop}
    (hl : s.heap.NoLimit) (hroom : A.depth < recursionLimit)
    (hg : s.heap.IsGen a g) (hgs : s.gens[g]? = some gs)
    (hgo : gs.Goes (model prog w) A.in1 noEnd Y n (.send .none) (s.setGen g .running))
    (hY : ∀ v s₁ gs', gs'.bare = true → Y (n - 1) (s.setGen g .running) v s₁ (fun r' s'' => match n with
        | 0 => False
        | m + 1 => gs'.Goes (model prog w) A.in1 noEnd Y m r' s'') → Q (some v) (s₁.setGen g gs')) :
    wpAny (model prog w) A (pyNext (.ref a)) Q E s := by
  unfold pyNext
  refine wpAny_bind (wpAny_attempt (wpAny_callSpecial?_slot (name := Str.ofString "__next__") hg.typeIs slot_gen_next
    (wpAny_call_entry slot_gen_next hg.typeIs entry_gen_next ?_ (args_gen_next _))))
  show wpAny _ A.in1 (Builtin.Generator.genWake (.ref a) (.send .none)) _ _ s
  unfold Builtin.Generator.genWake
  refine wpAny_bind (wpAny_holding (wpAny_genNumber hg (wpAny_bind (wpAny_genState hgs ?_))))
  cases gs with
  | running => exact hgo.elim
  | finished => exact hgo.elim
  | _ =>
    refine wpAny_bind (wpAny_roomToWake hl hroom ?_)
    show wpAny _ A.in1 (.resume g (.send .none) [] _) _ _ s
    refine wpAny_resumeQ hgs hgo (fun x s₁ hx => hx.elim) (fun v s₁ gs' hb hv => ?_)
    exact wpAny_pure ⟨v, rfl, wpAny_pure (hY v s₁ gs' hb hv)⟩
end
section
variable {M : Model} {A : Around} {R : GenEnd} {Y : Protocol} {n : Nat} {s₀ : Shared} {c : Code} {fs : List Frame} {s : Shared} {env : Env}
  {K : Flow → Sem Fin} {H : Value → Sem Fin} {gd : Bool → Bool} {lv : List Value → List Value}
noncomputable abbrev EFs : Value → Shared → Prop := fun _ _ => False
theorem seg_plain {st : Stmt} (h : wpAny M (A.over c fs) (exec st env) (fun f s' => Seg M A R Y n s₀ c (K f) fs s') EFs s) :
    Seg M A R Y n s₀ c ((exec st env).wrap K H gd lv) fs s := seg_wrap (wpAny_mono h (fun _ _ q => q) fun _ _ q => q.elim)
theorem seg_If {test : PySem.Expr} {body orelse : List Stmt} {pos : Pos}
    (h : wpAny M (A.over c fs) (isTrue test env (eval test env)) (fun b s' => Seg M A R Y n s₀ c ((if b = true then execs body env else execs orelse env).wrap K H gd lv) fs s') EFs s) :
    Seg M A R Y n s₀ c ((exec (.If test body orelse pos) env).wrap K H gd lv) fs s := by
  rw [exec_If]
  show Seg M A R Y n s₀ c (.at pos fun _ => (isTrue test env (eval test env) >>= fun b => if b = true then execs body env else execs orelse env).wrap K H gd lv) fs s
  refine seg_at ?_
  rw [Sem.bind_eq_wrap', Sem.wrap_wrap]
  exact seg_wrap (wpAny_mono h (fun b s' hb => hb) fun _ _ q => q.elim)
/-- how a loop's frame goes on -/
noncomputable abbrev backK (env : Env) (K : Flow → Sem Fin) (H : Value → Sem Fin) (gd : Bool → Bool) (lv : List Value → List Value) : Result → Sem Fin := fun r => ((match r with | .ok f => (.pure f : Sem Flow) | .error e => .raise e).onRaise fun (x : Value) => do
        if (← field x 1) == Value.none then unsupported "frame.own-activation:exception-without-traceback"
        setFlight x env.frame).wrap K H gd lv
theorem seg_For {x : Str} {xp : Pos} {iter : PySem.Expr} {body orelse : List Stmt} {pos : Pos} (hs : ∀ v, foldedSetIterable iter env v = pure v)
    (h : wpAny M (A.over c fs) (eval iter env) (fun v s₁ => wpAny M (A.over c fs) (pyIter v) (fun it s₂ => ∀ p k gg l, gg = gd false →
      Seg M A R Y n s₀ (.forLoop (.Name x xp) it body orelse env) (M.den (.forLoop (.Name x xp) it body orelse env)) (.ret k none gg l c p [] :: fs) s₂) EFs s₁) EFs s) :
    Seg M A R Y n s₀ c ((exec (.For (.Name x xp) iter body orelse pos) env).wrap K H gd lv) fs s := by
  rw [PySem.exec_For]
  show Seg M A R Y n s₀ c (.at pos fun _ => (eval iter env >>= fun v => foldedSetIterable iter env v >>= fun y => standAt iter.pos >>= fun _ => holding [y] (pyIter y) >>= fun it => runOwn (.forLoop (.Name x xp) it body orelse env) env).wrap K H gd lv) fs s
  refine seg_at ?_
  rw [Sem.bind_eq_wrap', Sem.wrap_wrap]
  refine seg_wrap (wpAny_mono h (fun v s₁ h₁ => ?_) fun _ _ q => q.elim)
  rw [hs v]
  show Seg M A R Y n s₀ c (.at iter.pos fun _ => (holding [v] (pyIter v) >>= fun it => runOwn (.forLoop (.Name x xp) it body orelse env) env).wrap K H _ _) fs s₁
  refine seg_at ?_
  rw [Sem.bind_eq_wrap', Sem.wrap_wrap]
  refine seg_wrap (wpAny_holding (wpAny_mono h₁ (fun it s₂ h₂ => ?_) fun _ _ q => q.elim))
  exact seg_call fun p => h₂ p _ _ _ rfl
end
section
variable {prog : Program} {w : World} {A : Around} {R : GenEnd} {Y : Protocol} {n : Nat} {s₀ : Shared} {fs : List Frame} {s : Shared} {env : Env}
noncomputable abbrev forK (c : Code) : Flow → Sem Fin := fun f => match f with
            | .next | .cont => .pure (.again c)
            | .brk => .pure (.done .next)
            | .ret v => .pure (.done (.ret v))
theorem seg_forLoop {target : PySem.Expr} {it : Value} {body orelse : List Stmt} (ht : ∀ v, letOwnedTupleGo target it v = pure ())
    (h : wpAny (model prog w) (A.over (.forLoop target it body orelse env) fs) (pyNext it) (fun r s' => match r with
        | none => False
        | some v => wpAny (model prog w) (A.over (.forLoop target it body orelse env) fs) (assign target env v) (fun _ s₂ => ∀ H, 
          Seg (model prog w) A R Y n s₀ (.forLoop target it body orelse env) ((execs body env).wrap (forK (.forLoop target it body orelse env)) H id id) fs s₂) EFs s') EFs s) :
    Seg (model prog w) A R Y n s₀ (.forLoop target it body orelse env) ((model prog w).den (.forLoop target it body orelse env)) fs s := by
  show Seg _ A R Y n s₀ _ ((forTurn target it body orelse env).onRaise (fun x => do noteFrame x env; theTreesLotGoes x)) fs s
  unfold forTurn
  rw [Sem.onRaise_eq_wrap]
  show Seg _ A R Y n s₀ _ (.at target.pos fun _ => ((pyNext it).onRaise (fun _ => standAt { target.pos with line := 0 }) >>= _).wrap _ _ id id) fs s
  refine seg_at ?_
  rw [Sem.bind_eq_wrap', Sem.wrap_wrap]
  refine seg_wrap (wpAny_onRaise (wpAny_mono h (fun r s₁ h₁ => ?_) fun _ _ q => q.elim))
  cases r with
  | none => exact h₁.elim
  | some v =>
    dsimp only
    rw [ht v]
    show Seg _ A R Y n s₀ _ ((assign target env v >>= _).wrap _ _ _ _) fs s₁
    rw [Sem.bind_eq_wrap', Sem.wrap_wrap]
    refine seg_wrap (wpAny_mono h₁ (fun _ s₂ h₂ => ?_) fun _ _ q => q.elim)
    rw [Sem.bind_eq_wrap', Sem.wrap_wrap]
    rw [Sem.wrap_congr (execs body env) _ _ (K' := forK (.forLoop target it body orelse env)) (fun f => by cases f <;> rfl) (fun _ => rfl)]
    exact h₂ _
theorem seg_whileLoop' {test : PySem.Expr} {body orelse : List Stmt}
    (h : wpAny (model prog w) (A.over (.whileLoop test body orelse env) fs) (isTrue test env (eval test env)) (fun b s' => b = true ∧ ∀ H,
          Seg (model prog w) A R Y n s₀ (.whileLoop test body orelse env) ((execs body env).wrap (forK (.whileLoop test body orelse env)) H id id) fs s') EFs s) :
    Seg (model prog w) A R Y n s₀ (.whileLoop test body orelse env) ((model prog w).den (.whileLoop test body orelse env)) fs s := by
  refine seg_whileLoop (wpAny_mono h (fun b s' ⟨hb, h'⟩ => ?_) fun _ _ q => q.elim)
  rw [if_pos hb]
  exact h' _
theorem seg_func' {body : List Stmt} (h : ∀ K H, Seg (model prog w) A R Y n s₀ (.func body env) ((execs body env).wrap K H id id) fs s) :
    Seg (model prog w) A R Y n s₀ (.func body env) ((model prog w).den (.func body env)) fs s := seg_func (h _ _)
theorem over_handled {c : Code} {k : Result → Sem Fin} {gg : Bool} {l : List Value} {p : Pos} {kp : List Value} : True := trivial
end
end Mine
end
section
open PySem PySem.W PyProof.Rows PySem.Calls
set_option Elab.async false
set_option linter.unusedVariables false
set_option maxRecDepth 100000
set_option maxHeartbeats 0
namespace Mine
theorem gi_body {G : Prop} (f : ∀ (p1 p2 p3 p4 p5 p6 p7 p8 p9 p10 p11 p12 p13 p14 p15 p16 p17 p18 p19 p20 p21 p22 p23 p24 p25 p26 p27 p28 p29 p30 : Pos) (k1 k2 k3 k4 : Nat) (rs : List Stmt),
  bodyOf P2 10 = [.Assign [.Name "last_interval" p1] (.Constant .none k1 p2) p3,
   .For (.Name "interval" p4) (.Name "grouping" p5)
   [.If (.Compare (.Name "interval" p6) [.Eq] [.Name "CHAR_MAX" p7] p8) [.Return none p9] [] p10,
    .If (.Compare (.Name "interval" p11) [.Eq] [.Constant (.int 0) k2 p12] p13)
     [.If (.Compare (.Name "last_interval" p14) [.Is] [.Constant .none k3 p15] p16) rs [] p17,
      .While (.Constant (.bool true) k4 p18) [.Expr (.Yield (some (.Name "last_interval" p19)) p20) p21] [] p22] [] p23,
    .Expr (.Yield (some (.Name "interval" p24)) p25) p26,
    .Assign [.Name "last_interval" p27] (.Name "interval" p28) p29] [] p30] → G) : G :=
  f _ _ _ _ _ _ _ _ _ _ _ _ _ _ _ _ _ _ _ _ _ _ _ _ _ _ _ _ _ _ _ _ _ _ _ rfl
theorem mg_CHAR (P : Params) : ∃ t, (hH P).nsMap mainGlobals "CHAR_MAX" = some (.int 127 t) := by
  refine ⟨(match (hH P).nsMap mainGlobals "CHAR_MAX" with | some (.int _ t) => t | _ => default), ?_⟩
  kernel_rfl!
noncomputable def sG : Scope := scOf P2 10
theorem sG_kind : sG.kind = .function := by kernel_rfl!
theorem sG_co : sG.isCoroutine = false := by kernel_rfl!
theorem sG_gen : sG.isGenerator = true := by kernel_rfl!
theorem sG_l : sG.names.lookup ("last_interval" : Str) = some NameKind.local := by kernel_rfl!
theorem sG_i : sG.names.lookup ("interval" : Str) = some NameKind.local := by kernel_rfl!
theorem sG_g : sG.names.lookup ("grouping" : Str) = some NameKind.local := by kernel_rfl!
theorem sG_c : sG.names.lookup ("CHAR_MAX" : Str) = some NameKind.globalImplicit := by kernel_rfl!
theorem sG_cell : ∀ x ∈ sG.names, x.2 ≠ .cell := by
  have h : sG.names.all (fun x => x.2 != .cell) = true := by kernel_rfl!
  intro x hx
  simpa using List.all_eq_true.mp h x hx
noncomputable def sD : Scope := scOf P2 19
theorem sD_pack : sD.names.lookup ("pack" : Str) = some NameKind.local := by kernel_rfl!
theorem sD_dealt : sD.names.lookup ("dealt" : Str) = some NameKind.local := by kernel_rfl!
theorem sD_place : sD.names.lookup ("place" : Str) = some NameKind.local := by kernel_rfl!
theorem sD_size : sD.names.lookup ("size" : Str) = some NameKind.local := by kernel_rfl!
theorem sD_len : sD.names.lookup ("len" : Str) = some NameKind.globalImplicit := by kernel_rfl!
theorem sD_gi : sD.names.lookup ("_grouping_intervals" : Str) = some NameKind.globalImplicit := by kernel_rfl!
end Mine
end
section
open PySem PySem.W PyProof.Rows PySem.Calls
set_option Elab.async false
set_option linter.unusedVariables false
set_option maxRecDepth 100000
set_option maxHeartbeats 0
namespace Mine
/-- what the generator's owner is told at each pull -/
noncomputable def prY (B L C : Addr) (val : Nat → Int) : Protocol := fun n s₀ v s' kap => (∃ t, v = .int (val n) t) ∧ (∀ b o, b < B → b ≠ L → s₀.heap.get? b = some o → s'.heap.get? b = some o) ∧ s'.os = s₀.os ∧ s'.gens = s₀.gens ∧
  (0 < n → ∀ s'' : Shared, Heap.ExtBut C s'.heap s''.heap → kap (.send .none) s'')
structure Mv (B L : Addr) (s₀ s : Shared) : Prop where
  keep : ∀ b o, b < B → b ≠ L → s₀.heap.get? b = some o → s.heap.get? b = some o
  os : s.os = s₀.os
  gens : s.gens = s₀.gens
structure GE (G : Env) : Prop where
  scope : G.scope = sG
  glob : G.globals = mainGlobals
structure GX (hT : Heap) (B L J D C : Addr) : Prop where
  tL : hT.get? L = none
  tJ : hT.get? J = none
  tC : hT.get? C = none
  LJ : L ≠ J
  DL : D ≠ L
  DJ : D ≠ J
  LC : L ≠ C
  JC : J ≠ C
  DC : D ≠ C
  BJ : B ≤ J
structure GS (hT : Heap) (L J D : Addr) (items : Array Value) (i : Nat) (m : Str → Option Value) (s : Shared) : Prop where
  ns : s.heap.Ns L m
  it : s.heap.IsListIter J D i
  li : s.heap.IsList D items
  top : ∀ b o, hT.get? b = some o → s.heap.get? b = some o
section
variable {w : World} {A : Around} {G : Env} {hT : Heap} {B L J D C : Addr} {val : Nat → Int} {items : Array Value} {n i : Nat} {m : Str → Option Value} {s s₀ : Shared} {fs : List Frame}
theorem GE.kind (g : GE G) : G.scope.kind = .function := by rw [g.scope]; exact sG_kind
theorem GE.inter (g : GE G) : interactive G = false := by unfold interactive; rw [g.kind]; rfl
theorem GE.co (g : GE G) : G.scope.isCoroutine = false := by rw [g.scope]; exact sG_co
theorem GE.kl (g : GE G) : G.kindOf "last_interval" = some .local := by unfold Env.kindOf; rw [g.scope]; exact sG_l
theorem GE.ki (g : GE G) : G.kindOf "interval" = some .local := by unfold Env.kindOf; rw [g.scope]; exact sG_i
theorem GE.kg (g : GE G) : G.kindOf "grouping" = some .local := by unfold Env.kindOf; rw [g.scope]; exact sG_g
theorem GE.kc (g : GE G) : G.kindOf "CHAR_MAX" = some .globalImplicit := by unfold Env.kindOf; rw [g.scope]; exact sG_c
theorem GS.store (X : GX hT B L J D C) (g : GS hT L J D items i m s) {h' : Heap} {m' : Str → Option Value} {tk : Nat} (n : h'.Ns L m') (sb : Heap.SameBut L s.heap h') : GS hT L J D items i m' { s with heap := h', toks := tk } :=
  ⟨n, g.it.extBut sb.extBut X.LJ.symm, g.li.extBut sb.extBut X.DL, fun b o q => sb.extBut b o (fun e => by rw [e, X.tL] at q; cases q) (g.top b o q)⟩
theorem Mv.store (mv : Mv B L s₀ s) {h' : Heap} {tk : Nat} (sb : Heap.SameBut L s.heap h') : Mv B L s₀ { s with heap := h', toks := tk } :=
  ⟨fun b o h1 h2 q => sb.extBut b o h2 (mv.keep b o h1 h2 q), mv.os, mv.gens⟩
theorem GS.back (X : GX hT B L J D C) (g : GS hT L J D items i m s) {s'' : Shared} (e : Heap.ExtBut C s.heap s''.heap) : GS hT L J D items i m s'' :=
  ⟨g.ns.extBut e X.LC, g.it.extBut e X.JC, g.li.extBut e X.DC, fun b o q => e b o (fun z => by rw [z, X.tC] at q; cases q) (g.top b o q)⟩
theorem GS.tk (g : GS hT L J D items i m s) {tk : Nat} : GS hT L J D items i m { s with toks := tk } := ⟨g.ns, g.it, g.li, g.top⟩
theorem Mv.tk (mv : Mv B L s₀ s) {tk : Nat} : Mv B L s₀ { s with toks := tk } := ⟨mv.keep, mv.os, mv.gens⟩

theorem seg_W {b : Int} {t : Tok} {p18 p19 p20 p21 : Pos} {k4 : Nat} (ge : GE G) (hL : G.locals = L) (hLC : L ≠ C) (hm : m "last_interval" = some (.int b t)) (hfs1 : splitAtGen fs = none) (hfs2 : fs.any Frame.guarded = false) :
    ∀ (n : Nat) (s₀ s : Shared), (∀ j, j ≤ n → val j = b) → s.heap.Ns L m → Mv B L s₀ s →
      Seg (model P2 w) A noEnd (prY B L C val) (n + 1) s₀ (.whileLoop (.Constant (.bool true) k4 p18) [.Expr (.Yield (some (.Name "last_interval" p19)) p20) p21] [] G)
        ((model P2 w).den (.whileLoop (.Constant (.bool true) k4 p18) [.Expr (.Yield (some (.Name "last_interval" p19)) p20) p21] [] G)) fs s := by
  intro n
  induction n with
  | zero =>
    intro s₀ s hval ns mv
    refine seg_whileLoop' (wpAny_isTrue_value (wpAny_Constant_bool (wpAny_truthy_bool ⟨rfl, fun H => ?_⟩)))
    refine seg_execs_cons (seg_Expr_Yield hfs1 rfl hfs2 (wpAny_Name (wpAny_loadName_local ge.kind ge.kl (hL ▸ ns) hm (fun kap hk => ?_))) ge.co ge.inter)
    exact ⟨⟨t, by rw [hval 0 (Nat.le_refl _)]⟩, mv.keep, mv.os, mv.gens, fun h => absurd h (Nat.lt_irrefl _)⟩
  | succ n ih =>
    intro s₀ s hval ns mv
    refine seg_whileLoop' (wpAny_isTrue_value (wpAny_Constant_bool (wpAny_truthy_bool ⟨rfl, fun H => ?_⟩)))
    refine seg_execs_cons (seg_Expr_Yield hfs1 rfl hfs2 (wpAny_Name (wpAny_loadName_local ge.kind ge.kl (hL ▸ ns) hm (fun kap hk => ?_))) ge.co ge.inter)
    refine ⟨⟨t, by rw [hval _ (Nat.le_refl _)]⟩, mv.keep, mv.os, mv.gens, fun _ s'' e => hk .none s'' ?_⟩
    refine seg_execs_nil (seg_again rfl (ih s'' s'' (fun j hj => hval j (Nat.le_succ_of_le hj)) (ns.extBut e hLC) ⟨fun _ _ _ _ q => q, rfl, rfl⟩))
end
end Mine
end
section
open PySem PySem.W PyProof.Rows PySem.Calls
set_option Elab.async false
set_option linter.unusedVariables false
set_option maxRecDepth 100000
set_option maxHeartbeats 0
namespace Mine
noncomputable abbrev gFor (p6 p7 p8 p9 p10 p11 p12 p13 p14 p15 p16 p17 p18 p19 p20 p21 p22 p23 p24 p25 p26 p27 p28 p29 : Pos) (k2 k3 k4 : Nat) (rs : List Stmt) : List Stmt :=
   [.If (.Compare (.Name "interval" p6) [.Eq] [.Name "CHAR_MAX" p7] p8) [.Return none p9] [] p10,
    .If (.Compare (.Name "interval" p11) [.Eq] [.Constant (.int 0) k2 p12] p13)
     [.If (.Compare (.Name "last_interval" p14) [.Is] [.Constant .none k3 p15] p16) rs [] p17,
      .While (.Constant (.bool true) k4 p18) [.Expr (.Yield (some (.Name "last_interval" p19)) p20) p21] [] p22] [] p23,
    .Expr (.Yield (some (.Name "interval" p24)) p25) p26,
    .Assign [.Name "last_interval" p27] (.Name "interval" p28) p29]
section
variable {w : World} {A : Around} {G : Env} {hT : Heap} {os : OsState} {B L J D C : Addr} {val : Nat → Int} {items : Array Value} {n i : Nat} {m : Str → Option Value} {s s₀ : Shared} {fs : List Frame}
variable {p4 p6 p7 p8 p9 p10 p11 p12 p13 p14 p15 p16 p17 p18 p19 p20 p21 p22 p23 p24 p25 p26 p27 p28 p29 : Pos} {k2 k3 k4 : Nat} {rs : List Stmt}
theorem g_plain (ge : GE G) : (G.scope.kind == .class || (G.scope.kind == .module && G.locals != G.globals)) = false := by rw [ge.kind]; rfl
theorem g_char (ge : GE G) (hG : ∀ b o, (hH w.params).get? b = some o → hT.get? b = some o) (g : ∀ b o, hT.get? b = some o → s.heap.get? b = some o) : s.heap.Ns G.globals (mgH w) := by
  rw [ge.glob]; exact ((m_ns w.params).keeps hG).keeps g

theorem seg_turn (ge : GE G) (hL : G.locals = L) (hG : ∀ b o, (hH w.params).get? b = some o → hT.get? b = some o) (X : GX hT B L J D C) {x : Int} {t : Tok} (hx : items[i]? = some (.int x t)) (h0 : x ≠ 0) (h127 : x ≠ 127)
    (gs : GS hT L J D items i m s) (mv : Mv B L s₀ s) (hv : val n = x) (hfs1 : splitAtGen fs = none) (hfs2 : fs.any Frame.guarded = false)
    (hnext : ∀ n' s₀' s'' m'', n = n' + 1 → GS hT L J D items (i + 1) m'' s'' → m'' "last_interval" = some (.int x t) → Mv B L s₀' s'' →
      Seg (model P2 w) A noEnd (prY B L C val) (n' + 1) s₀' (.forLoop (.Name "interval" p4) (.ref J) (gFor p6 p7 p8 p9 p10 p11 p12 p13 p14 p15 p16 p17 p18 p19 p20 p21 p22 p23 p24 p25 p26 p27 p28 p29 k2 k3 k4 rs) [] G)
        ((model P2 w).den (.forLoop (.Name "interval" p4) (.ref J) (gFor p6 p7 p8 p9 p10 p11 p12 p13 p14 p15 p16 p17 p18 p19 p20 p21 p22 p23 p24 p25 p26 p27 p28 p29 k2 k3 k4 rs) [] G)) fs s'') :
    Seg (model P2 w) A noEnd (prY B L C val) (n + 1) s₀ (.forLoop (.Name "interval" p4) (.ref J) (gFor p6 p7 p8 p9 p10 p11 p12 p13 p14 p15 p16 p17 p18 p19 p20 p21 p22 p23 p24 p25 p26 p27 p28 p29 k2 k3 k4 rs) [] G)
        ((model P2 w).den (.forLoop (.Name "interval" p4) (.ref J) (gFor p6 p7 p8 p9 p10 p11 p12 p13 p14 p15 p16 p17 p18 p19 p20 p21 p22 p23 p24 p25 p26 p27 p28 p29 k2 k3 k4 rs) [] G)) fs s := by
  subst hL
  obtain ⟨tc, hc⟩ := mg_CHAR w.params
  refine seg_forLoop (fun _ => rfl) (wpAny_pyNext_list_item gs.it gs.li hx fun h₁ it₁ sb₁ => ?_)
  have ns₁ : h₁.Ns G.locals m := gs.ns.extBut sb₁.extBut X.LJ
  dsimp only
  refine wpAny_assign_Name (wpAny_storeName_local ge.ki ns₁ (fun h₂ ns₂ sb₂ => ?_) (g_plain ge))
  have gs₁ : GS hT G.locals J D items (i + 1) m { s with heap := h₁ } := ⟨ns₁, it₁, gs.li.extBut sb₁.extBut X.DJ, fun b o q => sb₁.extBut b o (fun e => by rw [e, X.tJ] at q; cases q) (gs.top b o q)⟩
  have mv₁ : Mv B G.locals s₀ { s with heap := h₁ } := ⟨fun b o h1 h2 q => sb₁.extBut b o (fun e => by have := X.BJ; rw [e] at h1; exact Nat.lt_irrefl _ (Nat.lt_of_lt_of_le h1 this)) (mv.keep b o h1 h2 q), mv.os, mv.gens⟩
  have gs₂ := gs₁.store (tk := s.toks + 1) X ns₂ sb₂
  have mv₂ := mv₁.store (tk := s.toks + 1) sb₂
  intro H
  have e127 : (x == 127) = false := by simpa using h127
  have e0 : (x == 0) = false := by simpa using h0
  refine seg_execs_cons (seg_plain (wpAny_If (wpAny_isTrue_Compare1 (wpAny_Name (wpAny_loadName_local ge.kind ge.ki gs₂.ns (by rfl) (Calls.Name_function_global ge.kind ge.kc (Calls.loadGlobal_global (mg := mgH w) (g_char ge hG gs₂.top) hc (P.eq_int (wpAny_truthy_bool ?_)))))) rfl)))
  rw [e127]
  refine wpAny_execs_nil ?_
  refine seg_execs_cons (seg_plain (wpAny_If (wpAny_isTrue_Compare1 (wpAny_Name (wpAny_loadName_local ge.kind ge.ki gs₂.ns (by rfl) (wpAny_Constant_int (P.eq_int (wpAny_truthy_bool ?_))))) rfl)))
  rw [e0]
  refine wpAny_execs_nil ?_
  have gs₃ := gs₂.tk (tk := s.toks + 1 + 1)
  have mv₃ := mv₂.tk (tk := s.toks + 1 + 1)
  refine seg_execs_cons (seg_Expr_Yield hfs1 rfl hfs2 (wpAny_Name (wpAny_loadName_local ge.kind ge.ki gs₃.ns (by rfl) (fun kap hk => ?_))) ge.co ge.inter)
  refine ⟨⟨t, by rw [hv]⟩, mv₃.keep, mv₃.os, mv₃.gens, fun hn s'' e => hk .none s'' ?_⟩
  obtain ⟨n', rfl⟩ : ∃ n', n = n' + 1 := ⟨n - 1, by omega⟩
  have gs₄ := gs₃.back X e
  show Seg _ _ _ _ _ _ _ _ _ _
  refine seg_execs_cons (seg_plain (wpAny_Assign_Name (wpAny_Name (wpAny_loadName_local ge.kind ge.ki gs₄.ns (by rfl) (wpAny_storeName_local ge.kl gs₄.ns (fun h₅ ns₅ sb₅ => ?_) (g_plain ge)))) rfl))
  refine seg_execs_nil (seg_again rfl ?_)
  refine hnext n' s'' _ _ rfl (gs₄.store X ns₅ sb₅) (by rfl) (Mv.store ⟨fun _ _ _ _ q => q, rfl, rfl⟩ sb₅)

theorem seg_zero (ge : GE G) (hL : G.locals = L) (hG : ∀ b o, (hH w.params).get? b = some o → hT.get? b = some o) (X : GX hT B L J D C) {b : Int} {t tb : Tok} (hx : items[i]? = some (.int 0 t)) (hm : m "last_interval" = some (.int b tb))
    (gs : GS hT L J D items i m s) (mv : Mv B L s₀ s) (hv : ∀ j, j ≤ n → val j = b) (hfs1 : splitAtGen fs = none) (hfs2 : fs.any Frame.guarded = false) :
    Seg (model P2 w) A noEnd (prY B L C val) (n + 1) s₀ (.forLoop (.Name "interval" p4) (.ref J) (gFor p6 p7 p8 p9 p10 p11 p12 p13 p14 p15 p16 p17 p18 p19 p20 p21 p22 p23 p24 p25 p26 p27 p28 p29 k2 k3 k4 rs) [] G)
        ((model P2 w).den (.forLoop (.Name "interval" p4) (.ref J) (gFor p6 p7 p8 p9 p10 p11 p12 p13 p14 p15 p16 p17 p18 p19 p20 p21 p22 p23 p24 p25 p26 p27 p28 p29 k2 k3 k4 rs) [] G)) fs s := by
  subst hL
  obtain ⟨tc, hc⟩ := mg_CHAR w.params
  refine seg_forLoop (fun _ => rfl) (wpAny_pyNext_list_item gs.it gs.li hx fun h₁ it₁ sb₁ => ?_)
  have ns₁ : h₁.Ns G.locals m := gs.ns.extBut sb₁.extBut X.LJ
  dsimp only
  refine wpAny_assign_Name (wpAny_storeName_local ge.ki ns₁ (fun h₂ ns₂ sb₂ => ?_) (g_plain ge))
  have gs₁ : GS hT G.locals J D items (i + 1) m { s with heap := h₁ } := ⟨ns₁, it₁, gs.li.extBut sb₁.extBut X.DJ, fun b o q => sb₁.extBut b o (fun e => by rw [e, X.tJ] at q; cases q) (gs.top b o q)⟩
  have mv₁ : Mv B G.locals s₀ { s with heap := h₁ } := ⟨fun b o h1 h2 q => sb₁.extBut b o (fun e => by have := X.BJ; rw [e] at h1; exact Nat.lt_irrefl _ (Nat.lt_of_lt_of_le h1 this)) (mv.keep b o h1 h2 q), mv.os, mv.gens⟩
  have gs₂ := gs₁.store (tk := s.toks + 1) X ns₂ sb₂
  have mv₂ := mv₁.store (tk := s.toks + 1) sb₂
  intro H
  refine seg_execs_cons (seg_plain (wpAny_If (wpAny_isTrue_Compare1 (wpAny_Name (wpAny_loadName_local ge.kind ge.ki gs₂.ns (by rfl) (Calls.Name_function_global ge.kind ge.kc (Calls.loadGlobal_global (mg := mgH w) (g_char ge hG gs₂.top) hc (P.eq_int (wpAny_truthy_bool ?_)))))) rfl)))
  rw [show ((0 : Int) == 127) = false from rfl]
  refine wpAny_execs_nil ?_
  refine seg_execs_cons (seg_If (wpAny_isTrue_Compare1 (wpAny_Name (wpAny_loadName_local ge.kind ge.ki gs₂.ns (by rfl) (wpAny_Constant_int (P.eq_int (wpAny_truthy_bool ?_))))) rfl))
  rw [show ((0 : Int) == 0) = true from rfl, if_pos rfl]
  have gs₃ := gs₂.tk (tk := s.toks + 1 + 1)
  have mv₃ := mv₂.tk (tk := s.toks + 1 + 1)
  have hm₃ : (fun y : Str => if y = ("interval" : Str) then some (Value.int 0 t) else m y) "last_interval" = some (.int b tb) := by
    show (if ("last_interval" : Str) = ("interval" : Str) then some (Value.int 0 t) else m "last_interval") = _
    rw [if_neg (by decide)]; exact hm
  refine seg_execs_cons (seg_plain (wpAny_If (wpAny_isTrue_Compare1 (wpAny_Name (wpAny_loadName_local ge.kind ge.kl gs₃.ns hm₃ (wpAny_Constant_none (is_none_gen (wpAny_truthy_bool ?_))))) rfl)))
  rw [show (Value.int b tb == Value.none) = false from rfl]
  refine wpAny_execs_nil ?_
  refine seg_execs_cons (seg_While fun p => ?_)
  exact seg_W (m := fun y : Str => if y = ("interval" : Str) then some (Value.int 0 t) else m y) ge rfl X.LC hm₃ (by simp [splitAtGen, hfs1]) (by simp [Frame.guarded, hfs2]) n s₀ _ hv gs₃.ns mv₃
end
end Mine
end
section
open PySem PySem.W PyProof.Rows PySem.Calls
set_option Elab.async false
set_option linter.unusedVariables false
set_option maxRecDepth 100000
set_option maxHeartbeats 0
namespace Mine
section
variable {w : World} {A : Around} {G : Env} {hT : Heap} {B L D C : Addr} {n : Nat} {m : Str → Option Value} {s : Shared}
/-- the generator, from its start -/
theorem seg_gi (ge : GE G) (hL : G.locals = L) (hG : ∀ b o, (hH w.params).get? b = some o → hT.get? b = some o) {a b : Int} {ta tb t0 t1 : Tok}
    (tL : hT.get? L = none) (tC : hT.get? C = none) (DL : D ≠ L) (LC : L ≠ C) (DC : D ≠ C) (CB : C < B) (LB : L < B) (DB : D < B) (hB : B ≤ s.heap.objs.size)
    (ns : s.heap.Ns L m) (hm : m "grouping" = some (.ref D)) (li : s.heap.IsList D #[.int a ta, .int b tb, .int 0 t0, .int 1 t1]) (top : ∀ b o, hT.get? b = some o → s.heap.get? b = some o)
    (ha : 1 ≤ a ∧ a ≤ 100) (hb : 1 ≤ b ∧ b ≤ 100) :
    Seg (model P2 w) A noEnd (prY B L C fun j => if j = n then a else b) (n + 1) s (.func (bodyOf P2 10) G) ((model P2 w).den (.func (bodyOf P2 10) G)) [] s := by
  refine gi_body fun p1 p2 p3 p4 p5 p6 p7 p8 p9 p10 p11 p12 p13 p14 p15 p16 p17 p18 p19 p20 p21 p22 p23 p24 p25 p26 p27 p28 p29 p30 k1 k2 k3 k4 rs e => ?_
  rw [e]
  clear e
  subst hL
  refine seg_func' fun K H => ?_
  refine seg_execs_cons (seg_plain (wpAny_Assign_Name (wpAny_Constant_none (wpAny_storeName_local ge.kl ns (fun h₁ ns₁ sb₁ => ?_) (g_plain ge))) rfl))
  have li₁ := li.extBut sb₁.extBut DL
  have top₁ : ∀ b o, hT.get? b = some o → h₁.get? b = some o := fun b o q => sb₁.extBut b o (fun e => by rw [e, tL] at q; cases q) (top b o q)
  have sz₁ : h₁.objs.size = s.heap.objs.size := sb₁.1
  have hJ : h₁.get? h₁.objs.size = none := Heap.get?_none_of_le (Nat.le_refl _)
  have hg : (fun y : Str => if y = ("last_interval" : Str) then some Value.none else m y) "grouping" = some (.ref D) := by
    show (if ("grouping" : Str) = ("last_interval" : Str) then some Value.none else m "grouping") = _
    rw [if_neg (by decide)]; exact hm
  refine seg_execs_cons (seg_For (fun _ => rfl) (wpAny_Name (wpAny_loadName_local ge.kind ge.kg ns₁ hg (wpAny_pyIter_list li₁ (fun p k gg l hgg => ?_)))))
  have hB' : B ≤ h₁.objs.size := sz₁.symm ▸ hB
  have X : GX hT B G.locals h₁.objs.size D C := ⟨tL, (by
      cases q : hT.get? h₁.objs.size with
      | none => rfl
      | some o => rw [top₁ _ o q] at hJ; cases hJ), tC, Nat.ne_of_lt (Nat.lt_of_lt_of_le LB hB'), DL, Nat.ne_of_lt (Nat.lt_of_lt_of_le DB hB'), LC, (Nat.ne_of_lt (Nat.lt_of_lt_of_le CB hB')).symm, DC, hB'⟩
  have k₁ : ∀ b o, h₁.get? b = some o → (h₁.push { cls := .type "list_iterator", data := .fields #[.ref D, .int 0 0] }).get? b = some o := fun b o e => Heap.get?_push_of_some _ e
  have gs : GS hT G.locals h₁.objs.size D #[.int a ta, .int b tb, .int 0 t0, .int 1 t1] 0 _ { s with heap := h₁.push { cls := .type "list_iterator", data := .fields #[.ref D, .int 0 0] }, toks := s.toks + 1 } :=
    ⟨ns₁.push _, ⟨_, Heap.get?_push_size _ rfl, rfl, rfl⟩, li₁.push _, fun b o q => k₁ b o (top₁ b o q)⟩
  have mv : Mv B G.locals s { s with heap := h₁.push { cls := .type "list_iterator", data := .fields #[.ref D, .int 0 0] }, toks := s.toks + 1 } :=
    ⟨fun b o _ h2 q => k₁ b o (sb₁.extBut b o h2 q), rfl, rfl⟩
  have f1 : ∀ (k : Result → Sem Fin) (l : List Value) (c : Code) (p : Pos), splitAtGen [Frame.ret k none gg l c p []] = none := fun _ _ _ _ => rfl
  have f2 : ∀ (k : Result → Sem Fin) (l : List Value) (c : Code) (p : Pos), [Frame.ret k none gg l c p []].any Frame.guarded = false := fun _ _ _ _ => by rw [hgg]; rfl
  refine seg_turn ge rfl hG X (x := a) (t := ta) rfl (by omega) (by omega) gs mv (if_pos rfl) (f1 ..) (f2 ..) (fun n' s₀' s₁ m₁ en gs₁ hm₁ mv₁ => ?_)
  refine seg_turn ge rfl hG X (x := b) (t := tb) rfl (by omega) (by omega) gs₁ mv₁ (if_neg (by omega)) (f1 ..) (f2 ..) (fun n'' s₀'' s₂ m₂ en₂ gs₂ hm₂ mv₂ => ?_)
  exact seg_zero ge rfl hG X (t := t0) rfl hm₂ gs₂ mv₂ (fun j hj => if_neg (by omega)) (f1 ..) (f2 ..)
end
end Mine
end
section
open PySem PySem.W PyProof.Rows PySem.Calls
set_option Elab.async false
set_option linter.unusedVariables false
set_option maxRecDepth 100000
set_option maxHeartbeats 0
namespace Mine
section
variable {w : World} {A : Around} {hT : Heap} {os : OsState} {D : Addr} {s : Shared}
theorem psG : psOf P2 10 = [("grouping" : Str)] := by kernel_rfl!
theorem gi_call (Y : Topp w hT) (gi : GI hT os s) (hroom : A.depth < recursionLimit) {Q : Value → Shared → Prop}
    (h : ∀ (G : Env) (m : Str → Option Value) (h' : Heap) (tk : Nat) (a' : Addr), a' = s.heap.objs.size + 1 → GE G → G.locals = s.heap.objs.size → m "grouping" = some (.ref D) → h'.Ns G.locals m → (∀ b o, s.heap.get? b = some o → h'.get? b = some o) → h'.objs.size = s.heap.objs.size + 1 + 1 →
      h'.IsGen a' s.gens.size →
      Q (.ref a') { s with heap := h', toks := tk, gens := s.gens.push (.fresh (.func (bodyOf P2 10) G)) }) :
    wpAny (model P2 w) A (call (.ref 67) [.ref D]) Q EF s := by
  have F := (fd_grouping_intervals w.params).keeps Y.keep
  obtain ⟨o, ho, hd⟩ := F.at_
  refine wpAny_call (codeAny_call_generator hroom (gi.keep _ _ ho) hd (by rw [F.scope]; exact sG_co) (by rw [F.scope]; exact sG_gen) F.body (F.cd.keeps gi.keep) ?_)
  rw [F.bind [.ref D] (by rw [psG]; rfl), psG]
  refine wpAny_pure (wpAny_newFunctionEnv (by rw [F.scope]; exact sG_cell) (fun x hx => ?_) (fun h' hn' hs' => ?_) (by rw [F.scope]; exact sG_kind))
  · rw [F.scope]
    obtain rfl : x = (("grouping" : Str), Value.ref D) := by simpa using hx
    exact sG_g
  · have hsz : h'.objs.size = s.heap.objs.size + 1 := by rw [hs'.1, Heap.size_push]
    have k : ∀ b o, s.heap.get? b = some o → h'.get? b = some o := fun b o e => hs'.extBut b o (Nat.ne_of_lt (Heap.lt_size e)) (Heap.get?_push_of_some _ e)
    refine ⟨Y.lim.keeps fun b o q => k b o (gi.keep b o q), ?_⟩
    refine h _ _ _ _ h'.objs.size hsz ⟨F.scope, F.glob⟩ rfl (by rfl) (hn'.push _) (fun b o e => Heap.get?_push_of_some _ (k b o e)) (by rw [Heap.size_push, hsz]) ⟨_, _, _, Heap.get?_push_size _ rfl, rfl, rfl, rfl⟩
theorem blt_len : bltV "len" = .builtin "len" := by kernel_rfl!
theorem len_loc {env : Env} {x : Str} {p q r : Pos} {m : Str → Option Value} {y : Str} {t : Tok} {Q : Value → Shared → Prop} (Y : Topp w hT) (eo : EOk env) (hlen : env.kindOf "len" = some .globalImplicit) (hx : env.kindOf x = some .local) (hd : (x == ("__debug__" : Str)) = false)
    (ns : s.heap.Ns env.locals m) (hm : m x = some (.str y t)) (hy : y.length ≤ 1000) (top : ∀ b o, hT.get? b = some o → s.heap.get? b = some o)
    (h : ∀ t' tk, Q (.int y.length t') { s with toks := tk }) : wpAny (model P2 w) A (eval (.Call (.Name "len" p) [.Name x q] [] r) env) Q EF s := by
  obtain ⟨b1, b2⟩ := blt_names w "len" (by kernel_rfl!)
  refine wpAny_Call_NameR (Calls.Name_function_global eo.kind hlen (Calls.loadGlobal_builtin (mg := mgH w) (mb := mbH w) (by rw [eo.glob]; exact ((m_ns w.params).keeps Y.keep).keeps top) b1 (by rw [eo.bi]; exact ((b_ns w.params).keeps Y.keep).keeps top) b2 ?_) (by decide))
  refine callV rfl (Calls.spliced_cons (wpAny_Name (wpAny_loadName_local eo.kind hx ns hm (wpAny_pure ?_)) hd))
  rw [blt_len]
  exact P.len_str (by omega) (h _ _)
end
end Mine
end
section
open PySem PySem.W PyProof.Rows PySem.Calls
set_option Elab.async false
set_option linter.unusedVariables false
set_option maxRecDepth 100000
set_option maxHeartbeats 0
namespace Mine
noncomputable abbrev dlFor (p17 p18 p19 p20 p21 p22 p23 p24 p25 p26 p27 p28 p29 p30 p31 p32 p33 p34 p35 p36 p37 p38 p39 : Pos) : List Stmt :=
   [.If (.Compare (.Call (.Name "len" p17) [.Name "dealt" p18] [] p19) [.Eq] [.Call (.Name "len" p20) [.Name "pack" p21] [] p22] p23) [.Break p24] [] p25,
    .Assign [.Name "place" p26] (.BinOp (.BinOp (.Name "place" p27) .Add (.Name "size" p28) p29) .Mod (.Call (.Name "len" p30) [.Name "pack" p31] [] p32) p33) p34,
    .AugAssign (.Name "dealt" p35) .Add (.Subscript (.Name "pack" p36) (.Name "place" p37) p38) p39]
noncomputable def IsDl (B : List Stmt) : Prop := ∀ {G : Prop}, (∀ (p17 p18 p19 p20 p21 p22 p23 p24 p25 p26 p27 p28 p29 p30 p31 p32 p33 p34 p35 p36 p37 p38 p39 : Pos), B = dlFor p17 p18 p19 p20 p21 p22 p23 p24 p25 p26 p27 p28 p29 p30 p31 p32 p33 p34 p35 p36 p37 p38 p39 → G) → G
theorem dl_body {G : Prop} (f : ∀ (p9 p10 p11 p12 p13 p14 p15 p16 p40 p41 p42 : Pos) (st : Stmt) (k5 k6 : Nat) (B : List Stmt), IsDl B →
  bodyOf P2 19 = [st,
   .For (.Name "size" p9) (.Call (.Name "_grouping_intervals" p10) [.List [.Name "first" p11, .Name "step" p12, .Constant (.int 0) k5 p13, .Constant (.int 1) k6 p14] p15] [] p16) B [] p40,
   .Return (some (.Name "dealt" p41)) p42] → G) : G := by
  refine f _ _ _ _ _ _ _ _ _ _ _ _ _ _ _ ?_ rfl
  exact fun f => f _ _ _ _ _ _ _ _ _ _ _ _ _ _ _ _ _ _ _ _ _ _ _ rfl
section
variable {w : World} {A : Around} {hT : Heap} {os : OsState} {s : Shared} {env : Env} {md : Str → Option Value} {x y : Str} {tp td tpl tv : Tok} {pl v : Int} {Q : Flow → Shared → Prop}
variable {B : List Stmt}
theorem dl_turn (hB : IsDl B) (Y : Topp w hT) (eo : EOk env) (es : env.scope = sD) (top : ∀ b o, hT.get? b = some o → s.heap.get? b = some o) (me : hT.get? env.locals = none) (ns : s.heap.Ns env.locals md) (h1 : md "pack" = some (.str x tp)) (h2 : md "dealt" = some (.str y td))
    (h3 : md "place" = some (.int pl tpl)) (h4 : md "size" = some (.int v tv)) (hx0 : 1 ≤ x.length) (hx : x.length ≤ 100) (hy : y.length ≤ 100)
    (hb : y.length = x.length → ∀ tk, Q .brk { s with toks := tk })
    (hn : y.length ≠ x.length → ∀ (c : Nat) (h' : Heap) (md' : Str → Option Value) (tk : Nat) (t t' : Tok), x.cps.toList[((pl + v).fmod x.length).toNat]? = some c → h'.Ns env.locals md' → md' "pack" = some (.str x tp) → md' "dealt" = some (.str (mkS (y.cps.toList ++ [c])) t) →
      md' "place" = some (.int ((pl + v).fmod x.length) t') → Heap.ExtBut env.locals s.heap h' → Q .next { s with heap := h', toks := tk }) :
    wpAny (model P2 w) A (execs B env) Q EF s := by
  refine hB fun p17 p18 p19 p20 p21 p22 p23 p24 p25 p26 p27 p28 p29 p30 p31 p32 p33 p34 p35 p36 p37 p38 p39 e => ?_
  subst e
  have kl : env.kindOf "len" = some .globalImplicit := by unfold Env.kindOf; rw [es]; exact sD_len
  have kp : env.kindOf "pack" = some .local := by unfold Env.kindOf; rw [es]; exact sD_pack
  have kd : env.kindOf "dealt" = some .local := by unfold Env.kindOf; rw [es]; exact sD_dealt
  have ka : env.kindOf "place" = some .local := by unfold Env.kindOf; rw [es]; exact sD_place
  have kz : env.kindOf "size" = some .local := by unfold Env.kindOf; rw [es]; exact sD_size
  have pln := not_class eo.kind
  refine wpAny_execs_cons (wpAny_If (wpAny_isTrue_Compare1 (len_loc Y eo kl kd (by decide) ns h2 (by omega) top fun t1 tk1 => len_loc Y eo kl kp (by decide) (s := { s with toks := tk1 }) ns h1 (by omega) top fun t2 tk2 => P.eq_int (wpAny_truthy_bool ?_)) rfl))
  by_cases e : y.length = x.length
  · rw [show ((y.length : Int) == (x.length : Int)) = true by simp [e]]
    exact wpAny_execs_cons (fun _ _ _ => hb e _)
  · rw [show ((y.length : Int) == (x.length : Int)) = false by simp; omega]
    have hpos : (0 : Int) < x.length := by omega
    have f0 : 0 ≤ (pl + v).fmod x.length := Int.fmod_nonneg_of_pos _ hpos
    have f1 : (pl + v).fmod x.length < x.length := Int.fmod_lt_of_pos _ hpos
    obtain ⟨p, ep⟩ : ∃ p : Nat, (pl + v).fmod x.length = p := ⟨_, (Int.toNat_of_nonneg f0).symm⟩
    have hlen : x.cps.toList.length = x.length := by show x.cps.toList.length = x.cps.size; simp
    have hp : p < x.cps.toList.length := by omega
    have hc : x.cps.toList[p]? = some x.cps.toList[p] := List.getElem?_eq_getElem hp
    refine wpAny_execs_nil (wpAny_execs_cons (wpAny_Assign_Name (wpAny_BinOp (wpAny_BinOp (wpAny_Name (wpAny_loadName_local eo.kind ka (s := { s with toks := tk2 }) ns h3 (wpAny_Name (wpAny_loadName_local eo.kind kz (s := { s with toks := tk2 }) ns h4 (add_int
      (len_loc Y eo kl kp (by decide) (s := { s with toks := tk2 + 1 }) ns h1 (by omega) top fun t3 tk3 => mod_int (Int.ne_of_gt hpos) (wpAny_storeName_local (s := { s with toks := tk3 + 1 }) ka ns (fun h₁ ns₁ sb₁ => ?_) pln))))))))) rfl))
    rw [ep] at ns₁
    have q1 : (fun z : Str => if z = ("place" : Str) then some (Value.int (p : Int) tk3) else md z) "pack" = some (.str x tp) := by
      show (if ("pack" : Str) = ("place" : Str) then _ else md "pack") = _
      rw [if_neg (by decide)]; exact h1
    have q2 : (fun z : Str => if z = ("place" : Str) then some (Value.int (p : Int) tk3) else md z) "dealt" = some (.str y td) := by
      show (if ("dealt" : Str) = ("place" : Str) then _ else md "dealt") = _
      rw [if_neg (by decide)]; exact h2
    have q3 : (fun z : Str => if z = ("place" : Str) then some (Value.int (p : Int) tk3) else md z) "place" = some (.int (p : Int) tk3) := rfl
    refine wpAny_execs_cons (wpAny_AugAssign_Name (wpAny_loadName_local eo.kind kd (s := { s with heap := h₁, toks := tk3 + 1 + 1 }) ns₁ q2 (wpAny_Sub (wpAny_Name (wpAny_loadName_local eo.kind kp (s := { s with heap := h₁, toks := tk3 + 1 + 1 }) ns₁ q1 (wpAny_Name (wpAny_loadName_local eo.kind ka (s := { s with heap := h₁, toks := tk3 + 1 + 1 }) ns₁ q3 ?_)))))))
    refine ⟨"str", _, F.slot_str_getitem.lookup, typeIs_str _ _ _, SB.getItem (by unfold fitsSsize; simp; omega) (by rw [charAt_nat, hc]; rfl) ?_⟩
    rw [item_of (by rw [charAt_nat, hc])]
    refine SB.iadd (fun t' k => ?_) (by rw [sizeLine_eq]; show (y.length + 1 : Nat) ≤ _; omega)
    refine wpAny_storeName_local kd ns₁ (fun h₂ ns₂ sb₂ => ?_) pln
    refine wpAny_execs_nil (hn e x.cps.toList[p] h₂ _ _ t' tk3 (by rw [ep]; exact hc) ns₂ ?_ ?_ ?_ (fun b o nb q => sb₂.extBut b o nb (sb₁.extBut b o nb q)))
    · show (if ("pack" : Str) = ("dealt" : Str) then _ else if ("pack" : Str) = ("place" : Str) then _ else md "pack") = _
      rw [if_neg (by decide), if_neg (by decide)]; exact h1
    · exact congrArg (fun z => some (Value.str z t')) (mkS_append y (mkS [x.cps.toList[p]])).symm
    · show (if ("place" : Str) = ("dealt" : Str) then _ else if ("place" : Str) = ("place" : Str) then _ else md "place") = _
      rw [if_neg (by decide), if_pos rfl, ep]
end
end Mine
end
section
open PySem PySem.W PyProof.Rows PySem.Calls
set_option Elab.async false
set_option linter.unusedVariables false
set_option maxRecDepth 100000
set_option maxHeartbeats 0
namespace Mine
noncomputable def dlPre (p : List Nat) (a b : Int) (k : Nat) : List Nat := (List.range k).map fun (i : Nat) => p.getD ((a - 1 + (i : Int) * b).fmod p.length).toNat 0
theorem dlPre_len (p : List Nat) (a b : Int) (k : Nat) : (dlPre p a b k).length = k := by simp [dlPre]
theorem dlPre_succ (p : List Nat) (a b : Int) (k : Nat) : dlPre p a b (k + 1) = dlPre p a b k ++ [p.getD ((a - 1 + (k : Int) * b).fmod p.length).toNat 0] := by simp [dlPre, List.range_succ]
noncomputable def dlPl (p : List Nat) (a b : Int) : Nat → Int
  | 0 => -1
  | k + 1 => (a - 1 + (k : Int) * b).fmod p.length
theorem fmod_step {u b : Int} {n : Int} (hn : 0 ≤ n) : (u.fmod n + b).fmod n = (u + b).fmod n := by
  rw [Int.fmod_eq_emod_of_nonneg _ hn, Int.fmod_eq_emod_of_nonneg _ hn, Int.fmod_eq_emod_of_nonneg _ hn, Int.add_emod, Int.emod_emod, ← Int.add_emod]
theorem dlPl_succ (p : List Nat) (a b : Int) (k : Nat) : (dlPl p a b k + if 200 - k = 200 then a else b).fmod p.length = dlPl p a b (k + 1) ∨ 200 < k := by
  by_cases h : k ≤ 200
  · left
    cases k with
    | zero =>
      show ((-1 : Int) + a).fmod p.length = (a - 1 + ((0 : Nat) : Int) * b).fmod p.length
      congr 1; simp; omega
    | succ k =>
      rw [if_neg (by omega)]
      show ((a - 1 + (k : Int) * b).fmod p.length + b).fmod p.length = (a - 1 + ((k + 1 : Nat) : Int) * b).fmod p.length
      rw [fmod_step (by omega)]
      congr 1
      rw [Int.natCast_add, Int.add_mul]; omega
  · right; omega
noncomputable abbrev dlY (B L C : Addr) (a b : Int) : Protocol := prY B L C fun j => if j = 200 then a else b
structure LI (w : World) (A : Around) (hb : Heap) (os : OsState) (B L C ga : Addr) (g : Nat) (x : Str) (tp : Tok) (a b : Int) (k : Nat) (s : Shared) : Prop where
  keep : ∀ c o, c < B → c ≠ L → c ≠ C → hb.get? c = some o → s.heap.get? c = some o
  ns : ∃ md t t', s.heap.Ns C md ∧ md "pack" = some (.str x tp) ∧ md "dealt" = some (.str (mkS (dlPre x.cps.toList a b k)) t) ∧ md "place" = some (.int (dlPl x.cps.toList a b k) t')
  os : s.os = os
  bare : AllBare s.gens
  gen : ∃ gs m, m + k = 200 ∧ s.gens[g]? = some gs ∧ gs.Goes (model P2 w) A.in1 noEnd (dlY B L C a b) (m + 1) (.send .none) (s.setGen g .running)
section
variable {w : World} {A : Around} {hT hb : Heap} {os : OsState} {s : Shared} {env : Env} {B L C ga : Addr} {g : Nat} {x : Str} {tp : Tok} {a b : Int}
variable {p9 : Pos} {Bd : List Stmt}
theorem pos_is {m k : Nat} (hm : m + k = 200) (hk : k ≤ 100) : 0 < m + 1 - 1 := by omega
theorem has_pred {m k : Nat} (hm : m + k = 200) (hk : k ≤ 100) : ∃ m', m = m' + 1 := ⟨m - 1, by omega⟩
theorem pred_is {m k : Nat} (hm : m + 1 + k = 200) : m + 1 + 1 - 1 = 200 - k := by rw [Nat.add_sub_cancel, ← hm, Nat.add_sub_cancel]
theorem dl_loop (hBd : IsDl Bd) (Y : Topp w hT) (eo : EOk env) (es : env.scope = sD) (hroom : A.depth < recursionLimit) (hC : env.locals = C) (tC : hT.get? C = none) (tL : hT.get? L = none) (LC : L ≠ C) (CB : C < B) (LB : L < B) (gB : ga < B) (gL : ga ≠ L) (gC : ga ≠ C)
    (hTb : ∀ c o, hT.get? c = some o → c < B ∧ hb.get? c = some o) (hg : hb.IsGen ga g) (hx0 : 1 ≤ x.length) (hx : x.length ≤ 100) {R : Result → Shared → Prop}
    (hR : ∀ s' : Shared, (∀ c o, c < B → c ≠ L → c ≠ C → hb.get? c = some o → s'.heap.get? c = some o) → (∃ md t, s'.heap.Ns C md ∧ md "dealt" = some (.str (mkS (dlPre x.cps.toList a b x.length)) t)) → s'.os = os → AllBare s'.gens → R (.ok .next) s')
    (h : LI w A hb os B L C ga g x tp a b 0 s) :
    codeAny (model P2 w) A (.forLoop (.Name "size" p9) (.ref ga) Bd [] env) R s := by
  have hlen : x.cps.toList.length = x.length := by show x.cps.toList.length = x.cps.size; simp
  have kz : env.kindOf "size" = some .local := by unfold Env.kindOf; rw [es]; exact sD_size
  subst hC
  refine codeAny_forLoop (fun n s' => ∃ k, n = 100 - k ∧ k ≤ x.length ∧ LI w A hb os B L env.locals ga g x tp a b k s') (fun n s' hI => ?_) 100 ⟨0, rfl, Nat.zero_le _, h⟩
  obtain ⟨k, rfl, hk, li⟩ := hI
  obtain ⟨gs, m, hm, hgs, goes⟩ := li.gen
  have top : ∀ c o, hT.get? c = some o → s'.heap.get? c = some o := fun c o q => li.keep c o (hTb c o q).1 (fun e => by rw [e, tL] at q; cases q) (fun e => by rw [e, tC] at q; cases q) (hTb c o q).2
  have hg' : s'.heap.IsGen ga g := let ⟨o, nm, qn, ho, r⟩ := hg; ⟨o, nm, qn, li.keep _ _ gB gL gC ho, r⟩
  refine next_gen (Y.lim.keeps top) hroom hg' hgs goes fun v s₁ gs' bare' hY => ?_
  obtain ⟨⟨tv, rfl⟩, keep₁, os₁, gens₁, res⟩ := hY
  have keep₁ : ∀ c o, c < B → c ≠ L → s'.heap.get? c = some o → s₁.heap.get? c = some o := keep₁
  have res := res (pos_is hm (Nat.le_trans hk hx))
  obtain ⟨m', rfl⟩ : ∃ m', m = m' + 1 := has_pred hm (Nat.le_trans hk hx)
  have ev : (if m' + 1 + 1 - 1 = 200 then a else b) = if 200 - k = 200 then a else b := by
    have : m' + 1 + 1 - 1 = 200 - k := pred_is hm
    rw [this]
  obtain ⟨md, t, t', ns, h1, h2, h3⟩ := li.ns
  have ns₁ : s₁.heap.Ns env.locals md := ns.at fun o e => keep₁ _ o CB LC.symm e
  have top₁ : ∀ c o, hT.get? c = some o → s₁.heap.get? c = some o := fun c o q => keep₁ c o (hTb c o q).1 (fun e => by rw [e, tL] at q; cases q) (top c o q)
  have go : GenOnly g s'.gens (s₁.setGen g gs').gens := by
    have := (GenOnly.setGen s' g .running)
    rw [← gens₁] at this
    exact this.trans (GenOnly.setGen s₁ g gs')
  have hgs₁ : (s₁.setGen g gs').gens[g]? = some gs' := setGen_self (gs := .running) (by rw [gens₁]; exact setGen_self hgs)
  have bare₁ : AllBare (s₁.setGen g gs').gens := li.bare.moved (GenOnlyQ.of go hgs₁ bare')
  dsimp only
  refine wpAny_assign_Name (wpAny_storeName_local (s := s₁.setGen g gs') kz ns₁ (fun h₂ ns₂ sb₂ => ?_) (not_class eo.kind))
  have sb₂ : Heap.SameBut env.locals s₁.heap h₂ := sb₂
  have q1 : (fun z : Str => if z = ("size" : Str) then some (Value.int (if m' + 1 + 1 - 1 = 200 then a else b) tv) else md z) "pack" = some (.str x tp) := by
    show (if ("pack" : Str) = ("size" : Str) then _ else md "pack") = _
    rw [if_neg (by decide)]; exact h1
  have q2 : (fun z : Str => if z = ("size" : Str) then some (Value.int (if m' + 1 + 1 - 1 = 200 then a else b) tv) else md z) "dealt" = some (.str (mkS (dlPre x.cps.toList a b k)) t) := by
    show (if ("dealt" : Str) = ("size" : Str) then _ else md "dealt") = _
    rw [if_neg (by decide)]; exact h2
  have q3 : (fun z : Str => if z = ("size" : Str) then some (Value.int (if m' + 1 + 1 - 1 = 200 then a else b) tv) else md z) "place" = some (.int (dlPl x.cps.toList a b k) t') := by
    show (if ("place" : Str) = ("size" : Str) then _ else md "place") = _
    rw [if_neg (by decide)]; exact h3
  have top₂ : ∀ c o, hT.get? c = some o → h₂.get? c = some o := fun c o q => sb₂.extBut c o (fun e => by rw [e, tC] at q; cases q) (top₁ c o q)
  have yl : (mkS (dlPre x.cps.toList a b k)).length = k := by show (dlPre x.cps.toList a b k).toArray.size = k; rw [List.size_toArray]; exact dlPre_len ..
  have keep₂ : ∀ c o, c < B → c ≠ L → c ≠ env.locals → hb.get? c = some o → h₂.get? c = some o := fun c o e1 e2 e3 q => sb₂.extBut c o e3 (keep₁ c o e1 e2 (li.keep c o e1 e2 e3 q))
  refine wpAny_mono (dl_turn hBd (s := { s₁.setGen g gs' with heap := h₂, toks := (s₁.setGen g gs').toks + 1 }) (Q := fun f s₃ => match f with
          | .next | .cont => ∃ m, m < 100 - k ∧ ∃ k, m = 100 - k ∧ k ≤ x.length ∧ LI w A hb os B L env.locals ga g x tp a b k s₃
          | .brk => R (.ok .next) s₃
          | .ret v => R (.ok (.ret v)) s₃) Y eo es top₂ tC ns₂ q1 q2 q3 (by rfl) hx0 hx (by rw [yl]; exact Nat.le_trans hk hx) (fun e tk => ?_) (fun e c h' md' tk t t' hc ns' r1 r2 r3 sb' => ?_)) (fun _ _ q => q) fun _ _ q => q.elim
  · rw [yl] at e
    subst e
    exact hR _ keep₂ ⟨_, t, ns₂, q2⟩ (os₁.trans li.os) bare₁
  · rw [yl] at e
    rw [ev] at hc r3
    have hps := (dlPl_succ x.cps.toList a b k).resolve_right (Nat.not_lt.mpr (Nat.le_trans hk (Nat.le_trans hx (by decide))))
    rw [hlen] at hps
    rw [hps] at hc r3
    have ecl : x.cps.toList.getD (dlPl x.cps.toList a b (k + 1)).toNat 0 = c := by rw [List.getD_eq_getElem?_getD, hc]; rfl
    refine ⟨100 - (k + 1), by omega, k + 1, rfl, by omega, fun c o e1 e2 e3 q => sb' c o e3 (keep₂ c o e1 e2 e3 q), ⟨md', t, t', ns', r1, ?_, r3⟩, os₁.trans li.os, bare₁, gs', m', by omega, hgs₁, ?_⟩
    · rw [r2, dlPre_succ]
      have : x.cps.toList.getD ((a - 1 + (k : Int) * b).fmod x.cps.toList.length).toNat 0 = c := ecl
      rw [this]; rfl
    · exact res _ (fun c o e3 q => sb' c o e3 (sb₂.extBut c o e3 q))
end
end Mine
end
section
open PySem PySem.W PyProof.Rows PySem.Calls
set_option Elab.async false
set_option linter.unusedVariables false
set_option maxRecDepth 100000
set_option maxHeartbeats 0
namespace Mine
noncomputable def lstE : Stmt → List PySem.Expr | .For _ (.Call _ l _ _) _ _ _ => l | _ => []
noncomputable abbrev dl1 (x : Str) (a b : Int) : St := ⟨[("pack", .d (.str x)), ("first", .d (.int a)), ("step", .d (.int b)), ("dealt", .d (.str "")), ("place", .d (.int (-1)))], []⟩
theorem dl_st1 (x : Str) (a b : Int) (K : Fl → St → Prop) : wpS G0 30 (scOf P2 19) (stAt (bodyOf P2 19) 0) ⟨[("pack", .d (.str x)), ("first", .d (.int a)), ("step", .d (.int b))], []⟩ K = K .next (dl1 x a b) := by kernel_rfl!
theorem dl_arg (x : Str) (a b : Int) (K : List V → St → Prop) : wpEs G0 30 (scOf P2 19) (lstE (stAt (bodyOf P2 19) 1)) (dl1 x a b) K = K [.c 0] ⟨(dl1 x a b).loc, [some [.d (.int a), .d (.int b), .d (.int 0), .d (.int 1)]]⟩ := by kernel_rfl!
theorem dl_ps (x : Str) (a b : Int) : (psOf P2 19).zip ([PyData.str x, .int a, .int b].map V.d) = ([("pack", .d (.str x)), ("first", .d (.int a)), ("step", .d (.int b))] : List (Str × V)) := by kernel_rfl!
theorem sD_cell : ∀ x, sD.names.lookup x ≠ some .cell := by
  have h : sD.names.all (fun x => x.2 != .cell) = true := by kernel_rfl!
  intro x hx
  have := List.all_eq_true.mp h _ (mem_of_lookup hx)
  simp at this
section
variable {w : World} {hT : Heap} {os : OsState}
/-- a frame's end, from nothing but its own names -/
theorem ps_end {fr : List Env} {env : Env} {h₀ : Heap} {s₁ s' : Shared} {σ : St} {ρ : List Addr} {md : Str → Option Value} {y : Str} {t : Tok} {K : PyData → Prop} (nc : ∀ x, env.kindOf x ≠ some .cell) (I₁ : Inv hT os fr env σ ρ s₁) (ev : Evo (Own env) [] [] h₀ σ.cel ρ s₁.heap)
    (keep : ∀ b o, b ≠ env.locals → s₁.heap.get? b = some o → s'.heap.get? b = some o) (ns : s'.heap.Ns env.locals md) (bare : AllBare s'.gens) (eos : s'.os = os) (hK : K (.str y)) :
    PS hT os fr env [] [] h₀ (finK K) (.ret (.str y t)) s' := by
  obtain ⟨m₁, n₁, -⟩ := I₁.rs.vars.ns
  obtain ⟨o₁, g₁, d₁⟩ := ns_isDict n₁
  obtain ⟨o', g', d'⟩ := ns_isDict ns
  have top : ∀ b o, hT.get? b = some o → s'.heap.get? b = some o := fun b o q => keep b o (fun e => by rw [e, I₁.me _ (.inl rfl)] at q; cases q) (I₁.gi.keep b o q)
  have e' : Ext noX (· = env.locals) s₁.heap s'.heap := by
    refine ⟨fun b o q => ?_, fun b o q _ nd _ => keep b o (fun e => by rw [e, g₁] at q; obtain rfl := Option.some.inj q; exact nd d₁) q, fun b o q _ nx => ⟨o, keep b o nx q, rfl⟩, fun b o q d => ?_, fun b o q _ nx => keep b o nx q⟩
    · by_cases e : b = env.locals
      · exact ⟨o', e ▸ g'⟩
      · exact ⟨o, keep b o e q⟩
    · by_cases e : b = env.locals
      · exact ⟨o', e ▸ g', d'⟩
      · exact ⟨o, keep b o e q, d⟩
  refine ⟨.ret (.d (.str y)), ⟨[], []⟩, [], hK, ⟨[], .str _ _, rfl, fun _ q => nomatch q⟩, ⟨⟨⟨⟨md, ns, fun x y e => by simp at e⟩, fun x y e => by simp at e, fun x k => absurd k (nc x), I₁.rs.vars.apart⟩, ⟨rfl, List.nodup_nil, (fun _ q => nomatch q), fun k xs e => by simp at e⟩⟩, ⟨top, bare, eos⟩, (fun _ q => nomatch q), fun e he => ?_, I₁.me⟩, ⟨⟨[], rfl, fun _ q => nomatch q⟩, fun k xs e => by simp at e, fun k e => by simp at e, ?_⟩⟩
  · obtain ⟨q1, L, o, q2, q3, q4, q5⟩ := I₁.fro e he
    by_cases c : L = env.locals
    · exact ⟨q1, L, o', q2, q3, c ▸ g', d'⟩
    · exact ⟨q1, L, o, q2, q3, keep _ _ c q4, q5⟩
  · exact ev.ext.comp e' (fun _ _ _ q => q.elim) fun b o _ q => .inl q
theorem RVs.ints4 {h : Heap} {ρ : List Addr} {us : List Value} {a b c d : Int} (r : RVs h ρ us [.d (.int a), .d (.int b), .d (.int c), .d (.int d)]) : ∃ t1 t2 t3 t4, us = [.int a t1, .int b t2, .int c t3, .int d t4] := by
  obtain ⟨v, us, rfl, r1, r⟩ := r.invc
  obtain ⟨_, _, _, rfl, r2, r3, r4⟩ := r.inv3
  obtain ⟨t1, rfl⟩ := RV.inv r1 rfl
  obtain ⟨t2, rfl⟩ := RV.inv r2 rfl
  obtain ⟨t3, rfl⟩ := RV.inv r3 rfl
  obtain ⟨t4, rfl⟩ := RV.inv r4 rfl
  exact ⟨t1, t2, t3, t4, rfl⟩
theorem c_law_dealt (Y : Topp w hT) : FnOk P2 w hT os 1 dlSpec 150 := by
  refine fn_enter (ℓ := 0) Y.lim ((fd_law_dealt w.params).keeps Y.keep) (by kernel_rfl!) (fun ds K h => ?_) (fun fr env A s ds K hA eo es I h => ?_)
  · unfold dlSpec at h
    split at h
    · exact ps_law_dealt
    · cases h
  · unfold dlSpec at h
    split at h
    · rename_i x a b
      obtain ⟨h1, hK⟩ := chk_iff.mp h
      simp only [Bool.and_eq_true, decide_eq_true_eq] at h1
      obtain ⟨⟨⟨⟨⟨x1, x2⟩, a1⟩, a2⟩, b1⟩, b2⟩ := h1
      have x1 : 1 ≤ x.length := Nat.le_of_ble_eq_true x1
      have x2 : x.length ≤ 100 := Nat.le_of_ble_eq_true x2
      have es' : env.scope = sD := es
      have dp : A.depth + 0 ≤ 900 := hA.deep
      have hroom : A.depth < recursionLimit := by show A.depth < 1000; omega
      rw [dl_ps] at I
      refine dl_body fun p9 p10 p11 p12 p13 p14 p15 p16 p40 p41 p42 st k5 k6 Bd hBd e => ?_
      have e0 : stAt (bodyOf P2 19) 0 = st := by rw [e]; rfl
      have e1 : lstE (stAt (bodyOf P2 19) 1) = [.List [.Name "first" p11, .Name "step" p12, .Constant (.int 0) k5 p13, .Constant (.int 1) k6 p14] p15] := by rw [e]; rfl
      rw [e]
      clear e
      have hS := (sndS_all hA (gr0 Y) 30).S env _ [] s st (fun f τ => f = .next ∧ τ = dl1 x a b) eo I (by rw [es, ← e0, dl_st1]; exact ⟨rfl, rfl⟩)
      generalize hQ : PS hT os fr env [] [] s.heap (finK K) = Q
      refine wpAny_execs_cons (wpAny_mono hS (fun f s₁ ⟨fl, σ₁, ρ₁, ⟨q1, q2⟩, hf, I₁, ev₁⟩ => ?_) fun _ _ q => q)
      subst q1 q2
      cases f with
      | next =>
        have hlen : x.cps.toList.length = x.length := by show x.cps.toList.length = x.cps.size; simp
        have kOf : ∀ z, env.kindOf z = sD.names.lookup z := fun z => by unfold Env.kindOf; rw [es']
        have F := (fd_grouping_intervals w.params).keeps Y.keep
        obtain ⟨o, ho, hd⟩ := F.at_
        refine wpAny_execs_cons (wpAny_For (wpAny_Call_NameR (Calls.Name_function_global eo.kind (by rw [kOf]; exact sD_gi) (Calls.loadGlobal_global (mg := mgH w) (by rw [eo.glob]; exact ((m_ns w.params).keeps Y.keep).keeps I₁.gi.keep) (mg_grouping_intervals w.params) ?_) (by decide))) (fun _ => rfl))
        refine callF (o := o) rfl hd (wpAny_mono ((snd_all hA (gr0 Y) 30).Es env _ ρ₁ s₁ _ p16 (fun v τ => v = [.c 0] ∧ τ = ⟨(dl1 x a b).loc, [some [.d (.int a), .d (.int b), .d (.int 0), .d (.int 1)]]⟩) eo I₁ (by rw [es, ← e1, dl_arg]; exact ⟨rfl, rfl⟩)) (fun vs s₂ ⟨xs, σ₂, ρ₂, ⟨q1, q2⟩, rv, I₂, ev₂⟩ => ⟨I₂.gi.keep _ _ ho, ?_⟩) fun _ _ q => q) (Nat.succ_pos _)
        subst q1 q2
        obtain ⟨_, rfl, D, rfl, eD⟩ := RVs.inv1 rv
        · obtain ⟨D', us, f1, pl, ru⟩ := I₂.rs.cel.here 0 _ rfl
          rw [eD] at f1
          obtain rfl : D = D' := Option.some.inj f1
          · obtain ⟨t1, t2, t3, t4, rfl⟩ := RVs.ints4 ru
            obtain ⟨md, ns, hl⟩ := I₂.rs.vars.ns
            obtain ⟨_, m1, u1⟩ := hl "pack" (.d (.str x)) rfl (by rw [kOf]; exact sD_pack)
            obtain ⟨_, m2, u2⟩ := hl "dealt" (.d (.str "")) rfl (by rw [kOf]; exact sD_dealt)
            obtain ⟨_, m3, u3⟩ := hl "place" (.d (.int (-1))) rfl (by rw [kOf]; exact sD_place)
            obtain ⟨_, rfl⟩ := RV.inv u1 rfl
            obtain ⟨_, rfl⟩ := RV.inv u2 rfl
            obtain ⟨_, rfl⟩ := RV.inv u3 rfl
            have Clt : env.locals < s₂.heap.objs.size := ns.lt
            have Dlt : D < s₂.heap.objs.size := let ⟨_, g⟩ := pl; Heap.lt_size g
            have DC : D ≠ env.locals := fun e => by
              obtain ⟨o', g', es, ep, d'⟩ := ns_isDict ns
              obtain ⟨n, g⟩ := pl
              rw [e, g'] at g; obtain rfl := Option.some.inj g; cases d'
            have tC : hT.get? env.locals = none := I₂.me _ (.inl rfl)
            have tL : hT.get? s₂.heap.objs.size = none := by
              cases q : hT.get? s₂.heap.objs.size with
              | none => rfl
              | some o => exact absurd (Heap.lt_size (I₂.gi.keep _ _ q)) (Nat.lt_irrefl _)
            refine gi_call Y I₂.gi hroom fun G m h' tk ga ega ge hL hm nsG keep sz hg => ?_
            have top' : ∀ c o, hT.get? c = some o → h'.get? c = some o := fun c o q => keep c o (I₂.gi.keep c o q)
            have up : ∀ c : Addr, @LT.lt Nat _ c s₂.heap.objs.size → @LT.lt Nat _ c h'.objs.size := fun c q => by rw [sz]; exact Nat.lt_succ_of_lt (Nat.lt_succ_of_lt q)
            have LB : @LT.lt Nat _ s₂.heap.objs.size h'.objs.size := by rw [sz]; exact Nat.lt_succ_of_lt (Nat.lt_succ_self _)
            refine wpAny_pyIter_gen hg ?_
            refine dl_loop hBd (B := h'.objs.size) (L := s₂.heap.objs.size) (hb := h') (a := a) (b := b) (os := os) Y eo es' hroom rfl tC tL (Nat.ne_of_lt Clt).symm (up _ Clt) LB (by rw [sz, ega]; exact Nat.lt_succ_self _) (by rw [ega]; exact Nat.succ_ne_self _) (by rw [ega]; exact (Nat.ne_of_lt (Nat.lt_succ_of_lt Clt)).symm)
              (fun c o q => ⟨Heap.lt_size (top' c o q), top' c o q⟩) hg x1 x2 (fun s' keep' ⟨md', t, ns', h2⟩ os' bare' => ?_) ⟨fun c o _ _ _ q => q, ⟨md, _, _, ns.keeps keep, m1, m2, m3⟩, I₂.gi.os, I₂.gi.bare.push rfl, .fresh (.func (bodyOf P2 10) G), 200, rfl, Array.getElem?_push_size .., rfl, ?_⟩
            · refine wpAny_execs_cons (wpAny_Return_some (wpAny_Name (wpAny_loadName_local eo.kind (by rw [kOf]; exact sD_dealt) ns' h2 ?_)))
              subst hQ
              refine ps_end (fun z => by rw [kOf]; exact sD_cell z) I₂ (ev₁.trans ev₂.up) (fun c o nc q => keep' c o (Heap.lt_size (keep c o q)) (Nat.ne_of_lt (Heap.lt_size q)) nc (keep c o q)) ns' bare' os' ?_
              rw [← hlen]
              exact hK
            · exact seg_gi (m := m) ge hL Y.keep tL tC (Nat.ne_of_lt Dlt) (Nat.ne_of_lt Clt).symm DC (up _ Clt) LB (up _ Dlt) (Nat.le_refl _) (hL ▸ nsG) hm (pl.at fun o q => keep _ o q).isList top' ⟨a1, a2⟩ ⟨b1, b2⟩
      | _ => exact hf.elim
    · cases h
end
end Mine
end
section
open PySem PySem.W PyProof.Rows PySem.Calls
open Builtin Builtin.Str Builtin.BaseException Builtin.Exceptions
set_option Elab.async false
set_option linter.unusedVariables false
set_option maxRecDepth 100000
set_option maxHeartbeats 0
namespace Mine
noncomputable abbrev bmE : List Value := [.type "Exception", .type "BaseException", .type "object"]
/-- the program's own exception class, its base and their names -/
noncomputable def IsE (o : Obj) : Prop := ∀ {G : Prop}, (∀ hdct sn sub ab col dd k0 k1 k2 k3 k5 nm q bs, o = excClassObj nm q 44 43 bs (.ref 31 :: bmE) hdct sn sub ab col dd k0 k1 k2 k3 k5 "Exception.__new__" → G) → G
noncomputable def IsX (o : Obj) : Prop := ∀ {G : Prop}, (∀ c0 dd cd sl, o = { cls := c0, dict := dd, data := .cls cd, slots := sl } → cd.ns = 30 → G) → G
structure ErrAt (h : Heap) : Prop where
  C : ∃ o, h.get? 44 = some o ∧ IsE o
  nC : ∃ m, h.Ns 43 m ∧ m "__init__" = none ∧ m "__str__" = none
  A : ∃ o, h.get? 31 = some o ∧ IsX o
  nA : ∃ m, h.Ns 30 m ∧ m "__init__" = none ∧ m "__str__" = none
theorem ErrAt.keeps {h h' : Heap} (x : ErrAt h) (k : ∀ b o, h.get? b = some o → h'.get? b = some o) : ErrAt h' := by
  obtain ⟨⟨o, c, ie⟩, ⟨m, n, i, s⟩, ⟨o', d, ix⟩, ⟨m', n', i', s'⟩⟩ := x
  exact ⟨⟨o, k _ _ c, ie⟩, ⟨m, n.keeps k, i, s⟩, ⟨o', k _ _ d, ix⟩, ⟨m', n'.keeps k, i', s'⟩⟩
theorem at_44 (P : Params) : (hH P).get? 44 = some (o1x44 P) := by kernel_rfl!
theorem at_31 (P : Params) : (hH P).get? 31 = some (o1x31 P) := by kernel_rfl!
theorem mg_err (P : Params) : (hH P).nsMap mainGlobals "error_reply" = some (.ref 44) := by kernel_rfl!
theorem err_at (P : Params) : ErrAt (hH P) := by
  refine ⟨⟨_, at_44 P, fun f => f _ _ _ _ _ _ _ _ _ _ _ _ _ _ rfl⟩, ⟨(hH P).nsMap 43, Heap.Ns.of_isNs (show (hH P).isNs 43 = true by kernel_rfl!), by kernel_rfl!, by kernel_rfl!⟩, ⟨_, at_31 P, fun f => f _ _ _ _ rfl rfl⟩, ⟨(hH P).nsMap 30, Heap.Ns.of_isNs (show (hH P).isNs 30 = true by kernel_rfl!), by kernel_rfl!, by kernel_rfl!⟩⟩
end Mine
end
section
open PySem PySem.W PyProof.Rows PySem.Calls
open Builtin Builtin.Str Builtin.BaseException Builtin.Exceptions
set_option Elab.async false
set_option linter.unusedVariables false
set_option maxRecDepth 100000
set_option maxHeartbeats 0
namespace Mine
section
variable {prog : Program} {w : World} {A : Around} {E : Value → Shared → Prop} {h : Heap} {g : Array GenState} {d : Drawn} {t : Nat} {os : OsState} {e t0 : Addr} {o : Obj} {vs : Array Value}
theorem str_lookup {M : Model} {Q : Option Value → Shared → Prop} (X : ErrAt h) (hq : Q (some (.builtin "BaseException.__str__")) ⟨h, g, d, t, os⟩) : wpAny M A (typeLookup (.ref 44) "__str__") Q E ⟨h, g, d, t, os⟩ := by
  obtain ⟨⟨oE, c, ie⟩, ⟨m, n, i, s⟩, ⟨oX, d', ix⟩, ⟨m', n', i', s'⟩⟩ := X
  refine ie fun a1 a2 a3 a4 a5 a6 a7 a8 a9 a10 a11 a12 a13 a14 eE => ?_
  subst eE
  refine ix fun b1 b2 b3 b4 eX e' => ?_
  subst eX
  have hrest : lookupAlong bmE "__str__" = pure (some (.builtin "BaseException.__str__")) := by
    have := F.excStr_Exception.str.lookup
    rw [typeLookup_eq, F.excBase_Exception.mroIs] at this; exact this
  rw [typeLookup_eq]
  refine wpAny_bind (wpAny_mroOf_exc c ?_)
  rw [lookupAlong_cons]
  refine wpAny_bind (wpAny_classOwn_exc c n ?_)
  rw [s]
  show wpAny M A (lookupAlong (.ref 31 :: bmE) "__str__") Q E _
  rw [lookupAlong_cons]
  refine wpAny_bind (wpAny_classOwn_cls d' (e' ▸ n') ?_)
  rw [s']
  show wpAny M A (lookupAlong bmE "__str__") Q E _
  rw [hrest]
  exact wpAny_pure hq
theorem special_err {M : Model} {Q : Option Value → Shared → Prop} (X : ErrAt h) (hx : h.get? e = some o) (hc : o.cls = .ref 44) (hq : Q (some (.builtin "BaseException.__str__")) ⟨h, g, d, t, os⟩) : wpAny M A (specialOf (.ref e) "__str__") Q E ⟨h, g, d, t, os⟩ := by
  unfold specialOf
  repeat (first | (with_reducible refine wpAny_loadPart_at hx ?_; rw [hc]) | with_reducible refine str_lookup X ?_ | wp_step)
  exact hq
theorem args_err {M : Model} {items : List Value} {Q : Value × List Value → Shared → Prop} (hx : h.get? e = some o) (hd : o.data = .fields vs) (h0 : vs[0]? = some (.ref t0)) (ht : h.TupAt t0 items) (hq : Q (.ref t0, items) ⟨h, g, d, t, os⟩) :
    wpAny M A (bexcArgs (.ref e)) Q E ⟨h, g, d, t, os⟩ := by
  obtain ⟨ot, k, hto, _, htd⟩ := ht
  unfold bexcArgs
  refine wpAny_bind (wpAny_field hx hd h0 (wpAny_bind (wpAny_seqItems hto htd ?_)))
  have : items.toArray.toList = items := by simp
  show wpAny M A (pure (Value.ref t0, items.toArray.toList)) Q E _
  rw [this]; exact wpAny_pure hq
theorem body_err {m : Str} {tk : Tok} {Q : Fin → Shared → Prop} (hx : h.get? e = some o) (hd : o.data = .fields vs) (h0 : vs[0]? = some (.ref t0)) (ht : h.TupAt t0 [.str m tk]) (hq : Q (.done (.ret (.str m tk))) ⟨h, g, d, t, os⟩) :
    wpAny (model prog w) A (Builtin.«BaseException.__str__» ⟨[.ref e], []⟩) Q E ⟨h, g, d, t, os⟩ := by
  unfold Builtin.«BaseException.__str__»
  repeat (first | with_reducible refine args_err hx hd h0 ht ?_ | wp_step)
  exact hq
theorem call_err {m : Str} {tk : Tok} {Q : Value → Shared → Prop} (X : ErrAt h) (hx : h.get? e = some o) (hc : o.cls = .ref 44) (hd : o.data = .fields vs) (h0 : vs[0]? = some (.ref t0)) (ht : h.TupAt t0 [.str m tk]) (hq : Q (.str m tk) ⟨h, g, d, t, os⟩) :
    wpAny (model prog w) A (call (.builtin "BaseException.__str__") [.ref e]) Q E ⟨h, g, d, t, os⟩ := by
  obtain ⟨oE, c, ie⟩ := X.C
  refine ie fun a1 a2 a3 a4 a5 a6 a7 a8 a9 a10 a11 a12 a13 a14 eE => ?_
  subst eE
  have k1 : builtinKind "BaseException.__str__" = some .slot := by decide +kernel
  have k2 : splitId "BaseException.__str__" = some ("BaseException", "__str__") := by decide +kernel
  have k3 : (Value.ref 31 :: bmE).contains (.type "BaseException") = true := by rw [List.contains_cons]; rfl
  refine wpAny_call (codeAny_call_builtin F.excStr_Exception.str.plain F.entry_bexc_str ?_)
  have ck : ∀ (A' : Around) (Q' : Unit → Shared → Prop) (E' : Value → Shared → Prop), Q' () ⟨h, g, d, t, os⟩ → wpAny (model prog w) A' (checkBuiltinCall "BaseException.__str__" ⟨[.ref e], []⟩) Q' E' ⟨h, g, d, t, os⟩ := fun A' Q' E' hq' => wpAny_check_slot_inst (id := "BaseException.__str__") (x := e) (rest := []) (C := 44) (bm := .ref 31 :: bmE) k1 k2 (F.args_bexc_str (.ref e)) k3 hx hc c hq'
  refine @ck _ _ _ ?_
  refine body_err hx hd h0 ht ?_
  exact hq
theorem strOf_err {m : Str} {tk : Tok} {Q : Value → Shared → Prop} (hu : A.units < cLine) (X : ErrAt h) (hx : h.get? e = some o) (hc : o.cls = .ref 44) (hd : o.data = .fields vs) (h0 : vs[0]? = some (.ref t0)) (ht : h.TupAt t0 [.str m tk]) (hq : Q (.str m tk) ⟨h, g, d, t, os⟩) :
    wpAny (model prog w) A (Builtin.Str.strOf (.ref e)) Q E ⟨h, g, d, t, os⟩ := by
  have key : ∀ Q' : Option Value → Shared → Prop, Q' (some (.str m tk)) ⟨h, g, d, t, os⟩ → wpAny (model prog w) A (callSpecial? (.ref e) "__str__") Q' E ⟨h, g, d, t, os⟩ := fun Q' hq' => by
    simp only [callSpecial?]
    refine wpAny_bind (special_err X hx hc ?_)
    simp only [F.excStr_Exception.str.bind]
    exact wpAny_holding (wpAny_bind (wpAny_pure (wpAny_bind (call_err X hx hc hd h0 ht (wpAny_pure hq')))))
  unfold Builtin.Str.strOf
  repeat (first | with_reducible refine wpAny_cRoomFor hu ?_ | with_reducible refine key _ ?_ | wp_step)
  exact hq
theorem str_err {m : Str} {tk : Tok} {Q : Value → Shared → Prop} (hu : A.in1.in1.units < cLine) (X : ErrAt h) (hx : h.get? e = some o) (hc : o.cls = .ref 44) (hd : o.data = .fields vs) (h0 : vs[0]? = some (.ref t0)) (ht : h.TupAt t0 [.str m tk]) (hq : Q (.str m tk) ⟨h, g, d, t, os⟩) :
    wpAny (model prog w) A (call (.type "str") [.ref e]) Q E ⟨h, g, d, t, os⟩ :=
  callType_new F.called_str (by decide) (F.typeCall_str_1 _) (F.newCall_str_1 _) (fun obj => F.args_object_init_2 obj _) F.entry_str_new
    (meets_str_new (S := fun A R s => A.in1.units < cLine ∧ s = ⟨h, g, d, t, os⟩ ∧ R (.ok (.ret (.str m tk))) s) fun _ _ _ _ s hq => by
      obtain ⟨h1, rfl, h2⟩ := hq
      exact strOf_err h1 X hx hc hd h0 ht h2) ⟨hu, rfl, typeIs_str _ _ _, hq⟩
end
end Mine
end
section
open PySem PySem.W PyProof.Rows PySem.Calls
set_option Elab.async false
set_option maxRecDepth 100000
set_option maxHeartbeats 0
namespace Mine
theorem pa_body {G : Prop} (f : ∀ (p1 p2 p3 p4 p5 p6 p7 p8 p9 p10 p11 : Pos) (k1 k2 : Nat) (rest : List Stmt),
  bodyOf P2 6 = .If (.Compare (.Subscript (.Name "resp" p1) (.Slice none (some (.Constant (.int 3) k1 p2)) none p3) p4) [.NotEq] [.Constant (.str "257") k2 p5] p6) [.Raise (some (.Call (.Name "error_reply" p7) [.Name "resp" p8] [] p9)) none p10] [] p11 :: rest → G) : G :=
  f _ _ _ _ _ _ _ _ _ _ _ _ _ _ rfl
theorem td_body {G : Prop} (f : ∀ (p1 p2 p3 p4 p5 p6 p7 p8 p9 p10 p11 p12 : Pos),
  bodyOf P2 17 = [.Try [.Return (some (.List [.Call (.Name "parse257" p1) [.Name "reply" p2] [] p3] p4)) p5] [.ExceptHandler (some (.Name "error_reply" p6)) (some "refusal") [.Return (some (.Call (.Name "str" p7) [.Name "refusal" p8] [] p9)) p10] p11] [] [] p12] → G) : G :=
  f _ _ _ _ _ _ _ _ _ _ _ _ rfl
theorem pa_ps : psOf P2 6 = [("resp" : Str)] := by kernel_rfl!
theorem td_ps : psOf P2 17 = [("reply" : Str)] := by kernel_rfl!
theorem pa_k : (scOf P2 6).names.lookup ("resp" : Str) = some NameKind.local := by kernel_rfl!
theorem pa_e : (scOf P2 6).names.lookup ("error_reply" : Str) = some NameKind.globalImplicit := by kernel_rfl!
theorem td_k : (scOf P2 17).names.lookup ("reply" : Str) = some NameKind.local := by kernel_rfl!
theorem td_r : (scOf P2 17).names.lookup ("refusal" : Str) = some NameKind.local := by kernel_rfl!
theorem td_e : (scOf P2 17).names.lookup ("error_reply" : Str) = some NameKind.globalImplicit := by kernel_rfl!
theorem td_p : (scOf P2 17).names.lookup ("parse257" : Str) = some NameKind.globalImplicit := by kernel_rfl!
theorem td_s : (scOf P2 17).names.lookup ("str" : Str) = some NameKind.globalImplicit := by kernel_rfl!
theorem pa_sc : fnSc (scOf P2 6) (psOf P2 6) = true := by kernel_rfl!
theorem td_sc : fnSc (scOf P2 17) (psOf P2 17) = true := by kernel_rfl!
theorem td_cell : ∀ x, (scOf P2 17).names.lookup x ≠ some .cell := by
  have h : (scOf P2 17).names.all (fun x => x.2 != .cell) = true := by kernel_rfl!
  intro x hx
  have := List.all_eq_true.mp h _ (mem_of_lookup hx)
  simp at this
end Mine
end
section
open PySem PySem.W PyProof.Rows PySem.Calls
set_option Elab.async false
set_option linter.unusedVariables false
set_option maxRecDepth 100000
set_option maxHeartbeats 0
namespace Mine
section
variable {w : World} {hT base : Heap} {os : OsState} {s : Shared} {A : Around} {fr : List Env} {ℓ : Nat} {E : Value → Shared → Prop}
theorem p_raise (Y : Topp w hT) (gi : GI hT os s) (hA : AOk fr ℓ A) (hb : base.StaysIn s.heap) (hfr : s.heap.FunFrames base fr) {x : Str} {t : Tok} (hx : (cut none (some 3) x.cps.toList != [50, 53, 55]) = true) (hz : x.length ≤ 16777216) {Q : Value → Shared → Prop}
    (hE : ∀ (e : Addr) (h' : Heap) (t0 : Addr) (tk : Nat), Heap.FlyingW base fr e (.ref 44) (.ref t0) h' → h'.TupAt t0 [.str x t] → base.get? t0 = none → s.heap.UpToSlots h' → E (.ref e) { s with heap := h', toks := tk }) :
    wpAny (model P2 w) A (call (.ref 53) [.str x t]) Q E s := by
  have FD := (fd_parse257 w.params).keeps Y.keep
  obtain ⟨c1, c2, c3, c4, c5, c6⟩ := fnSc_parts pa_sc
  obtain ⟨o, ho, hd⟩ := FD.at_
  refine pa_body fun p1 p2 p3 p4 p5 p6 p7 p8 p9 p10 p11 k1 k2 rest eb => ?_
  have hdp := hA.deep
  have hlist : (psOf P2 6).zip [Value.str x t] = [(("resp" : Str), Value.str x t)] := by rw [pa_ps]; rfl
  refine wpAny_call (codeAny_call_cells (body := bodyOf P2 6) (binds := (psOf P2 6).zip [.str x t]) (by show A.depth < 1000; omega) (gi.keep _ _ ho) hd (Y.lim.keeps gi.keep) (FD.cd.keeps gi.keep) FD.body (FD.bind [.str x t] (by rw [pa_ps]; rfl)) FD.clo (fun z hz => ?_) (fun s₁ X => ?_) (by rw [FD.scope]; exact c3) (by rw [FD.scope]; exact c2) (by rw [FD.scope]; exact c1))
  · rw [hlist] at hz
    obtain rfl : z = (("resp" : Str), Value.str x t) := by simpa using hz
    rw [FD.scope]; exact .inl pa_k
  · generalize hEnv : callEnvC (fdOf (o1x53 w.params)) s.heap.objs.size 53 = env at X ⊢
    have eS : env.scope = scOf P2 6 := by rw [← hEnv]; exact FD.scope
    have eL : env.locals = s.heap.objs.size := by rw [← hEnv]; rfl
    have eF : env.frame = some s.heap.objs.size := by rw [← hEnv]; rfl
    have eK : env.scope.kind = .function := by rw [eS]; exact c1
    have eG : env.globals = mainGlobals := by rw [← hEnv]; exact FD.glob
    have kr : env.kindOf "resp" = some .local := by unfold Env.kindOf; rw [eS]; exact pa_k
    have ke : env.kindOf "error_reply" = some .globalImplicit := by unfold Env.kindOf; rw [eS]; exact pa_e
    have keep := X.toInCall.keep
    have ns := X.toInCall.ns
    rw [hlist] at ns
    have hm : bindL env.kindOf [(("resp" : Str), Value.str x t)] (fun _ => none) "resp" = some (.str x t) := by
      rw [bindL_lookup (by simp) kr]; rfl
    obtain ⟨h₁, tk, es⟩ := X.toInCall.same
    subst es
    have keep : ∀ b o, s.heap.get? b = some o → h₁.get? b = some o := keep
    have ns : h₁.Ns env.locals (bindL env.kindOf [(("resp" : Str), Value.str x t)] fun _ => none) := ns
    rw [eb]
    refine wpAny_execs_cons (wpAny_If (wpAny_isTrue_Compare1 ?_ rfl))
    refine wpAny_Sub (wpAny_Name (wpAny_loadName_local eK kr (s := { s with heap := h₁, toks := tk }) ns hm ?_))
    refine wpAny_Slice ?_
    rw [evalPart_none, evalPart_some]
    refine wpAny_pure (wpAny_Constant_int (wpAny_pure ?_))
    refine ⟨"str", _, F.slot_str_getitem.lookup, typeIs_str _ _ _, wpAny_getItem_str_slice (l := none) (u := some (3, tk)) (st := none) ⟨_, Heap.get?_push_size _ rfl, rfl, rfl⟩ rfl (sliceStr_post hz fun t' k' => ?_)⟩
    refine Calls.Constant_str (P.ne_str (wpAny_truthy_bool ?_))
    have h257 : (Str.ofString "257").cps.toList = [50, 53, 55] := by decide +kernel
    rw [h257]
    refine Eq.mpr (if_pos (by exact hx)) ?_
    have ER : ErrAt s.heap := (((err_at w.params).keeps Y.keep).keeps gi.keep)
    obtain ⟨⟨oE, cC, ie⟩, ⟨mC, nC, iC, sC⟩, ⟨oX, cA, ix⟩, ⟨mA, nA, iA, sA⟩⟩ := ER
    refine ie fun a1 a2 a3 a4 a5 a6 a7 a8 a9 a10 a11 a12 a13 a14 eE => ?_
    subst eE
    refine ix fun b1 b2 b3 b4 eX eA => ?_
    subst eX
    -- the state at the raise
    have kp : ∀ b o, s.heap.get? b = some o → (h₁.push (sliceObj .none (.int 3 tk) .none)).get? b = some o := fun b o q => Heap.get?_push_of_some _ (keep b o q)
    have ns' : (h₁.push (sliceObj .none (.int 3 tk) .none)).Ns env.locals (bindL env.kindOf [(("resp" : Str), Value.str x t)] fun _ => none) := ns.push _
    refine wpAny_execs_cons ?_
    refine wpAny_Raise_call_subT (C := 44) (N := 43) (hdct := a1) (sn := a2) (sub := a3) (ab := a4) (col := a5) (dd := a6) (k0 := a7) (k1 := a8) (k2 := a9) (k3 := a10) (k5 := a11) (nm := a12) (q := a13) (bs := a14) (bm := .ref 31 :: bmE) F.excBase_Exception (mN := mC) (by rw [List.contains_cons]; rfl) hA.hand rfl iC ?_
    refine Calls.Name_function_global eK ke (Calls.loadGlobal_global (mg := mgH w) (by rw [eG]; exact (((m_ns w.params).keeps Y.keep).keeps gi.keep).keeps kp) (mg_err w.params) ⟨rfl, ?_⟩) (by decide)
    refine Calls.evalArgs_plain (Calls.spliced_cons (wpAny_Name (wpAny_loadName_local eK kr ns' hm (wpAny_pure ?_))))
    refine ⟨rfl, by size_fits, kp _ _ cC, nC.keeps kp, .own (kp _ _ cA) (eA ▸ nA.keeps kp) iA .base, fun h₂ e made => ?_⟩
    obtain ⟨oL, gL, dL⟩ := ns_isDict ns'
    have hLn : base.get? s.heap.objs.size = none := by
      cases q : base.get? s.heap.objs.size with
      | none => rfl
      | some o => exact absurd (Heap.lt_size (hb _ _ q)) (Nat.lt_irrefl _)
    refine wpAny_leaves_madeW (base := base) (h := h₁.push (sliceObj .none (.int 3 tk) .none)) (env := env) (outer := fr) (L := s.heap.objs.size) (by show A.frames.map (env :: ·) = _; rw [hA.frm]; rfl) eF (fun b o q => kp b o (hb b o q))
      ⟨by rw [eK]; decide, ⟨_, oL, eF, hLn, eL ▸ gL, fun vs q => by obtain ⟨es, n, q'⟩ := dL; rw [q'] at q; cases q⟩, hfr.of_keeps fun b o q _ => ⟨o, kp b o q, rfl⟩⟩ made fun h' t0 fly tup nt up => ?_
    exact hE e h' t0 _ fly tup nt (((Heap.UpToSlots.of_keeps kp).trans (Heap.UpToSlots.of_keeps made.keeps)).trans up)
end
end Mine
end
section
open PySem PySem.W PyProof.Rows PySem.Calls
set_option Elab.async false
set_option linter.unusedVariables false
set_option maxRecDepth 100000
set_option maxHeartbeats 0
namespace Mine
noncomputable def tryB (b : List Stmt) : List Stmt := match b with | s :: _ => (sv4 s).2.1 | [] => []
theorem td_ret (x : Str) (K : Fl → St → Prop) : wpSs (mkGl [("parse257", pSpec)]) 30 (scOf P2 17) (tryB (bodyOf P2 17)) ⟨[("reply", .d (.str x))], []⟩ K = pSpec [.str x] fun d => K (.ret (.c 0)) ⟨[("reply", .d (.str x))], [some [.d d]]⟩ := by kernel_rfl!
section
variable {hT : Heap} {os : OsState}
theorem ext_slots {h h' : Heap} {fs : List Addr} (hf : ∀ b ∈ fs, ∃ o, h.get? b = some o ∧ isDict o) (st : ∀ b o, h.get? b = some o → b ∉ fs → h'.get? b = some o) (up : h.UpToSlots h') (X : Addr → Prop) : Ext noX X h h' := by
  have nf : ∀ b o, h.get? b = some o → ¬ isDict o → b ∉ fs := fun b o q nd m => by
    obtain ⟨o', q', d⟩ := hf b m
    rw [q] at q'; obtain rfl := Option.some.inj q'
    exact nd d
  have dd : ∀ b o, h.get? b = some o → isDict o → ∃ o', h'.get? b = some o' ∧ o'.data = o.data := fun b o q d => by
    obtain ⟨sl, q'⟩ := up b o q fun vs e => by obtain ⟨es, n, d⟩ := d; rw [d] at e; cases e
    exact ⟨_, q', rfl⟩
  refine ⟨fun b o q => ?_, fun b o q _ nd _ => st b o q (nf b o q nd), fun b o q d _ => dd b o q d, fun b o q d => ?_, fun b o q d _ => st b o q (nf b o q fun x => isDict_not_cell x d)⟩
  · by_cases m : b ∈ fs
    · obtain ⟨o', q', d⟩ := hf b m
      obtain ⟨o'', g, _⟩ := dd b o' q' d
      exact ⟨o'', g⟩
    · exact ⟨o, st b o q m⟩
  · obtain ⟨o', g, e⟩ := dd b o q d
    obtain ⟨es, n, d⟩ := d
    exact ⟨o', g, es, n, e.trans d⟩
theorem ps_end2 {fr : List Env} {env : Env} {h₀ : Heap} {s₁ s' : Shared} {σ : St} {ρ : List Addr} {md : Str → Option Value} {y : Str} {t : Tok} {K : PyData → Prop} (nc : ∀ x, env.kindOf x ≠ some .cell) (I₁ : Inv hT os fr env σ ρ s₁) (ev : Evo (Own env) [] [] h₀ σ.cel ρ s₁.heap)
    (e' : Ext noX (· = env.locals) s₁.heap s'.heap) (top : ∀ b o, hT.get? b = some o → s'.heap.get? b = some o) (ns : s'.heap.Ns env.locals md) (bare : AllBare s'.gens) (eos : s'.os = os) (hK : K (.str y)) :
    PS hT os fr env [] [] h₀ (finK K) (.ret (.str y t)) s' := by
  refine ⟨.ret (.d (.str y)), ⟨[], []⟩, [], hK, ⟨[], .str _ _, rfl, fun _ q => nomatch q⟩, ⟨⟨⟨⟨md, ns, fun x y e => by simp at e⟩, fun x y e => by simp at e, fun x k => absurd k (nc x), I₁.rs.vars.apart⟩, ⟨rfl, List.nodup_nil, (fun _ q => nomatch q), fun k xs e => by simp at e⟩⟩, ⟨top, bare, eos⟩, (fun _ q => nomatch q), I₁.fro.ext e', I₁.me⟩, ⟨⟨[], rfl, fun _ q => nomatch q⟩, fun k xs e => by simp at e, fun k e => by simp at e, ?_⟩⟩
  exact ev.ext.comp e' (fun _ _ _ q => q.elim) fun b o _ q => .inl q
theorem fun_frames {fr : List Env} {h : Heap} {as : List Addr} (F : FrOk hT fr h) : ∀ l : List Env, (∀ e ∈ l, e ∈ fr) → (∀ e ∈ l, ∀ a, e.frame = some a → a ∈ as) → h.FunFrames (hideAll h as) l
  | [], _, _ => trivial
  | e :: l, hl, ha => by
    obtain ⟨q1, L, o, q2, q3, q4, q5⟩ := F e (hl e List.mem_cons_self)
    refine ⟨q1, ⟨L, o, q2, hideAll_none _ (ha e List.mem_cons_self L q2), q4, fun vs q => by obtain ⟨es, n, d⟩ := q5; rw [d] at q; cases q⟩, fun_frames F l (fun x hx => hl x (List.mem_cons_of_mem _ hx)) fun x hx => ha x (List.mem_cons_of_mem _ hx)⟩
end
end Mine
end
section
open PySem PySem.W PyProof.Rows PySem.Calls
set_option Elab.async false
set_option linter.unusedVariables false
set_option maxRecDepth 100000
set_option maxHeartbeats 0
namespace Mine
section
variable {w : World} {hT : Heap} {os : OsState}
theorem c_law_told (Y : Topp w hT) : FnOk P2 w hT os 2 tdSpec 138 := by
  refine fn_enter2 (ℓ := 1) Y.lim ((fd_law_told w.params).keeps Y.keep) td_sc (fun ds K h => ?_) (fun fr env A s ds K hfr hfe hA eo es I h => ?_)
  · unfold tdSpec at h
    split at h
    · rw [td_ps]; rfl
    · cases h
  · unfold tdSpec at h
    split at h
    · rename_i x
      obtain ⟨hz, hK⟩ := chk_iff.mp h
      have hz' := okL_le hz
      have kOf : ∀ z, env.kindOf z = (scOf P2 17).names.lookup z := fun z => by unfold Env.kindOf; rw [es]
      have hzip : (psOf P2 17).zip ([PyData.str x].map V.d) = ([("reply", .d (.str x))] : List (Str × V)) := by rw [td_ps]; rfl
      rw [hzip] at I
      refine td_body fun p1 p2 p3 p4 p5 p6 p7 p8 p9 p10 p11 p12 e => ?_
      have et : tryB (bodyOf P2 17) = [.Return (some (.List [.Call (.Name "parse257" p1) [.Name "reply" p2] [] p3] p4)) p5] := by rw [e]; rfl
      rw [e]
      clear e
      unfold toldV at hK
      cases hc : (cut none (some 3) x.cps.toList == [50, 53, 55]) with
      | true =>
        rw [hc] at hK
        have hK : K (.list [.str (mkS (p257 x.cps.toList))]) := hK
        have G := gr_has (w := w) (hT := hT) (os := os) (ℓ := 1) Y [("parse257", pSpec)] (List.forall_mem_cons.mpr ⟨h_parse257 Y, nofun⟩)
        have key := (sndS_all hA G 30).Ss env _ [] s (tryB (bodyOf P2 17)) (fun fl τ => fl = .ret (.c 0) ∧ τ = ⟨[("reply", .d (.str x))], [some [.d (.str (mkS (p257 x.cps.toList)))]]⟩) eo I (by
          rw [es, td_ret]
          unfold pSpec
          exact chk_iff.mpr ⟨by rw [hz, hc]; rfl, rfl, rfl⟩)
        rw [et] at key
        refine wpAny_execs_cons (wpAny_Try_except (wpAny_mono key (fun f s₁ ⟨fl, σ₁, ρ₁, ⟨q1, q2⟩, hf, I₁, ev⟩ => ?_) fun _ _ q => q.elim))
        subst q1 q2
        cases f with
        | ret v => exact ⟨.ret (.c 0), ⟨[("reply", .d (.str x))], [some [.d (.str (mkS (p257 x.cps.toList)))]]⟩, ρ₁, chk_iff.mpr ⟨rfl, hK⟩, hf, I₁, ev⟩
        | _ => exact hf.elim
      | false =>
        rw [hc] at hK
        have hK : K (.str x) := hK
        obtain ⟨out, rfl⟩ := hfr
        have kr : env.kindOf "refusal" = some .local := by rw [kOf]; exact td_r
        have ke : env.kindOf "error_reply" = some .globalImplicit := by rw [kOf]; exact td_e
        have ks : env.kindOf "str" = some .globalImplicit := by rw [kOf]; exact td_s
        have kp : env.kindOf "parse257" = some .globalImplicit := by rw [kOf]; exact td_p
        obtain ⟨b1, b2⟩ := blt_names w "str" (by kernel_rfl!)
        obtain ⟨md, ns, hl⟩ := I.rs.vars.ns
        obtain ⟨_, m1, _, u1, _, _⟩ := hl "reply" (.d (.str x)) rfl (by rw [kOf]; exact td_k)
        cases u1
        obtain ⟨o53, ho53, hd53⟩ := ((fd_parse257 w.params).keeps Y.keep).at_
        have fs_of : ∀ b ∈ (env :: out).filterMap (·.frame), hT.get? b = none ∧ ∃ o, s.heap.get? b = some o ∧ isDict o := fun b hb => by
          obtain ⟨e, he, hf⟩ := List.mem_filterMap.mp hb
          obtain ⟨_, L, o, q2, q3, q4, q5⟩ := I.fro e he
          rw [hf] at q2; obtain rfl := Option.some.inj q2
          exact ⟨q3, o, q4, q5⟩
        have hTb : ∀ b o, hT.get? b = some o → (hideAll s.heap ((env :: out).filterMap (·.frame))).get? b = some o := fun b o q => hideAll_get _ (I.gi.keep b o q) fun m => by rw [(fs_of b m).1] at q; cases q
        have ff : s.heap.FunFrames (hideAll s.heap ((env :: out).filterMap (·.frame))) (env :: out) := fun_frames I.fro _ (fun _ q => q) fun e he a q => List.mem_filterMap.mpr ⟨e, he, q⟩
        generalize hQ : PS hT os (env :: out) env [] [] s.heap (finK K) = Q
        refine wpAny_execs_cons (wpAny_Try_except (wpAny_execs_cons (wpAny_Return_some (wpAny_List ?_))))
        refine Calls.spliced_cons (wpAny_Call_NameR (Calls.Name_function_global eo.kind kp (Calls.loadGlobal_global (mg := mgH w) (by rw [eo.glob]; exact ((m_ns w.params).keeps Y.keep).keeps I.gi.keep) (mg_parse257 w.params) ?_) (by decide)))
        refine callF (o := o53) rfl hd53 (Calls.spliced_cons (wpAny_Name (wpAny_loadName_local eo.kind (by rw [kOf]; exact td_k) ns m1 (wpAny_pure ⟨I.gi.keep _ _ ho53, ?_⟩)))) (Nat.succ_pos _)
        refine p_raise (base := hideAll s.heap ((env :: out).filterMap (·.frame))) (fr := env :: out) (ℓ := 1) Y I.gi hA (fun b o q => of_hideAll _ q) ff (by show (!(cut none (some 3) x.cps.toList == [50, 53, 55])) = true; rw [hc]; rfl) (by omega) fun e h₁ t0 tk fly tup nt up => ?_
        have hst : A.frames = some (env :: out) := hA.frm
        refine wpAny_looks_onW (s := { s with heap := h₁, toks := tk }) hst hfe fly fun h₂ held up₂ => ?_
        refine wpAny_landsW (s := { s with heap := h₂, toks := tk }) held fun h₃ fly₃ up₃ => ?_
        have up₂ : h₁.UpToSlots h₂ := up₂
        have up₃ : h₂.UpToSlots h₃ := up₃
        have U₃ := (up.trans up₂).trans up₃
        have top₃ : ∀ b o, hT.get? b = some o → h₃.get? b = some o := fun b o q => fly₃.1 b o (hTb b o q)
        have ER := (err_at w.params).keeps Y.keep
        obtain ⟨oE, cC, ie⟩ := ER.C
        refine ie fun a1 a2 a3 a4 a5 a6 a7 a8 a9 a10 a11 a12 a13 a14 eE => ?_
        subst eE
        obtain ⟨ob, hob, hobc⟩ := fly₃.there
        refine wpAny_handleBy_cons (codeAny_handlers_test (Calls.Name_function_global eo.kind ke (Calls.loadGlobal_global (mg := mgH w) (by rw [eo.glob]; exact ((m_ns w.params).keeps Y.keep).keeps top₃) (mg_err w.params) ?_) (by decide))) (by intro q; cases q)
        refine wpAny_excMatches_sub_self (top₃ _ _ cC) hob hobc (by rw [List.contains_cons]; rfl) (codeAny_handlers_suite_as ?_)
        refine lands_againW (s := { s with heap := h₃, toks := tk }) fly₃ fun h₄ fly₄ up₄ => ?_
        have U₄ : s.heap.UpToSlots h₄ := U₃.trans up₄
        have ns₄ : h₄.Ns env.locals md := U₄.ns ns
        refine wpAny_storeName_local (s := { s with heap := h₄, toks := tk }) kr ns₄ (fun h₅ ns₅ sb₅ => ?_) (not_class eo.kind)
        have sb₅ : Heap.SameBut env.locals h₄ h₅ := sb₅
        have tL : hT.get? env.locals = none := I.me _ (.inl rfl)
        have top₅ : ∀ b o, hT.get? b = some o → h₅.get? b = some o := fun b o q => sb₅.extBut b o (fun z => by rw [z, tL] at q; cases q) (fly₄.1 b o (hTb b o q))
        obtain ⟨oe, ws, hoe, hoec, hoed, hoe0⟩ := fly₄.first
        obtain ⟨ot, nt', hot, hotc, hotd⟩ := ((tup.of_slots up₂).of_slots up₃).of_slots up₄
        obtain ⟨o4, g4, d4⟩ := ns_isDict ns₄
        have ne : e ≠ env.locals := fun z => by
          obtain ⟨es', n', d'⟩ := d4
          rw [z, g4] at hoe; obtain rfl := Option.some.inj hoe
          rw [hoed] at d'; cases d'
        have nt2 : t0 ≠ env.locals := fun z => by
          obtain ⟨es', n', d'⟩ := d4
          rw [z, g4] at hot; obtain rfl := Option.some.inj hot
          rw [hotd] at d'; cases d'
        have un : A.units + 4 * 1 ≤ 5000 := hA.unit
        refine wpAny_execs_cons (wpAny_Return_some (wpAny_Call_NameR (Calls.Name_function_global eo.kind ks (Calls.loadGlobal_builtin (mg := mgH w) (mb := mbH w) (by rw [eo.glob]; exact ((m_ns w.params).keeps Y.keep).keeps top₅) b1 (by rw [eo.bi]; exact ((b_ns w.params).keeps Y.keep).keeps top₅) b2 ?_) (by decide))))
        refine callT rfl (Calls.spliced_cons (wpAny_Name (wpAny_loadName_local (s := { s with heap := h₅, toks := tk + 1 }) eo.kind kr ns₅ (by rfl) (wpAny_pure ?_))))
        refine str_err (by show A.units + _ + _ < 9900; omega) (ER.keeps top₅) (sb₅.extBut _ _ ne hoe) hoec hoed hoe0 ⟨ot, nt', sb₅.extBut _ _ nt2 hot, hotc, hotd⟩ ?_
        refine wpAny_nameGoes (s := { s with heap := h₅, toks := tk + 1 }) kr ns₅ (not_class eo.kind) fun h₆ m₆ ns₆ sb₆ => ?_
        have sb₆ : Heap.SameBut env.locals h₅ h₆ := sb₆
        have top₆ : ∀ b o, hT.get? b = some o → h₆.get? b = some o := fun b o q => sb₆.extBut b o (fun z => by rw [z, tL] at q; cases q) (top₅ b o q)
        have E₄ : Ext noX (· = env.locals) s.heap h₄ := ext_slots (fun b m => (fs_of b m).2) (fun b o q m => fly₄.1 b o (hideAll_get _ q m)) U₄ _
        have E₅ : Ext noX (· = env.locals) h₄ h₆ := (Ext.dictAt ns₄ ns₅ sb₅).comp (Ext.dictAt ns₅ ns₆ sb₆) (fun _ _ _ q => q) fun _ _ _ q => q
        subst hQ
        exact ps_end2 (fun z => by rw [kOf]; exact td_cell z) I (Evo.refl ..) (E₄.comp E₅ (fun _ _ _ q => q) fun _ _ _ q => q) top₆ ns₆ I.gi.bare I.gi.os hK
    · cases h
theorem td_has (w : World) (hT : Heap) (os : OsState) (Y : Topp w hT) : Has w hT os 3 "_law_told" tdSpec := (has_of Y (mg_law_told w.params) (at_law_told w.params) rfl (c_law_told Y)).up (by omega)
theorem dl_has (w : World) (hT : Heap) (os : OsState) (Y : Topp w hT) : Has w hT os 3 "_law_dealt" dlSpec := (has_of Y (mg_law_dealt w.params) (at_law_dealt w.params) rfl (c_law_dealt Y)).up (by omega)
end
theorem the_law : PySem.Challenge.rw_wr0041_02.Holds := law_holds td_has dl_has
end Mine
end
theorem PySem.Challenge.cw_wr0041_02_holds : PySem.Challenge.rw_wr0041_02.Holds :=
  Mine.the_law
